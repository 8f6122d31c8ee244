import PyProof.Rows.All
import Wide.All
import OpenK.AllK
import Wide.FinOn
import PyProof.Rows.SortRuns
import PyProof.ToksMono
import KE.BitLaws
import KE.IntBitsLaws
import KE.KxBytes
import KE.KxDecode
import PyProof.ZipIter
import PyProof.Rows.CatchStr
import PyProof.Rows.FactsExc_ZeroDivisionError
import PyProof.NsDelKeeps
import PyProof.WalksMore
import KE.KLam
import PyProof.StrCalls6
import PyProof.Rows.Range3
import PyProof.StrWalks
import PyProof.CallFns
import PyProof.MeetsSeq
import PyProof.StrOps
import PyProof.P3In
import KE.KSortKey
import PyProof.ListRange
import PySem.Challenge.RW_wc0020_01
set_option Elab.async false
set_option bootstrap.genMatcherCode false
set_option compiler.extract_closed false
set_option autoImplicit false
set_option tactic.hygienic false
set_option maxRecDepth 100000
set_option maxHeartbeats 4000000
set_option linter.all false
namespace Mine.Tactic
theorem mcp {α:Type}{a b:α}{l:List α}(h:a∈b::l):a=b\/a∈l:=List.mem_cons.mp h
theorem mmr {α β:Type}{b:β}{l:List α}{f:α->β}(h:∃a,a∈l/\f a=b):b∈l.map f:=List.mem_map.mpr h
theorem mmp {α β:Type}{b:β}{l:List α}{f:α->β}(h:b∈l.map f):∃a,a∈l/\f a=b:=List.mem_map.mp h
theorem msp {α:Type}{a b:α}(h:a∈[b]):a=b:=List.mem_singleton.mp h
theorem fmc {α:Type}{p:α->Prop}{a:α}{l:List α}(h:p a/\∀x,x∈l->p x):∀x,x∈a::l->p x:=List.forall_mem_cons.mpr h
theorem mpp {α:Type}{a:α}{l r:List α}(h:a∈l++r):a∈l\/a∈r:=List.mem_append.mp h
theorem ncp {α:Type}{a:α}{l:List α}(h:(a::l).Nodup):¬a∈l/\l.Nodup:=List.nodup_cons.mp h
theorem nlr {a b:Nat}(h:b<=a):¬a<b:=Nat.not_lt.mpr h
theorem ntr {a b c:Nat}(h:a<=b)(k:b<=c):a<=c:=Nat.le_trans h k
theorem nlt {a b c:Nat}(h:a<b)(k:b<=c):a<c:=Nat.lt_of_lt_of_le h k
theorem mcs {α:Type}{a:α}{l:List α}:a∈a::l:=.head _
theorem mcm {α:Type}(b:α){a:α}{l:List α}(h:a∈l):a∈b::l:=.tail _ h
section
open PySem PySem.W PyProof.Rows
theorem aF7:looksOpen PySem.Challenge.rw_wc0020_01.row.prog=true:=by
 unfold looksOpen;refine look_both (look_both (look_both (look_both (look_both ?_ ?_) ?_) ?_) ?_) ?_
 all_goals decide +kernel
theorem aBv:OpenRow.wellSaid PySem.Challenge.rw_wc0020_01.row=true:=by
 unfold OpenRow.wellSaid OpenRow.partSaid;rw [aF7]
 decide +kernel
theorem said01:OpenLaw.wellSaid PySem.Challenge.rw_wc0020_01=true:=by
 unfold OpenLaw.wellSaid;rw [aBv]
 decide +kernel
local macro_rules | `(tactic| o_law) => `(tactic| refine holds_law said01 fun said => ?_)
set_option maxHeartbeats 4000000 in
open_top hd01 for PySem.Challenge.rw_wc0020_01
end
section
namespace Rx
open PySem.Sre
theorem lA {n:Nat}{m:M}:M.runFor (n+1) m=if m.outcome.isSome then m else M.runFor n m.step:=rfl
theorem runFor_add:∀(a b:Nat) (m:M),M.runFor (a+b) m=M.runFor b (M.runFor a m)
 | 0,b,m=>congrArg (M.runFor · m) (Nat.zero_add b)
 | a+1,b,m=>by
   rw [show a+1+b=(a+b)+1 by lia,lA,lA];by_cases h:m.outcome.isSome
   . rw [if_pos h,if_pos h]
     cases b with
     | zero=>rfl
     | succ b=>exact (if_pos h).symm
   . rw [if_neg h,if_neg h];exact runFor_add a b _
theorem rX {n:Nat}{m:M}(h:m.outcome.isSome=true):M.runFor n m=m:=by
 cases n with
 | zero=>rfl
 | succ n=>exact if_pos h
theorem runFor_le {a b:Nat}{m:M}(h:a<=b)(ha:(M.runFor a m).outcome.isSome=true):M.runFor b m=M.runFor a m:=by
 obtain ⟨c,rfl⟩:=Nat.exists_eq_add_of_le h;rw [runFor_add,rX ha]
theorem runFor_same {a b:Nat}{m:M}(ha:(M.runFor a m).outcome.isSome=true)(hb:(M.runFor b m).outcome.isSome=true):M.runFor a m=M.runFor b m:=
 (Nat.le_total a b).elim (λh=>(runFor_le h ha).symm) λh=>runFor_le h hb
theorem tm {n:Nat}{m:M}(h:m.outcome=none):M.runFor (n+1) m=M.runFor n m.step:=by
 rw [lA,if_neg (by rw [h];exact Bool.false_ne_true)]
noncomputable def code1:Array Nat:=#[14,4,0,1,1,6,1,16,46,1]
noncomputable def at1 (T:Array Nat)(s:Nat)(o:Bool)(seen:Seen):M:=
 { code:=code1,text:=T,lim:=T.size,start:=s,lastStart:=T.size,pc:=5,pos:=s,handed:=s,outermost:=o,marks:=#[],frames:=[{ wait:=.nextStart,pc:=5,pos:=s,outermost:=o }],weight:=1,seen }
noncomputable def hit1 (T:Array Nat)(s:Nat):Bool:=(s==0 || T.getD (s-1) 0==10) && decide (s<T.size) && T.getD s 0==46
theorem tZ (T:Array Nat)(s:Nat)(o:Bool)(seen:Seen):(at1 T s o seen).step=if (s==0 || T.getD (s-1) 0==10)=true then { at1 T s o ((seen.add 6).add 44) with pc:=7 } else (at1 T s o ((seen.add 6).add 44)).say false:=rfl
theorem CN (T:Array Nat)(s:Nat)(o:Bool)(seen:Seen):({ at1 T s o seen with pc:=7 }:M).step=if s ≥ T.size then ({ at1 T s o (seen.add 16) with pc:=7 }:M).say false else if (T.getD s 0==46)=true then { at1 T s o (seen.add 16) with pc:=9,pos:=s+1 } else ({ at1 T s o (seen.add 16) with pc:=7 }:M).say false:=by
 show (if s ≥ T.size then _ else _)=_;by_cases h:s ≥ T.size
 . rw [if_pos h,if_pos h];rfl
 . rw [if_neg h,if_neg h]
   show (match (Except.ok (T.getD s 0==46,seen.add 16):Except String (Bool×Seen)) with
     | .error why=>_
     | .ok (false,seen)=>_
     | .ok (true,seen)=>_)=_
   cases hb:(T.getD s 0==46) <;> rfl
theorem aFg (T:Array Nat)(s p:Nat)(o:Bool)(seen:Seen):({ at1 T s o seen with pc:=9,pos:=p }:M).step=({ at1 T s o (seen.add 1) with pc:=9,pos:=p,handed:=p }:M).say true:=by
 show (if (o && ((false && p != T.size) || (false && p==s)))=true then _ else _)=_;rw [Bool.false_and,Bool.false_and,Bool.or_false,Bool.and_false]
 rfl
noncomputable def Cv (T:Array Nat)(s p h pc:Nat)(o:Bool)(seen:Seen)(yes:Bool):M:={ at1 T s o seen with pc:=pc,pos:=p,handed:=h,answer:=some yes }
theorem wy (T:Array Nat)(s p h pc:Nat)(o:Bool)(seen:Seen):∃m,(Cv T s p h pc o seen true).step=m/\m.outcome=none/\m.step.outcome=some .matched/\m.step.start=s/\m.step.handed=h/\m.step.lastmark=-1:=⟨_,rfl,rfl,rfl,rfl,rfl,rfl⟩
theorem tB (T:Array Nat)(s p h pc:Nat)(o:Bool)(seen:Seen)(hs:s<T.size):(Cv T s p h pc o seen false).step=at1 T (s+1) false seen:=by
 show (if s<T.size then _ else _)=_;rw [if_pos hs]
 rfl
theorem mf (T:Array Nat)(s p h pc:Nat)(o:Bool)(seen:Seen)(hs:¬s<T.size):∃m,(Cv T s p h pc o seen false).step=m/\m.outcome=none/\m.step.outcome=some .failed:=by
 refine ⟨_,rfl,?_,?_⟩
 . show (if s<T.size then _ else _:M).outcome=_
   rw [if_neg hs];rfl
 . show (M.step (if s<T.size then _ else _)).outcome=_
   rw [if_neg hs];rfl
noncomputable def code3:Array Nat:=#[14,9,4,1,2,16,10,16,13,0,7,7,16,13,16,10,15,18,5,16,10,15,13,11,16,13,5,5,0,16,10,1,15,2,0,1]
noncomputable def m3 (T:Array Nat)(s:Nat)(fr:List Frame)(w pc p h:Nat)(o:Bool)(ans:Option Bool)(seen:Seen):M:=
 { code:=code3,text:=T,lim:=T.size,start:=s,lastStart:=T.size,pc:=pc,pos:=p,handed:=h,outermost:=o,marks:=#[],frames:=fr,weight:=w,answer:=ans,seen }
noncomputable abbrev F0 (s:Nat)(o:Bool):Frame:={ wait:=.nextStart,pc:=10,pos:=s,outermost:=o }
noncomputable abbrev FB (k s:Nat)(o:Bool):Frame:={ wait:=.nextBranch,pc:=k,pos:=s,outermost:=o,kept:={ lastmark:=-1,lastindex:=-1,whole:=false,marks:=#[] } }
noncomputable abbrev FL (s:Nat)(o:Bool):Frame:={ wait:=.lookNot,pc:=26,pos:=s+1,outermost:=o,kept:={ lastmark:=-1,lastindex:=-1,whole:=false,marks:=#[] } }
theorem Cf (T:Array Nat)(s:Nat)(fr:List Frame)(w p h:Nat)(o:Bool)(seen:Seen):(m3 T s fr w 12 p h o none seen).step=if p ≥ T.size then m3 T s fr w 12 p h o (some false) (seen.add 16) else if (T.getD p 0==13)=true then m3 T s fr w 14 (p+1) h o none (seen.add 16) else m3 T s fr w 12 p h o (some false) (seen.add 16):=by
 show (if p ≥ T.size then _ else _)=_;by_cases hp:p ≥ T.size
 . rw [if_pos hp,if_pos hp];rfl
 . rw [if_neg hp,if_neg hp]
   show (match (Except.ok (T.getD p 0==13,seen.add 16):Except String (Bool×Seen)) with
     | .error why=>_
     | .ok (false,seen)=>_
     | .ok (true,seen)=>_)=_
   cases hb:(T.getD p 0==13) <;> rfl
theorem EF (T:Array Nat)(s:Nat)(fr:List Frame)(w p h:Nat)(o:Bool)(seen:Seen):(m3 T s fr w 14 p h o none seen).step=if p ≥ T.size then m3 T s fr w 14 p h o (some false) (seen.add 16) else if (T.getD p 0==10)=true then m3 T s fr w 16 (p+1) h o none (seen.add 16) else m3 T s fr w 14 p h o (some false) (seen.add 16):=by
 show (if p ≥ T.size then _ else _)=_;by_cases hp:p ≥ T.size
 . rw [if_pos hp,if_pos hp];rfl
 . rw [if_neg hp,if_neg hp]
   show (match (Except.ok (T.getD p 0==10,seen.add 16):Except String (Bool×Seen)) with
     | .error why=>_
     | .ok (false,seen)=>_
     | .ok (true,seen)=>_)=_
   cases hb:(T.getD p 0==10) <;> rfl
theorem Gj (T:Array Nat)(s:Nat)(fr:List Frame)(w p h:Nat)(o:Bool)(seen:Seen):(m3 T s fr w 19 p h o none seen).step=if p ≥ T.size then m3 T s fr w 19 p h o (some false) (seen.add 16) else if (T.getD p 0==10)=true then m3 T s fr w 21 (p+1) h o none (seen.add 16) else m3 T s fr w 19 p h o (some false) (seen.add 16):=by
 show (if p ≥ T.size then _ else _)=_;by_cases hp:p ≥ T.size
 . rw [if_pos hp,if_pos hp];rfl
 . rw [if_neg hp,if_neg hp]
   show (match (Except.ok (T.getD p 0==10,seen.add 16):Except String (Bool×Seen)) with
     | .error why=>_
     | .ok (false,seen)=>_
     | .ok (true,seen)=>_)=_
   cases hb:(T.getD p 0==10) <;> rfl
theorem aDj (T:Array Nat)(s:Nat)(fr:List Frame)(w p h:Nat)(o:Bool)(seen:Seen):(m3 T s fr w 24 p h o none seen).step=if p ≥ T.size then m3 T s fr w 24 p h o (some false) (seen.add 16) else if (T.getD p 0==13)=true then m3 T s fr w 26 (p+1) h o none (seen.add 16) else m3 T s fr w 24 p h o (some false) (seen.add 16):=by
 show (if p ≥ T.size then _ else _)=_;by_cases hp:p ≥ T.size
 . rw [if_pos hp,if_pos hp];rfl
 . rw [if_neg hp,if_neg hp]
   show (match (Except.ok (T.getD p 0==13,seen.add 16):Except String (Bool×Seen)) with
     | .error why=>_
     | .ok (false,seen)=>_
     | .ok (true,seen)=>_)=_
   cases hb:(T.getD p 0==13) <;> rfl
theorem HB (T:Array Nat)(s:Nat)(fr:List Frame)(w p h:Nat)(o:Bool)(seen:Seen):(m3 T s fr w 29 p h o none seen).step=if p ≥ T.size then m3 T s fr w 29 p h o (some false) (seen.add 16) else if (T.getD p 0==10)=true then m3 T s fr w 31 (p+1) h o none (seen.add 16) else m3 T s fr w 29 p h o (some false) (seen.add 16):=by
 show (if p ≥ T.size then _ else _)=_;by_cases hp:p ≥ T.size
 . rw [if_pos hp,if_pos hp];rfl
 . rw [if_neg hp,if_neg hp]
   show (match (Except.ok (T.getD p 0==10,seen.add 16):Except String (Bool×Seen)) with
     | .error why=>_
     | .ok (false,seen)=>_
     | .ok (true,seen)=>_)=_
   cases hb:(T.getD p 0==10) <;> rfl
section
variable (T:Array Nat)(s w pc p h:Nat)(o o':Bool)(fr:List Frame)(seen:Seen)
theorem aHb:(m3 T s [F0 s o] 1 10 s s o none seen).step=m3 T s [FB 11 s o,F0 s o] 2 12 s s o none (seen.add 7):=rfl
theorem aEy:(m3 T s [FB 11 s o,F0 s o] 2 pc p h o (some false) seen).step=m3 T s [FB 18 s o,F0 s o] 2 19 s s o none seen:=rfl
theorem aGq:(m3 T s [FB 18 s o,F0 s o] 2 pc p h o (some false) seen).step=m3 T s [FB 23 s o,F0 s o] 2 24 s s o none seen:=rfl
theorem aHd (k:Nat):(m3 T s [FB k s o,F0 s o] 2 pc p h o (some true) seen).step=m3 T s [F0 s o] 1 k s h o (some true) seen:=rfl
theorem aGj:(m3 T s [F0 s o] 1 pc p h o (some true) seen).step=m3 T s [] 0 10 s h o (some true) seen:=rfl
theorem aGc:(m3 T s [] 0 pc p h o (some true) seen).step={ m3 T s [] 0 pc p h o (some true) seen with outcome:=some .matched }:=rfl
theorem aA7:(m3 T s fr w 16 p h o none seen).step=m3 T s fr w 35 p h o none (seen.add 15):=rfl
theorem aCq:(m3 T s fr w 21 p h o none seen).step=m3 T s fr w 35 p h o none (seen.add 15):=rfl
theorem aBs:(m3 T s fr w 32 p h o none seen).step=m3 T s fr w 35 p h o none (seen.add 15):=rfl
theorem aCe:(m3 T s fr w 35 p h o none seen).step=m3 T s fr w 35 p p o (some true) (seen.add 1):=by
 show (if (o && ((false && p != T.size) || (false && p==s)))=true then _ else _)=_;rw [Bool.false_and,Bool.false_and,Bool.or_false,Bool.and_false]
 rfl
theorem aF8:(m3 T s [FB 23 s o,F0 s o] 2 26 (s+1) h o none seen).step=m3 T s [FL s o,FB 23 s o,F0 s o] 3 29 (s+1) (s+1) false none (seen.add 5):=rfl
theorem noL:(m3 T s [FL s o,FB 23 s o,F0 s o] 3 pc p h o' (some false) seen).step=m3 T s [FB 23 s o,F0 s o] 2 32 (s+1) h o none seen:=rfl
end
end Rx
end
section
namespace Rx
open PySem.Sre
noncomputable def Res (m:M):Option (Nat×Nat)->Prop
 | some (s,e)=>m.outcome=some .matched/\m.start=s/\m.handed=e
 | none=>m.outcome=some .failed
noncomputable def Ends (N:Nat)(m:M)(r:Option (Nat×Nat)):Prop:=∃n m',n<=N/\M.runFor n m=m'/\Res m' r
theorem Ends.step {N:Nat}{m m':M}{r:Option (Nat×Nat)}(ho:m.outcome=none)(e:m.step=m')(h:Ends N m' r):Ends (N+1) m r:=by
 obtain ⟨n,x,h1,h2,h3⟩:=h;exact ⟨n+1,x,Nat.succ_le_succ h1,by rw [tm ho,e];exact h2,h3⟩
theorem Ends.le {N N':Nat}{m:M}{r:Option (Nat×Nat)}(h:Ends N m r)(hl:N<=N'):Ends N' m r:=let ⟨n,x,h1,h2⟩:=h;⟨n,x,ntr h1 hl,h2⟩
theorem Ends.now {m:M}{r:Option (Nat×Nat)}(h:Res m r):Ends 0 m r:=⟨0,m,Nat.le_refl _,rfl,h⟩
noncomputable def nx1 (T:Array Nat):Nat->Nat->Option (Nat×Nat)
 | 0,_=>none
 | k+1,s=>if hit1 T s=true then some (s,s+1) else nx1 T k (s+1)
theorem aDf (T:Array Nat):∀(k s:Nat) (o:Bool) (seen:Seen),s+k=T.size->Ends (6*k+6) (at1 T s o seen) (nx1 T k s):=by
 intro k
 induction k with
 | zero=>
   intro s o seen h;have hs:¬s<T.size:=by lia
   refine Ends.le (N:=5) ?_ (by lia);by_cases h1:(s==0 || T.getD (s-1) 0==10)=true
   . refine Ends.step rfl ((tZ T s o seen).trans (if_pos h1)) (Ends.step rfl ((CN T s o _).trans (if_pos (Nat.le_of_not_lt hs))) ?_)
     obtain ⟨m,e1,e2,e3⟩:=mf T s s s 7 o (((seen.add 6).add 44).add 16) hs;exact (Ends.step rfl e1 (Ends.step e2 rfl (Ends.now (r:=none) e3))).le (by lia)
   . refine (Ends.step rfl ((tZ T s o seen).trans (if_neg h1)) ?_:Ends 4 _ _).le (by lia)
     obtain ⟨m,e1,e2,e3⟩:=mf T s s s 5 o ((seen.add 6).add 44) hs;exact (Ends.step rfl e1 (Ends.step e2 rfl (Ends.now (r:=none) e3))).le (by lia)
 | succ k ih=>
   intro s o seen h;have hs:s<T.size:=by lia
   by_cases h1:(s==0 || T.getD (s-1) 0==10)=true
   . by_cases h2:(T.getD s 0==46)=true
     . have hh:hit1 T s=true:=by unfold hit1;rw [h1,h2,decide_eq_true hs];rfl
       rw [show nx1 T (k+1) s=_ from if_pos hh];refine (Ends.step rfl ((tZ T s o seen).trans (if_pos h1)) (Ends.step rfl ((CN T s o _).trans ((if_neg (Nat.not_le_of_lt hs)).trans (if_pos h2))) (Ends.step rfl (aFg T s (s+1) o _) ?_)):Ends 8 _ _).le (by lia);obtain ⟨m,e1,e2,e3,e4,e5,O⟩:=wy T s (s+1) (s+1) 9 o ((((seen.add 6).add 44).add 16).add 1);exact (Ends.step rfl e1 (Ends.step e2 rfl (Ends.now (r:=some (s,s+1)) ⟨e3,e4,e5⟩))).le (by lia)
     . have hh:¬hit1 T s=true:=by unfold hit1;rw [Bool.not_eq_true] at h2;rw [h2];simp
       rw [show nx1 T (k+1) s=_ from if_neg hh];refine (Ends.step rfl ((tZ T s o seen).trans (if_pos h1)) (Ends.step rfl ((CN T s o _).trans ((if_neg (Nat.not_le_of_lt hs)).trans (if_neg h2))) (Ends.step rfl (tB T s s s 7 o _ hs) (ih (s+1) false _ (by lia)))):Ends (6*k+6+1+1+1) _ _).le (by lia)
   . have hh:¬hit1 T s=true:=by unfold hit1;rw [Bool.not_eq_true] at h1;rw [h1];simp
     rw [show nx1 T (k+1) s=_ from if_neg hh];exact (Ends.step rfl ((tZ T s o seen).trans (if_neg h1)) (Ends.step rfl (tB T s s s 5 o _ hs) (ih (s+1) false _ (by lia))):Ends (6*k+6+1+1) _ _).le (by lia)
theorem search1 (T:Array Nat)(s:Nat)(hs:s<=T.size):Ends (6*T.size+6) (forSearch code1 T 0 s T.size false) (nx1 T (T.size-s) s):=by
 by_cases hc:(decide (s > T.size) || decide (T.size-s<1))=true
 . have e:s=T.size:=by simp at hc;lia
   subst e;rw [Nat.sub_self]
   have:∃m,forSearch code1 T 0 T.size T.size false=m/\m.outcome=none/\m.step.outcome=some .failed:=by
     refine ⟨_,rfl,?_,?_⟩
     . show (if (decide (T.size > T.size) || decide (T.size-T.size<1))=true then _ else _:M).outcome=_
       rw [if_pos hc];rfl
     . show (M.step (if (decide (T.size > T.size) || decide (T.size-T.size<1))=true then _ else _)).outcome=_
       rw [if_pos hc];rfl
   obtain ⟨m,e1,e2,e3⟩:=this;rw [e1];exact (Ends.step e2 rfl (Ends.now (r:=none) e3)).le (by lia)
 . have e:forSearch code1 T 0 s T.size false=at1 T s true (({}:Seen).add 14):=by
     show (if (decide (s > T.size) || decide (T.size-s<1))=true then _ else _:M)=_;rw [if_neg hc];rfl
   rw [e];exact (aDf T (T.size-s) s true _ (by lia)).le (by lia)
end Rx
end
section
namespace Rx
open PySem.Sre
noncomputable def crlfAt (T:Array Nat)(s:Nat):Bool:=T.getD s 0==13 && decide (s+1<T.size) && T.getD (s+1) 0==10
noncomputable def end3 (T:Array Nat)(s:Nat):Nat:=if crlfAt T s=true then s+2 else s+1
noncomputable def hit3 (T:Array Nat)(s:Nat):Bool:=T.getD s 0==10 || T.getD s 0==13
noncomputable def nx3 (T:Array Nat):Nat->Nat->Option (Nat×Nat)
 | 0,_=>none
 | k+1,s=>if hit3 T s=true then some (s,end3 T s) else nx3 T k (s+1)
noncomputable def p9 (T:Array Nat):Nat->Nat->Option Nat
 | 0,_=>none
 | k+1,s=>if hit3 T s=true then some s else p9 T k (s+1)
theorem Fj (T:Array Nat)(k:Nat):∀s,nx3 T k s=(p9 T k s).map λs=>(s,end3 T s):=by
 induction k with
 | zero=>exact λs=>rfl
 | succ k ih=>
   intro s;show (if hit3 T s=true then some (s,end3 T s) else nx3 T k (s+1))=(if hit3 T s=true then some s else p9 T k (s+1)).map _;by_cases h:hit3 T s=true
   . rw [if_pos h,if_pos h];rfl
   . rw [if_neg h,if_neg h];exact ih _
theorem wi {T:Array Nat}{k t:Nat}:∀{s:Nat},p9 T k s=some t->hit3 T t=true/\s<=t/\t<s+k:=by
 induction k with
 | zero=>intro s h;cases h
 | succ k ih=>
   intro s h;change (if hit3 T s=true then some s else p9 T k (s+1))=some t at h;by_cases hh:hit3 T s=true
   . cases (if_pos hh).symm.trans h;exact ⟨hh,Nat.le_refl _,Nat.lt_add_of_pos_right (Nat.succ_pos k)⟩
   . obtain ⟨a,b,c⟩:=ih ((if_neg hh).symm.trans h);exact ⟨a,Nat.le_of_succ_le b,Nat.succ_add_eq_add_succ s k▸c⟩
theorem aA3 (c:Nat)(seen:Seen):∃seen',inSet code3 c 36 5 true seen=.ok (c==10 || c==13,seen'):=by
 refine ⟨if (c==10)=true then seen.add 16 else if (c==13)=true then (seen.add 16).add 16 else ((seen.add 16).add 16).add 0,?_⟩;show (if (c==10)=true then _ else (if (c==13)=true then _ else _))=_;cases h1:(c==10)
 . cases h2:(c==13) <;> rfl
 . rfl
theorem yA (T:Array Nat)(m:M)(hc:m.code=code3)(ht:m.text=T)(hl:m.lim=T.size)(k:Nat):∀(s f:Nat) (seen:Seen),s+k=T.size->k<f->∃seen',M.admitted m f s seen=.ok (p9 T k s,seen'):=by
 induction k with
 | zero=>
   intro s f seen h hf
   cases f with
   | zero=>exact (Nat.lt_irrefl _ hf).elim
   | succ f=>exact ⟨seen,if_pos (Nat.le_of_eq (hl.trans h.symm))⟩
 | succ k ih=>
   intro s f seen h hf
   cases f with
   | zero=>exact (Nat.not_lt_zero _ hf).elim
   | succ f=>
     obtain ⟨seen',e⟩:=aA3 (T.getD s 0) seen;obtain ⟨seen'',e'⟩:=ih (s+1) f seen' ((Nat.succ_add_eq_add_succ s k).trans h) (Nat.lt_of_succ_lt_succ hf);have hs:¬s ≥ m.lim:=Nat.not_le.mpr (hl▸h▸Nat.lt_add_of_pos_right (Nat.succ_pos k));cases hb:(T.getD s 0==10 || T.getD s 0==13)
     . refine ⟨seen'',(if_neg hs).trans ?_⟩
       rw [hc,ht,show code3.size=36 from rfl,e,hb,show p9 T (k+1) s=_ from if_neg (by unfold hit3;rw [hb];exact Bool.false_ne_true)];exact e'
     . refine ⟨seen',(if_neg hs).trans ?_⟩
       rw [hc,ht,show code3.size=36 from rfl,e,hb,show p9 T (k+1) s=_ from if_pos (by unfold hit3;exact hb)]
theorem vT (T:Array Nat)(s p h k:Nat)(o:Bool)(seen:Seen):Ends 4 (m3 T s [FB k s o,F0 s o] 2 35 p h o none seen) (some (s,p)):=
 Ends.step rfl (aCe ..) (Ends.step rfl (aHd ..) (Ends.step rfl (aGj ..) (Ends.step rfl (aGc ..) (Ends.now (r:=some (s,p)) ⟨rfl,rfl,rfl⟩))))
theorem iY (T:Array Nat)(s:Nat)(o:Bool)(seen:Seen)(hs:s<T.size)(hh:hit3 T s=true):Ends 20 (m3 T s [F0 s o] 1 10 s s o none seen) (some (s,end3 T s)):=by
 have hs':¬s ≥ T.size:=Nat.not_le_of_lt hs;refine (Ends.step rfl (aHb ..) ?_:Ends 20 _ _);by_cases h13:(T.getD s 0==13)=true
 . have h10:¬(T.getD s 0==10)=true:=by
     have:=beq_iff_eq.mp h13;simp [this]
   by_cases hc:crlfAt T s=true
   . obtain ⟨⟨_,h1⟩,h2⟩:(((T.getD s 0==13)=true/\decide (s+1<T.size)=true)/\(T.getD (s+1) 0==10)=true):=by
       unfold crlfAt at hc;simpa only [Bool.and_eq_true] using hc
     have h1':¬s+1 ≥ T.size:=Nat.not_le_of_lt (of_decide_eq_true h1);rw [end3,if_pos hc];refine (Ends.step rfl ((Cf ..).trans ((if_neg hs').trans (if_pos h13))) (Ends.step rfl ((EF ..).trans ((if_neg h1').trans (if_pos h2))) (Ends.step rfl (aA7 ..) ?_)):Ends 19 _ _);exact (vT ..).le (by lia)
   . rw [end3,if_neg hc]
     have no:∀seen',∃seen'' ,(m3 T s [FB 11 s o,F0 s o] 2 14 (s+1) s o none seen').step=m3 T s [FB 11 s o,F0 s o] 2 14 (s+1) s o (some false) seen'':=λseen'=>by
       by_cases h1:s+1 ≥ T.size
       . exact ⟨_,(EF ..).trans (if_pos h1)⟩
       . refine ⟨_,(EF ..).trans ((if_neg h1).trans (if_neg λh2=>hc ?_))⟩
         unfold crlfAt;rw [h13,h2,decide_eq_true (Nat.lt_of_not_le h1)];rfl
     have noA:∀h seen',∃seen'' ,(m3 T s [FL s o,FB 23 s o,F0 s o] 3 29 (s+1) h false none seen').step=m3 T s [FL s o,FB 23 s o,F0 s o] 3 29 (s+1) h false (some false) seen'':=λh seen'=>by
       by_cases h1:s+1 ≥ T.size
       . exact ⟨_,(HB ..).trans (if_pos h1)⟩
       . refine ⟨_,(HB ..).trans ((if_neg h1).trans (if_neg λh2=>hc ?_))⟩
         unfold crlfAt;rw [h13,h2,decide_eq_true (Nat.lt_of_not_le h1)];rfl
     obtain ⟨s1,e1⟩:=no ((seen.add 7).add 16);refine (Ends.step rfl ((Cf ..).trans ((if_neg hs').trans (if_pos h13))) (Ends.step rfl e1 (Ends.step rfl (aEy ..) (Ends.step rfl ((Gj ..).trans ((if_neg hs').trans (if_neg h10))) (Ends.step rfl (aGq ..) (Ends.step rfl ((aDj ..).trans ((if_neg hs').trans (if_pos h13))) (Ends.step rfl (aF8 ..) ?_)))))):Ends 19 _ _);obtain ⟨s2,e2⟩:=noA (s+1) ((((s1.add 16).add 16).add 5));refine (Ends.step rfl e2 (Ends.step rfl (noL ..) (Ends.step rfl (aBs ..) ?_)):Ends 12 _ _);exact (vT ..).le (by lia)
 . have h10:(T.getD s 0==10)=true:=by
     unfold hit3 at hh;rw [Bool.not_eq_true] at h13;rw [h13,Bool.or_false] at hh;exact hh
   have hc:¬crlfAt T s=true:=λq=>h13 (by unfold crlfAt at q;simp only [Bool.and_eq_true] at q;exact q.1.1);rw [end3,if_neg hc];refine (Ends.step rfl ((Cf ..).trans ((if_neg hs').trans (if_neg h13))) (Ends.step rfl (aEy ..) (Ends.step rfl ((Gj ..).trans ((if_neg hs').trans (if_pos h10))) (Ends.step rfl (aCq ..) ?_))):Ends 19 _ _);exact (vT ..).le (by lia)
theorem search3 (T:Array Nat)(s:Nat)(hs:s<=T.size):Ends 20 (forSearch code3 T 0 s T.size false) (nx3 T (T.size-s) s):=by
 by_cases hc:(decide (s > T.size) || decide (T.size-s<1))=true
 . have e:s=T.size:=by simp at hc;lia
   subst e;rw [Nat.sub_self]
   have:∃m,forSearch code3 T 0 T.size T.size false=m/\m.outcome=none/\m.step.outcome=some .failed:=by
     refine ⟨_,rfl,?_,?_⟩
     . show (if (decide (T.size > T.size) || decide (T.size-T.size<1))=true then _ else _:M).outcome=_
       rw [if_pos hc];rfl
     . show (M.step (if (decide (T.size > T.size) || decide (T.size-T.size<1))=true then _ else _)).outcome=_
       rw [if_pos hc];rfl
   obtain ⟨m,e1,e2,e3⟩:=this;rw [e1];exact (Ends.step e2 rfl (Ends.now (r:=none) e3)).le (by decide)
 . let m0:M:={ code:=code3,text:=T,lim:=T.size,start:=s,lastStart:=T.size,pc:=10,pos:=s,handed:=s,marks:=#[],seen:=({}:Seen).add 14 }
   have e0:forSearch code3 T 0 s T.size false=(match M.admitted m0 (T.size+1-s) s m0.seen with
       | .ok (some s,seen)=>M.attemptAt { m0 with mustAdvance:=false,seen } s true
       | .ok (none,seen)=>{ m0 with seen }.say false
       | .error why=>m0.stick why):=by
     show (if (decide (s > T.size) || decide (T.size-s<1))=true then _ else _:M)=_;rw [if_neg hc];rfl
   obtain ⟨seen',e⟩:=yA T m0 rfl rfl rfl (T.size-s) s (T.size+1-s) m0.seen (Nat.add_sub_of_le hs) (Nat.succ_sub hs▸Nat.lt_succ_self _);rw [e0,e,Fj]
   cases ha:p9 T (T.size-s) s with
   | none=>
     refine (Ends.step rfl rfl (Ends.now (r:=none) ?_):Ends 1 _ _).le (by decide);show M.outcome _=_
     rfl
   | some t=>
     obtain ⟨h1,h2,h3⟩:=wi ha;exact iY T t true seen' (Nat.add_sub_of_le hs▸h3) h1
end Rx
end
open Nat renaming le_refl→Aa,zero_le→Ab,le_of_lt→Ac,le_of_eq→Ad,lt_of_le_of_lt→Ae,le_add_right→Af,lt_trans→Ag,add_comm→Ah,succ_le_succ→Ai,le_succ→Aj,zero_add→Ak,lt_irrefl→Al,le_add_left→Am,lt_succ_self→An,le_of_succ_le→Ao,le_of_ble_eq_true→Ap,sub_le→Aq,le_of_lt_succ→Ar,succ_pos→As,add_le_add_left→Au,mod_lt→Av,le_succ_of_le→Aw,ne_of_gt→Ax,add_le_add→Ay,le_of_not_lt→Az,add_lt_add_left→AA,pow_add→AB,add_assoc→AC,ne_of_lt→AD,min_eq_left→AE,le_antisymm→AF,lt_add_of_pos_right→AG,two_pow_pos→AI,add_le_add_right→AJ,div_lt_iff_lt_mul→AK,min_le_right→AL,mul_zero→AM,mul_comm→AN,mul_add→AO,max_eq_right→AP,mul_succ→AQ,add_sub_cancel_left→AR,mul_le_mul_left→AS,le_sub_one_of_lt→AT,lt_or_ge→AU,succ_add_eq_add_succ→AV,not_lt_zero→AW,sub_self→AX,pow_le_pow_right→AY,lt_succ_of_lt→AZ,one_mul→A0,mul_le_mul_right→A1,max_eq_left→A2,mul_le_mul→A3,add_sub_cancel'→A4,lt_trichotomy→A5,lt_or_eq_of_le→A6,lt_of_not_le→A7,add_right_comm→A8,add_sub_cancel→A9
open List renaming length_map→Ba,length_append→Bb,append_assoc→Bc,append_nil→Bd,not_mem_nil→Be,length_cons→Bf,map_cons→Bg,map_map→Bi,map_append→Bj,mem_map_of_mem→Bk,cons_append→Bl,length_drop→Bm,drop_drop→Bn,take_of_length_le→Bo,nil_append→Bp,length_replicate→Bq,length_reverse→Br,map_reverse→Bs,length_take→Bt,getElem_map→Bu,drop_eq_getElem_cons→Bv,length_singleton→Bw,mem_of_mem_take→Bx,foldl_cons→By,countP_le_length→Bz,flatten_cons→BA,sum_cons→BB,length_range→BC,mem_append_right→BD,drop_of_length_le→BE,getElem_mem→BF,map_take→BG,lookup_cons→BH,all_cons→BI,all_eq_true→BK,eq_nil_of_length_eq_zero→BL,drop_left→BM,lookup_cons_self→BN,size_toArray→BO,replicate_succ→BP,take_succ_eq_append_getElem→BR,getElem_range→BS,filterMap_cons_some→BT,drop_append_of_le_length→BU,eq_of_mem_replicate→BV
open Bool renaming false_ne_true→BW,and_eq_true→BX,or_eq_true→BY,not_eq_true'→BZ,false_eq_true→B1
open Int renaming natCast_nonneg→B2,toNat_natCast→B3,one_mul→B4,neg_one_mul→B5,le_trans→B6,fdiv_eq_ediv_of_nonneg→B7,fmod_eq_emod_of_nonneg→B8,eq_ofNat_of_zero_le→B9,add_sub_cancel→Ca,lt_of_lt_of_le→Cb
open PySem PySem.W PyProof.Rows
local macro_rules |`(tactic|ext)=>`(tactic|walk_at "w")
local macro_rules |`(∅)=>`((by decide))
open Str renaming ofString→Ω
section
set_option compiler.extract_closed false
def nD (k:String)(a:List Lean.Syntax):Lean.Syntax:=.node .none (.str `Lean.Parser.Tactic k) a.toArray
def nL (a:List Lean.Syntax):Lean.Syntax:=.node .none `null a.toArray
def nW (s:String):Lean.Syntax:=.node .none `PyProof.Rows.tacticWalk_at_ #[.atom .none "walk_at",Lean.Syntax.mkStrLit s]
def nQ (a:List Lean.Syntax):Lean.Syntax:=nD "tacticSeq" [nD "tacticSeq1Indented" [nL a]]
def nH (x:Lean.Syntax):Lean.Term:=⟨.node .none `Lean.Parser.Term.syntheticHole #[.atom .none "?",x]⟩
def nS (h:String):List String->Lean.Name->Array Lean.Term->List Lean.Syntax->Lean.Syntax
 | [],_,hs,cs=>.node .none `group #[.atom .none "|",nQ (nD "withReducible" [.atom .none "with_reducible",nQ [nD "refine'" [.atom .none "refine'",Lean.Syntax.mkApp (Lean.mkIdent h.toName) hs]]]::cs)]
 | w::ws,n,hs,cs=>
   if w=="_" then nS h ws n (hs.push (nH (.atom .none "_"))) cs
   else nS h ws (.str n "h") (hs.push (nH (Lean.mkIdent n))) (cs++[.atom .none ";",nD "case" [.atom .none "case",nL [nD "caseArg" [.node .none `Lean.binderIdent #[Lean.mkIdent n],nL []]],.atom .none "=>",nQ [nW w]]])
def nT (n:Lean.Name):List String->List Lean.Syntax
 | []=>[]
 | a::as=>(match a.splitOn " " with | h::ws=>nS h ws n #[] [] | []=>.missing)::nT n as
def nR:List (String×String):=[("m_has","Has.inl m_has|Has.inr m_has|Has.head|Has.h1|Has.h2|Has.h3|Has.h4|Has.h5|Has.h6|Has.h7|Has.t8 m_has"),("m_rep","Rep.inl m_rep|Rep.inr m_rep|Rep.head|Rep.h1|Rep.h2|Rep.h3|Rep.h4|Rep.h5|Rep.h6|Rep.h7|Rep.t8 m_rep"),("kk","Wk.nil|Wk.same _|Wk.drop _|Wk.refl _|Wk.cat _ _"),("mm","Has.mem m_has|Has.ex m_has"),("c_k","dk c_r"),("pk","aF5 c_d|aF3 c_d|aG0 c_d|aF6 c_d c_d"),("pu","aDx|aDz"),("p2","aEo|aEa|aG8|aAp|aG1|P_gt|P_ge|aGt|P_and|P_or|aDw|aFn|aEg|P_inS|aCg|aGe c_r c_r|aEm c_r c_r"),("pe","P_N m_has pk|P_i|aDp pe pe p2|P_s|aGx pe pu|aDo pe pe p2 c_u|aEs pl c_r c_d|P_n|P_o|P_y"),("pl","aD3|aAo pe pl"),("pt","aEv pe pe p2 c_u|T_not pt|aAc pe c_i|aDr pe c_i"),("mw","lL pe _|aEn pt _|EI pl _|rp p2 _|aDt _|aBr _|G5 _|aEt _|aFs _|aCu _|ite_nf _|aCw _|aBy _|HE _|aH _|dB _|aEj _|mK _ c_i|eG _ c_i c_i|xi _|qB _|GV _ c_i|jR _|X_Break _|jc _ c_k c_i|xC _ c_r c_i|k5 _ c_d|aFa m_has _|aFm m_has _|aFb m_has _|aD4 m_has _ c_d|aEr m_rep _|aE1 m_rep _ c_r|Cn _|uO _|rR _|vg _|wI _|yK _|Ev_UnaryOp' _|m9 _ c_u|yh _|vH _|DZ _|yV _|zy _|ul _ c_i|pn _ c_u|je _ c_r c_d|mo _|jB _|aCm _|jU c_r c_r _|ui _|DO _|zQ _|aB4 m_rep _|C1 _|DT _|aC8 _|dC _|vn _|Tru_none _|Dr _|zk _|Cmp_gt _|Cmp_ge _|CM _|Cl _|yv _ c_r c_r|oN _ c_r c_r|wX _|v4 _|Cmp_inS _|rh _|vt _|k9 _|Bin_and _|Bin_or _|wa _|Co _|DW _|aA1 _|aBl _|yN _|FV _|GJ _ c_r c_i|sO _ c_r c_i")]
def nA:Lean.Syntax:=nQ [nD "tacticRfl" [.atom .none "rfl"]]
def nB:Lean.Syntax:=nQ [nD "decide" [.atom .none "decide",nD "optConfig" [nL []]]]
def nY:Lean.Syntax:=.node .none `Lean.Parser.Term.byTactic #[.atom .none "by",nB]
def nC:Lean.Syntax:=nQ [nD "intros" [.atom .none "intros",nL []],.atom .none ";",nD "tacticRfl" [.atom .none "rfl"]]
def nE:Lean.Syntax:=nQ [nD "withUnfoldingAll" [.atom .none "with_unfolding_all",nA]]
def nF:Lean.Syntax:=nQ [nD "decide" [.atom .none "decide",nD "optConfig" [nL [nD "configItem" [nD "posConfigItem" [.atom .none "+",Lean.mkIdent `kernel]]]]]]
inductive PV where
 | none
 | bool (b:Bool)
 | int (i:Int)
 | str (s:Str)
 | bytes (b:Array UInt8)
 | tup (xs:List PV)
 | list (xs:List PV)
 | lref (a:Addr)
 | raw (v:Value)
noncomputable abbrev AH:=List (Addr×List PV)
noncomputable abbrev St:=List (Str×NameKind×Option PV)
noncomputable abbrev PQ:=PV->AH->Prop
noncomputable abbrev SQ:=St->AH->Prop
noncomputable abbrev BQ:=Bool->AH->Prop
noncomputable abbrev LQ:=List PV->AH->Prop
noncomputable abbrev IQ:=List PV->AH->AH->Prop
noncomputable abbrev bf (vs:Array Value)(n:Nat):Obj:={ cls:=.type "tuple",dict:=Option.none,data:=.seq vs n,slots:=#[] }
noncomputable abbrev aO (vs:Array Value)(n:Nat):Obj:={ cls:=.type "list",dict:=Option.none,data:=.seq vs n,slots:=#[] }
mutual
inductive VR (h:Heap)(T:Addr->Prop):Value->PV->Prop
 | none:VR h T Value.none PV.none
 | bool (b:Bool):VR h T (.bool b) (.bool b)
 | int (i:Int) (t:Tok):VR h T (.int i t) (.int i)
 | str (s:Str) (t:Tok):VR h T (.str s t) (.str s)
 | bytes (b:Array UInt8) (t:Tok):VR h T (.bytes b t) (.bytes b)
 | tup {a:Addr} {vs:Array Value} {n:Nat} {xs:List PV}:h.get? a=some (bf vs n)->¬T a->VRs h T vs.toList xs->VR h T (.ref a) (.tup xs)
 | list {a:Addr} {vs:Array Value} {n:Nat} {xs:List PV}:h.get? a=some (aO vs n)->¬T a->VRs h T vs.toList xs->VR h T (.ref a) (.list xs)
 | lref (a:Addr):VR h T (.ref a) (.lref a)
 | raw (v:Value):VR h T v (.raw v)
inductive VRs (h:Heap)(T:Addr->Prop):List Value->List PV->Prop
 | nil:VRs h T [] []
 | cons {v:Value} {p:PV} {vs:List Value} {ps:List PV}:VR h T v p->VRs h T vs ps->VRs h T (v::vs) (p::ps)
end
noncomputable def ah (o:Obj):Prop:=∃vs n,o.data=.seq vs n
theorem VR.mono {T T':Addr->Prop}{h h':Heap}(hk:∀a o,h.get? a=some o->ah o->¬T a->h'.get? a=some o)(ht:∀a,a<h.objs.size->T' a->T a){v:Value}{p:PV}(r:VR h T v p):VR h' T' v p:=
 VR.rec (motive_1:=λv p O=>VR h' T' v p) (motive_2:=λvs ps O=>VRs h' T' vs ps) .none .bool .int .str .bytes (λho hn O ih=>.tup (hk _ _ ho ⟨_,_,rfl⟩ hn) (λq=>hn (ht _ (Heap.lt_size ho) q)) ih)
   (λho hn O ih=>.list (hk _ _ ho ⟨_,_,rfl⟩ hn) (λq=>hn (ht _ (Heap.lt_size ho) q)) ih) .lref .raw .nil (λO O a b=>.cons a b) r
theorem VRs.ind {T:Addr->Prop}{h:Heap}{P:List Value->List PV->Prop}(n:P [] [])(c:∀v p vs ps,VR h T v p->VRs h T vs ps->P vs ps->P (v::vs) (p::ps)){vs:List Value}{ps:List PV}(r:VRs h T vs ps):P vs ps:=
 VRs.rec (motive_1:=λO O O=>True) (motive_2:=λvs ps O=>P vs ps) trivial (λO=>trivial) (λO O=>trivial) (λO O=>trivial) (λO O=>trivial) (λO O O O=>trivial) (λO O O O=>trivial) (λO=>trivial) (λO=>trivial) n (λa b O ih=>c _ _ _ _ a b ih) r
theorem VRs.mono {T T':Addr->Prop}{h h':Heap}(hk:∀a o,h.get? a=some o->ah o->¬T a->h'.get? a=some o)(ht:∀a,a<h.objs.size->T' a->T a){vs:List Value}{ps:List PV}(r:VRs h T vs ps):VRs h' T' vs ps:=
 r.ind .nil λO O O O a O ih=>.cons (a.mono hk ht) ih
noncomputable def aFe (T:Addr->Prop)(h:Heap)(v:Value):PV->Prop
 | .none=>v=.none
 | .bool b=>v=.bool b
 | .int i=>∃t,v=.int i t
 | .str x=>∃t,v=.str x t
 | .bytes b=>∃t,v=.bytes b t
 | .tup xs=>∃a vs n,v=.ref a/\h.get? a=some (bf vs n)/\¬T a/\VRs h T vs.toList xs
 | .list xs=>∃a vs n,v=.ref a/\h.get? a=some (aO vs n)/\¬T a/\VRs h T vs.toList xs
 | .lref a=>v=.ref a
 | .raw w=>v=w
theorem VR.inv {T:Addr->Prop}{h:Heap}{v:Value}{p:PV}(r:VR h T v p):aFe T h v p:=
 VR.rec (motive_1:=λv p O=>aFe T h v p) (motive_2:=λO O O=>True) rfl (λO=>rfl) (λO O=>⟨_,rfl⟩) (λO O=>⟨_,rfl⟩) (λO O=>⟨_,rfl⟩) (λho hn hs O=>⟨_,_,_,rfl,ho,hn,hs⟩) (λho hn hs O=>⟨_,_,_,rfl,ho,hn,hs⟩) (λO=>rfl) (λO=>rfl) trivial (λO O O O=>trivial) r
theorem VRs.length {T:Addr->Prop}{h:Heap}{vs:List Value}{ps:List PV}(r:VRs h T vs ps):vs.length=ps.length:=r.ind (P:=λvs ps=>vs.length=ps.length) rfl λO O O O O O ih=>congrArg Nat.succ ih
theorem VRs.append {T:Addr->Prop}{h:Heap}{vs vs':List Value}{ps ps':List PV}(r:VRs h T vs ps)(b:VRs h T vs' ps'):VRs h T (vs++vs') (ps++ps'):=r.ind (P:=λvs ps=>VRs h T (vs++vs') (ps++ps')) b λO O O O a O ih=>.cons a ih
theorem VRs.get {T:Addr->Prop}{h:Heap}{vs:List Value}{ps:List PV}(r:VRs h T vs ps){i:Nat}{p:PV}(e:ps[i]?=some p):∃v,vs[i]?=some v/\VR h T v p:=by
 refine r.ind (P:=λvs ps=>∀i,ps[i]?=some p->∃v,vs[i]?=some v/\VR h T v p) (λi e=>by simp at e) (λv q vs ps a O ih i e=>?_) i e
 cases i with
 | zero=>exact ⟨v,rfl,Option.some.inj e▸a⟩
 | succ i=>exact ih i e
theorem VRs.take {T:Addr->Prop}{h:Heap}{vs:List Value}{ps:List PV}(r:VRs h T vs ps)(i:Nat):VRs h T (vs.take i) (ps.take i):=by
 refine r.ind (P:=λvs ps=>∀i,VRs h T (vs.take i) (ps.take i)) (λi=>by rw [List.take_nil,List.take_nil];exact .nil) (λv q vs ps a O ih i=>?_) i
 cases i with
 | zero=>exact .nil
 | succ i=>exact .cons a (ih i)
theorem VRs.drop {T:Addr->Prop}{h:Heap}{vs:List Value}{ps:List PV}(r:VRs h T vs ps)(i:Nat):VRs h T (vs.drop i) (ps.drop i):=by
 refine r.ind (P:=λvs ps=>∀i,VRs h T (vs.drop i) (ps.drop i)) (λi=>by rw [List.drop_nil,List.drop_nil];exact .nil) (λv q vs ps a b ih i=>?_) i
 cases i with
 | zero=>exact .cons a b
 | succ i=>exact ih i
theorem VRs.reverse {T:Addr->Prop}{h:Heap}{vs:List Value}{ps:List PV}(r:VRs h T vs ps):VRs h T vs.reverse ps.reverse:=
 r.ind (P:=λvs ps=>VRs h T vs.reverse ps.reverse) .nil λv p vs ps a O ih=>by rw [List.reverse_cons,List.reverse_cons];exact ih.append (.cons a .nil)
set_option genInjectivity false in
set_option genSizeOf false in
structure aI where
 prog:Program
 w:World
 g:Heap
 mg:Str->Option Value
 mb:Str->Option Value
 K:Frag
 tabs:List (Addr×Addr)
 qn:Addr->Pos->Option Str
 os:OsState
 inK:K.In g
 nsg:g.Ns mainGlobals mg
 nsb:g.Ns builtinsNs mb
 nolimit:g.NoLimit
 boot:∀x:Str,x≠"__name__"->mb x=bootBuiltins x
 tabsHidden:∀q∈tabs,g.get? q.2=Option.none
 low:∀q∈tabs,mainGlobals≠q.2
 hid:List (Addr×Obj):=[]
noncomputable def Trk (H:AH)(B:aI)(a:Addr):Prop:=a∈H.map (·.1)\/a∈B.tabs.map (·.2)\/a∈B.hid.map (·.1)
inductive aEd (qn:Addr->Pos->Option Str)(q:Addr×Addr)(h:Heap):Prop
 | mk (ps:Array Value) (a:h.get? q.2=some (tabObj ps)) (b:TriplesOk ps.toList) (c:∀pos cv,codeAmong pos ps.toList=some cv->∃n,qn q.2 pos=some n/\h.CodeRec cv n)
set_option genInjectivity false in
set_option genSizeOf false in
structure aE5 (g:Heap)(H:AH)(q:Addr×Obj)(h:Heap):Prop where
 a:h.get? q.1=some q.2
 b:ah q.2
 c:g.get? q.1=Option.none
 d:q.1∉H.map (·.1)
inductive aE7 (g:Heap)(T:Addr->Prop)(p:Addr×List PV)(h:Heap):Prop
 | mk (a:g.get? p.1=Option.none) (vs:Array Value) (n:Nat) (b:h.get? p.1=some (aO vs n)) (c:VRs h T vs.toList p.2)
set_option genInjectivity false in
set_option genSizeOf false in
structure Inv (B:aI)(H:AH)(s:Shared):Prop where
 keep:∀a o,B.g.get? a=some o->s.heap.get? a=some o
 size:B.g.objs.size<=s.heap.objs.size
 tabs:∀q∈B.tabs,aEd B.qn q s.heap
 bare:AllBare s.gens
 os:s.os=B.os
 nodup:(H.map (·.1)).Nodup
 hid:∀q∈B.hid,aE5 B.g H q s.heap
 objs:∀p∈H,aE7 B.g (Trk H B) p s.heap
set_option genInjectivity false in
set_option genSizeOf false in
structure m8 (T:Addr->Prop)(s s':Shared):Prop where
 heap:∀a o,s.heap.get? a=some o->¬T a->s'.heap.get? a=some o
 size:s.heap.objs.size<=s'.heap.objs.size
 gens:∀(i:Nat) (x:GenState),s.gens[i]?=some x->s'.gens[i]?=some x
theorem m8.refl {T:Addr->Prop}{s:Shared}:m8 T s s:=⟨λO O e O=>e,Aa _,λO O e=>e⟩
theorem m8.trans {T T':Addr->Prop}{s s' s'':Shared}(x:m8 T s s')(y:m8 T' s' s'')(ht:∀a,a<s.heap.objs.size->T' a->T a):m8 T s s'':=
 ⟨λa o e n=>y.heap a o (x.heap a o e n) λq=>n (ht a (Heap.lt_size e) q),ntr x.size y.size,λi z e=>y.gens i z (x.gens i z e)⟩
theorem m8.weaken {T T':Addr->Prop}{s s':Shared}(x:m8 T s s')(ht:∀a,a<s.heap.objs.size->T a->T' a):m8 T' s s':=
 ⟨λa o e n=>x.heap a o e λq=>n (ht a (Heap.lt_size e) q),x.size,x.gens⟩
noncomputable def qi (H:AH)(s:Shared)(H':AH):Prop:=∀a:Addr,a∈H'.map (λp=>p.1)->a∈H.map (λp=>p.1)\/s.heap.objs.size<=a
set_option genInjectivity false in
set_option genSizeOf false in
structure Tr (U:Addr->Prop)(s':Shared)(H':AH)(s:Shared)(H:AH)(B:aI):Prop where
 inv:Inv B H' s'
 step:m8 (λa=>Trk H B a\/U a) s s'
 keys:qi H s H'
noncomputable def noU:Addr->Prop:=λO=>False
theorem Trk.new {B:aI}{H H':AH}{s:Shared}(k:qi H s H'){a:Addr}(ha:a<s.heap.objs.size)(t:Trk H' B a):Trk H B a:=by
 rcases t with t | t
 . rcases k a t with q | q
   . exact .inl q
   . exact absurd ha (nlr q)
 . exact .inr t
theorem Tr.refl {B:aI}{U:Addr->Prop}{H:AH}{s:Shared}(I:Inv B H s):Tr U s H s H B:=⟨I,.refl,λO h=>.inl h⟩
theorem Tr.trans {B:aI}{U:Addr->Prop}{H H' H'':AH}{s s' s'':Shared}(x:Tr U s' H' s H B)(y:Tr U s'' H'' s' H' B):Tr U s'' H'' s H B:=
 ⟨y.inv,x.step.trans y.step λa ha q=>q.imp (Trk.new x.keys ha) id,λa ha=>by
   rcases y.keys a ha with q | q
   . exact x.keys a q
   . exact .inr (ntr x.step.size q)⟩
theorem Tr.up {B:aI}{U:Addr->Prop}{H H':AH}{s s':Shared}(x:Tr noU s' H' s H B):Tr U s' H' s H B:=
 ⟨x.inv,x.step.weaken λO O q=>q.imp id False.elim,x.keys⟩
theorem VR.tr {B:aI}{H H':AH}{s s':Shared}{v:Value}{p:PV}(r:VR s.heap (Trk H B) v p)(x:Tr noU s' H' s H B):VR s'.heap (Trk H' B) v p:=
 r.mono (λa o e O n=>x.step.heap a o e λq=>q.elim n False.elim) λO ha t=>Trk.new x.keys ha t
theorem VRs.tr {B:aI}{H H':AH}{s s':Shared}{v:List Value}{p:List PV}(r:VRs s.heap (Trk H B) v p)(x:Tr noU s' H' s H B):VRs s'.heap (Trk H' B) v p:=
 r.mono (λa o e O n=>x.step.heap a o e λq=>q.elim n False.elim) λO ha t=>Trk.new x.keys ha t
set_option genInjectivity false in
set_option genSizeOf false in
structure aN where
 scope:Scope
 code:Option (Addr×Addr)
 qual:Str
 comp:Str->Bool:=λO=>false
set_option genInjectivity false in
set_option genSizeOf false in
structure a9 (B:aI)(fi:aN)(env:Env):Prop where
 scope:env.scope=fi.scope
 kind:fi.scope.kind=.function
 coro:fi.scope.isCoroutine=false
 globals:env.globals=mainGlobals
 builtins:env.builtins=builtinsNs
 qual:env.qual=fi.qual
 code:∀c P,fi.code=some (c,P)->env.code=.ref c
 above:∀x,fi.comp x=false->∀c,env.kindOf x=some .cell->env.cells.lookup x=some c->@LT.lt Nat _ env.locals c
 free:∀x,fi.comp x=false->∀c,env.kindOf x=some .cell->env.cells.lookup x=some c->B.g.get? c=Option.none
noncomputable def VRo (T:Addr->Prop)(h:Heap)(ov:Option Value):Option PV->Prop
 | Option.none=>True
 | some p=>∃v,ov=some v/\VR h T v p
noncomputable def Es (env:Env)(a:Addr):Prop:=∃x,env.kindOf x=some .cell/\env.cells.lookup x=some a/\@LT.lt Nat _ env.locals a
noncomputable def bT (env:Env)(a:Addr):Prop:=a=env.locals\/Es env a
noncomputable def aC (B:aI)(x:Str)(p:PV):Prop:=
 ∃v,(B.mg x=some v\/(B.mg x=Option.none/\bootBuiltins x=some v/\x≠"__name__"))/\∀T h,VR h T v p
inductive aGz (T:Addr->Prop)(env:Env)(σ:St)(h:Heap):Prop
 | mk (m:Str->Option Value) (a:h.Ns env.locals m) (b:∀x p,(x,NameKind.local,some p)∈σ->VRo T h (m x) (some p))
inductive fL (ov:Option PV)(x:Str)(env:Env)(T:Addr->Prop)(h:Heap):Prop
 | mk (c:Addr) (w:Option Value) (a:env.cells.lookup x=some c) (b:h.IsCell c w) (d:VRo T h w ov)
set_option genInjectivity false in
set_option genSizeOf false in
structure aA (s:Shared)(H:AH)(σ:St)(env:Env)(B:aI):Prop where
 fresh:B.g.get? env.locals=Option.none
 apart:∀x y c,env.cells.lookup x=some c->env.cells.lookup y=some c->x=y
 keys:σ.map (λe=>(e.1,e.2.1))=env.scope.names
 nodup:(env.scope.names.map (λe=>e.1)).Nodup
 ns:aGz (Trk H B) env σ s.heap
 cell:∀x ov,(x,NameKind.cell,ov)∈σ\/(x,NameKind.free,ov)∈σ->fL ov x env (Trk H B) s.heap
 glob:∀x p,(x,NameKind.globalImplicit,some p)∈σ->aC B x p
theorem VRo.mono {T T':Addr->Prop}{h h':Heap}(hk:∀a o,h.get? a=some o->ah o->¬T a->h'.get? a=some o)(ht:∀a,a<h.objs.size->T' a->T a){ov:Option Value} :
   ∀{p:Option PV},VRo T h ov p->VRo T' h' ov p
 | Option.none,_=>trivial
 | some _,⟨v,e,r⟩=>⟨v,e,r.mono hk ht⟩
theorem aY {α:Type}{l:List (Str×α)}{x:Str}{k:α}(hn:(l.map (λe=>e.1)).Nodup)(hm:(x,k)∈l):l.lookup x=some k:=by
 induction l with
 | nil=>exact (Be hm).elim
 | cons e r ih=>
   have hn:=ncp hn;rw [BH]
   cases hb:x==e.1 with
   | true=>
     rcases mcp hm with q | hm
     . exact congrArg (λe=>some e.2) q.symm
     . exact (hn.1 (mmr ⟨_,hm,eq_of_beq hb⟩)).elim
   | false=>
     rcases mcp hm with q | hm
     . exact (ne_of_beq_false hb (congrArg (·.1) q)).elim
     . exact ih hn.2 hm
theorem aA.kindOf {B:aI}{env:Env}{σ:St}{H:AH}{s:Shared}(F:aA s H σ env B){x:Str}{k:NameKind}{ov:Option PV}(hm:(x,k,ov)∈σ):env.kindOf x=some k:=by
 refine aY F.nodup ?_;rw [<-F.keys];exact Bk (f:=λe:Str×NameKind×Option PV=>(e.1,e.2.1)) hm
theorem iT {B:aI}{H:AH}{s:Shared}(I:Inv B H s){a:Addr}{o:Obj}(e:s.heap.get? a=some o)(hd:∀vs n,o.data≠.seq vs n):a∉H.map (·.1):=λq=>by
 obtain ⟨p,hp,rfl⟩:=mmp q;obtain ⟨O,vs,n,e',O⟩:=I.objs p hp;rw [e] at e';cases e';exact hd _ _ rfl
theorem iF {B:aI}{H:AH}{s:Shared}(I:Inv B H s){a:Addr}{o:Obj}(e:s.heap.get? a=some o)(hd:∀vs,o.data≠.fields vs):a∉B.tabs.map (·.2):=λq=>by
 obtain ⟨p,hp,rfl⟩:=mmp q;obtain ⟨ps,e',O⟩:=I.tabs p hp;rw [e] at e';cases e';exact hd _ rfl
theorem fA {B:aI}{H:AH}{s:Shared}(I:Inv B H s){a:Addr}{o:Obj}(e:s.heap.get? a=some o)(hd:∀vs n,o.data≠.seq vs n):a∉B.hid.map (·.1):=λq=>by
 obtain ⟨p,hp,rfl⟩:=mmp q;obtain ⟨e',⟨vs,n,hs⟩,O⟩:=I.hid p hp;rw [e] at e';cases e';exact hd _ _ hs
theorem b9 {B:aI}{H:AH}{s:Shared}(I:Inv B H s){a:Addr}{o:Obj}(e:s.heap.get? a=some o)(hd:∀vs n,o.data≠.seq vs n)(hd':∀vs,o.data≠.fields vs):¬Trk H B a:=
 λq=>q.elim (iT I e hd) λq=>q.elim (iF I e hd') (fA I e hd)
theorem aA.tr {B:aI}{env:Env}{σ:St}{H H':AH}{s s':Shared}(F:aA s H σ env B)(I:Inv B H s)(x:Tr noU s' H' s H B):aA s' H' σ env B:=by
 have hk:∀a o,s.heap.get? a=some o->¬Trk H B a->s'.heap.get? a=some o:=λa o e n=>x.step.heap a o e λq=>q.elim n False.elim;have ht:∀a,a<s.heap.objs.size->Trk H' B a->Trk H B a:=λa ha t=>Trk.new x.keys ha t;refine ⟨F.fresh,F.apart,F.keys,F.nodup,?_,λy ov hy=>?_,F.glob⟩
 . obtain ⟨m,⟨o,es,ep,ho,hd,r⟩,hm⟩:=F.ns
   exact ⟨m,⟨o,es,ep,hk _ _ ho (b9 I ho (by rw [hd];(intros;first | contradiction | (intro q;cases q))) (by rw [hd];(intros;first | contradiction | (intro q;cases q)))),hd,r⟩,λy p hy=>(hm y p hy).mono (λa o e O n=>hk a o e n) ht⟩
 . obtain ⟨c,w,hc,⟨o,ho,hd⟩,hv⟩:=F.cell y ov hy
   exact ⟨c,w,hc,⟨o,hk _ _ ho (b9 I ho (by rw [hd];(intros;first | contradiction | (intro q;cases q))) (by rw [hd];(intros;first | contradiction | (intro q;cases q)))),hd⟩,hv.mono (λa o e O n=>hk a o e n) ht⟩
set_option genInjectivity false in
set_option genSizeOf false in
structure ai (A:Around)(d:Nat):Prop where
 handled:A.handled=Option.none
 depth:A.depth+d<recursionLimit
 units:A.units+8*d+100<cLine
theorem ai.deeper {A:Around}{d:Nat}(R:ai A (d+1))(env:Env):ai (A.deeper env) d:=
 ⟨R.handled,by have:=R.depth;show A.depth+1+d<_;lia,by have:=R.units;show A.units+3+8*d+100<_;lia⟩
theorem ai.le {A:Around}{d d':Nat}(R:ai A d)(h:d'<=d):ai A d':=
 ⟨R.handled,by have:=R.depth;lia,by have:=R.units;lia⟩
theorem ai.in1 {A:Around}{d:Nat}(R:ai A (d+1)):ai A.in1 d:=
 ⟨R.handled,by have:=R.depth;show A.depth+d<_;lia,by have:=R.units;show A.units+1+8*d+100<_;lia⟩
theorem wpm {α:Type}{M:Model}{A:Around}{E:Value->Shared->Prop}{t:Sem α}{P Q:α->Shared->Prop}{s:Shared}(h:wpAny M A t P E s)(k:∀v s',P v s'->Q v s'):wpAny M A t Q E s:=wpAny_mono h k λO O x=>x
theorem wps {α β:Type}{M:Model}{A:Around}{E:Value->Shared->Prop}{m:Sem α}{f:α->Sem β}{P:α->Shared->Prop}{Q:β->Shared->Prop}{s:Shared}(h:wpAny M A m P E s)(k:∀v s',P v s'->wpAny M A (f v) Q E s'):wpAny M A (m >>= f) Q E s:=wpAny_bind (wpm h k)
noncomputable abbrev EP:=Value->Shared->Prop
inductive aL (B:aI)(H:AH)(s:Shared)(Q:PQ)(r:Value)(s':Shared):Prop
 | mk (v:PV) (H':AH) (t:Tr noU s' H' s H B) (h:VR s'.heap (Trk H' B) r v) (q:Q v H')
theorem wpE {B:aI}{M:Model}{A:Around}{E:EP}{t:Sem Value}{H:AH}{s:Shared}{Q:PQ}{P:Value->Shared->Prop}(h:wpAny M A t (aL B H s Q) E s)(k:∀r s' v H',Tr noU s' H' s H B->VR s'.heap (Trk H' B) r v->Q v H'->P r s'):wpAny M A t P E s:=
 wpm h λr s' p=>p.casesOn (k r s')
noncomputable def Ev (E:EP)(B:aI)(d:Nat)(fi:aN)(σ:St)(H:AH)(e:Expr)(Q:PQ):Prop:=
 ∀A s env,a9 B fi env->ai A d->Inv B H s->aA s H σ env B->
   wpAny (model B.prog B.w) A (eval e env) (aL B H s Q) E s
inductive PF where
 | brk | cont | ret (v:PV)
noncomputable abbrev FQ:=St->PF->AH->Prop
noncomputable def aBz (T:Addr->Prop)(h:Heap):Flow->PF->Prop
 | .brk,.brk=>True
 | .cont,.cont=>True
 | .ret v,.ret p=>VR h T v p
 | _,_=>False
noncomputable def aFz (B:aI)(Qn:SQ)(Qf:FQ)(σ':St)(H':AH)(fl:Flow)(s':Shared):Prop:=
 (fl=.next/\Qn σ' H')\/∃pf,aBz (Trk H' B) s'.heap fl pf/\Qf σ' pf H'
inductive fE (B:aI)(env:Env)(H:AH)(s:Shared)(Qn:SQ)(Qf:FQ)(fl:Flow)(s':Shared):Prop
 | mk (σ':St) (H':AH) (t:Tr (bT env) s' H' s H B) (F:aA s' H' σ' env B) (q:aFz B Qn Qf σ' H' fl s')
noncomputable def Xs (E:EP)(B:aI)(d:Nat)(fi:aN)(H:AH)(σ:St)(b:List Stmt)(Qn:SQ)(Qf:FQ):Prop:=
 ∀A s env,a9 B fi env->ai A d->Inv B H s->aA s H σ env B->
   wpAny (model B.prog B.w) A (execs b env) (fE B env H s Qn Qf) E s
noncomputable def X (B:aI)(fi:aN)(d:Nat)(E:EP)(st:Stmt)(σ:St)(H:AH)(Qn:SQ)(Qf:FQ):Prop:=
 ∀A s env,a9 B fi env->ai A d->Inv B H s->aA s H σ env B->
   wpAny (model B.prog B.w) A (exec st env) (fE B env H s Qn Qf) E s
end
variable {E:EP}{B:aI}{d:Nat}{fi:aN}{T:Addr->Prop}{S:Setting}{A:Around}{env:Env}{scope:Scope}{H:AH}{Qf:FQ}{Qn:SQ}{σ:St}{H':AH}{C a f l:Addr}{e tgt:Expr}{h h':Heap}{r:List Nat}{xs xs' ys:List PV}{body rest:List Stmt}{vs:List Value}{b i j k m n:Nat}{o:Obj}{an:Option Addr}{Q:PQ}{p v:PV}{pos:Pos}{s s' s₁ s₂:Shared}{σ':St}{x:Str}{cdv dV kV va w:Value}
theorem qr {lo hi:Nat}(h:lo<hi):lo<=(lo+hi)/2:=(Nat.le_div_iff_mul_le (As 1)).mpr (Nat.mul_two lo▸Au (Ac h) lo)
theorem fD {lo hi:Nat}(h:lo<hi):(lo+hi)/2<hi:=(AK (As 1)).mpr (Nat.mul_two hi▸Nat.add_lt_add_right h hi)
theorem lf {lo hi:Nat}(h:lo<hi):hi-((lo+hi)/2+1)<hi-lo:=Nat.sub_lt_sub_left h (Nat.lt_succ_of_le (qr h))
theorem lO {lo hi:Nat}(h:lo<hi):(lo+hi)/2-lo<hi-lo:=Nat.sub_lt_sub_right (qr h) (fD h)
theorem vm (h:k<j):i<=i+j-1-k:=by
 rw [Nat.sub_sub,Ah 1 k,Nat.add_sub_assoc h];exact Af _ _
theorem em (h1:i<=k)(h2:k<j):i+j-1-k<j:=by
 rw [Nat.sub_sub,Ah 1 k];exact Nat.sub_lt_left_of_lt_add (ntr h2 (Am _ _)) (Nat.add_lt_add_right (Nat.lt_succ_of_le h1) j)
theorem pS {l:Nat}(h1:k<l)(h2:l<j):i+j-1-l<i+j-1-k:=
 Nat.sub_lt_sub_left (nlt h1 (AT (nlt h2 (Am j i)))) h1
theorem dlt {a b r s:Int}(h:a<b)(hr:r<64)(hs:0<=s):64*a+r<64*b+s:=by lia
theorem za {α β:Type}(f:α->β)(l:List α)(a:α):l.map f++[f a]=(l++[a]).map f:=(Bj (l₂:=[a])).symm
inductive w0 (B:aI)(H:AH)(s:Shared)(Q:BQ)(b:Bool)(s':Shared):Prop
 | mk (H':AH) (t:Tr noU s' H' s H B) (q:Q b H')
inductive Gi (B:aI)(H:AH)(s:Shared)(n:Nat)(Q:LQ)(vs:List Value)(s':Shared):Prop
 | mk (ps:List PV) (H':AH) (t:Tr noU s' H' s H B) (l:vs.length=n) (r:VRs s'.heap (Trk H' B) vs ps) (q:Q ps H')
theorem wpT {M:Model}{t:Sem Bool}{Q:BQ}{P:Bool->Shared->Prop}(h:wpAny M A t (w0 B H s Q) E s)(k:∀b s' H',Tr noU s' H' s H B->Q b H'->P b s'):wpAny M A t P E s:=
 wpm h λb s' p=>p.casesOn (k b s')
theorem wpL {M:Model}{t:Sem (List Value)}{Q:LQ}{P:List Value->Shared->Prop}(h:wpAny M A t (Gi B H s n Q) E s)(k:∀vs s' ps H',Tr noU s' H' s H B->vs.length=n->VRs s'.heap (Trk H' B) vs ps->Q ps H'->P vs s'):wpAny M A t P E s:=
 wpm h λvs s' p=>p.casesOn (k vs s')
theorem aL.trans {H₁:AH}{r:Value}(t:Tr noU s₁ H₁ s H B)(p:aL B H₁ s₁ Q r s'):aL B H s Q r s':=by
 obtain ⟨v,H',t',r',q⟩:=p;exact ⟨v,H',t.trans t',r',q⟩
theorem aL.mono {Q':PQ}{r:Value}(h:∀v H',Q v H'->Q' v H')(p:aL B H s Q r s'):aL B H s Q' r s':=by
 obtain ⟨v,H',t',r',q⟩:=p;exact ⟨v,H',t',r',h _ _ q⟩
theorem aL.here {H:AH}{r:Value}(I:Inv B H s)(hr:VR s.heap (Trk H B) r v)(q:Q v H):aL B H s Q r s:=
 ⟨v,H,.refl I,hr,q⟩
theorem Inv.tok (I:Inv B H s)(t:Nat):Inv B H { s with toks:=t }:=⟨I.keep,I.size,I.tabs,I.bare,I.os,I.nodup,I.hid,I.objs⟩
theorem Tr.tok (I:Inv B H s)(t:Nat):Tr noU { s with toks:=t } H s H B:=⟨I.tok t,⟨λO O e O=>e,Aa _,λO O e=>e⟩,λO h=>.inl h⟩
theorem Inv.push (I:Inv B H s)(o:Obj):Inv B H { s with heap:=s.heap.push o }:=by
 have hk:∀a ob,s.heap.get? a=some ob->ah ob->¬Trk H B a->(s.heap.push o).get? a=some ob:=λa ob e O O=>Heap.get?_push_of_some _ e;refine ⟨λa ob e=>Heap.get?_push_of_some _ (I.keep a ob e),?_,λq hq=>?_,I.bare,I.os,I.nodup,λq hq=>let ⟨a,b,c,e⟩:=I.hid q hq;⟨Heap.get?_push_of_some _ a,b,c,e⟩,λp hp=>?_⟩
 . show B.g.objs.size<=(s.heap.push o).objs.size
   rw [Heap.size_push];exact Aw I.size
 . obtain ⟨ps,h1,h2,h3⟩:=I.tabs q hq
   exact ⟨ps,Heap.get?_push_of_some _ h1,h2,λpos cv hc=>let ⟨qn,a,b⟩:=h3 pos cv hc;⟨qn,a,b.keeps λO O e=>Heap.get?_push_of_some _ e⟩⟩
 . obtain ⟨h1,vs,n,h2,h3⟩:=I.objs p hp
   exact ⟨h1,vs,n,Heap.get?_push_of_some _ h2,h3.mono hk λO O t=>t⟩
theorem Tr.push (I:Inv B H s)(o:Obj):Tr noU { s with heap:=s.heap.push o } H s H B:=
 ⟨I.push o,⟨λO O e O=>Heap.get?_push_of_some _ e,by show _<=(s.heap.push o).objs.size;rw [Heap.size_push];exact Aj _,λO O e=>e⟩,λO h=>.inl h⟩
theorem aS (I:Inv B H s):¬Trk H B s.heap.objs.size:=by
 intro q;rcases q with q | q
 . obtain ⟨p,hp,e⟩:=mmp q
   obtain ⟨O,vs,n,h2,O⟩:=I.objs p hp;exact absurd (Heap.lt_size h2) (by rw [e];exact Al _)
 . rcases q with q | q
   . obtain ⟨p,hp,e⟩:=mmp q
     obtain ⟨ps,h2,O⟩:=I.tabs p hp;exact absurd (Heap.lt_size h2) (by rw [e];exact Al _)
   . obtain ⟨p,hp,e⟩:=mmp q
     obtain ⟨h2,O⟩:=I.hid p hp;exact absurd (Heap.lt_size h2) (by rw [e];exact Al _)
theorem Tr.track (I:Inv B H s)(hv:VRs s.heap (Trk H B) vs xs) :
   Tr noU { s with heap:=s.heap.push (aO vs.toArray 0) } ((s.heap.objs.size,xs)::H) s H B:=by
 have J:=I.push (aO vs.toArray 0);have hn:s.heap.objs.size∉H.map (·.1):=λq=>aS I (.inl q)
 have ht:∀a,a<s.heap.objs.size->Trk ((s.heap.objs.size,xs)::H) B a->Trk H B a:=by
   intro a ha t;rcases t with t | t
   . rcases mcp t with q | q
     . exact absurd ha (by rw [show a=s.heap.objs.size from q];exact Al _)
     . exact .inl q
   . exact .inr t
 have hk:∀a ob,s.heap.get? a=some ob->ah ob->¬Trk H B a->(s.heap.push (aO vs.toArray 0)).get? a=some ob:=λa ob e O O=>Heap.get?_push_of_some _ e;refine ⟨⟨J.keep,J.size,J.tabs,J.bare,J.os,List.nodup_cons.mpr ⟨hn,I.nodup⟩,λq hq=>let ⟨a,b,c,e⟩:=I.hid q hq;⟨Heap.get?_push_of_some _ a,b,c,λt=>(mcp t).elim (λt=>absurd (Heap.lt_size a) (by rw [t];exact Al _)) e⟩,λp hp=>?_⟩,(Tr.push I _).step,λa ha=>?_⟩
 . rcases mcp hp with rfl | hp
   . refine ⟨Heap.get?_none_of_le I.size,vs.toArray,0,Heap.get?_push_size _ rfl,?_⟩
     exact hv.mono hk ht
   . obtain ⟨h1,vs',n,h2,h3⟩:=I.objs p hp
     exact ⟨h1,vs',n,Heap.get?_push_of_some _ h2,h3.mono hk ht⟩
 . rcases mcp ha with q | q
   . exact .inr (Ad q.symm)
   . exact .inl q
theorem cy {α:Type}{M:Model}{c:Prop}[Decidable c]{x y:Sem α}{Q:α->Shared->Prop}(hc:¬c)(h:wpAny M A y Q E s):wpAny M A (if c then x else y) Q E s:=by rw [if_neg hc];exact h
theorem lG {α:Type}{M:Model}{c:Prop}[Decidable c]{x y:Sem α}{Q:α->Shared->Prop}(h1:c->wpAny M A x Q E s)(h2:¬c->wpAny M A y Q E s):wpAny M A (if c then x else y) Q E s:=by
 by_cases h:c
 . rw [if_pos h];exact h1 h
 . rw [if_neg h];exact h2 h
section
theorem Ev.mono {Q':PQ}(h:Ev E B d fi σ H e Q)(hq:∀v H',Q v H'->Q' v H'):Ev E B d fi σ H e Q':=
 λA s env e R I F=>wpm (h A s env e R I F) (λO O p=>aL.mono hq p)
noncomputable def V1 (B:aI)(d:Nat)(E:EP)(t:Value->Sem Value)(a:PV)(H:AH)(Q:PQ):Prop:=
 ∀A s,ai A d->Inv B H s->∀va,VR s.heap (Trk H B) va a->wpAny (model B.prog B.w) A (t va) (aL B H s Q) E s
noncomputable def V2 (H:AH)(E:EP)(B:aI)(d:Nat)(b:PV)(a:PV)(t:Value->Value->Sem Value)(Q:PQ):Prop:=
 ∀A s,ai A d->Inv B H s->∀va vb,VR s.heap (Trk H B) va a->VR s.heap (Trk H B) vb b->wpAny (model B.prog B.w) A (t va vb) (aL B H s Q) E s
noncomputable def Tru (B:aI)(d:Nat)(E:EP)(a:PV)(H:AH)(Q:BQ):Prop:=
 ∀A s,ai A d->Inv B H s->∀va,VR s.heap (Trk H B) va a->wpAny (model B.prog B.w) A (truthy va) (w0 B H s Q) E s
noncomputable def dE (T:Addr->Prop)(h:Heap)(kvs:List (Str×Value))(kw:List (Str×PV)):Prop:=VRs h T (kvs.map (·.2)) (kw.map (·.2))/\kvs.map (·.1)=kw.map (·.1)
noncomputable def aF (kw:List (Str×PV))(E:EP)(H:AH)(B:aI)(d:Nat)(f:PV)(args:List PV)(Q:PQ):Prop:=
 ∀A s,ai A d->Inv B H s->∀fv vs kvs,VR s.heap (Trk H B) fv f->VRs s.heap (Trk H B) vs args->dE (Trk H B) s.heap kvs kw->
   wpAny (model B.prog B.w) A (call fv vs kvs) (aL B H s Q) E s
noncomputable def bo (B:aI)(f:PV):Prop:=
 ∀A (E:EP) H s fv,Inv B H s->VR s.heap (Trk H B) fv f->∀Q:Keeper->Shared->Prop,(∀k,Q k s)->wpAny (model B.prog B.w) A (keeperOf fv) Q E s
theorem aF.le {d':Nat}(hd:d'<=d){f:PV}{args:List PV}{kw:List (Str×PV)}(h:aF kw E H B d' f args Q):aF kw E H B d f args Q:=
 λA s R I=>h A s (R.le hd) I
theorem Cn {i:Int}(h:Q (.int i) H):Ev E B d fi σ H (.Constant (.int i) k pos) Q:=
 λO s O O O I O=>wpAny_Constant_int ⟨_,_,Tr.tok I _,.int _ _,h⟩
theorem uO (h:Q (.str x) H):Ev E B d fi σ H (.Constant (.str x) k pos) Q:=
 λO s O O O I O=>Calls.Constant_str ⟨_,_,Tr.tok I _,.str _ _,h⟩
theorem rR {x:List UInt8}(h:Q (.bytes x.toArray) H):Ev E B d fi σ H (.Constant (.bytes x) k pos) Q:=
 λO s O O O I O=>λO O O=>⟨_,_,Tr.tok I _,.bytes _ _,h⟩
theorem wI {b:Bool}(h:Q (.bool b) H):Ev E B d fi σ H (.Constant (.bool b) k pos) Q:=
 λO s O O O I O=>λO O O=>aL.here I (.bool _) h
theorem vg (h:Q .none H):Ev E B d fi σ H (.Constant .none k pos) Q:=
 λO s O O O I O=>λO O O=>aL.here I .none h
theorem a9.kindF (e:a9 B fi env):env.scope.kind=.function:=by rw [e.scope];exact e.kind
noncomputable def Ld (B:aI)(fi:aN)(d:Nat)(E:EP)(x:Str)(σ:St)(H:AH)(Q:PQ):Prop:=
 ∀A s env,a9 B fi env->ai A d->Inv B H s->aA s H σ env B->wpAny (model B.prog B.w) A (loadName env x) (aL B H s Q) E s
theorem D5 (hm:(x,NameKind.local,some v)∈σ)(h:Q v H):Ld B fi d E x σ H Q:=λO s env e O I F=>by
 obtain ⟨m,hns,hmm⟩:=F.ns;obtain ⟨v',hv',hr⟩:=hmm x v hm;exact wpAny_loadName_local e.kindF (F.kindOf hm) hns hv' (aL.here I hr h)
theorem Ep (hm:(x,NameKind.cell,some v)∈σ)(h:Q v H):Ld B fi d E x σ H Q:=λO s env e O I F=>by
 obtain ⟨c,ov,hc,ho,v',rfl,hr⟩:=F.cell x _ (.inl hm);exact wpAny_loadName_cell e.kindF (F.kindOf hm) hc ho (aL.here I hr h)
theorem GY (hm:(x,NameKind.free,some v)∈σ)(h:Q v H)
   (hc':autoParam ((x==("__classdict__" : Str))=false) nB):Ld B fi d E x σ H Q:=λO s env e O I F=>by
 obtain ⟨c,ov,hc,ho,v',rfl,hr⟩:=F.cell x _ (.inr hm);exact wpAny_loadName_free e.kindF (F.kindOf hm) hc ho (aL.here I hr h) hc'
theorem xR (hm:(x,NameKind.globalImplicit,some p)∈σ)(h:Q p H):Ld B fi d E x σ H Q:=λA s env e O I F=>by
 obtain ⟨v,hv,hr⟩:=F.glob x p hm;have hg:s.heap.Ns env.globals B.mg:=by rw [e.globals];exact B.nsg.keeps I.keep
 have hk:=F.kindOf hm
 have hb:wpAny (model B.prog B.w) A (loadGlobal env x) (aL B H s Q) E s:=by
   rcases hv with hv | ⟨h1,h2,h3⟩
   . exact Calls.loadGlobal_global hg hv (aL.here I (hr _ _) h)
   . exact Calls.loadGlobal_builtin hg h1 (by rw [e.builtins];exact B.nsb.keeps I.keep) ((B.boot x h3).trans h2) (aL.here I (hr _ _) h)
 exact (loadName_read e.kindF hk).symm▸hb
theorem k5 (h:Ld B fi d E x σ H Q)(hd:autoParam ((x==("__debug__" : Str))=false) nB):Ev E B d fi σ H (.Name x pos) Q:=
 λA s env e R I F=>wpAny_Name (h A s env e R I F) hd
theorem tM {l r:Expr}{op:Operator}
   (h:Ev E B d fi σ H l λa H₁=>Ev E B d fi σ H₁ r λb H₂=>V2 H₂ E B d b a (binaryOp op) Q):Ev E B d fi σ H (.BinOp l op r pos) Q:=λA s env e R I F=>by
 refine wpAny_BinOp (wpE (h A s env e R I F) (λva s₁ a H₁ t₁ r₁ h₁=>?_));refine wpE (h₁ A s₁ env e R t₁.inv (F.tr I t₁)) (λvb s₂ b H₂ t₂ r₂ h₂=>?_);exact wpm (h₂ A s₂ R t₂.inv va vb (r₁.tr t₂) r₂) (λO O p=>(p.trans t₂).trans t₁)
theorem uK {x:Expr}{op:UnaryOp}
   (h:Ev E B d fi σ H x λa H₁=>V1 B d E (unaryOp op) a H₁ Q):Ev E B d fi σ H (.UnaryOp op x pos) Q:=λA s env e R I F=>by
 show wpAny _ A (do let v<-eval x env;standAt pos;holding [v] (unaryOp op v)) _ _ s;refine wps (h A s env e R I F) (λva s₁ ⟨a,H₁,t₁,r₁,h₁⟩=>wpAny_bind (wpAny_standAt (wpAny_holding ?_)));exact wpm (h₁ A s₁ R t₁.inv va r₁) (λO O p=>p.trans t₁)
theorem kE {l r:Expr}{op:CmpOp}
   (h:Ev E B d fi σ H l λa H₁=>Ev E B d fi σ H₁ r λb H₂=>V2 H₂ E B d b a (compareOp op) Q)
   (hm:autoParam (behindInMarks op r=false) nE):Ev E B d fi σ H (.Compare l [op] [r] pos) Q:=λA s env e R I F=>by
 refine wpAny_Compare1 (wpE (h A s env e R I F) (λva s₁ a H₁ t₁ r₁ h₁=>?_)) hm;refine wpE (h₁ A s₁ env e R t₁.inv (F.tr I t₁)) (λvb s₂ b H₂ t₂ r₂ h₂=>?_);exact wpm (h₂ A s₂ R t₂.inv va vb (r₁.tr t₂) r₂) (λO O p=>(p.trans t₂).trans t₁)
noncomputable def Tst (B:aI)(fi:aN)(d:Nat)(E:EP)(e:Expr)(σ:St)(H:AH)(Q:BQ):Prop:=
 ∀A s env,a9 B fi env->ai A d->Inv B H s->aA s H σ env B->
   wpAny (model B.prog B.w) A (isTrue e env (eval e env)) (w0 B H s Q) E s
theorem j0 {Q:BQ}(h:Ev E B d fi σ H e λv H₁=>Tru B d E v H₁ Q)
   (he:autoParam (∀env w,isTrue e env w=(do let v<-w;standAt e.pos;holding [v] (truthy v))) nC):Tst B fi d E e σ H Q:=λA s env e' R I F=>by
 rw [he];refine wps (h A s env e' R I F) (λva s₁ ⟨a,H₁,t₁,r₁,h₁⟩=>wpAny_bind (wpAny_standAt (wpAny_holding ?_)));exact wpm (h₁ A s₁ R t₁.inv va r₁) (λO O hh1=>by obtain ⟨H',t',q⟩:=hh1;exact ⟨H',t₁.trans t',q⟩)
theorem i7 {l r:Expr}{op:CmpOp}{Q:BQ}
   (h:Ev E B d fi σ H l λa H₁=>Ev E B d fi σ H₁ r λb H₂=>V2 H₂ E B d b a (compareOp op) λc H₃=>Tru B d E c H₃ Q)
   (hm:autoParam (behindInMarks op r=false) nE):Tst B fi d E (.Compare l [op] [r] pos) σ H Q:=λA s env e R I F=>by
 refine wpAny_isTrue_Compare1 (wpE (h A s env e R I F) (λva s₁ a H₁ t₁ r₁ h₁=>?_)) hm;refine wpE (h₁ A s₁ env e R t₁.inv (F.tr I t₁)) (λvb s₂ b H₂ t₂ r₂ h₂=>?_);refine wpE (h₂ A s₂ R t₂.inv va vb (r₁.tr t₂) r₂) (λvc s₃ c H₃ t₃ r₃ h₃=>?_);exact wpm (h₃ A s₃ R t₃.inv vc r₃) (λO O hh1=>by obtain ⟨H',t',q⟩:=hh1;exact ⟨H',((t₁.trans t₂).trans t₃).trans t',q⟩)
theorem dC {b:Bool}{Q:BQ}(h:Q b H):Tru B d E (.bool b) H Q:=λA s R I va r=>by
 obtain ⟨O,rfl⟩:=r.inv;exact wpAny_truthy_bool ⟨H,.refl I,h⟩
theorem GL {x:Expr}{Q:BQ}(h:Tst B fi d E x σ H λb H₁=>Q (!b) H₁):Tst B fi d E (.UnaryOp .Not x pos) σ H Q:=λA s env e R I F=>by
 show wpAny _ A (do return !(<-isTrue x env (eval x env))) _ _ s;exact wps (h A s env e R I F) (λb s₁ hh1=>by obtain ⟨H₁,t₁,q⟩:=hh1;exact wpAny_pure ⟨H₁,t₁,q⟩)
noncomputable def fT (B:aI)(fi:aN)(d:Nat)(E:EP)(op:BoolOp):List Expr->St->AH->(BQ)->Prop
 | [],_,H,Q=>Q (op==.And) H
 | x::r,σ,H,Q=>Tst B fi d E x σ H λb H₁=>if b=(op==.Or) then Q b H₁ else fT B fi d E op r σ H₁ Q
theorem zv {op:BoolOp}:∀{xs:List Expr} {H:AH} {Q:BQ},fT B fi d E op xs σ H Q->∀A s env,a9 B fi env->ai A d->Inv B H s->aA s H σ env B->
   wpAny (model B.prog B.w) A (allTrue op xs env) (w0 B H s Q) E s:=by
 intro xs
 induction xs with
 | nil=>
   intro H Q h A s env e R I F;exact wpAny_pure ⟨H,.refl I,h⟩
 | cons x r ih=>
   intro H Q h A s env e R I F;refine wps (h A s env e R I F) (λb s₁ hh1=>?_);obtain ⟨H₁,t₁,h₁⟩:=hh1;cases op <;> cases b
   . exact wpAny_pure ⟨H₁,t₁,h₁⟩
   . have go':fT B fi d E .And r σ H₁ Q:=h₁
     exact wpm (ih go' A s₁ env e R t₁.inv (F.tr I t₁)) (λO O hh1=>by obtain ⟨H',t',q⟩:=hh1;exact ⟨H',t₁.trans t',q⟩)
   . have go':fT B fi d E .Or r σ H₁ Q:=h₁
     exact wpm (ih go' A s₁ env e R t₁.inv (F.tr I t₁)) (λO O hh1=>by obtain ⟨H',t',q⟩:=hh1;exact ⟨H',t₁.trans t',q⟩)
   . exact wpAny_pure ⟨H₁,t₁,h₁⟩
theorem vH {op:BoolOp}{xs:List Expr}{Q:BQ}(h:fT B fi d E op xs σ H Q):Tst B fi d E (.BoolOp op xs pos) σ H Q:=
 λA s env e R I F=>zv h A s env e R I F
theorem pU {l r₁ r₂:Expr}{o₁ o₂:CmpOp}{Q:BQ}
   (h:Ev E B d fi σ H l λa H₁=>Ev E B d fi σ H₁ r₁ λb H₂=>V2 H₂ E B d b a (compareOp o₁) λc H₃=>Tru B d E c H₃ λt H₄=>
     if t then Ev E B d fi σ H₄ r₂ λb' H₅=>V2 H₅ E B d b' b (compareOp o₂) λc' H₆=>Tru B d E c' H₆ Q else Q false H₄)
   (hm:autoParam (behindInMarks o₂ r₂=false) nE):Tst B fi d E (.Compare l [o₁,o₂] [r₁,r₂] pos) σ H Q:=λA s env e R I F=>by
 have he:isTrue (.Compare l [o₁,o₂] [r₁,r₂] pos) env (eval (.Compare l [o₁,o₂] [r₁,r₂] pos) env) =
   (do testChain pos (<-eval l env) [o₁,o₂] [eval r₁ env,markedBehindIn o₂ r₂ (eval r₂ env)]):=rfl
 rw [he,markedBehindIn_of_false hm];refine wps (h A s env e R I F) (λva s₁ hh1=>?_);obtain ⟨a,H₁,t₁,q₁,h₁⟩:=hh1;refine wpAny_bind (wpAny_holding (wpE (h₁ A s₁ env e R t₁.inv (F.tr I t₁)) (λvb s₂ b H₂ t₂ q₂ h₂=>?_)));refine wpAny_bind (wpAny_standAt (wpAny_bind (wpAny_holding (wpE (h₂ A s₂ R t₂.inv va vb (q₁.tr t₂) q₂) (λvc s₃ c H₃ t₃ q₃ h₃=>?_)))));refine wpAny_bind ?_
 have hrel:∀{vs keep:List Value} {Q:Unit->Shared->Prop} {s:Shared},Q () s->wpAny (model B.prog B.w) A (release vs keep) Q E s:=λhq Γ p hΓ=>by
   rw [Sem.wp_release];exact hq
 refine hrel (wpAny_bind (wpAny_holding (wpT (h₃ A s₃ R t₃.inv vc q₃) (λtb s₄ H₄ t₄ h₄=>?_))));have T₄:=((t₁.trans t₂).trans t₃).trans t₄
 cases tb with
 | false=>exact wpAny_pure ⟨H₄,T₄,h₄⟩
 | true=>
   refine wpAny_bind (wpAny_holding (wpE (h₄ A s₄ env e R t₄.inv (F.tr I T₄)) (λvb' s₅ b' H₅ t₅ q₅ h₅=>?_)));refine wpAny_bind (wpAny_standAt (wpAny_bind ?_))
   have hop:∀{vs:List Value} {m:Sem Value} {Q:Value->Shared->Prop} {s:Shared},wpAny (model B.prog B.w) A m Q E s->wpAny (model B.prog B.w) A (operate vs m) Q E s:=λhq Γ p hΓ=>by
     rw [Sem.wp_operate];exact hq Γ p hΓ
   refine hop (wpE (h₅ A s₅ R t₅.inv vb vb' (((q₂.tr t₃).tr t₄).tr t₅) q₅) (λvc' s₆ c' H₆ t₆ q₆ h₆=>?_));exact wpAny_holding (wpm (h₆ A s₆ R t₆.inv vc' q₆) (λO O hh1=>by obtain ⟨H',t',q⟩:=hh1;exact ⟨H',((T₄.trans t₅).trans t₆).trans t',q⟩))
theorem bh {t b o:Expr}(h:Tst B fi d E t σ H λc H₁=>if c then Ev E B d fi σ H₁ b Q else Ev E B d fi σ H₁ o Q) :
   Ev E B d fi σ H (.IfExp t b o pos) Q:=λA s env e R I F=>by
 show wpAny _ A (do if<-isTrue t env (eval t env) then eval b env else eval o env) _ _ s;refine wps (h A s env e R I F) (λc s₁ hh1=>?_);obtain ⟨H₁,t₁,h₁⟩:=hh1
 cases c with
 | true=>
   exact wpm (h₁ A s₁ env e R t₁.inv (F.tr I t₁)) (λO O p=>aL.trans t₁ p)
 | false=>
   exact wpm (h₁ A s₁ env e R t₁.inv (F.tr I t₁)) (λO O p=>aL.trans t₁ p)
noncomputable def EvL (B:aI)(fi:aN)(d:Nat)(E:EP):List Expr->St->AH->(LQ)->Prop
 | [],_,H,Q=>Q [] H
 | e::r,σ,H,Q=>Ev E B d fi σ H e λv H₁=>EvL B fi d E r σ H₁ λvs H₂=>Q (v::vs) H₂
set_option backward.match.sparseCases false in
noncomputable def av:Expr->Bool
 | .Starred ..=>false
 | _=>true
theorem bJ {e:Expr}{r:List Expr}(h:av e=true):starEach (e::r) env=(false,eval e env)::starEach r env:=by
 cases e <;> first | rfl | cases h
theorem ao :∀{es:List Expr} {H:AH} {Q:LQ},EvL B fi d E es σ H Q->es.all av=true->∀A s env,a9 B fi env->ai A d->Inv B H s->aA s H σ env B->
   wpAny (model B.prog B.w) A (spliced (backTo pos (starEach es env))) (Gi B H s es.length Q) E s:=by
 intro es
 induction es with
 | nil=>
   intro H Q h _ A s env e R I F;exact Calls.spliced_nil ⟨[],H,.refl I,rfl,.nil,h⟩
 | cons x r ih=>
   intro H Q h hp A s env e R I F;have hp:=Bool.and_eq_true_iff.mp hp;refine args_cons (wpE (h A s env e R I F) (λv s₁ p H₁ t₁ q₁ h₁=>?_)) (bJ hp.1);exact wpm (ih h₁ hp.2 A s₁ env e R t₁.inv (F.tr I t₁)) (λvs s₂ hh1=>by obtain ⟨ps,H₂,t₂,l₂,q₂,h₂⟩:=hh1;exact ⟨p::ps,H₂,t₁.trans t₂,congrArg Nat.succ l₂,.cons (q₁.tr t₂) q₂,h₂⟩)
theorem pV (h:n<=64):n<=sizeLine:=ntr h (by rw [sizeLine_eq];lia)
theorem mI {es:List Expr}(h:EvL B fi d E es σ H λvs H₁=>Q (.tup vs) H₁)(hp:autoParam (es.all av=true) nA)(hl:autoParam (es.length<=64) nB) :
   Ev E B d fi σ H (.Tuple es k pos) Q:=λA s env e R I F=>by
 refine Tuple_ (wpL (ao h hp A s env e R I F) (λvs s₁ ps H₁ t₁ l₁ q₁ h₁=>?_));refine wpAny_newTuple ⟨_,_,t₁.trans (Tr.push t₁.inv _),?_,h₁⟩ (pV (l₁▸hl));exact .tup (Heap.get?_push_size _ rfl) (aS t₁.inv) (q₁.tr (Tr.push t₁.inv _))
theorem cn {es:List Expr}(h:EvL B fi d E es σ H λvs H₁=>Q (.list vs) H₁)(hp:autoParam (es.all av=true) nA)(hl:autoParam (es.length<=64) nB) :
   Ev E B d fi σ H (.List es pos) Q:=λA s env e R I F=>by
 refine List_ (wpL (ao h hp A s env e R I F) (λvs s₁ ps H₁ t₁ l₁ q₁ h₁=>?_));refine wpAny_newList ⟨_,_,t₁.trans (Tr.push t₁.inv _),?_,h₁⟩ (pV (l₁▸hl));exact .list (Heap.get?_push_size _ rfl) (aS t₁.inv) (q₁.tr (Tr.push t₁.inv _))
theorem cA {es:List Expr}(h:EvL B fi d E es σ H λvs H₁=>∀a,Q (.lref a) ((a,vs)::H₁))(hp:autoParam (es.all av=true) nA)(hl:autoParam (es.length<=64) nB) :
   Ev E B d fi σ H (.List es pos) Q:=λA s env e R I F=>by
 refine List_ (wpL (ao h hp A s env e R I F) (λvs s₁ ps H₁ t₁ l₁ q₁ h₁=>?_));exact wpAny_newList ⟨_,_,t₁.trans (Tr.track t₁.inv q₁),.lref _,h₁ _⟩ (pV (l₁▸hl))
theorem ae {fv:Value}{first:List Value}{args:List (Bool×Sem Value)}{kws:List (Option Str×Sem Value)}{Q:Value->Shared->Prop}
   (h:wpAny (model B.prog B.w) A (evalArgs fv true args kws) (λa s₁=>(∀Q':Keeper->Shared->Prop,(∀k,Q' k s₁)->wpAny (model B.prog B.w) A (keeperOf fv) Q' E s₁)/\wpAny (model B.prog B.w) A (call fv (first++a.pos) a.kw) Q E s₁) E s) :
   wpAny (model B.prog B.w) A (callWith pos fv first args kws) Q E s:=by
 unfold callWith;refine wpAny_bind (wpAny_holding (wpm h (λa s₁ h₁=>wpAny_bind (wpAny_standAt ?_))))
 have tail:∀{t:Sem Value},wpAny (model B.prog B.w) A t Q E s₁->wpAny (model B.prog B.w) A (t >>= λr=>holding [r] point >>= λO=>pure r) Q E s₁:=
   λht=>wps ht (λr s₂ hr=>wpAny_bind (wpAny_holding (wpAny_point (wpAny_pure hr))))
 have hop:∀{vs:List Value} {m:Sem Value},wpAny (model B.prog B.w) A m Q E s₁->wpAny (model B.prog B.w) A (operate vs m) Q E s₁:=λhq Γ p hΓ=>by
   rw [Sem.wp_operate];exact hq Γ p hΓ
 dsimp only;refine wpAny_bind (h₁.1 _ λk=>?_);generalize (args.any (·.1) || kws.any (·.1.isNone))=st;have hc:=h₁.2;cases k <;> cases st <;> dsimp only
 . split
   . exact tail hc
   . exact tail (by unfold callMarked;exact Calls.wpAny_keep hc)
 . exact tail (by unfold callMarked;exact Calls.wpAny_keep hc)
 . split
   . exact tail hc
   . exact tail (by unfold callMarked;exact Calls.wpAny_keep hc)
 . exact tail (hop hc)
 . exact tail hc
 . exact tail (hop hc)
 . exact tail (hop hc)
 . exact tail (hop hc)
theorem au {fv:Value}{es:List Expr}{Q:Args->Shared->Prop}(hp:es.all av=true)
   (h:wpAny (model B.prog B.w) A (spliced (backTo pos (starEach es env))) (λvs s'=>Q ⟨vs,[]⟩ s') E s):wpAny (model B.prog B.w) A (evalArgs fv true (backTo pos (starEach es env)) []) Q E s:=by
 cases es with
 | nil=>
   unfold evalArgs;show wpAny _ A (spliced [] >>= _) Q E s;refine wps h (λvs s' h'=>?_);refine wpAny_holding ?_;exact wpAny_bind (wpAny_pure (wpAny_bind (wpAny_pure (wpAny_pure h'))))
 | cons x r=>
   simp only [BI,BX] at hp;rw [bJ hp.1] at h ⊢;exact Calls.evalArgs_plain h
theorem FN {func:Expr}{args:List Expr}
   (h:Ev E B d fi σ H func λf H₁=>bo B f/\EvL B fi d E args σ H₁ λvs H₂=>aF [] E H₂ B d f vs Q)
   (hp:autoParam (args.all av=true) nA)
   (he:autoParam (∀env,eval (.Call func args [] pos) env=(do callWith pos (<-eval func env) [] (backTo pos (starEach args env)) (backToKw pos (keywordEach [] env)))) nC) :
   Ev E B d fi σ H (.Call func args [] pos) Q:=λA s env e R I F=>by
 refine Call_ (wpm (h A s env e R I F) (λfv s₁ hh1=>?_)) (he env);obtain ⟨f,H₁,t₁,q₁,hk,h₁⟩:=hh1;refine ae (au hp (wpm (ao h₁ hp A s₁ env e R t₁.inv (F.tr I t₁)) (λvs s₂ ⟨ps,H₂,t₂,l₂,q₂,h₂⟩=>⟨hk A E H₂ s₂ fv t₂.inv (q₁.tr t₂),?_⟩)));refine wpm (h₂ A s₂ R t₂.inv fv vs [] (q₁.tr t₂) q₂ ⟨.nil,rfl⟩) (λO O p=>(p.trans t₂).trans t₁)
end
inductive Rep (x:Str)(p:PV)(k:NameKind):St->St->Prop
 | head {ov:Option PV} {r:St}:Rep x p k ((x,k,ov)::r) ((x,k,some p)::r)
 | tail {e:Str×NameKind×Option PV} {r r':St}:Rep x p k r r'->Rep x p k (e::r) (e::r')
theorem Rep.keys {k:NameKind}(h:Rep x p k σ σ'):σ'.map (λe=>(e.1,e.2.1))=σ.map (λe=>(e.1,e.2.1)):=by
 induction h with
 | head=>rfl
 | tail _ ih=>simp only [Bg,ih]
theorem Rep.has {k:NameKind}(h:Rep x p k σ σ'):∃ov,(x,k,ov)∈σ:=by
 induction h with
 | head=>exact ⟨_,mcs⟩
 | tail _ ih=>exact ⟨ih.choose,mcm _ ih.choose_spec⟩
theorem Rep.all {k:NameKind}{σ':St}(h:Rep x p k σ σ'):(σ.map (λe=>e.1)).Nodup->∀e∈σ',e=(x,k,some p)\/(e.1≠x/\e∈σ):=by
 induction h with
 | head=>
   intro hn;exact fmc ⟨.inl rfl,λe he=>.inr ⟨λq=>(ncp hn).1 (mmr ⟨e,he,q⟩),.tail _ he⟩⟩
 | tail h ih=>
   intro hn;obtain ⟨ov,hx⟩:=h.has;have hn:=ncp hn;exact fmc ⟨.inr ⟨λq=>hn.1 (mmr ⟨_,hx,q.symm⟩),.head _⟩,λe he=>(ih hn.2 e he).imp id λq=>⟨q.1,.tail _ q.2⟩⟩
theorem aA.nodupS (F:aA s H σ env B):(σ.map (λe=>e.1)).Nodup:=by
 have:=F.nodup;rw [<-F.keys,Bi] at this;exact this
theorem Inv.change {t:Nat}(I:Inv B H s)(ho:s.heap.get? a=some o)(hd:∀vs n,o.data≠.seq vs n)(hd':∀vs,o.data≠.fields vs)
   (hg:B.g.get? a=none)(hs:Heap.SameBut a s.heap h'):Inv B H { s with heap:=h',toks:=t }:=by
 have hnt:=b9 I ho hd hd'
 have ne:∀b ob,s.heap.get? b=some ob->(ah ob\/∃vs,ob.data=.fields vs)->h'.get? b=some ob:=λb ob e q=>by
   refine (hs.2 b λeq=>?_).trans e;rw [eq,ho] at e;cases e;rcases q with ⟨vs,n,q⟩ | ⟨vs,q⟩
   . exact hd _ _ q
   . exact hd' _ q
 have hk:∀b ob,s.heap.get? b=some ob->ah ob->¬Trk H B b->h'.get? b=some ob:=λb ob e q O=>ne b ob e (.inl q);refine ⟨λb ob e=>?_,?_,λq hq=>?_,I.bare,I.os,I.nodup,λq hq=>let ⟨a,b,c,e⟩:=I.hid q hq;⟨ne _ _ a (.inl b),b,c,e⟩,λp hp=>?_⟩
 . refine (hs.2 b λeq=>?_).trans (I.keep b ob e)
   rw [eq,hg] at e;cases e
 . show B.g.objs.size<=h'.objs.size
   rw [hs.1];exact I.size
 . obtain ⟨ps,h1,h2,h3⟩:=I.tabs q hq
   refine ⟨ps,ne _ _ h1 (.inr ⟨_,rfl⟩),h2,λpos cv hc=>?_⟩;obtain ⟨qn,a1,c,oc,vs,t,e1,e2,e3,e4⟩:=h3 pos cv hc;exact ⟨qn,a1,c,oc,vs,t,e1,ne _ _ e2 (.inr ⟨_,e3⟩),e3,e4⟩
 . obtain ⟨h1,vs,n,h2,h3⟩:=I.objs p hp
   exact ⟨h1,vs,n,ne _ _ h2 (.inl ⟨_,_,rfl⟩),h3.mono hk λO O t=>t⟩
section
noncomputable def bD (fi:aN)(k:NameKind):Prop:=k=.local\/(k=.cell/\fi.comp=λO=>false)
theorem bD.at {k:NameKind}(h:bD fi k)(x:Str):k=.local\/(k=.cell/\fi.comp x=false):=Or.elim h .inl λh=>.inr ⟨h.1,congrFun h.2 x⟩
theorem wc (ho:s.heap.get? a=some o)(hd:∀vs n,o.data≠.seq vs n)(hs:Heap.SameBut a s.heap h'):∀b ob,s.heap.get? b=some ob->ah ob->¬Trk H B b->h'.get? b=some ob:=λb ob e q O=>(hs.2 b λeq=>by
 obtain ⟨vs,n,q⟩:=q;subst eq
 exact hd vs n (Option.some.inj (ho.symm.trans e)▸q)).trans e
section
variable (F:aA s H σ env B)
include F
theorem aA.cell_ne {c:Addr}{w:Option Value}(h:s.heap.IsCell c w):c≠env.locals:=λeq=>by
 obtain ⟨O,⟨O,O,O,ho,hd,O⟩,O⟩:=F.ns;obtain ⟨O,ho',hd'⟩:=h;subst eq;cases ho.symm.trans ho';exact (by cases (hd.symm.trans hd'))
theorem aA.loc_but (hs:Heap.SameBut env.locals s.heap h'):∀b ob,s.heap.get? b=some ob->ah ob->¬Trk H B b->h'.get? b=some ob:=by
 obtain ⟨O,⟨O,O,O,ho,hd,O⟩,O⟩:=F.ns;exact wc ho (by rw [hd];(intros;first | contradiction | (intro q;cases q))) hs
theorem Tr.own1 (I:Inv B H s){t:Nat}(hs:Heap.SameBut env.locals s.heap h'):Tr (bT env) { s with heap:=h',toks:=t } H s H B:=by
 obtain ⟨O,⟨O,O,O,ho,hd,O⟩,O⟩:=F.ns;exact ⟨I.change ho (by rw [hd];(intros;first | contradiction | (intro q;cases q))) (by rw [hd];(intros;first | contradiction | (intro q;cases q))) F.fresh hs,⟨λb ob eb hn=>(hs.2 b λeq=>hn (.inr (.inl eq))).trans eb,Ad hs.1.symm,λO O q=>q⟩,λO h=>.inl h⟩
theorem aA.upd {σ':St}{m':Str->Option Value}(hs:Heap.SameBut env.locals s.heap s'.heap)(hk:σ'.map (λe=>(e.1,e.2.1))=env.scope.names)(hn:s'.heap.Ns env.locals m')(hl:∀x p,(x,NameKind.local,some p)∈σ'->VRo (Trk H B) s'.heap (m' x) (some p))
   (ho:∀e∈σ',e.2.1≠.local->e∈σ):aA s' H σ' env B:=by
 refine ⟨F.fresh,F.apart,hk,F.nodup,⟨_,hn,hl⟩,λy ov hy=>?_,λy q hy=>F.glob y q (ho _ hy (by intros;first | contradiction | (intro q;cases q)))⟩;obtain ⟨c,w,hc,hcell,hv⟩:=F.cell y ov (hy.imp (λh=>ho _ h (by intros;first | contradiction | (intro q;cases q))) λh=>ho _ h (by intros;first | contradiction | (intro q;cases q)));exact ⟨c,w,hc,hcell.sameBut hs (F.cell_ne hcell),hv.mono (F.loc_but hs) λO O t=>t⟩
end
theorem tH {v:Value}{k:NameKind}(e:a9 B fi env)(I:Inv B H s)(F:aA s H σ env B)(r:VR s.heap (Trk H B) v p)
   (hr:Rep x p k σ σ')(hk:k=.local\/(k=.cell/\fi.comp x=false)) :
   wpAny (model B.prog B.w) A (storeName env x v) (λO s'=>Tr (bT env) s' H s H B/\aA s' H σ' env B) E s:=by
 obtain ⟨ov,hx⟩:=hr.has;have hkx:=F.kindOf hx;obtain ⟨m,hns,hm⟩:=F.ns;have all:=hr.all F.nodupS;have hkeys:σ'.map (λe=>(e.1,e.2.1))=env.scope.names:=hr.keys.trans F.keys;rcases hk with rfl | ⟨rfl,hcomp⟩
 . refine wpAny_storeName_local hkx hns (λh' hn' hs'=>⟨Tr.own1 F I hs',F.upd hs' hkeys hn' (λy q hy=>?_) λe he hk=>((all e he).resolve_left λq=>hk (q▸rfl)).2⟩) (by rw [e.kindF];rfl)
   rcases all _ hy with q | q
   . cases q
     rw [if_pos rfl];exact ⟨v,rfl,r.mono (F.loc_but hs') λO O t=>t⟩
   . rw [if_neg q.1]
     exact (hm y _ q.2).mono (F.loc_but hs') λO O t=>t
 . obtain ⟨c,w,hc,hcell,O⟩:=F.cell x ov (.inl hx)
   have hLc:=F.cell_ne hcell;obtain ⟨oc,hoc,hdc⟩:=id hcell;refine wpAny_storeName_cell e.kindF hkx hc hcell λh' hv' hs'=>?_;have hk:=wc (B:=B) (H:=H) hoc (by rw [hdc];(intros;first | contradiction | (intro q;cases q))) hs';refine ⟨⟨I.change (t:=s.toks) hoc (by rw [hdc];(intros;first | contradiction | (intro q;cases q))) (by rw [hdc];(intros;first | contradiction | (intro q;cases q))) (e.free x hcomp c hkx hc) hs',⟨λb ob eb hn=>(hs'.2 b λeq=>hn (.inr (.inr ⟨x,hkx,eq▸hc,eq▸e.above x hcomp c hkx hc⟩))).trans eb,Ad hs'.1.symm,λO O q=>q⟩,λO h=>.inl h⟩,?_⟩;refine ⟨F.fresh,F.apart,hkeys,F.nodup,⟨m,hns.sameBut hs' hLc.symm,λy q hy=>?_⟩,λy ov' hy=>?_,λy q hy=>F.glob y q ((all _ hy).resolve_left λq=>(by cases q)).2⟩
   . exact (hm y q ((all _ hy).resolve_left λq=>(by cases q)).2).mono hk λO O t=>t
   . have old:∀{k'},(y,k',ov')∈σ'->fL ov' y env (Trk H B) h'\/((y,k',ov')∈σ/\y≠x):=λhy=>(all _ hy).imp (λq=>by cases q;exact ⟨c,_,hc,hv',v,rfl,r.mono hk λO O t=>t⟩) λq=>⟨q.2,q.1⟩
     have go:((y,NameKind.cell,ov')∈σ\/(y,NameKind.free,ov')∈σ)->y≠x->fL ov' y env (Trk H B) h':=λhy' hyx=>by
       obtain ⟨c',w',hc',hcell',hw⟩:=F.cell y ov' hy';exact ⟨c',w',hc',hcell'.sameBut hs' λeq=>hyx (F.apart y x c' hc' (eq▸hc)),hw.mono hk λO O t=>t⟩
     exact hy.elim (λh=>(old h).elim id λq=>go (.inl q.1) q.2) λh=>(old h).elim id λq=>go (.inr q.1) q.2
theorem dD {v:Value}{k:NameKind}(e:a9 B fi env)(I:Inv B H s)(F:aA s H σ env B)(r:VR s.heap (Trk H B) v p)
   (hr:Rep x p k σ σ')(hk:bD fi k):wpAny (model B.prog B.w) A (storeName env x v) (λO s'=>Tr (bT env) s' H s H B/\aA s' H σ' env B) E s:=tH e I F r hr (hk.at x)
theorem dB (h:Qn σ H):Xs E B d fi H σ [] Qn Qf:=λA s env e R I F=>
 wpAny_execs_nil ⟨σ,H,.refl I,F,.inl ⟨rfl,h⟩⟩
theorem GE {st:Stmt}(h:X B fi d E st σ H (λσ' H'=>Xs E B d fi H' σ' rest Qn Qf) Qf) :
   Xs E B d fi H σ (st::rest) Qn Qf:=λA s env e R I F=>by
 refine wpAny_execs_cons (wpm (h A s env e R I F) (λfl s₁ hh1=>?_));obtain ⟨σ₁,H₁,t₁,F₁,q⟩:=hh1;rcases q with ⟨rfl,q⟩ | ⟨pf,hf,q⟩
 . exact wpm (q A s₁ env e R t₁.inv F₁) (λfl' s₂ hh1=>by obtain ⟨σ₂,H₂,t₂,F₂,q₂⟩:=hh1;exact ⟨σ₂,H₂,t₁.trans t₂,F₂,q₂⟩)
 . cases fl with
   | next=>cases pf <;> exact hf.elim
   | brk=>exact ⟨σ₁,H₁,t₁,F₁,.inr ⟨pf,hf,q⟩⟩
   | cont=>exact ⟨σ₁,H₁,t₁,F₁,.inr ⟨pf,hf,q⟩⟩
   | ret v=>exact ⟨σ₁,H₁,t₁,F₁,.inr ⟨pf,hf,q⟩⟩
theorem mW {pos':Pos}{value:Expr}
   (h:Ev E B d fi σ H value λv H₁=>∃k σ',Rep x v k σ σ'/\bD fi k/\Qn σ' H₁)
   (hs:autoParam (∀env,swapsWith value (some (.Name x pos')) pos.line env=pure false) nC):X B fi d E (.Assign [.Name x pos'] value pos) σ H Qn Qf:=λA s env e R I F=>by
 refine wpAny_Assign_Name (wpm (h A s env e R I F) (λv s₁ hh1=>?_)) (hs env);obtain ⟨p,H₁,t₁,r₁,k,σ',hr,hk,q⟩:=hh1;exact wpm (dD e t₁.inv (F.tr I t₁) r₁ hr hk) (λO s₂ hh1=>by obtain ⟨t₂,F₂⟩:=hh1;exact ⟨σ',H₁,t₁.up.trans t₂,F₂,.inl ⟨rfl,q⟩⟩)
theorem rE (h:Ev E B d fi σ H e λv H₁=>Qf σ (.ret v) H₁):X B fi d E (.Return (some e) pos) σ H Qn Qf:=λA s env e' R I F=>
 wpAny_Return_some (wpm (h A s env e' R I F) (λv s₁ hh1=>by obtain ⟨p,H₁,t₁,r₁,q⟩:=hh1;exact ⟨σ,H₁,t₁.up,F.tr I t₁,.inr ⟨.ret p,r₁,q⟩⟩))
theorem qB (h:Qf σ (.ret .none) H):X B fi d E (.Return none pos) σ H Qn Qf:=λA s env e' R I F=>
 wpAny_Return_none ⟨σ,H,.refl I,F,.inr ⟨.ret .none,.none,h⟩⟩
theorem aDb (h:Ev E B d fi σ H e λO H₁=>Qn σ H₁)
   (hs:autoParam (∀env,swapsWith e none pos.line env=pure false) nC):X B fi d E (.Expr e pos) σ H Qn Qf:=λA s env e' R I F=>by
 have hi:interactive env=false:=by unfold interactive;rw [e'.kindF];rfl
 rw [exec_Expr env e pos hi (hs env)];refine wpAny_bind (wpAny_standAt (wps (h A s env e' R I F) (λv s₁ hh1=>?_)));obtain ⟨p,H₁,t₁,r₁,q⟩:=hh1;exact wpAny_dropValue ⟨σ,H₁,t₁.up,F.tr I t₁,.inl ⟨rfl,q⟩⟩
theorem aGn {t:Expr}{b o:List Stmt}
   (h:Tst B fi d E t σ H λc H₁=>if c then Xs E B d fi H₁ σ b Qn Qf else Xs E B d fi H₁ σ o Qn Qf):X B fi d E (.If t b o pos) σ H Qn Qf:=λA s env e R I F=>by
 refine wpAny_If (wpT (h A s env e R I F) (λc s₁ H₁ t₁ q=>?_))
 have go:∀body,Xs E B d fi H₁ σ body Qn Qf->wpAny (model B.prog B.w) A (execs body env) (fE B env H s Qn Qf) E s₁:=λbody hb=>
   wpm (hb A s₁ env e R t₁.inv (F.tr I t₁)) (λfl s₂ hh1=>by obtain ⟨σ₂,H₂,t₂,F₂,q₂⟩:=hh1;exact ⟨σ₂,H₂,t₁.up.trans t₂,F₂,q₂⟩)
 cases c with
 | true=>exact go b q
 | false=>exact go o q
theorem jl {pos':Pos}{op:Operator}{value:Expr}
   (h:Ld B fi d E x σ H λa H₁=>Ev E B d fi σ H₁ value λv H₂=>V2 H₂ E B d v a (inplaceOp op) λr H₃=>∃k σ',Rep x r k σ σ'/\bD fi k/\Qn σ' H₃) :
   X B fi d E (.AugAssign (.Name x pos') op value pos) σ H Qn Qf:=λA s env e R I F=>by
 refine wpAny_AugAssign_Name (wpE (h A s env e R I F) (λa s₁ p H₁ t₁ r₁ h₁=>?_));refine wpE (h₁ A s₁ env e R t₁.inv (F.tr I t₁)) (λv s₂ p₂ H₂ t₂ r₂ h₂=>?_);refine wpm (h₂ A s₂ R t₂.inv a v (r₁.tr t₂) r₂) (λw s₃ hh1=>?_);obtain ⟨p₃,H₃,t₃,r₃,k,σ',hr,hk,q⟩:=hh1;have t:=(t₁.trans t₂).trans t₃;exact wpm (dD e t₃.inv (F.tr I t) r₃ hr hk) (λO s₄ hh1=>by obtain ⟨t₄,F₄⟩:=hh1;exact ⟨σ',H₃,t.up.trans t₄,F₄,.inl ⟨rfl,q⟩⟩)
end
theorem Inv.ext (I:Inv B H s)(hk:∀a o,s.heap.get? a=some o->s'.heap.get? a=some o)(hz:s.heap.objs.size<=s'.heap.objs.size)(hb:AllBare s'.gens)(ho:s'.os=s.os):Inv B H s':=by
 refine ⟨λa o e=>hk _ _ (I.keep a o e),ntr I.size hz,λq hq=>?_,hb,ho.trans I.os,I.nodup,λq hq=>let ⟨a,b,c,e⟩:=I.hid q hq;⟨hk _ _ a,b,c,e⟩,λp hp=>?_⟩
 . obtain ⟨ps,h1,h2,h3⟩:=I.tabs q hq
   exact ⟨ps,hk _ _ h1,h2,λpos cv hc=>let ⟨qn,a,b⟩:=h3 pos cv hc;⟨qn,a,b.keeps hk⟩⟩
 . obtain ⟨h1,vs,n,h2,h3⟩:=I.objs p hp
   exact ⟨h1,vs,n,hk _ _ h2,h3.mono (λa o e O O=>hk a o e) λO O t=>t⟩
theorem Tr.ext {U:Addr->Prop}(I:Inv B H s)(hk:∀a o,s.heap.get? a=some o->s'.heap.get? a=some o)(hz:s.heap.objs.size<=s'.heap.objs.size)(hg:s'.gens=s.gens)(ho:s'.os=s.os):Tr U s' H s H B:=
 ⟨I.ext hk hz (hg▸I.bare) ho,⟨λa o e O=>hk a o e,hz,λi x e=>hg▸e⟩,λO h=>.inl h⟩
noncomputable def gN (k:NameKind):Prop:=k=.local\/k=.cell
noncomputable abbrev aBk (B:aI)(bs:List (Str×PV))(e:Str×NameKind×Option PV):Prop:=∀p,e.2.2=some p->((e.1,p)∈bs/\gN e.2.1)\/(e.2.1=.globalImplicit/\aC B e.1 p)
noncomputable def Ini (B:aI)(bs:List (Str×PV))(ns:List (Str×NameKind))(σ:St):Prop:=σ.map (λe=>(e.1,e.2.1))=ns/\∀e∈σ,aBk B bs e
section
variable {bs:List (Str×PV)}{ns:List (Str×NameKind)}
theorem Ini.keys (h:Ini B bs ns σ):σ.map (λe=>(e.1,e.2.1))=ns:=h.1
theorem Ini.all (h:Ini B bs ns σ):∀e∈σ,aBk B bs e:=h.2
theorem Ini.nil:Ini B bs [] []:=⟨rfl,λO h=>absurd h Be⟩
theorem Ini.cons {k:NameKind}{ov:Option PV}(q:aBk B bs (x,k,ov))(h:Ini B bs ns σ):Ini B bs ((x,k)::ns) ((x,k,ov)::σ):=⟨congrArg (List.cons _) h.1,fmc ⟨q,h.2⟩⟩
theorem Ini.arg {k:NameKind}(h1:(x,p)∈bs)(h2:gN k)(h:Ini B bs ns σ):Ini B bs ((x,k)::ns) ((x,k,some p)::σ):=.cons (λp e=>.inl ⟨Option.some.inj e▸h1,h2⟩) h
theorem Ini.unset {k:NameKind}(h:Ini B bs ns σ):Ini B bs ((x,k)::ns) ((x,k,Option.none)::σ):=.cons (λO e=>(by cases e)) h
theorem Ini.glob (h1:aC B x p)(h:Ini B bs ns σ):Ini B bs ((x,.globalImplicit)::ns) ((x,.globalImplicit,some p)::σ):=.cons (λp e=>.inr ⟨rfl,Option.some.inj e▸h1⟩) h
end
noncomputable def cB (B:aI)(fd:FuncData)(args:List PV)(kw:List (Str×PV))(H:AH)(bs:List (Str×PV)):Prop:=
 ∀A s,Inv B H s->∀vs kvs,VRs s.heap (Trk H B) vs args->dE (Trk H B) s.heap kvs kw->∀(E:EP) (Q:List (Str×Value)->Shared->Prop),
   (∀bv,dE (Trk H B) s.heap bv bs->Q bv s)->wpAny (model B.prog B.w) A (bindArgs fd ⟨vs,kvs⟩) Q E s
theorem VRs.un {ps:List PV}(r:VRs h T vs (p::ps)):∃v ws,vs=v::ws/\VR h T v p/\VRs h T ws ps:=by cases r with | cons a b=>exact ⟨_,_,rfl,a,b⟩
theorem VRs.zip_mem {bs:List (Str×PV)}:∀{bv:List (Str×Value)},VRs h T (bv.map (·.2)) (bs.map (·.2))->bv.map (·.1)=bs.map (·.1)->∀e∈bs,∃v,(e.1,v)∈bv/\VR h T v e.2:=by
 induction bs with
 | nil=>exact λO O O h=>absurd h Be
 | cons b bs ih=>
   intro bv hr he
   cases bv with
   | nil=>exact (by cases he)
   | cons c bv=>
     obtain ⟨v,ws,e,h1,h2⟩:=hr.un;have e:=List.cons.inj e;have n:=List.cons.inj he;have e1:c.2=v:=e.1;have n1:c.1=b.1:=n.1;exact fmc ⟨⟨c.2,n1▸.head _,e1▸h1⟩,λx hx=>(ih (e.2▸h2) n.2 x hx).imp λO q=>⟨.tail _ q.1,q.2⟩⟩
theorem wr {kindOf:Str->Option NameKind}{r:List (Str×Value)}:∀{m:Str->Option Value},x∉r.map (λe=>e.1)->bindL kindOf r m x=m x:=by
 induction r with
 | nil=>exact λO=>rfl
 | cons e r ih=>
   intro m hx;refine (ih λq=>hx (.tail _ q)).trans ?_;split
   . exact if_neg λq:x=e.1=>hx (q▸.head _)
   . rfl
theorem xM {kindOf:Str->Option NameKind}{r:List (Str×Value)}:∀{m:Str->Option Value},x∉r.map (λe=>e.1)->bindC kindOf r m x=m x:=by
 induction r with
 | nil=>exact λO=>rfl
 | cons e r ih=>
   intro m hx;refine (ih λq=>hx (.tail _ q)).trans ?_;split
   . rfl
   . exact if_neg λq:x=e.1=>hx (q▸.head _)
theorem yF {kindOf:Str->Option NameKind}{v:Value}(hk:kindOf x=some .local){bv:List (Str×Value)}:∀{m:Str->Option Value},(bv.map (λe=>e.1)).Nodup->(x,v)∈bv->bindL kindOf bv m x=some v:=by
 induction bv with
 | nil=>exact λO h=>absurd h Be
 | cons e r ih=>
   intro m hn hm;have hn:=ncp hn;rcases mcp hm with q | q
   . subst q
     exact (wr hn.1).trans (by rw [if_pos hk];exact if_pos rfl)
   . exact ih hn.2 q
theorem x8 {kindOf:Str->Option NameKind}{v:Value}(hk:kindOf x≠some .local){bv:List (Str×Value)}:∀{m:Str->Option Value},(bv.map (λe=>e.1)).Nodup->(x,v)∈bv->bindC kindOf bv m x=some v:=by
 induction bv with
 | nil=>exact λO h=>absurd h Be
 | cons e r ih=>
   intro m hn hm;have hn:=ncp hn;rcases mcp hm with q | q
   . subst q
     exact (xM hn.1).trans (by rw [if_neg hk];exact if_pos rfl)
   . exact ih hn.2 q
theorem Tr.back {H₁:AH}(I:Inv B H s)(t₁:Tr noU s₁ H₁ s H B)(t:Tr (bT env) s' H' s₁ H₁ B)(hf:∀a,bT env a->s.heap.objs.size<=a):Tr noU s' H' s H B:=
 ⟨t.inv,⟨λa o e hn=>by
     have ha:=Heap.lt_size e;refine t.step.heap a o (t₁.step.heap a o e hn) λq=>?_;rcases q with q | q
     . exact hn (.inl (Trk.new t₁.keys ha q))
     . exact absurd ha (nlr (hf a q)),
   ntr t₁.step.size t.step.size,λi x e=>t.step.gens i x (t₁.step.gens i x e)⟩,λa ha=>by
   rcases t.keys a ha with q | q
   . exact t₁.keys a q
   . exact .inr (ntr t₁.step.size q)⟩
noncomputable def PX (Q:PQ):FQ
 | _,.ret v,H=>Q v H
 | _,_,_=>False
section
noncomputable def Cx:Flow->Value
 | .ret v=>v
 | _=>.none
set_option genInjectivity false in
set_option genSizeOf false in
structure DF (B:aI)(H:AH)(s:Shared)(fi:aN)(σ₀:St)(env:Env)(s₁:Shared):Prop where
 loc:env.locals=s.heap.objs.size
 fr:env.frame=some env.locals
 eok:a9 B fi env
 tr:Tr noU s₁ H s H B
 frm:aA s₁ H σ₀ env B
 fresh:∀a,bT env a->s.heap.objs.size<=a
 keep:∀b o,s.heap.get? b=some o->s₁.heap.get? b=some o
section
variable {sc:Scope}{cp:Option (Addr×Addr)}{qual:Str}{bs:List (Str×PV)}{σ₀:St}{bv:List (Str×Value)}(hloc:env.locals=s.heap.objs.size)(hscope:env.scope=sc)(hcells:env.cells=cellsFrom (s.heap.objs.size+1) sc.names [])
 (I:Inv B H s)(ic:InCallC s env.locals (bindL env.kindOf bv λO=>none) env.cells (bindC env.kindOf bv λO=>none) s₁)(hsn:(sc.names.map (λe=>e.1)).Nodup)(hfree:∀e∈sc.names,e.2≠.free)(hi:Ini B bs sc.names σ₀)(hbn:(bs.map (λe=>e.1)).Nodup)(hbv:dE (Trk H B) s.heap bv bs)(t₁:Tr noU s₁ H s H B)
include hloc hscope hcells I ic hsn hfree hi hbn hbv t₁
theorem Cz:aA s₁ H σ₀ env B:=by
 have mk:∀{x:Str} {k:NameKind} {ov:Option PV},(x,k,ov)∈σ₀->(x,k)∈sc.names:=λhm=>hi.keys▸Bk (f:=λe:Str×NameKind×Option PV=>(e.1,e.2.1)) hm;have hkind:∀{x:Str} {k:NameKind} {ov:Option PV},(x,k,ov)∈σ₀->env.kindOf x=some k:=λhm=>(congrArg (λq:Scope=>q.names.lookup _) hscope).trans (aY hsn (mk hm));have hn1:(bv.map (λe=>e.1)).Nodup:=hbv.2.symm▸hbn;refine ⟨Heap.get?_none_of_le (hloc▸I.size),λx y c hx hy=>name_of_addr ic.apart (mem_of_lookup hx) (mem_of_lookup hy),hi.keys.trans (hscope▸rfl),hscope▸hsn,⟨_,ic.toInCall.ns,λx p hm=>?_⟩,λx ov hm=>?_,λx p hm=>?_⟩
 . rcases hi.all _ hm p rfl with q | q
   . obtain ⟨v,hv,hr⟩:=VRs.zip_mem hbv.1 hbv.2 _ q.1
     exact ⟨v,yF (hkind hm) hn1 hv,hr.tr t₁⟩
   . exact (by cases (q.1))
 . rcases hm with hm | hm
   . obtain ⟨c,hc⟩:=Option.isSome_iff_exists.mp (cellsFrom_some sc.names (s.heap.objs.size+1) [] (.inl (aY hsn (mk hm))))
     rw [<-hcells] at hc;refine ⟨c,_,hc,ic.cell x c hc,?_⟩
     cases ov with
     | none=>trivial
     | some p=>
       rcases hi.all _ hm p rfl with q | q
       . obtain ⟨v,hv,hr⟩:=VRs.zip_mem hbv.1 hbv.2 _ q.1
         exact ⟨v,x8 (λe=>(by cases ((hkind hm).symm.trans e))) hn1 hv,hr.tr t₁⟩
       . exact (by cases (q.1))
   . exact absurd rfl (hfree _ (mk hm))
 . rcases hi.all _ hm p rfl with q | q
   . exact q.2.elim (λq=>(by cases q)) λq=>(by cases q)
   . exact q.2
omit t₁ in
theorem Gk (hfr:env.frame=some env.locals)(hgl:env.globals=mainGlobals)(hbu:env.builtins=builtinsNs)(hq:env.qual=qual)(hcp:∀c P,cp=some (c,P)->env.code=.ref c)(hk:sc.kind=.function)(hco:sc.isCoroutine=false):DF B H s ⟨sc,cp,qual,λO=>false⟩ σ₀ env s₁:=by
 obtain ⟨h',tk,hs₁,O⟩:=ic.toInCall.done;have t₁:Tr noU s₁ H s H B:=Tr.ext I ic.toInCall.keep (Ac (Ae ic.toInCall.fresh ic.toInCall.ns.lt)) (by rw [hs₁]) (by rw [hs₁]);have le:∀{x c},env.cells.lookup x=some c->s.heap.objs.size<=c:=λh=>ntr (Ad hloc.symm) (Ac (ic.above _ _ (mem_of_lookup h)));refine ⟨hloc,hfr,⟨hscope,hk,hco,hgl,hbu,hq,hcp,λx O c O hc=>ic.above x c (mem_of_lookup hc),λx O c O hc=>Heap.get?_none_of_le (ntr I.size (le hc))⟩,t₁,Cz hloc hscope hcells I ic hsn hfree hi hbn hbv t₁,λa ha=>?_,ic.toInCall.keep⟩;rcases ha with rfl | ⟨x,_,hc,_⟩
 . exact Ad hloc.symm
 . exact le hc
end
theorem ii {f:Addr}{oc:Value}{od:Option Addr}{osl:Array (Option Value)}{fd:FuncData}{cp:Option (Addr×Addr)}{args:List PV}{kw:List (Str×PV)}{bs:List (Str×PV)}{σ₀:St}
   (ho:∀s,Inv B H s->s.heap.get? f=some ⟨oc,od,.func fd,osl⟩)(hbody:fd.body=.stmts body)(hcl:fd.closure=[])(hcr:∀s,Inv B H s->s.heap.CodeRec fd.code fd.qualname)
   (hk:fd.scope.kind=.function)(hco:fd.scope.isCoroutine=false)(hge:fd.scope.isGenerator=false)(hgl:fd.globals=mainGlobals)(hbu:fd.builtins=builtinsNs)
   (hcp:∀c P,cp=some (c,P)->fd.code=.ref c)
   (hb:cB B fd args kw H bs)(hbn:(bs.map (λe=>e.1)).Nodup)(hbk:∀e∈bs,∃k,(e.1,k)∈fd.scope.names/\gN k)(hsn:(fd.scope.names.map (λe=>e.1)).Nodup)(hfree:∀e∈fd.scope.names,e.2≠.free)
   (hi:Ini B bs fd.scope.names σ₀)
   {s:Shared}(R:ai A (d+1))(I:Inv B H s){kvs:List (Str×Value)}(h2:VRs s.heap (Trk H B) vs args)(h3:dE (Trk H B) s.heap kvs kw){Q:Value->Shared->Prop}
   (h:∀env s₁,DF B H s ⟨fd.scope,cp,fd.qualname++".<locals>.",λO=>false⟩ σ₀ env s₁->wpAny (model B.prog B.w) (A.deeper env) (execs body env) (λf s'=>Q (Cx f) s') (λe s'=>wpAny (model B.prog B.w) (A.deeper env) (leaving env e) (λO s''=>E e s'') (λe' s''=>E e' s'') s') s₁) :
   wpAny (model B.prog B.w) A (call (.ref f) vs kvs) Q E s:=by
 refine wpAny_call (codeAny_call_function (by have:=R.depth;lia) (ho s I) rfl hco hge hbody (hcr s I) (hb _ s I vs kvs h2 h3 _ _ λbv hbv=>?_));rw [hcl];refine wpAny_newFunctionEnv_cells hk (λx hx=>?_) λenv he s₁ ic=>⟨(B.nolimit.keeps I.keep).keeps ic.toInCall.keep,codeAny_func ?_⟩
 . obtain ⟨e',he',hee⟩:=mmp (hbv.2▸Bk (f:=λe:Str×Value=>e.1) hx:x.1∈bs.map (λe=>e.1))
   obtain ⟨k,hk1,hk2⟩:=hbk e' he';have:=aY hsn (hee▸hk1);rcases hk2 with rfl | rfl
   . exact .inl this
   . exact .inr ⟨this,cellsFrom_some _ _ _ (.inl this)⟩
 . subst he
   exact h _ s₁ (Gk rfl rfl rfl I ic hsn hfree hi hbn hbv rfl hgl hbu rfl hcp hk hco)
theorem tS {fl:Flow}(I:Inv B H s)(t₁:Tr noU s₁ H s H B)(fr:∀a,bT env a->s.heap.objs.size<=a)(p:fE B env H s₁ (λO H'=>Q .none H') (PX Q) fl s'):aL B H s Q (Cx fl) s':=by
 obtain ⟨σ',H',t,F',q⟩:=p;have tb:=Tr.back I t₁ t fr;rcases q with ⟨e,q⟩ | ⟨pf,hf,q⟩
 . subst e
   exact ⟨.none,H',tb,.none,q⟩
 . cases pf with
   | brk=>exact q.elim
   | cont=>exact q.elim
   | ret p=>
     cases fl with
     | ret v=>exact ⟨p,H',tb,hf,q⟩
     | next=>exact hf.elim
     | brk=>exact hf.elim
     | cont=>exact hf.elim
theorem vv {σ₀:St}{fl:Flow}(I:Inv B H s)(x:DF B H s fi σ₀ env s₁)(p:fE B env H s₁ (λO H'=>Q .none H') (PX Q) fl s'):aL B H s Q (Cx fl) s':=tS I x.tr x.fresh p
theorem tA {oc:Value}{od:Option Addr}{osl:Array (Option Value)}{fd:FuncData}{cp:Option (Addr×Addr)}{args:List PV}{kw:List (Str×PV)}{bs:List (Str×PV)}{σ₀:St}
   (ho:∀s,Inv B H s->s.heap.get? f=some ⟨oc,od,.func fd,osl⟩)(hbody:fd.body=.stmts body)(hcl:fd.closure=[])(hcr:∀s,Inv B H s->s.heap.CodeRec fd.code fd.qualname)
   (hk:fd.scope.kind=.function)(hco:fd.scope.isCoroutine=false)(hge:fd.scope.isGenerator=false)(hgl:fd.globals=mainGlobals)(hbu:fd.builtins=builtinsNs)
   (hcp:∀c P,cp=some (c,P)->fd.code=.ref c)
   (hb:cB B fd args kw H bs)(hbn:(bs.map (λe=>e.1)).Nodup)(hbk:∀e∈bs,∃k,(e.1,k)∈fd.scope.names/\gN k)(hsn:(fd.scope.names.map (λe=>e.1)).Nodup)(hfree:∀e∈fd.scope.names,e.2≠.free)
   (hi:Ini B bs fd.scope.names σ₀)
   (h:Xs (λO O=>False) B d ⟨fd.scope,cp,fd.qualname++".<locals>.",λO=>false⟩ H σ₀ body (λO H'=>Q .none H') (PX Q)) :
   aF kw (λO O=>False) H B (d+1) (.raw (.ref f)) args Q:=λA s R I fv vs kvs h1 h2 h3=>by
 cases h1
 exact ii ho hbody hcl hcr hk hco hge hgl hbu hcp hb hbn hbk hsn hfree hi R I h2 h3 λenv s₁ x=>
   wpAny_mono (h (A.deeper env) s₁ env x.eok (R.deeper env) x.tr.inv x.frm) (λO O p=>vv I x p) λO O x=>x.elim
end
noncomputable abbrev NoE:EP:=λO O=>False
section
theorem bV {M:Model}{E':EP}{α:Type}{t:Sem α}{Q:α->Shared->Prop}(h:wpAny M A t Q NoE s):wpAny M A t Q (notedBy M A env E') s:=
 wpAny_mono h (λO O x=>x) λO O x=>x.elim
inductive aDi (B:aI)(env:Env)(H:AH)(s:Shared)(Iv:Nat->SQ)(n:Nat)(s':Shared):Prop
 | mk (σ':St) (H':AH) (t:Tr (bT env) s' H' s H B) (F:aA s' H' σ' env B) (q:Iv n σ' H')
theorem ec {test:Expr}{orelse:List Stmt}(Iv:Nat->SQ){n:Nat}(h0:Iv n σ H)
   (turn:∀n σ H,Iv n σ H->Tst B fi d NoE test σ H λb H₁=>if b then
       Xs NoE B d fi H₁ σ body (λσ' H'=>∃m,m<n/\Iv m σ' H') (λσ' pf H'=>match pf with | .brk=>Qn σ' H' | .cont=>∃m,m<n/\Iv m σ' H' | .ret v=>Qf σ' (.ret v) H')
     else Xs NoE B d fi H₁ σ orelse Qn Qf):X B fi d E (.While test body orelse pos) σ H Qn Qf:=λA s env e R I F=>by
 refine wpAny_While ?_;refine codeAny_whileLoop (aDi B env H s Iv) ?_ n ⟨σ,H,.refl I,F,h0⟩
 rintro n s₁ ⟨σ₁,H₁,t₁,F₁,hI⟩
 refine wpAny_mono (turn n σ₁ H₁ hI A s₁ env e R t₁.inv F₁) (λb s₂ hh1=>?_) λO O x=>x.elim;obtain ⟨H₂,t₂,q⟩:=hh1;have F₂:=F₁.tr t₁.inv t₂;have T₂:=t₁.trans t₂.up
 cases b with
 | true=>
   refine bV (wpm (q A s₂ env e R t₂.inv F₂) (λfl s₃ hh1=>?_));obtain ⟨σ₃,H₃,t₃,F₃,q₃⟩:=hh1;have T₃:=T₂.trans t₃;rcases q₃ with ⟨rfl,m,hm,hI'⟩ | ⟨pf,hf,q₃⟩
   . exact ⟨m,hm,σ₃,H₃,T₃,F₃,hI'⟩
   . cases pf <;> cases fl <;> first | exact hf.elim | skip
     . exact ⟨σ₃,H₃,T₃,F₃,.inl ⟨rfl,q₃⟩⟩
     . obtain ⟨m,hm,hI'⟩:=q₃;exact ⟨m,hm,σ₃,H₃,T₃,F₃,hI'⟩
     . exact ⟨σ₃,H₃,T₃,F₃,.inr ⟨_,hf,q₃⟩⟩
 | false=>
   exact bV (wpm (q A s₂ env e R t₂.inv F₂) (λfl s₃ hh1=>by obtain ⟨σ₃,H₃,t₃,F₃,q₃⟩:=hh1;exact ⟨σ₃,H₃,T₂.trans t₃,F₃,q₃⟩))
set_option genInjectivity false in
set_option genSizeOf false in
structure Evo (B:aI)(P:Addr->Prop)(G:Nat->Prop)(deps:AH)(H:AH)(s:Shared)(H':AH)(s':Shared):Prop where
 inv:Inv B H' s'
 seq:∀a o,s.heap.get? a=some o->ah o->¬Trk H B a->s'.heap.get? a=some o
 own:∀a o,s.heap.get? a=some o->P a->s'.heap.get? a=some o
 size:s.heap.objs.size<=s'.heap.objs.size
 keys:qi H s H'
 deps:∀p∈deps,p∈H'
 gens:∀(i:Nat) (x:GenState),G i->s.gens[i]?=some x->s'.gens[i]?=some x
set_option genInjectivity false in
set_option genSizeOf false in
structure bt (s':Shared)(G:Nat->Prop)(s:Shared)(H:AH)(B:aI)(P:Addr->Prop):Prop where
 inv:Inv B H s'
 heap:∀a o,s.heap.get? a=some o->¬P a->s'.heap.get? a=some o
 size:s.heap.objs.size<=s'.heap.objs.size
 gens:∀(i:Nat) (x:GenState),s.gens[i]?=some x->¬G i->s'.gens[i]?=some x
 gsize:s.gens.size<=s'.gens.size
set_option genInjectivity false in
set_option genSizeOf false in
structure mS (B:aI)(deps:AH)(tgt:Expr)(it:Value)(P:Addr->Prop)(G:Nat->Prop)(J:List PV->AH->Shared->Prop):Prop where
 self:∀items H s A (E:EP) (Q:Value->Shared->Prop),J items H s->Q it s->wpAny (model B.prog B.w) A (pyIter it) Q E s
 notseq:∀items H s,J items H s->∀p,P p->∀o,s.heap.get? p=some o->¬ah o
 stable:∀items H s H' s',J items H s->Evo B P G deps H s H' s'->J items H' s'
 next:∀items H s A,J items H s->ai A 3->Inv B H s->wpAny (model B.prog B.w) A (pyNext it) (λr s₁=>match items with
   | []=>r=none/\bt s₁ G s H B P
   | x::xs=>∃v,r=some v/\wpAny (model B.prog B.w) A (letOwnedTupleGo tgt it v) (λO s₂=>bt s₂ G s H B P/\VR s₂.heap (Trk H B) v x/\J xs H s₂) NoE s₁) NoE s
set_option genInjectivity false in
set_option genSizeOf false in
structure sW (B:aI)(A:Around)(deps:AH)(tgt:Expr)(it:Value)(G:Nat->Prop)(J:(Addr->Prop)->List PV->AH->Shared->Prop):Prop where
 self:∀W items H s (E:EP) (Q:Value->Shared->Prop),J W items H s->Q it s->wpAny (model B.prog B.w) A (pyIter it) Q E s
 notseq:∀W items H s,J W items H s->∀p,W p->∀o,s.heap.get? p=some o->¬ah o
 stable:∀W items H s H' s',J W items H s->Evo B W G deps H s H' s'->J W items H' s'
 next:∀W items H s,J W items H s->ai A 3->Inv B H s->wpAny (model B.prog B.w) A (pyNext it) (λr s₁=>match items with
   | []=>r=none/\bt s₁ G s H B W
   | x::xs=>∃v,r=some v/\wpAny (model B.prog B.w) A (letOwnedTupleGo tgt it v) (λO s₂=>bt s₂ G s H B W/\VR s₂.heap (Trk H B) v x/\
       ∃W':Addr->Prop,(∀p,W' p->W p\/(s.heap.objs.size<=p/\p<s₂.heap.objs.size))/\J W' xs H s₂) NoE s₁) NoE s
theorem mS.toW {deps:AH}{it:Value}{P:Addr->Prop}{G:Nat->Prop}{J:List PV->AH->Shared->Prop}(I:mS B deps tgt it P G J):sW B A deps tgt it G (λW items H s=>W=P/\J items H s) where
 self:=λW items H s E Q h q=>I.self items H s A E Q h.2 q
 notseq:=λW items H s h p hp=>I.notseq items H s h.2 p (h.1▸hp)
 stable:=λW items H s H' s' h e=>⟨h.1,I.stable items H s H' s' h.2 (h.1▸e)⟩
 next:=λW items H s h R i=>by
   obtain ⟨rfl,h⟩:=h;refine wpm (I.next items H s A h R i) (λr s₁ q=>?_)
   cases items with
   | nil=>exact q
   | cons x xs=>
     obtain ⟨v,e,q⟩:=q;exact ⟨v,e,wpm q (λO s₂ hh1=>by obtain ⟨a,b,c⟩:=hh1;exact ⟨a,b,W,λp hp=>.inl hp,rfl,c⟩)⟩
theorem dN (I:Inv B H s)(q:Trk H B a):a<s.heap.objs.size:=by
 rcases q with q | q | q
 . obtain ⟨p,hp,rfl⟩:=mmp q
   obtain ⟨O,O,O,e,O⟩:=I.objs p hp;exact Heap.lt_size e
 . obtain ⟨p,hp,rfl⟩:=mmp q
   obtain ⟨O,e,O⟩:=I.tabs p hp;exact Heap.lt_size e
 . obtain ⟨p,hp,rfl⟩:=mmp q
   exact Heap.lt_size (I.hid p hp).1
inductive i4 (B:aI)(tgt:Expr)(H₀:AH)(s:Shared)(Q:IQ)(it:Value)(s':Shared):Prop
 | mk (items:List PV) (deps:AH) (H':AH) (P:Addr->Prop) (G:Nat->Prop) (J:List PV->AH->Shared->Prop) (t:Tr noU s' H' s H₀ B) (I:mS B deps tgt it P G J) (j:J items H' s') (p:∀p,P p->s.heap.objs.size<=p/\p<s'.heap.objs.size/\¬Trk H' B p)
     (g:∀i,G i->s.gens.size<=i/\i<s'.gens.size) (dp:∀p∈deps,p∈H') (q:Q items deps H')
inductive oz (B:aI)(A:Around)(tgt:Expr)(H₀:AH)(s:Shared)(Q:IQ)(it:Value)(s':Shared):Prop
 | mk (items:List PV) (deps:AH) (H':AH) (W:Addr->Prop) (G:Nat->Prop) (J:(Addr->Prop)->List PV->AH->Shared->Prop) (t:Tr noU s' H' s H₀ B) (I:sW B A deps tgt it G J) (j:J W items H' s') (p:∀p,W p->s.heap.objs.size<=p/\p<s'.heap.objs.size/\¬Trk H' B p)
     (g:∀i,G i->s.gens.size<=i/\i<s'.gens.size) (dp:∀p∈deps,p∈H') (q:Q items deps H')
theorem i4.made {H₀:AH}{Q:IQ}{it:Value}(m:i4 B tgt H₀ s Q it s'):oz B A tgt H₀ s Q it s':=by
 obtain ⟨items,deps,H',P,G,J,t',a,b,c,c',e,f⟩:=m;exact ⟨items,deps,H',P,G,_,t',a.toW,⟨rfl,b⟩,c,c',e,f⟩
theorem oz.trans {H₀ H₁:AH}{Q:IQ}{it:Value}(t:Tr noU s₁ H₁ s H₀ B)(hg:s.gens.size<=s₁.gens.size)(m:oz B A tgt H₁ s₁ Q it s'):oz B A tgt H₀ s Q it s':=by
 obtain ⟨items,deps,H',P,G,J,t',a,b,c,c',e,f⟩:=m;exact ⟨items,deps,H',P,G,J,t.trans t',a,b,λp hp=>⟨ntr t.step.size (c p hp).1,(c p hp).2⟩,λi hi=>⟨ntr hg (c' i hi).1,(c' i hi).2⟩,e,f⟩
noncomputable def r7 (B:aI)(d:Nat)(E:EP)(tgt:Expr)(v:PV)(H:AH)(Q:IQ):Prop:=
 ∀A s,ai A d->Inv B H s->∀va,VR s.heap (Trk H B) va v->wpAny (model B.prog B.w) A (pyIter va) (oz B A tgt H s Q) E s
noncomputable def EvI (B:aI)(fi:aN)(d:Nat)(E:EP)(tgt e:Expr)(σ:St)(H:AH)(Q:IQ):Prop:=
 ∀A s env,a9 B fi env->ai A d->Inv B H s->aA s H σ env B->
   wpAny (model B.prog B.w) A (eval e env) (λx s₁=>wpAny (model B.prog B.w) A (pyIter x) (oz B A tgt H s Q) E s₁) E s
theorem jj {U:Addr->Prop}(t:Tr U s' H' s H B):s.gens.size<=s'.gens.size:=by
 rcases AU s'.gens.size s.gens.size with h | h
 . have h1:s.gens[s'.gens.size]?=some (s.gens[s'.gens.size]'h):=Array.getElem?_eq_getElem h
   have:=t.step.gens _ _ h1;simp at this
 . exact h
theorem cJ {Q:IQ}(h:Ev E B d fi σ H e λv H₁=>r7 B d E tgt v H₁ Q):EvI B fi d E tgt e σ H Q:=λA s env e' R I F=>
 wpm (h A s env e' R I F) (λva s₁ hh1=>by obtain ⟨v,H₁,t₁,r₁,h₁⟩:=hh1;exact wpm (h₁ A s₁ R t₁.inv va r₁) (λit s₂ m=>m.trans t₁ (jj t₁)))
inductive Gu (B:aI)(env:Env)(H:AH)(s:Shared)(Q:SQ)(s':Shared):Prop
 | mk (σ':St) (H':AH) (t:Tr (bT env) s' H' s H B) (F:aA s' H' σ' env B) (q:Q σ' H')
noncomputable def Asg (B:aI)(fi:aN)(d:Nat)(E:EP)(tgt:Expr)(v:PV)(σ:St)(H:AH)(Q:SQ):Prop:=
 ∀A s env,a9 B fi env->ai A d->Inv B H s->aA s H σ env B->∀va,VR s.heap (Trk H B) va v->
   wpAny (model B.prog B.w) A (assign tgt env va) (λO s'=>Gu B env H s Q s') E s
theorem rC {Q:SQ}(h:∃k σ',Rep x v k σ σ'/\bD fi k/\Q σ' H):Asg B fi d E (.Name x pos) v σ H Q:=λA s env e R I F va r=>by
 obtain ⟨k,σ',hr,hk,q⟩:=h;show wpAny _ A (do standAt pos;bindName env x va) _ _ s;exact wpAny_bind (wpAny_standAt (wpAny_bindName (wpm (dD e I F r hr hk) (λO s₂ hh1=>by obtain ⟨t₂,F₂⟩:=hh1;exact ⟨σ',H,t₂,F₂,q⟩))))
noncomputable def cQ (B:aI)(fi:aN)(d:Nat)(tgt:Expr)(body:List Stmt)(deps:AH):List PV->St->AH->(SQ)->(FQ)->Prop
 | [],σ,H,Qn,_=>Qn σ H
 | x::xs,σ,H,Qn,Qf=>Asg B fi d NoE tgt x σ H λσ₁ H₁=>Xs NoE B d fi H₁ σ₁ body (λσ₂ H₂=>(∀p∈deps,p∈H₂)/\cQ B fi d tgt body deps xs σ₂ H₂ Qn Qf)
     (λσ₂ pf H₂=>match pf with
       | .cont=>(∀p∈deps,p∈H₂)/\cQ B fi d tgt body deps xs σ₂ H₂ Qn Qf
       | .brk=>Qn σ₂ H₂
       | .ret v=>Qf σ₂ (.ret v) H₂)
theorem fL.look {ov:Option PV}(q:fL ov x env T h):∃c,env.cells.lookup x=some c/\c<h.objs.size:=by
 obtain ⟨c,w,a,b,d⟩:=q;exact ⟨c,a,b.lt⟩
theorem aA.own_at (F:aA s H σ env B)(ha:bT env a):∃o,s.heap.get? a=some o/\(∀vs n,o.data≠.seq vs n)/\∀vs,o.data≠.fields vs:=by
 rcases ha with rfl | ⟨x,hx,hc,_⟩
 . obtain ⟨O,⟨o,O,O,ho,hd,O⟩,O⟩:=F.ns
   exact ⟨o,ho,(λO O q=>(by cases (hd.symm.trans q))),λO q=>(by cases (hd.symm.trans q))⟩
 . obtain ⟨⟨y,k,ov⟩,he,heq⟩:=mmp (F.keys▸mem_of_lookup hx:(x,NameKind.cell)∈σ.map _)
   cases heq;obtain ⟨O,O,hc',⟨o,ho,hd⟩,O⟩:=F.cell _ ov (.inl he);exact ⟨o,Option.some.inj (hc'.symm.trans hc)▸ho,(λO O q=>(by cases (hd.symm.trans q))),λO q=>(by cases (hd.symm.trans q))⟩
theorem aA.own_lt (F:aA s H σ env B)(ha:bT env a):a<s.heap.objs.size:=by
 obtain ⟨o,e,O⟩:=F.own_at ha;exact Heap.lt_size e
theorem aA.own_not (F:aA s H σ env B)(ha:bT env a)(ho:s.heap.get? a=some o):(∀vs n,o.data≠.seq vs n)/\∀vs,o.data≠.fields vs:=by
 obtain ⟨o',e,q⟩:=F.own_at ha;exact Option.some.inj (e.symm.trans ho)▸q
theorem aA.own_data (F:aA s H σ env B)(ha:bT env a)(ho:s.heap.get? a=some o):¬ah o:=λq=>by
 obtain ⟨vs,n,q⟩:=q;exact (F.own_not ha ho).1 vs n q
theorem bt.tr {P:Addr->Prop}{G:Nat->Prop}{U:Addr->Prop}{H₀:AH}{s₀:Shared}(t:Tr U s H s₀ H₀ B)(o:bt s' G s H B P)(hP:∀p,P p->s₀.heap.objs.size<=p)(hG:∀i,G i->s₀.gens.size<=i):Tr U s' H s₀ H₀ B:=
 ⟨o.inv,⟨λa ob e hn=>o.heap a ob (t.step.heap a ob e hn) λq=>absurd (Heap.lt_size e) (nlr (hP a q)),ntr t.step.size o.size,
   λi x e=>o.gens i x (t.step.gens i x e) λq=>by
     have hlt:i<s₀.gens.size:=by
       rcases AU i s₀.gens.size with h | h
       . exact h
       . rw [Array.getElem?_eq_none h] at e;cases e
     exact absurd hlt (nlr (hG i q))⟩,t.keys⟩
theorem bt.frame {P:Addr->Prop}{G:Nat->Prop}{σ₀:St}{H₀:AH}{s₀:Shared}(F₀:aA s₀ H₀ σ₀ env B)(F:aA s H σ env B)(o:bt s' G s H B P)(hP:∀p,P p->s₀.heap.objs.size<=p)(hS:∀p,P p->∀ob,s.heap.get? p=some ob->¬ah ob) :
   aA s' H σ env B:=by
 have hk:∀a ob,s.heap.get? a=some ob->ah ob->¬Trk H B a->s'.heap.get? a=some ob:=λa ob e q O=>o.heap a ob e λp=>hS a p ob e q;refine ⟨F.fresh,F.apart,F.keys,F.nodup,?_,λy ov hy=>?_,F.glob⟩
 . obtain ⟨m,⟨ob,es,ep,ho,hd,r⟩,hm⟩:=F.ns
   exact ⟨m,⟨ob,es,ep,o.heap _ _ ho λp=>absurd (F₀.own_lt (.inl rfl)) (nlr (hP _ p)),hd,r⟩,λy p hy=>(hm y p hy).mono hk λO O t=>t⟩
 . have find:∀{k},(y,k,ov)∈σ->∃ov',(y,k,ov')∈σ₀:=λhm=>by
     obtain ⟨⟨y',k',ov'⟩,he,heq⟩:=mmp ((F₀.keys.trans F.keys.symm)▸Bk (f:=λe:Str×NameKind×Option PV=>(e.1,e.2.1)) hm);cases heq;exact ⟨ov',he⟩
   obtain ⟨c,w,hc,⟨ob,ho,hd⟩,hv⟩:=F.cell y ov hy;obtain ⟨c',hc',hlt⟩:∃c',env.cells.lookup y=some c'/\c'<s₀.heap.objs.size:=hy.elim (λh=>(find h).elim λO h=>(F₀.cell _ _ (.inl h)).look) λh=>(find h).elim λO h=>(F₀.cell _ _ (.inr h)).look;exact ⟨c,w,hc,⟨ob,o.heap _ _ ho λp=>absurd (Option.some.inj (hc'.symm.trans hc)▸hlt) (nlr (hP _ p)),hd⟩,hv.mono hk λO O t=>t⟩
theorem Evo.of_tr {P:Addr->Prop}{G:Nat->Prop}{deps:AH}{σ₀:St}{H₀:AH}{s₀:Shared}(F₀:aA s₀ H₀ σ₀ env B)(F:aA s H σ env B)(t:Tr (bT env) s' H' s H B)(hP:∀p,P p->s₀.heap.objs.size<=p/\¬Trk H B p)(hd:∀p∈deps,p∈H'):Evo B P G deps H s H' s':=
 ⟨t.inv,λa ob e hq hn=>t.step.heap a ob e λq=>q.elim hn λu=>F.own_data u e hq,
   λa ob e hp=>t.step.heap a ob e λq=>q.elim (hP a hp).2 λu=>absurd (F₀.own_lt u) (nlr (hP a hp).1),t.step.size,t.keys,hd,λi x O e=>t.step.gens i x e⟩
noncomputable def XN (k:Nat)(B:aI)(fi:aN)(d:Nat)(E:EP)(st:Stmt)(σ:St)(H:AH)(Qn:SQ)(Qf:FQ):Prop:=
 ∀A s env,a9 B fi env->ai A d->Inv B H s->aA s H σ env B->k<=s.toks->wpAny (model B.prog B.w) A (exec st env) (fE B env H s Qn Qf) E s
noncomputable def XsN (k:Nat)(B:aI)(fi:aN)(d:Nat)(E:EP)(b:List Stmt)(σ:St)(H:AH)(Qn:SQ)(Qf:FQ):Prop:=
 ∀A s env,a9 B fi env->ai A d->Inv B H s->aA s H σ env B->k<=s.toks->wpAny (model B.prog B.w) A (execs b env) (fE B env H s Qn Qf) E s
theorem XsN.of {b:List Stmt}(h:Xs E B d fi H σ b Qn Qf):XsN k B fi d E b σ H Qn Qf:=λA s env e R I F O=>h A s env e R I F
theorem XN.of {b:Stmt}(h:X B fi d E b σ H Qn Qf):XN k B fi d E b σ H Qn Qf:=λA s env e R I F O=>h A s env e R I F
noncomputable def o8 (k:Nat)(B:aI)(fi:aN)(d:Nat)(tgt:Expr)(body:List Stmt)(deps:AH):List PV->St->AH->(SQ)->(FQ)->Prop
 | [],σ,H,Qn,_=>Qn σ H
 | x::xs,σ,H,Qn,Qf=>Asg B fi d NoE tgt x σ H λσ₁ H₁=>XsN k B fi d NoE body σ₁ H₁ (λσ₂ H₂=>(∀p∈deps,p∈H₂)/\o8 k B fi d tgt body deps xs σ₂ H₂ Qn Qf)
     (λσ₂ pf H₂=>match pf with
       | .cont=>(∀p∈deps,p∈H₂)/\o8 k B fi d tgt body deps xs σ₂ H₂ Qn Qf
       | .brk=>Qn σ₂ H₂
       | .ret v=>Qf σ₂ (.ret v) H₂)
inductive wf (k:Nat)(B:aI)(fi:aN)(d:Nat)(env:Env)(H:AH)(s:Shared)(J:(Addr->Prop)->List PV->AH->Shared->Prop)(deps:AH)(tgt:Expr)(body:List Stmt)(Qn:SQ)(Qf:FQ)(n:Nat)(s':Shared):Prop
 | mk (W:Addr->Prop) (items:List PV) (σ':St) (H'':AH) (hn:n=items.length) (t:Tr (bT env) s' H'' s H B) (F:aA s' H'' σ' env B) (j:J W items H'' s') (p:∀p,W p->s.heap.objs.size<=p/\¬Trk H'' B p/\p<s'.heap.objs.size) (dp:∀p∈deps,p∈H'') (q:o8 k B fi d tgt body deps items σ' H'' Qn Qf) (tk:k<=s'.toks)
theorem CY {it:Expr}
   (h:EvI B fi d E tgt it σ H λitems deps H₁=>o8 k B fi d tgt body deps items σ H₁ Qn Qf)(hd:autoParam (3<=d) nB)(hs:autoParam (∀env x,foldedSetIterable it env x=pure x) nC) :
   XN k B fi d E (.For tgt it body [] pos) σ H Qn Qf:=λA s env e R I F hk=>by
 show wpAny _ A (do standAt pos;let x<-foldedSetIterable it env (<-eval it env);standAt it.pos;runOwn (.forLoop tgt (<-holding [x] (pyIter x)) body [] env) env) _ _ s;refine wpAny_bind (wpAny_standAt (wpAny_bind (wpAny_mono (wpAny_toks_of hk (h A s env e R I F)) (λx s₁ h₁=>?_) λO O x=>x.2)));refine wpAny_bind (wpAny_of_eq (hs env x) (wpAny_bind (wpAny_standAt (wpAny_bind (wpAny_holding (wpAny_mono (wpAny_toks_of h₁.1 h₁.2) (λitv s₂ m=>?_) λO O x=>x.2))))));obtain ⟨hk₂,items,deps,H',P,G,J,t,IT,hJ,hP,hG,hdep,q⟩:=m;refine wpAny_runOwn ?_;have F':=F.tr I t;have R3:ai A 3:=R.le hd;refine codeAny_forLoop_any (wf k B fi d env H s J deps tgt body Qn Qf)
   ?_ items.length ⟨P,items,σ,H',rfl,t.up,F',hJ,λp hp=>⟨(hP p hp).1,(hP p hp).2.2,(hP p hp).2.1⟩,hdep,q,hk₂⟩
 rintro n s₃ ⟨W,items,σ₃,H₃,rfl,t₃,F₃,hJ₃,hP₃,hd₃,q₃,hk₃⟩
 have hPa:∀p,W p->s.heap.objs.size<=p:=λp hp=>(hP₃ p hp).1;refine wpAny_mono (wpAny_toks_of hk₃ (IT.next W items H₃ s₃ hJ₃ R3 t₃.inv)) (λr s₄ hr=>?_) λO O x=>x.2.elim;obtain ⟨hk₄,hr⟩:=hr
 cases items with
 | nil=>
   obtain ⟨rfl,o⟩:=hr;dsimp only;refine bV (wpAny_execs_nil ⟨σ₃,H₃,o.tr t₃ hPa λi hi=>(hG i hi).1,o.frame F F₃ hPa λp hp=>IT.notseq _ _ _ _ hJ₃ p hp,.inl ⟨rfl,q₃⟩⟩)
 | cons x xs=>
   obtain ⟨v,rfl,hv⟩:=hr;dsimp only;refine bV (wpAny_mono (wpAny_toks_of hk₄ hv) (λO s₅ hh1=>?_) λO O x=>x.2);obtain ⟨hk₅,o,hvr,W',hW',hJ₅⟩:=hh1;have t₅:Tr (bT env) s₅ H₃ s H B:=o.tr t₃ hPa λi hi=>(hG i hi).1;have F₅:aA s₅ H₃ σ₃ env B:=o.frame F F₃ hPa λp hp=>IT.notseq _ _ _ _ hJ₃ p hp
   have hP₅:∀p,W' p->s.heap.objs.size<=p/\¬Trk H₃ B p/\p<s₅.heap.objs.size:=λp hp=>by
     rcases hW' p hp with q | ⟨q1,q2⟩
     . exact ⟨(hP₃ p q).1,(hP₃ p q).2.1,nlt (hP₃ p q).2.2 o.size⟩
     . exact ⟨ntr t₃.step.size q1,λq=>absurd (dN t₃.inv q) (nlr q1),q2⟩
   refine bV (wpAny_mono (wpAny_toks_of hk₅ (q₃ A s₅ env e R t₅.inv F₅ v hvr)) (λO s₆ hh1=>?_) λO O x=>x.2);obtain ⟨hk₆,σ₆,H₆,t₆,F₆,q₆⟩:=hh1;refine bV (wpAny_mono (wpAny_toks_of hk₆ (q₆ A s₆ env e R t₆.inv F₆ hk₆)) (λfl s₇ hh1=>?_) λO O x=>x.2);obtain ⟨hk₇,σ₇,H₇,t₇,F₇,q₇⟩:=hh1;have T₇:=t₆.trans t₇
   have again:((∀p∈deps,p∈H₇)/\o8 k B fi d tgt body deps xs σ₇ H₇ Qn Qf)->∃m,m<(x::xs).length/\wf k B fi d env H s J deps tgt body Qn Qf m s₇:=by
     rintro ⟨hd₇,q₇⟩
     refine ⟨xs.length,An _,W',xs,σ₇,H₇,rfl,t₅.trans T₇,F₇,IT.stable _ _ _ _ _ _ hJ₅ (Evo.of_tr F F₅ T₇ (λp hp=>⟨(hP₅ p hp).1,(hP₅ p hp).2.1⟩) hd₇),λp hp=>⟨(hP₅ p hp).1,λq=>(hP₅ p hp).2.1 (Trk.new T₇.keys (hP₅ p hp).2.2 q),nlt (hP₅ p hp).2.2 T₇.step.size⟩,hd₇,q₇,hk₇⟩
   rcases q₇ with ⟨rfl,q₇⟩ | ⟨pf,hf,q₇⟩
   . exact again q₇
   . cases pf <;> cases fl <;> first | exact hf.elim | skip
     . exact ⟨σ₇,H₇,t₅.trans T₇,F₇,.inl ⟨rfl,q₇⟩⟩
     . exact again q₇
     . exact ⟨σ₇,H₇,t₅.trans T₇,F₇,.inr ⟨_,hf,q₇⟩⟩
theorem cQ.toN {deps:AH}{xs:List PV}:∀{σ:St} {H:AH},cQ B fi d tgt body deps xs σ H Qn Qf->o8 0 B fi d tgt body deps xs σ H Qn Qf:=by
 induction xs with
 | nil=>exact λh=>h
 | cons x xs ih=>
   intro σ H h A s env e R I F va r;refine wpm (h A s env e R I F va r) (λO s' p=>?_);obtain ⟨σ₁,H₁,t₁,F₁,q⟩:=p;refine ⟨σ₁,H₁,t₁,F₁,λA s env e R I F O=>wpm (q A s env e R I F) (λfl s' p=>?_)⟩;obtain ⟨σ₂,H₂,t₂,F₂,q₂⟩:=p;refine ⟨σ₂,H₂,t₂,F₂,?_⟩;rcases q₂ with ⟨a,b,c⟩ | ⟨pf,a,b⟩
   . exact .inl ⟨a,b,ih c⟩
   . refine .inr ⟨pf,a,?_⟩
     cases pf with
     | cont=>exact ⟨b.1,ih b.2⟩
     | brk=>exact b
     | ret v=>exact b
theorem aFk {it:Expr}
   (h:EvI B fi d E tgt it σ H λitems deps H₁=>cQ B fi d tgt body deps items σ H₁ Qn Qf)(hd:autoParam (3<=d) nB)(hs:autoParam (∀env x,foldedSetIterable it env x=pure x) nC) :
   X B fi d E (.For tgt it body [] pos) σ H Qn Qf:=λA s env e R I F=>by
 refine CY (k:=0) (λA s env e R I F=>wpm (h A s env e R I F) (λx s₁ m=>wpm m (λit s₂ m=>?_))) hd hs A s env e R I F (Ab _);obtain ⟨items,deps,H',P,G,J,t,IT,hJ,hP,hG,hdep,q⟩:=m;exact ⟨items,deps,H',P,G,J,t,IT,hJ,hP,hG,hdep,q.toN⟩
end
section
open Sem (wp)
theorem s6 (h:Heap)(a:Addr)(f:Obj->Obj):(h.update a f).objs.size=h.objs.size:=by
 obtain ⟨o,l⟩:=h;simp [Heap.update]
theorem runs_grow {M:Model}{Γ:Ctx}{p:Pos}{t:Sem Fin}{fs:List Frame}{e:End}(h:Runs M Γ p t fs s e s'):s.heap.objs.size<=s'.heap.objs.size:=by
 induction h <;> (try simp only [Shared.setGen,s6,Heap.size_push] at *) <;> (first | exact Aa _ | assumption | lia)
theorem p6 {M:Model}{Γ:Ctx}{p:Pos}{r:Result}(h:Returns M Γ p s r s'):s.heap.objs.size<=s'.heap.objs.size:=runs_grow h
theorem vI {M:Model}{Γ:Ctx}{p:Pos}{g:Nat}{r:Resume}{res:GenResult}(h:Wakes M Γ p g r s res s'):s.heap.objs.size<=s'.heap.objs.size:=by
 have go:∀{Γ p t fs},(∃e₁ s₁,Runs M Γ p t fs (s.setGen g .running) e₁ s₁/\e₁.quiet=true/\res=e₁.result/\s'=s₁.setGen g e₁.genState)->s.heap.objs.size<=s'.heap.objs.size:=λq=>by
   obtain ⟨e₁,s₁,hr,O,O,rfl⟩:=q;exact (runs_grow hr:(s.setGen g .running).heap.objs.size<=s₁.heap.objs.size)
 have st:s'=s->s.heap.objs.size<=s'.heap.objs.size:=λe=>e▸Aa _;unfold Wakes at h;generalize s.gens[g]?=x at h
 cases x with
 | none=>exact h.elim
 | some x=>
   cases x with
   | fresh c=>
     cases r with
     | send v=>cases v with
       | none=>exact go h
       | _=>exact st h.2
     | throw x=>exact h.2▸Aa _
   | suspended=>exact go h
   | running=>exact st h.2
   | finished=>exact st h.2
theorem Ec {α:Type}(M:Model)(Γ:Ctx)(n:Nat)(t:Sem α):∀(Q:α->Pos->Shared->Prop) (E:Value->Pos->Shared->Prop) (p:Pos) (s:Shared),n<=s.heap.objs.size->wp M Γ t Q E p s->
   wp M Γ t (λa p' s'=>n<=s'.heap.objs.size/\Q a p' s') (λe p' s'=>n<=s'.heap.objs.size/\E e p' s') p s:=by
 induction t with
 | pure a=>intro Q E p s hn h;exact ⟨hn,h⟩
 | raise e=>intro Q E p s hn h;exact ⟨hn,h⟩
 | unsupported _=>intro Q E p s _ h;exact h
 | finish _=>intro Q E p s _ h;exact h
 | rule _ k ih=>intro Q E p s hn h;exact ih () Q E p s hn h
 | «at» p' k ih=>intro Q E p s hn h;exact ih () Q E p' s hn h
 | load a _ k ih=>intro Q E p s hn h;obtain ⟨o,ho,h⟩:=h;exact ⟨o,ho,ih o Q E p s hn h⟩
 | update a _ f k ih=>intro Q E p s hn h;exact ⟨h.1,ih () Q E p _ (by show n<=(s.heap.update a f).objs.size;rw [s6];exact hn) h.2⟩
 | loadIfAlive a k ih=>intro Q E p s hn h;exact ih _ Q E p s hn h
 | point _ k ih=>intro Q E p s hn h;exact ih () Q E p s hn h
 | register _ _=>intro Q E p s _ h;exact h
 | alloc o k ih=>intro Q E p s hn h;exact ih _ Q E p _ (by show n<=(s.heap.push o).objs.size;rw [Heap.size_push];exact Aw hn) h
 | fresh k ih=>intro Q E p s hn h;exact ih _ Q E p { s with toks:=s.toks+1 } hn h
 | ask k ih=>intro Q E p s hn h;exact ih _ Q E p s hn h
 | choose src m k ih=>intro Q E p s hn h;exact ⟨h.1,ih _ Q E p { s with drawn:=_ } hn h.2⟩
 | os q _ k ih=>intro Q E p s hn h;exact ih _ Q E p { s with os:=_ } hn h
 | call c hd _ _ k ih=>intro Q E p s hn h;obtain ⟨r,s',hr,h⟩:=h;exact ⟨r,s',hr,ih r Q E p s' (ntr hn (p6 hr)) h⟩
 | handled own k ih=>intro Q E p s hn h;exact ih _ Q E p s hn h
 | genState g k ih=>intro Q E p s hn h;obtain ⟨st,hs,h⟩:=h;exact ⟨st,hs,ih _ Q E p s hn h⟩
 | newGen c k ih=>intro Q E p s hn h;exact ih _ Q E p { s with gens:=_ } hn h
 | resume g r _ k ih=>intro Q E p s hn h;obtain ⟨res,s',hw,h⟩:=h;exact ⟨res,s',hw,ih res Q E p s' (ntr hn (vI hw)) h⟩
 | yield _ _ _ _=>intro Q E p s _ h;exact h
 | stack k ih=>intro Q E p s hn h;exact ih _ Q E p s hn h
 | fork _ _=>intro Q E p s _ h;exact h
 | thread k ih=>intro Q E p s hn h;exact ih _ Q E p s hn h
 | await _ _ _ _ _=>intro Q E p s _ h;exact h
theorem aU {α:Type}{M:Model}{t:Sem α}{Q:α->Shared->Prop}{E:Value->Shared->Prop}
   (h:wpAny M A t (λa s'=>s.heap.objs.size<=s'.heap.objs.size->Q a s') (λe s'=>s.heap.objs.size<=s'.heap.objs.size->E e s') s):wpAny M A t Q E s:=
 λΓ p hΓ=>Sem.wp_mono M Γ t (λO O O x=>x.2 x.1) (λO O O x=>x.2 x.1) p s (Ec M Γ _ t _ _ p s (Aa _) (h Γ p hΓ))
end
noncomputable def bW (o:Obj):Prop:=¬ah o/\∀vs q t,o.data=.fields vs->vs[1]?≠some (.str q t)
section
theorem bt.make {P:Addr->Prop}{G:Nat->Prop}(I:Inv B H s)(hk:∀a o,s.heap.get? a=some o->¬P a->s'.heap.get? a=some o)(hz:s.heap.objs.size<=s'.heap.objs.size)
   (hP:∀p,P p->B.g.objs.size<=p/\¬Trk H B p)(hL:∀p,P p->∀o,s.heap.get? p=some o->bW o)
   (hg:∀(i:Nat) (x:GenState),s.gens[i]?=some x->¬G i->s'.gens[i]?=some x)(hgz:s.gens.size<=s'.gens.size)(hb:AllBare s'.gens)(ho:s'.os=s.os):bt s' G s H B P:=by
 have hs:∀a o,s.heap.get? a=some o->ah o->¬Trk H B a->s'.heap.get? a=some o:=λa o e q O=>hk a o e λp=>(hL a p o e).1 q;refine ⟨⟨λa o e=>hk a o (I.keep a o e) λp=>absurd (Heap.lt_size e) (nlr (hP a p).1),ntr I.size hz,λq hq=>?_,hb,ho.trans I.os,I.nodup,λq hq=>let ⟨a,b,c,e⟩:=I.hid q hq;⟨hk _ _ a λp=>(hL _ p _ a).1 b,b,c,e⟩,λp hp=>?_⟩,hk,hz,hg,hgz⟩
 . obtain ⟨ps,h1,h2,h3⟩:=I.tabs q hq
   refine ⟨ps,hk _ _ h1 λp=>(hP _ p).2 (.inr (.inl (mmr ⟨q,hq,rfl⟩))),h2,λpos cv hc=>?_⟩;obtain ⟨qn,a1,c,oc,vs,t,e1,e2,e3,e4⟩:=h3 pos cv hc;exact ⟨qn,a1,c,oc,vs,t,e1,hk _ _ e2 λp=>(hL c p oc e2).2 vs _ _ e3 e4,e3,e4⟩
 . obtain ⟨h1,vs,n,h2,h3⟩:=I.objs p hp
   exact ⟨h1,vs,n,hk _ _ h2 λq=>(hP _ q).2 (.inl (mmr ⟨p,hp,rfl⟩)),h3.mono hs λO O t=>t⟩
theorem cD {it:Addr}(x:h.IsListIter it l i):∀o,h.get? it=some o->bW o:=by
 obtain ⟨o',ho',hc,hd⟩:=x;intro o ho;rw [ho'] at ho;cases ho;refine ⟨λ⟨vs,n,q⟩=>(by rw [hd] at q;cases q),λvs q t e=>?_⟩;rw [hd] at e;cases e;simp
inductive JL (B:aI)(it l:Addr)(items:List PV)(H:AH)(s:Shared):Prop
 | mk (vs:Array Value) (n i:Nat) (a:s.heap.IsListIter it l i) (b:s.heap.get? l=some (aO vs n)) (c:VRs s.heap (Trk H B) (vs.toList.drop i) items) (d:¬Trk H B l) (e:B.g.objs.size<=it) (f:¬Trk H B it)
inductive JT (B:aI)(it l:Addr)(xs:List PV)(items:List PV)(H:AH)(s:Shared):Prop
 | mk (i:Nat) (a:s.heap.IsListIter it l i) (b:(l,xs)∈H) (c:items=xs.drop i) (d:B.g.objs.size<=it) (e:¬Trk H B it)
theorem aQ {vs:Array Value}{n:Nat}(e:h.get? l=some (aO vs n)):h.IsList l vs:=⟨_,e,rfl,n,rfl⟩
theorem VRs.head {x:PV}(r:VRs h T vs (x::xs)):∃v ws,vs=v::ws/\VR h T v x/\VRs h T ws xs:=by
 cases r with | cons a b=>exact ⟨_,_,rfl,a,b⟩
theorem VRs.isnil (r:VRs h T vs []):vs=[]:=by cases r;rfl
set_option tactic.hygienic true in
theorem c6 {tgt:Expr}{it:Addr}{v:Value}{Q:Unit->Shared->Prop}{n:String}(ho:s.heap.get? it=some o)(hn:o.cls=.type n)
   (hc:["enumerate","zip","dict_itemiterator","dict_reverseitemiterator","odict_iterator","itertools.zip_longest","itertools.pairwise"].contains n=false)(q:Q () s):wpAny (model B.prog B.w) A (letOwnedTupleGo tgt (.ref it) v) Q E s:=by
 have p:wpAny (model B.prog B.w) A (pure ()) Q E s:=wpAny_pure q;cases tgt
 case Tuple | List=>
   cases v
   case ref a=>
     refine wpAny_bind (wpAny_load ho ?_);rw [hn];cases o.data
     case fields vs=>exact cy (by rw [hc];exact BW) p
     all_goals exact p
   all_goals exact p
 all_goals exact p
theorem om {it:Addr}{vs:Array Value}{items:List PV}{J:List PV->AH->Shared->Prop}(R:ai A 3)(I:Inv B H s)
   (hit:s.heap.IsListIter it l i)(hl:s.heap.get? l=some (aO vs n))(hv:VRs s.heap (Trk H B) (vs.toList.drop i) items)(hg:B.g.objs.size<=it)(ht:¬Trk H B it)
   (hJ:∀x xs s',items=x::xs->s'.heap.IsListIter it l (i+1)->bt s' (λO=>False) s H B (·=it)->J xs H s') :
   wpAny (model B.prog B.w) A (pyNext (.ref it)) (λr s₁=>match items with
     | []=>r=none/\bt s₁ (λO=>False) s H B (·=it)
     | x::xs=>∃v,r=some v/\wpAny (model B.prog B.w) A (letOwnedTupleGo tgt (.ref it) v) (λO s₂=>bt s₂ (λO=>False) s H B (·=it)/\VR s₂.heap (Trk H B) v x/\J xs H s₂) NoE s₁) NoE s:=by
 have hLo:=cD hit
 have mk:∀(h':Heap),(∀a o,s.heap.get? a=some o->a≠it->h'.get? a=some o)->s.heap.objs.size<=h'.objs.size->bt { s with heap:=h' } (λO=>False) s H B (·=it):=λh' hk hz=>
   bt.make I (λa o e hp=>hk a o e hp) hz (λp hp=>by subst hp;exact ⟨hg,ht⟩) (λp hp o ho=>by subst hp;exact hLo o ho) (λO O e O=>e) (Aa _) I.bare rfl
 cases items with
 | nil=>
   have hnil:=hv.isnil
   have hx:vs[i]?=none:=by
     rw [<-Array.getElem?_toList];exact List.getElem?_eq_none (List.drop_eq_nil_iff.mp hnil)
   exact aU (wpAny_pyNext_list_end R.handled hit (aQ hl) hx λh' hx' hz=>⟨rfl,mk h' (λa o e hne=>hx' a o hne e) hz⟩)
 | cons x xs=>
   obtain ⟨v,ws,hd,hr,hrs⟩:=hv.head
   have hx:vs[i]?=some v:=by
     rw [<-Array.getElem?_toList];have:=congrArg (λl=>l[0]?) hd;simpa using this
   refine wpAny_pyNext_list_item hit (aQ hl) hx λh' hit' hs'=>⟨v,rfl,?_⟩;have o:=mk h' (λa o e hne=>(hs'.2 a hne).trans e) (by rw [hs'.1];exact Aa _);obtain ⟨ob,ho,hc,O⟩:=id hit';refine c6 ho hc rfl ⟨o,hr.mono (λa ob e q O=>o.heap a ob e λeq=>(hLo ob (eq▸e)).1 q) λO O t=>t,hJ x xs _ rfl hit' o⟩
theorem Evo.trk {P:Addr->Prop}{G:Nat->Prop}{deps:AH}(e:Evo B P G deps H s H' s')(ha:a<s.heap.objs.size)(hn:¬Trk H B a):¬Trk H' B a:=λq=>hn (Trk.new e.keys ha q)
theorem Evo.vrs {P:Addr->Prop}{G:Nat->Prop}{deps:AH}(e:Evo B P G deps H s H' s'){ps:List PV}(r:VRs s.heap (Trk H B) vs ps):VRs s'.heap (Trk H' B) vs ps:=
 r.mono e.seq λa ha t=>Trk.new e.keys ha t
theorem lT {P:Addr->Prop}{G:Nat->Prop}{deps:AH}(e:Evo B P G deps H s H' s'){it:Addr}(hp:P it)(x:s.heap.IsListIter it l i):s'.heap.IsListIter it l i:=by
 obtain ⟨o,ho,r⟩:=x;exact ⟨o,e.own _ _ ho hp,r⟩
theorem uP {it:Addr}(x:s.heap.IsListIter it l i):it<s.heap.objs.size:=by
 obtain ⟨o,ho,O⟩:=x;exact Heap.lt_size ho
theorem GP (tgt:Expr)(it l:Addr):mS B [] tgt (.ref it) (·=it) (λO=>False) (JL B it l) where
 self:=λitems H s A E Q ⟨vs,n,i,hit,_,_,_,_,_⟩ q=>wpAny_pyIter_listiter hit q
 notseq:=λitems H s ⟨vs,n,i,hit,_,_,_,_,_⟩ p hp o ho=>by subst hp;exact (cD hit o ho).1
 stable:=λitems H s H' s' ⟨vs,n,i,hit,hl,hv,hn,hg,ht⟩ e=>
   ⟨vs,n,i,lT e rfl hit,e.seq _ _ hl ⟨_,_,rfl⟩ hn,e.vrs hv,e.trk (Heap.lt_size hl) hn,hg,e.trk (uP hit) ht⟩
 next:=λitems H s A ⟨vs,n,i,hit,hl,hv,hn,hg,ht⟩ R I=>by
   refine om R I hit hl hv hg ht λx xs s' hi hit' o=>?_;subst hi;obtain ⟨v,ws,hd,hr,hrs⟩:=hv.head;refine ⟨vs,n,i+1,hit',o.heap _ _ hl λeq=>(cD hit _ (eq▸hl)).1 ⟨_,_,rfl⟩,?_,hn,hg,ht⟩;have:vs.toList.drop (i+1)=ws:=by rw [<-Bn,hd];rfl
   rw [this];exact hrs.mono (λa ob e q O=>o.heap a ob e λeq=>(cD hit ob (eq▸e)).1 q) λO O t=>t
theorem GG (tgt:Expr)(it l:Addr)(xs₀:List PV):mS B [(l,xs₀)] tgt (.ref it) (·=it) (λO=>False) (JT B it l xs₀) where
 self:=λitems H s A E Q ⟨i,hit,_,_,_,_⟩ q=>wpAny_pyIter_listiter hit q
 notseq:=λitems H s ⟨i,hit,_,_,_,_⟩ p hp o ho=>by subst hp;exact (cD hit o ho).1
 stable:=λitems H s H' s' ⟨i,hit,hm,hi,hg,ht⟩ e=>⟨i,lT e rfl hit,e.deps _ mcs,hi,hg,e.trk (uP hit) ht⟩
 next:=λitems H s A ⟨i,hit,hm,hi,hg,ht⟩ R I=>by
   obtain ⟨O,vs,n,hl,hv⟩:=I.objs _ hm;refine om R I hit hl (hi▸hv.drop i) hg ht λx xs s' hi' hit' o=>⟨i+1,hit',hm,?_,hg,ht⟩;have:(xs₀.drop i).drop 1=xs₀.drop (i+1):=Bn;rw [<-this,<-hi,hi'];rfl
theorem wQ :({ s with heap:=s.heap.push { cls:=.type "list_iterator",data:=.fields #[.ref l,.int 0 0] } }:Shared).heap.IsListIter s.heap.objs.size l 0:=
 ⟨_,Heap.get?_push_size _ rfl,rfl,rfl⟩
theorem cG :s.heap.objs.size<({ s with heap:=s.heap.push o }:Shared).heap.objs.size:=by
 show _<(s.heap.push o).objs.size;rw [Heap.size_push];exact An _
set_option tactic.hygienic true in
theorem u3 {Q:IQ}(h:Q xs [] H):r7 B d E tgt (.list xs) H Q:=λA s R I va r=>by
 cases r with
 | list ho hn hs=>
   rename_i a vs n;refine wpAny_pyIter_list (aQ ho) ?_;have t:=Tr.push I { cls:=.type "list_iterator",data:=.fields #[.ref a,.int 0 0] }
   exact i4.made ⟨xs,[],H,_,_,_,t,GP tgt s.heap.objs.size a,⟨vs,n,0,wQ,Heap.get?_push_of_some _ ho,hs.tr t,hn,I.size,aS I⟩,
     λp hp=>by subst hp;exact ⟨Aa _,cG,aS I⟩,λ_ f=>f.elim,(λ_ hm=>(by cases hm)),h⟩
theorem cV {Q:IQ}(hm:(a,xs)∈H)(h:Q xs [(a,xs)] H):r7 B d E tgt (.lref a) H Q:=λA s R I va r=>by
 obtain ⟨O,rfl⟩:=r.inv;obtain ⟨O,vs,n,ho,hs⟩:=I.objs _ hm;refine wpAny_pyIter_list (aQ ho) ?_;have t:=Tr.push I { cls:=.type "list_iterator",data:=.fields #[.ref a,.int 0 0] }
 exact i4.made ⟨xs,[(a,xs)],H,_,_,_,t,GG tgt s.heap.objs.size a xs,⟨0,wQ,hm,rfl,I.size,aS I⟩,
     λp hp=>by subst hp;exact ⟨Aa _,cG,aS I⟩,λO f=>f.elim,(λp hp=>by rcases mcp hp with rfl | hp;exact hm;cases hp),h⟩
end
inductive Upd (a:Addr)(xs xs':List PV):AH->AH->Prop
 | head {r:AH}:Upd a xs xs' ((a,xs)::r) ((a,xs')::r)
 | tail {e:Addr×List PV} {r r':AH}:Upd a xs xs' r r'->Upd a xs xs' (e::r) (e::r')
theorem Upd.keys (u:Upd a xs xs' H H'):H'.map (λp=>p.1)=H.map (λp=>p.1):=by
 induction u with
 | head=>rfl
 | tail _ ih=>simp only [Bg,ih]
theorem Upd.has (u:Upd a xs xs' H H'):(a,xs)∈H:=by
 induction u with
 | head=>exact mcs
 | tail _ ih=>exact mcm _ ih
theorem Upd.mem (u:Upd a xs xs' H H'):(H.map (λp=>p.1)).Nodup->∀{p:Addr×List PV},p∈H'->p=(a,xs')\/(p∈H/\p.1≠a):=by
 induction u with
 | @head r=>
   intro hn p hp;rw [Bg,List.nodup_cons] at hn;rcases mcp hp with e | hp
   . exact .inl e
   . exact .inr ⟨mcm _ hp,λe=>hn.1 (mmr ⟨p,hp,e⟩)⟩
 | @tail e r r' u ih=>
   intro hn p hp;rw [Bg,List.nodup_cons] at hn;rcases mcp hp with e' | hp
   . subst e'
     exact .inr ⟨mcs,λq=>hn.1 (mmr ⟨_,u.has,q.symm⟩)⟩
   . rcases ih hn.2 hp with q | ⟨q1,q2⟩
     . exact .inl q
     . exact .inr ⟨mcm _ q1,q2⟩
section
theorem Trk.congr (h:H'.map (λp=>p.1)=H.map (λp=>p.1)):Trk H' B a↔Trk H B a:=by
 unfold Trk;have:(H'.map (·.1))=H.map (·.1):=h;rw [this]
theorem Tr.upd {t:Nat}{vs':Array Value}{n':Nat}(u:Upd a xs xs' H H')(I:Inv B H s)(hs:Heap.SameBut a s.heap h')(ho':h'.get? a=some (aO vs' n'))
   (hv:VRs s.heap (Trk H B) vs'.toList xs'):Tr noU { s with heap:=h',toks:=t } H' s H B:=by
 have hta:Trk H B a:=.inl (mmr ⟨_,u.has,rfl⟩);have htr:∀b,Trk H' B b↔Trk H B b:=λb=>Trk.congr u.keys;obtain ⟨hg,vs,n,ho,O⟩:=I.objs _ u.has;have ne:∀b ob,s.heap.get? b=some ob->¬Trk H B b->h'.get? b=some ob:=λb ob e hn=>(hs.2 b λq=>hn (q▸hta)).trans e;have hk:∀b ob,s.heap.get? b=some ob->ah ob->¬Trk H B b->h'.get? b=some ob:=λb ob e O hn=>ne b ob e hn
 refine ⟨⟨λb ob e=>(hs.2 b λq=>by rw [q,hg] at e;cases e).trans (I.keep b ob e),by show _<=h'.objs.size;rw [hs.1];exact I.size,λq hq=>?_,I.bare,I.os,?_,λq hq=>?_,λp hp=>?_⟩,
   ⟨λb ob e hn=>ne b ob e λq=>hn (.inl q),by show _<=h'.objs.size;rw [hs.1];exact Aa _,λO O e=>e⟩,λb hb=>?_⟩
 . obtain ⟨ps,h1,h2,h3⟩:=I.tabs q hq
   have hne:q.2≠a:=λe=>by rw [e,ho] at h1;cases h1
   refine ⟨ps,(hs.2 _ hne).trans h1,h2,λpos cv hc=>?_⟩;obtain ⟨qn,a1,c,oc,vs,t,e1,e2,e3,e4⟩:=h3 pos cv hc;exact ⟨qn,a1,c,oc,vs,t,e1,(hs.2 c λq=>by rw [q,ho] at e2;cases e2;cases e3).trans e2,e3,e4⟩
 . have:H'.map (·.1)=H.map (·.1):=u.keys
   rw [this];exact I.nodup
 . obtain ⟨h1,h2,h3,h4⟩:=I.hid q hq
   have hk':H'.map (·.1)=H.map (·.1):=u.keys;exact ⟨(hs.2 _ λe=>h4 (by rw [e];exact mmr ⟨_,u.has,rfl⟩)).trans h1,h2,h3,by rw [hk'];exact h4⟩
 . rcases u.mem I.nodup hp with rfl | ⟨hp,hne⟩
   . exact ⟨hg,vs',n',ho',hv.mono hk λO O t=>(htr _).mp t⟩
   . obtain ⟨h1,vs,n,h2,h3⟩:=I.objs p hp
     exact ⟨h1,vs,n,(hs.2 _ hne).trans h2,h3.mono hk λO O t=>(htr _).mp t⟩
 . left
   have:H'.map (λp=>p.1)=H.map (λp=>p.1):=u.keys;rw [this] at hb;exact hb
theorem oU {f:Array Value->Array Value}(u:Upd a xs xs' H H')(I:Inv B H s)(hz:xs.length<=sizeLine)(hz':xs'.length<=sizeLine+1)
   (hf:∀vs n,s.heap.get? a=some (aO vs n)->VRs s.heap (Trk H B) vs.toList xs->VRs s.heap (Trk H B) (f vs).toList xs') :
   wpAny (model B.prog B.w) A (updateSeq a f) (λO s'=>Tr noU s' H' s H B) E s:=by
 obtain ⟨hg,vs,n,ho,hv⟩:=I.objs _ u.has;have hv':=hf vs n ho hv;have l1:=hv.length;have l2:=hv'.length;simp only [Array.length_toList] at l1 l2;refine wpAny_updateSeq ho rfl ?_ (by rw [l1];exact hz) (by rw [l2];exact hz');exact Tr.upd (t:=s.toks) u I (Heap.SameBut.update ..) (vs':=f vs) (n':=if (f vs).size==vs.size then n else n+1) (Heap.get?_update_self _ ho rfl) hv'
theorem j8 {v:Value}(u:Upd a xs (xs++[p]) H H')(I:Inv B H s)(r:VR s.heap (Trk H B) v p)(hz:xs.length<=sizeLine) :
   wpAny (model B.prog B.w) A (call (.builtin "list.append") [.ref a,v]) (λr s'=>r=.none/\Tr noU s' H' s H B) E s:=by
 obtain ⟨hg,vs,n,ho,hv⟩:=I.objs _ u.has;refine wpAny_call_entry slot_list_append (aQ ho).typeIs entry_list_append ?_ (args_list_append _ _);show wpAny _ _ (updateSeq a (·.push v) >>= λO=>ret .none) _ _ s;refine wps (oU u I hz (by simp;exact hz) λvs n O hv=>?_) (λO s' t=>wpAny_pure ⟨.none,rfl,rfl,t⟩);rw [Array.toList_push];exact hv.append (.cons r .nil)
theorem VRs.drop_key {e:Addr×List PV}{ps:List PV}(r:VRs s.heap (Trk (e::H) B) vs ps):VRs s.heap (Trk H B) vs ps:=
 r.mono (λO O e O O=>e) λO O t=>t.imp (mcm _) id
theorem VR.drop_key {e:Addr×List PV}{v:Value}(r:VR s.heap (Trk (e::H) B) v p):VR s.heap (Trk H B) v p:=
 r.mono (λO O e O O=>e) λO O t=>t.imp (mcm _) id
theorem Inv.drop_key {e:Addr×List PV}(I:Inv B (e::H) s):Inv B H s:=
 ⟨I.keep,I.size,I.tabs,I.bare,I.os,(ncp I.nodup).2,λq hq=>let ⟨a,b,c,e⟩:=I.hid q hq;⟨a,b,c,λt=>e (mcm _ t)⟩,λp hp=>let ⟨a,vs,n,b,c⟩:=I.objs p (mcm _ hp);⟨a,vs,n,b,c.drop_key⟩⟩
theorem Inv.freeze (I:Inv B ((a,xs)::H) s):VR s.heap (Trk H B) (.ref a) (.list xs):=by
 obtain ⟨O,vs,n,ho,hv⟩:=I.objs _ mcs;refine .list ho (λq=>?_) hv.drop_key;rcases q with q | q
 . exact (ncp I.nodup).1 q
 . rcases q with q | q
   . exact iF I ho (by (intros;first | contradiction | (intro q;cases q))) q
   . obtain ⟨p,hp,e⟩:=mmp q
     exact (I.hid p hp).4 (by rw [e];exact mcs)
theorem Tr.drop_key {U:Addr->Prop}{H₀:AH}{e:Addr×List PV}{s₀:Shared}(t:Tr U s (e::H) s₀ H₀ B):Tr U s H s₀ H₀ B:=
 ⟨t.inv.drop_key,t.step,λa ha=>t.keys a (mcm _ ha)⟩
theorem DN (h:env.kindOf x=some .cell)(hk:env.scope.kind=.function):(if (NameKind.free==NameKind.free && env.scope.kind==.function && env.kindOf x==some .cell) then (x,NameKind.cell) else (x,NameKind.free))=(x,NameKind.cell):=by rw [h,hk];rfl
noncomputable def xN (B:aI)(T:Addr->Prop)(env:Env)(h:Heap)(names:List (Str×NameKind))(e:Str×NameKind×Option PV):Prop:=match e.2.1 with
 | .local=>e.2.2=none
 | .globalImplicit=>∀p,e.2.2=some p->aC B e.1 p
 | _=>fL e.2.2 e.1 env T h/\(e.1,NameKind.free)∈names
theorem xN.up {names:List (Str×NameKind)}{e:Str×NameKind×Option PV}{n:Str×NameKind}(q:xN B T env h names e):xN B T env h (n::names) e:=by
 obtain ⟨x,k,ov⟩:=e;cases k <;> first | exact q | exact ⟨q.1,.tail _ q.2⟩
noncomputable abbrev Gw (env:Env)(e:Str×NameKind):Str×NameKind:=match e with
 | (n,k)=>if (k==NameKind.free && env.scope.kind==.function && env.kindOf n==some .cell) then (n,NameKind.cell) else (n,k)
set_option genInjectivity false in
set_option genSizeOf false in
structure CSt (B:aI)(σ:St)(names:List (Str×NameKind))(σ':St):Prop where
 fst:σ'.map (λe=>e.1)=names.map λe=>e.1
 nocell:∀x∈names,x.2≠NameKind.cell
 keys:∀{env H s},aA s H σ env B->env.scope.kind=.function->σ'.map (λe=>(e.1,e.2.1))=names.map (Gw env)
 mem:∀{env H s},aA s H σ env B->∀e∈σ',xN B (Trk H B) env s.heap names e
 free:∀{env H s},aA s H σ env B->∀e∈names,e.2=.free->∃c,env.cells.lookup e.1=some c/\c<s.heap.objs.size
section
variable {names:List (Str×NameKind)}{ov:Option PV}
theorem CSt.nil:CSt B σ [] []:=⟨rfl,λO h=>absurd h Be,λO O=>rfl,λO O h=>absurd h Be,λO O h=>absurd h Be⟩
theorem CSt.cons {k k':NameKind}(hk:k≠.cell)(h1:∀{env H s},aA s H σ env B->env.scope.kind=.function->(x,k')=Gw env (x,k))(h2:∀{env H s},aA s H σ env B->xN B (Trk H B) env s.heap ((x,k)::names) (x,k',ov))
   (h3:∀{env H s},aA s H σ env B->k=.free->∃c,env.cells.lookup x=some c/\c<s.heap.objs.size)(c:CSt B σ names σ'):CSt B σ ((x,k)::names) ((x,k',ov)::σ'):=
 ⟨congrArg (List.cons x) c.fst,fmc ⟨hk,c.nocell⟩,λF q=>(congrArg (List.cons _) (c.keys F q)).trans (congrArg (·::_) (h1 F q)),λF=>fmc ⟨h2 F,λe he=>(c.mem F e he).up⟩,λF=>fmc ⟨h3 F,c.free F⟩⟩
theorem CSt.loc (c:CSt B σ names σ'):CSt B σ ((x,.local)::names) ((x,.local,Option.none)::σ'):=.cons (λq=>by cases q) (λO O=>rfl) (λO=>rfl) (λO q=>by cases q) c
theorem CSt.capC (h:(x,NameKind.cell,ov)∈σ)(c:CSt B σ names σ'):CSt B σ ((x,.free)::names) ((x,.cell,ov)::σ'):=.cons (λq=>by cases q) (λF q=>(DN (F.kindOf h) q).symm) (λF=>⟨F.cell _ _ (.inl h),.head _⟩) (λF O=>(F.cell _ _ (.inl h)).look) c
theorem CSt.glob (h:aC B x p)(c:CSt B σ names σ'):CSt B σ ((x,.globalImplicit)::names) ((x,.globalImplicit,some p)::σ'):=.cons (λq=>by cases q) (λO O=>rfl) (λO O e=>Option.some.inj e▸h) (λO q=>by cases q) c
theorem CSt.globS (h:(x,NameKind.globalImplicit,some p)∈σ)(c:CSt B σ names σ'):CSt B σ ((x,.globalImplicit)::names) ((x,.globalImplicit,some p)::σ'):=.cons (λq=>by cases q) (λO O=>rfl) (λF O e=>F.glob _ _ (Option.some.inj e▸h)) (λO q=>by cases q) c
end
theorem nq {n:Str}{c:Addr}(h:env.cells.lookup n=some c):cellOf env n=pure c:=by unfold cellOf;rw [h]
theorem uh (names:List (Str×NameKind)):∀acc:List (Str×Addr),(∀e∈names,e.2=.free->∃c,env.cells.lookup e.1=some c)->
   ∃cl,(forIn names acc λ(x:Str×NameKind) (r:List (Str×Addr))=>(match x with
     | (name,kind)=>if kind==NameKind.free then do let c<-cellOf env name;pure (ForInStep.yield ((name,c)::r)) else pure (ForInStep.yield r):Sem (ForInStep (List (Str×Addr)))))=pure cl/\
     ∀x,((x,NameKind.free)∈names/\cl.lookup x=env.cells.lookup x)\/((x,NameKind.free)∉names/\cl.lookup x=acc.lookup x):=by
 induction names with
 | nil=>exact λacc O=>⟨acc,rfl,λx=>.inr ⟨(by intros;first | contradiction | (intro q;cases q)),rfl⟩⟩
 | cons e r ih=>
   obtain ⟨n,k⟩:=e;intro acc h1;have h2:=List.forall_mem_cons.mp h1;by_cases hk:k=.free
   . subst hk
     obtain ⟨c,hc⟩:=h2.1 rfl;obtain ⟨cl,e,p⟩:=ih ((n,c)::acc) h2.2;refine ⟨cl,?_,λx=>?_⟩
     . rw [List.forIn_cons]
       show ((cellOf env n >>= λc=>pure (ForInStep.yield ((n,c)::acc))) >>= _)=_;rw [nq hc];exact e
     . rcases p x with q | q
       . exact .inl ⟨.tail _ q.1,q.2⟩
       . by_cases hx:x=n
         . subst hx
           exact .inl ⟨.head _,q.2.trans (List.lookup_cons_self.trans hc.symm)⟩
         . exact .inr ⟨λm=>(mcp m).elim (λe=>hx (congrArg Prod.fst e)) q.1,q.2.trans (by rw [BH,beq_eq_false_iff_ne.mpr hx])⟩
   . obtain ⟨cl,e,p⟩:=ih acc h2.2
     refine ⟨cl,?_,λx=>(p x).imp (λq=>⟨.tail _ q.1,q.2⟩) λq=>⟨λm=>(mcp m).elim (λe=>hk (congrArg Prod.snd e).symm) q.1,q.2⟩⟩;rw [List.forIn_cons];show ((if (k==NameKind.free)=true then (cellOf env n >>= λc=>pure (ForInStep.yield ((n,c)::acc))) else pure (ForInStep.yield acc)) >>= _)=_;rw [if_neg λq=>hk (eq_of_beq q)];exact e
set_option genInjectivity false in
set_option genSizeOf false in
structure iN (env:Env)(scope:Scope)(s:Shared)(cl:List (Str×Addr)):Prop where
 e:closureFor scope env=pure cl
 sub:∀x c,cl.lookup x=some c->env.cells.lookup x=some c
 get:∀x,(x,NameKind.free)∈scope.names->cl.lookup x=env.cells.lookup x
 lt:∀y c,cl.lookup y=some c->c<s.heap.objs.size
theorem iN.of {scope:Scope}(h:∀e∈scope.names,e.2=.free->∃c,env.cells.lookup e.1=some c/\c<s.heap.objs.size):∃cl,iN env scope s cl:=by
 obtain ⟨cl,e,p⟩:=uh (env:=env) scope.names [] λe he hf=>(h e he hf).imp λO q=>q.1;have q:∀x c,cl.lookup x=some c->(x,NameKind.free)∈scope.names/\cl.lookup x=env.cells.lookup x:=λx c hc=>(p x).elim id λq=>(by cases (hc.symm.trans q.2));refine ⟨cl,?_,λx c hc=>(q x c hc).2.symm.trans hc,λx hx=>(p x).elim (λq=>q.2) λq=>(q.1 hx).elim,λy c' hy=>?_⟩
 . unfold closureFor
   rw [<-e];exact bind_pure _
 . obtain ⟨c,h1,h2⟩:=h _ (q y c' hy).1 rfl
   exact Option.some.inj (hy.symm.trans ((q y c' hy).2.trans h1))▸h2
theorem CSt.clos (c:CSt B σ scope.names σ')(F:aA s H σ env B):∃cl,iN env scope s cl:=iN.of (c.free F)
end
theorem rn (elt target iter c:Expr)(scope:Scope)(pos:Pos)(it acc:Value)(env:Env) :
   compTurn (.ListComp elt [⟨target,iter,[c],0⟩] scope pos) 0 it acc env=(standAt iter.pos >>= λO=>pyNext it >>= λr=>match r with
     | none=>pure (.done .next)
     | some v=>letOwnedTupleGo target it v >>= λO=>assign target env v >>= λO=>isTrue c env (eval c env) >>= λok=>
       if ok=true then (eval elt env >>= λx=>call (.builtin "list.append") [acc,x] >>= λO=>again (.compLoop (.ListComp elt [⟨target,iter,[c],0⟩] scope pos) 0 it acc env))
       else again (.compLoop (.ListComp elt [⟨target,iter,[c],0⟩] scope pos) 0 it acc env)):=by
 unfold compTurn;simp only [List.getElem?_cons_zero,List.forIn_cons,List.forIn_nil];simp
 rfl
section
noncomputable def aBm (B:aI)(fi:aN)(d:Nat):List Expr->St->AH->(BQ)->Prop
 | [],_,H,Q=>Q true H
 | c::_,σ,H,Q=>Tst B fi d NoE c σ H Q
noncomputable abbrev aI.hids (B:aI)(l:List (Addr×Obj)):aI:={ B with hid:=l }
theorem a9.hids {l:List (Addr×Obj)}(e:a9 B fi env):a9 (B.hids l) fi env:=⟨e.scope,e.kind,e.coro,e.globals,e.builtins,e.qual,e.code,e.above,e.free⟩
inductive aBx (D:Addr)(acc:List PV)(deps:AH)(H₃:AH)(K:AH->Prop):Prop
 | mk (H₄:AH) (e:H₃=(D,acc)::H₄) (dp:∀p∈deps,p∈H₄) (q:K H₄)
noncomputable def pY {ι:Type}(B:aI)(hf:ι->List (Addr×Obj))(fi:aN)(d:Nat)(tgt:Expr)(ifs:List Expr)(elt:Expr)(D:Addr)(deps:AH):List PV->List PV->St->AH->(LQ)->Prop
 | [],acc,_,H,Q=>Q acc H
 | x::xs,acc,σ,H,Q=>∀o,Asg (B.hids (hf o)) fi d NoE tgt x σ ((D,acc)::H) λσ₁ H₁=>aBm (B.hids (hf o)) fi d ifs σ₁ H₁ λok H₂=>
     if ok then Ev NoE (B.hids (hf o)) d fi σ₁ H₂ elt λv H₃=>acc.length<=sizeLine/\aBx D acc deps H₃ λH₄=>pY B hf fi d tgt ifs elt D deps xs (acc++[v]) σ₁ H₄ Q
     else aBx D acc deps H₂ λH₄=>pY B hf fi d tgt ifs elt D deps xs acc σ₁ H₄ Q
noncomputable abbrev sm (B:aI)(fi:aN)(d:Nat)(tgt:Expr)(ifs:List Expr)(elt:Expr)(D:Addr)(deps:AH):List PV->List PV->St->AH->(LQ)->Prop:=pY (ι:=Unit) B (λO=>B.hid) fi d tgt ifs elt D deps
theorem bt.frame' {P:Addr->Prop}{G:Nat->Prop}(F:aA s H σ env B)(o:bt s' G s H B P)(hL:¬P env.locals)(hC:∀y c,env.cells.lookup y=some c->¬P c)(hS:∀p,P p->∀ob,s.heap.get? p=some ob->¬ah ob) :
   aA s' H σ env B:=by
 have hk:∀a ob,s.heap.get? a=some ob->ah ob->¬Trk H B a->s'.heap.get? a=some ob:=λa ob e q O=>o.heap a ob e λp=>hS a p ob e q;refine ⟨F.fresh,F.apart,F.keys,F.nodup,?_,λy ov hy=>?_,F.glob⟩
 . obtain ⟨m,⟨ob,es,ep,ho,hd,r⟩,hm⟩:=F.ns
   exact ⟨m,⟨ob,es,ep,o.heap _ _ ho hL,hd,r⟩,λy p hy=>(hm y p hy).mono hk λO O t=>t⟩
 . obtain ⟨c,w,hc,⟨ob,ho,hd⟩,hv⟩:=F.cell y ov hy
   exact ⟨c,w,hc,⟨ob,o.heap _ _ ho (hC y c hc),hd⟩,hv.mono hk λO O t=>t⟩
theorem Evo.of_tr' {P:Addr->Prop}{G:Nat->Prop}{deps:AH}(F:aA s H σ env B)(t:Tr (bT env) s' H' s H B)(hP:∀p,P p->¬bT env p/\¬Trk H B p)(hd:∀p∈deps,p∈H'):Evo B P G deps H s H' s':=
 ⟨t.inv,λa ob e hq hn=>t.step.heap a ob e λq=>q.elim hn λu=>F.own_data u e hq,
   λa ob e hp=>t.step.heap a ob e λq=>q.elim (hP a hp).2 λu=>(hP a hp).1 u,t.step.size,t.keys,hd,λi x O e=>t.step.gens i x e⟩
theorem lX {P:Addr->Prop}(hL:¬P env.locals)(hC:∀y c,env.cells.lookup y=some c->¬P c):∀p,P p->¬bT env p:=λp hp u=>by
 rcases u with rfl | ⟨x,_,hc,_⟩
 . exact hL hp
 . exact hC x p hc hp
theorem Trk.cons {e:Addr×List PV}(h:Trk (e::H) B a):a=e.1\/Trk H B a:=by
 rcases h with h | h
 . rcases mcp h with q | q
   . exact .inl q
   . exact .inr (.inl q)
 . exact .inr (.inr h)
noncomputable def zp {β:Type}(ifs:List Expr)(env:Env)(k:Bool->Sem β):Sem β:=
 match ifs with
 | []=>k true
 | c::_=>isTrue c env (eval c env) >>= k
theorem GD {ifs:List Expr}{Q:BQ}(h1:ifs.length<=1)(h:aBm B fi d ifs σ H Q)(e:a9 B fi env)(R:ai A d)(I:Inv B H s)(F:aA s H σ env B){β:Type}{k:Bool->Sem β}{K:β->Shared->Prop}
   (hk:∀b H' s',Tr noU s' H' s H B->Q b H'->wpAny (model B.prog B.w) A (k b) K NoE s') :
   wpAny (model B.prog B.w) A (zp ifs env k) K NoE s:=by
 cases ifs with
 | nil=>exact hk true H s (.refl I) h
 | cons c r=>exact wps (h A s env e R I F) (λb s' hh1=>by obtain ⟨H',t,q⟩:=hh1;exact hk b H' s' t q)
theorem q0 (elt target iter:Expr)(ifs:List Expr)(h:ifs.length<=1)(scope:Scope)(pos:Pos)(it acc:Value)(env:Env) :
   compTurn (.ListComp elt [⟨target,iter,ifs,0⟩] scope pos) 0 it acc env=(standAt iter.pos >>= λO=>pyNext it >>= λr=>match r with
     | none=>pure (.done .next)
     | some v=>letOwnedTupleGo target it v >>= λO=>assign target env v >>= λO=>zp ifs env λok:Bool=>
         if ok=true then (eval elt env >>= λx=>call (.builtin "list.append") [acc,x] >>= λO=>again (.compLoop (.ListComp elt [⟨target,iter,ifs,0⟩] scope pos) 0 it acc env))
           else again (.compLoop (.ListComp elt [⟨target,iter,ifs,0⟩] scope pos) 0 it acc env)):=by
 cases ifs with
 | nil=>rw [compTurn_list1];simp -iota only [bind_assoc,pure_bind];rfl
 | cons c r=>
   cases r with
   | nil=>rw [rn];rfl
   | cons _ _=>simp at h
section
variable {ι:Type}(B:aI)(hf:ι->List (Addr×Obj))(A:Around)(deps:AH)(tgt:Expr)(itv:Value)(cenv:Env)(H₀:AH)(s₀:Shared)(J:List PV->ι->AH->Shared->Prop)
inductive aDu (σ:St)(H:AH)(v:Value)(x:PV)(xs:List PV)(s:Shared):Prop
 | mk (o:ι) (i:Inv (B.hids (hf o)) H s) (f:aA s H σ cenv (B.hids (hf o))) (r:VR s.heap (Trk H (B.hids (hf o))) v x)
     (st:∀H' s',Tr (bT cenv) s' H' s H (B.hids (hf o))->(∀p∈deps,p∈H')->Tr noU s' H' s₀ H₀ B/\J xs o H' s')
inductive aFf (σ:St)(H:AH)(items:List PV)(r:Option Value)(s:Shared):Prop
 | done (hi:items=[]) (hr:r=none) (t:Tr noU s H s₀ H₀ B) (f:aA s H σ cenv B)
 | one (v:Value) (x:PV) (xs:List PV) (hi:items=x::xs) (hr:r=some v) (w:wpAny (model B.prog B.w) A (letOwnedTupleGo tgt itv v) (λO s₄=>aDu B hf deps cenv H₀ s₀ J σ H v x xs s₄) NoE s)
set_option genInjectivity false in
set_option genSizeOf false in
structure r9:Prop where
 self:∀items o H s (E:EP) (Q:Value->Shared->Prop),J items o H s->Q itv s->wpAny (model B.prog B.w) A (pyIter itv) Q E s
 next:∀items o σ H s,J items o H s->Tr noU s H s₀ H₀ B->aA s H σ cenv (B.hids (hf o))->wpAny (model B.prog B.w) A (pyNext itv) (aFf B hf A deps tgt itv cenv H₀ s₀ J σ H items) NoE s
inductive vp (fi:aN)(d:Nat)(D:Addr)(ifs:List Expr)(elt:Expr)(Q:LQ)(n:Nat)(s':Shared):Prop
 | mk (o:ι) (items acc:List PV) (σ':St) (H':AH) (hn:n=items.length) (t:Tr noU s' ((D,acc)::H') s₀ H₀ B) (F:aA s' ((D,acc)::H') σ' cenv (B.hids (hf o))) (j:J items o ((D,acc)::H') s')
     (q:pY B hf fi d tgt ifs elt D deps items acc σ' H' Q)
end
theorem nN {ι:Type}{hf:ι->List (Addr×Obj)}{iter elt:Expr}{ifs:List Expr}{D:Addr}{itv:Value}{cenv:Env}{deps:AH}{J:List PV->ι->AH->Shared->Prop}{Q:LQ}
   {R:Result->Shared->Prop}{σ₀:St}{H₁:AH}{s₀:Shared}{o:ι}{items:List PV}(Rm:ai A d)(hifs:ifs.length<=1)(ek:a9 B fi cenv)(TT:r9 B hf A deps tgt itv cenv H s₀ J)(T₁:Tr noU s₁ ((D,[])::H₁) s₀ H B)
   (F₁:aA s₁ ((D,[])::H₁) σ₀ cenv (B.hids (hf o)))(hJ:J items o ((D,[])::H₁) s₁)(hgo:pY B hf fi d tgt ifs elt D deps items [] σ₀ H₁ Q)
   (hR:∀acc σ' H' s',Tr noU s' ((D,acc)::H') s₀ H B->aA s' ((D,acc)::H') σ' cenv B->Q acc H'->R (.ok .next) s') :
   codeAny (model B.prog B.w) A (.compStart (.ListComp elt [⟨tgt,iter,ifs,0⟩] scope pos) 0 itv (.ref D) cenv) R s₁:=by
 have hloop:codeAny (model B.prog B.w) A (.compLoop (.ListComp elt [⟨tgt,iter,ifs,0⟩] scope pos) 0 itv (.ref D) cenv) R s₁:=by
   refine codeAny_loop rfl (vp B hf deps tgt cenv H s₀ J fi d D ifs elt Q) ?_ items.length ⟨o,items,[],σ₀,H₁,rfl,T₁,F₁,hJ,hgo⟩;intro n s₂ hi;obtain ⟨o,items,acc,σ₂,H₂,rfl,T₂,F₂,hJ₂,q₂⟩:=hi;show wpAny _ _ ((compTurn (.ListComp elt [⟨tgt,iter,ifs,0⟩] scope pos) 0 itv (.ref D) cenv).onRaise (λx=>do noteFrame x cenv;theTreesLotGoes x)) _ _ s₂;refine wpAny_noted ?_;rw [q0 _ _ _ _ hifs,show A.under (.compLoop (.ListComp elt [⟨tgt,iter,ifs,0⟩] scope pos) 0 itv (.ref D) cenv)=A from Around.under_of_weight rfl rfl];refine bV (wpAny_bind (wpAny_standAt (wps (TT.next items o σ₂ _ s₂ hJ₂ T₂ F₂) (λr s₃ hr=>?_))))
   cases hr with
   | done hi hr t f=>
     subst hi;subst hr;exact wpAny_pure (hR acc σ₂ H₂ s₃ t f q₂)
   | one v x xs hi hr hv=>
     subst hi;subst hr;refine wps hv (λO s₄ hh1=>?_);obtain ⟨o',I₄,F₄,hvr,st⟩:=hh1;have ek':a9 (B.hids (hf o')) fi cenv:=ek.hids;refine wps (q₂ o' A s₄ cenv ek' Rm I₄ F₄ v hvr) (λO s₅ hh1=>?_);obtain ⟨σ₅,H₅,t₅,F₅,q₅⟩:=hh1;refine GD hifs q₅ ek' Rm t₅.inv F₅ λb H₆ s₆ t₆ q₆=>?_;have F₆:=F₅.tr t₅.inv t₆
     have done:∀{acc' s₉ H₈},Tr noU s₉ ((D,acc')::H₈) s₆ H₆ (B.hids (hf o'))->(∀p∈deps,p∈H₈)->pY B hf fi d tgt ifs elt D deps xs acc' σ₅ H₈ Q->∃m,m<(x::xs).length/\vp B hf deps tgt cenv H s₀ J fi d D ifs elt Q m s₉:=λt hd q=>
       have z:=st _ _ ((t₅.trans t₆.up).trans t.up) λp hp=>mcm _ (hd p hp)
       ⟨xs.length,An _,o',xs,_,σ₅,_,rfl,z.1,F₆.tr t₆.inv t,z.2,q⟩
     cases b with
     | true=>
       refine wps (q₆ A s₆ cenv ek' Rm t₆.inv F₆) (λw s₇ hh1=>?_);obtain ⟨p,H₇,t₇,r₇,hz,H₈,e₇,hdep₇,q₇⟩:=hh1;subst e₇;exact wps (j8 (B:=B.hids (hf o')) (xs:=acc) (H':=(D,acc++[p])::H₈) .head t₇.inv r₇ hz) (λO s₈ hh1=>wpAny_pure ⟨rfl,done (t₇.trans hh1.2) hdep₇ q₇⟩)
     | false=>
       obtain ⟨H₈,e₆,hdep₆,q₇⟩:=q₆;subst e₆;exact wpAny_pure ⟨rfl,done (.refl t₆.inv) hdep₆ q₇⟩
 exact codeAny_compStart_list hloop (TT.self items o _ s₁ _ _ hJ hloop)
end
section
noncomputable abbrev cfi (fi:aN)(scope:Scope)(σ':St):aN:=⟨{ scope with names:=σ'.map λe=>(e.1,e.2.1) },none,fi.qual,λO=>true⟩
theorem Evo.of_tr0 {P:Addr->Prop}{G:Nat->Prop}{deps:AH}(t:Tr noU s' H' s H B)(hP:∀p,P p->¬Trk H B p)(hd:∀p∈deps,p∈H'):Evo B P G deps H s H' s':=
 ⟨t.inv,λa ob e hq hn=>t.step.heap a ob e λq=>q.elim hn False.elim,λa ob e hp=>t.step.heap a ob e λq=>q.elim (hP a hp) False.elim,t.step.size,t.keys,hd,λi x O e=>t.step.gens i x e⟩
theorem Tr.turned {s₀:Shared}(t:Tr noU s H' s₀ H B)(I₀:Inv B H s₀)(ho:s.heap.get? a=some o)(hd:∀vs n,o.data≠.seq vs n)(hd':∀vs,o.data≠.fields vs)(ha:s₀.heap.objs.size<=a)(hs:Heap.SameBut a s.heap h') :
   Tr noU { s with heap:=h' } H' s₀ H B:=
 ⟨t.inv.change (t:=s.toks) ho hd hd' (Heap.get?_none_of_le (ntr I₀.size ha)) hs,⟨λb ob e hn=>(hs.2 b λq=>absurd (Heap.lt_size e) (by rw [q];exact nlr ha)).trans (t.step.heap b ob e hn),by show _<=h'.objs.size;rw [hs.1];exact t.step.size,t.step.gens⟩,t.keys⟩
theorem Tr.fresh {s₄:Shared}(I:Inv B H s₂)(hk:∀b o,(s₂.heap.push (aO #[] 0)).get? b=some o->s₄.heap.get? b=some o)(hz:(s₂.heap.push (aO #[] 0)).objs.size<=s₄.heap.objs.size)(hg:s₄.gens=s₂.gens)(ho:s₄.os=s₂.os) :
   Tr noU s₄ ((s₂.heap.objs.size,[])::H) s₂ H B:=
 have t:=Tr.track (xs:=[]) I .nil
 t.trans (Tr.ext t.inv hk hz hg ho)
theorem CG {scope:Scope}{cl:List (Str×Addr)}{P:Value->Env->Shared->Prop}(hc:∀x∈scope.names,x.2≠NameKind.cell)(hk:scope.kind=.function)
   (k:∀s₄:Shared,(∀b o,(s₂.heap.push (aO #[] 0)).get? b=some o->s₄.heap.get? b=some o)->s₄.heap.Ns (s₂.heap.push (aO #[] 0)).objs.size (λx=>([]:List (Str×Value)).reverse.lookup x)->s₄.gens=s₂.gens->s₄.os=s₂.os->
     P (.ref s₂.heap.objs.size) (newEnv scope (s₂.heap.push (aO #[] 0)).objs.size env.globals cl env.qual none .none (some env) builtinsNs) s₄) :
   wpAny (model B.prog B.w) A (newList []) (λacc s₃=>wpAny (model B.prog B.w) A (newFunctionEnv scope env.globals cl [] env.qual none .none (some env)) (λcenv s₄=>P acc cenv s₄) E s₃) E s₂:=
 wpAny_newList (wpAny_newFunctionEnv hc (λy hy=>(by cases hy)) (λh₄ hns hsb=>by exact k ⟨h₄,s₂.gens,s₂.drawn,s₂.toks+0,s₂.os⟩ (λb o e=>hsb.extBut b o (AD (Heap.lt_size e)) (Heap.get?_push_of_some _ e)) hns rfl rfl) hk) (by rw [sizeLine_eq];exact Ab _)
theorem uE {s₄:Shared}{cl:List (Str×Addr)}{l:List (Addr×Obj)}(I:Inv B H s)(F:aA s H σ env B)(hk:env.scope.kind=.function)(hc:CSt B σ scope.names σ')(hn:(scope.names.map λe=>e.1).Nodup)
   (K:iN env scope s cl)(T:Tr noU s₄ H' s H B)(hC:s.heap.objs.size<=C)(hns:s₄.heap.Ns C (λx=>([]:List (Str×Value)).reverse.lookup x))(ht:∀a,a<s.heap.objs.size->Trk H' (B.hids l) a->Trk H B a):aA s₄ H' σ' (compEnvC scope cl C env) (B.hids l):=by
 have kept:∀b o,s.heap.get? b=some o->¬Trk H B b->s₄.heap.get? b=some o:=λb o eb hnt=>T.step.heap b o eb λq=>q.elim hnt False.elim;refine ⟨Heap.get?_none_of_le (ntr I.size hC),λx y c hx hy=>F.apart x y c (K.sub x c hx) (K.sub y c hy),hc.keys F hk,?_,⟨_,hns,λx p hm=>(by cases ((hc.mem F _ hm:some p=none)))⟩,λx ov hm=>?_,λx p hm=>hc.mem F _ hm p rfl⟩
 . show ((relabel scope env).names.map _).Nodup
   rw [show (relabel scope env).names=_ from (hc.keys F hk).symm,Bi];exact (hc.fst.symm▸hn:(σ'.map λe=>e.1).Nodup)
 . obtain ⟨⟨c,w,hc',⟨oc,hoc,hdc⟩,hw⟩,hf⟩:=(hm.elim (λm=>hc.mem F _ m) λm=>hc.mem F _ m:fL ov x env (Trk H B) s.heap/\(x,NameKind.free)∈scope.names)
   exact ⟨c,w,(K.get x hf).trans hc',⟨oc,kept _ _ hoc (b9 I hoc (by rw [hdc];(intros;first | contradiction | (intro q;cases q))) (by rw [hdc];(intros;first | contradiction | (intro q;cases q)))),hdc⟩,hw.mono (λa o ea O hna=>kept a o ea hna) ht⟩
inductive tY (B:aI)(A:Around)(tgt:Expr)(H:AH)(s:Shared)(q:(ι:Type)->(ι->List (Addr×Obj))->IQ)(itv:Value)(s₂:Shared):Prop
 | mk (ι:Type) (hf:ι->List (Addr×Obj)) (o:ι) (items:List PV) (deps H₁:AH) (t:Tr noU s₂ H₁ s H B) (i:Inv (B.hids (hf o)) H₁ s₂) (ht:∀a,a<s.heap.objs.size->Trk H₁ (B.hids (hf o)) a->Trk H B a)
     (go:∀cenv D s₄,Tr noU s₄ ((D,[])::H₁) s₂ H₁ (B.hids (hf o))->s₂.heap.objs.size<=cenv.locals->(∀y c,cenv.cells.lookup y=some c->c<s.heap.objs.size)->(∀a,bT cenv a->s.heap.objs.size<=a)->
       ∃J,r9 B hf A deps tgt itv cenv H s J/\J items o ((D,[])::H₁) s₄) (hq:q ι hf items deps H₁)
theorem ji {iter elt:Expr}{ifs:List Expr}{Q:LQ}{use:Option (Value->Sem Unit)}{K:Value->Shared->Prop}
   (e:a9 B fi env)(R:ai A d)(I:Inv B H s)(F:aA s H σ env B)(hifs:ifs.length<=1)
   (hi:wpAny (model B.prog B.w) A (eval iter env) (λx s₁=>wpAny (model B.prog B.w) A (pyIter x) (tY B A tgt H s λι hf items deps H₁=>∀D,pY B hf (cfi fi scope σ') d tgt ifs elt D deps items [] σ' H₁ Q) NoE s₁) NoE s)
   (hc:CSt B σ scope.names σ')(hn:(scope.names.map λe=>e.1).Nodup)(hk:scope.kind=.function)(hco:scope.isCoroutine=false)(hs:∀x,foldedSetIterable iter env x=pure x)
   (hK:∀D acc H' C s',Tr noU s' ((D,acc)::H') s H B->(∃m,s'.heap.Ns C m)->s.heap.objs.size<=C->Q acc H'->compPost (model B.prog B.w) A NoE use K (.ref D) C (.ok .next) s') :
   wpAny (model B.prog B.w) A (comprehension (.ListComp elt [⟨tgt,iter,ifs,0⟩] scope pos) scope env (firstIterPos [⟨tgt,iter,ifs,0⟩] pos) (newList []) (firstAsync [⟨tgt,iter,ifs,0⟩]) (firstIter [⟨tgt,iter,ifs,0⟩] env) use) K NoE s:=by
 obtain ⟨cl,L⟩:=hc.clos F;refine wpAny_comprehension_free (gs:=[]) rfl hs L.e hk (λx hx hl=>aY hn (by rw [<-hl];exact hx)) (wpm hi (λx s₁ h₁=>wpm h₁ (λitv s₂ m=>CG hc.nocell hk λs₄ keep hns hg ho=>?_)));obtain ⟨ι,hf,o,items,deps,H₁,t₂,I₂,ht,go,q⟩:=m;have T:=t₂.trans (Tr.fresh t₂.inv keep (Ac hns.lt) hg ho);have hC:s₂.heap.objs.size<=(s₂.heap.push (aO #[] 0)).objs.size:=by rw [Heap.size_push];exact Aj _
 have hCs:=ntr t₂.step.size hC
 obtain ⟨J,TJ,hJ⟩:=go (compEnvC scope cl (s₂.heap.push (aO #[] 0)).objs.size env) _ s₄ (Tr.fresh I₂ keep (Ac hns.lt) hg ho) hC L.lt λa u=>by
   rcases u with rfl | ⟨x,_,hx,hlt⟩
   . exact hCs
   . exact absurd (Ag (nlt (L.lt x a hx) hCs) hlt) (Al _)
 have ek:a9 B (cfi fi scope σ') (compEnvC scope cl (s₂.heap.push (aO #[] 0)).objs.size env):=⟨congrArg (λn=>({ scope with names:=n }:Scope)) (hc.keys F e.kindF).symm,hk,hco,e.globals,e.builtins,e.qual,(λc P h=>(by cases h)),(λO h=>(by cases h)),(λO h=>(by cases h))⟩;refine nN R hifs ek TJ T (uE I F e.kindF hc hn L T hCs hns λa ha x=>?_) hJ (q _) λacc σ'' H' s' T' F' hq=>?_
 . exact x.cons.elim (λe=>absurd ha (nlr (e▸t₂.step.size))) (ht a ha)
 . obtain ⟨m,hns,O⟩:=F'.ns
   exact hK _ acc H' _ s' T' ⟨m,hns⟩ hCs hq
inductive WJ (B:aI)(J:(Addr->Prop)->List PV->AH->Shared->Prop)(cenv:Env)(s₀:Shared)(items:List PV)(H:AH)(s':Shared):Prop
 | mk (W:Addr->Prop) (j:J W items H s') (p:∀p,W p->s₀.heap.objs.size<=p/\p<s'.heap.objs.size/\¬Trk H B p/\p≠cenv.locals)
theorem zn {deps:AH}{itv:Value}{cenv:Env}{s₀:Shared}{G:Nat->Prop}{J:(Addr->Prop)->List PV->AH->Shared->Prop}(Rm:ai A 3)(I₀:Inv B H s₀)(IT:sW B A deps tgt itv G J)(hG:∀i,G i->s₀.gens.size<=i)
   (hCl:∀y c,cenv.cells.lookup y=some c->c<s₀.heap.objs.size)(hU:∀a,bT cenv a->s₀.heap.objs.size<=a):r9 B (λ_:Unit=>B.hid) A deps tgt itv cenv H s₀ (λitems O H' s'=>WJ B J cenv s₀ items H' s') where
 self:=λitems O H s E Q j q=>by
   obtain ⟨W,j,O⟩:=j;exact IT.self W items H s E Q j q
 next:=λitems O σ H₂ s₂ j T₂ F₂=>by
   obtain ⟨W,j,hP⟩:=j;have hPa:∀p,W p->s₀.heap.objs.size<=p:=λp hp=>(hP p hp).1;have hC:∀{W:Addr->Prop},(∀p,W p->s₀.heap.objs.size<=p)->∀y c,cenv.cells.lookup y=some c->¬W c:=λhw y c hy hp=>absurd (hCl y c hy) (nlr (hw c hp));have fr:∀{s₃},bt s₃ G s₂ H₂ B W->aA s₃ H₂ σ cenv B:=λo=>o.frame' F₂ (λhp=>(hP _ hp).2.2.2 rfl) (hC hPa) λp hp=>IT.notseq _ _ _ _ j p hp;refine wpm (IT.next W items H₂ s₂ j Rm T₂.inv) (λr s₃ hr=>?_)
   cases items with
   | nil=>exact .done rfl hr.1 (hr.2.tr T₂ hPa hG) (fr hr.2)
   | cons x xs=>
     obtain ⟨v,e,hv⟩:=hr;refine .one v x xs rfl e (wpm hv (λO s₄ hh1=>?_));obtain ⟨o,hvr,W',hW',j₄⟩:=hh1;have T₄:=o.tr T₂ hPa hG;have hlt:cenv.locals<s₂.heap.objs.size:=by obtain ⟨m,hns,O⟩:=F₂.ns;exact hns.lt
     have hP₄:∀p,W' p->s₀.heap.objs.size<=p/\p<s₄.heap.objs.size/\¬Trk H₂ B p/\p≠cenv.locals:=λp hp=>by
       rcases hW' p hp with q | q
       . exact ⟨(hP p q).1,nlt (hP p q).2.1 o.size,(hP p q).2.2⟩
       . exact ⟨ntr T₂.step.size q.1,q.2,λt=>absurd (dN T₂.inv t) (nlr q.1),λe=>absurd (e▸q.1) (Nat.not_le.mpr hlt)⟩
     exact ⟨(),T₄.inv,fr o,hvr,λH' s' t hd=>⟨Tr.back I₀ T₄ t hU,W',IT.stable _ _ _ _ _ _ j₄ (Evo.of_tr' (fr o) t (λp hp=>⟨lX (P:=W') (λhp=>(hP₄ _ hp).2.2.2 rfl) (hC λp hp=>(hP₄ p hp).1) p hp,(hP₄ p hp).2.2.1⟩) hd),
       λp hp=>⟨(hP₄ p hp).1,nlt (hP₄ p hp).2.1 t.step.size,λq=>(hP₄ p hp).2.2.1 (Trk.new t.keys (hP₄ p hp).2.1 q),(hP₄ p hp).2.2.2⟩⟩⟩
theorem tY.of {q:(ι:Type)->(ι->List (Addr×Obj))->IQ}{itv:Value}(Rm:ai A 3)(I:Inv B H s)(m:oz B A tgt H s (q Unit λO=>B.hid) itv s₂):tY B A tgt H s q itv s₂:=by
 obtain ⟨items,deps,H₁,W,G,J,t,IT,j,p,g,dp,hq⟩:=m
 exact ⟨_,_,(),items,deps,H₁,t,t.inv,λa ha x=>Trk.new t.keys ha x,λcenv D s₄ T hL hC hU=>⟨_,zn Rm I IT (λi hi=>(g i hi).1) hC hU,W,IT.stable _ _ _ _ _ _ j (Evo.of_tr0 T (λa ha=>(p a ha).2.2) λx hx=>.tail _ (dp x hx)),
   λa ha=>⟨(p a ha).1,nlt (p a ha).2.1 T.step.size,λq=>(p a ha).2.2 (Trk.new T.keys (p a ha).2.1 q),λe=>absurd (p a ha).2.1 (nlr (e▸hL))⟩⟩,hq⟩
theorem EvI.madeC {iter:Expr}{q:(ι:Type)->(ι->List (Addr×Obj))->IQ}(hi:EvI B fi d NoE tgt iter σ H (q Unit λO=>B.hid))(hd:3<=d)(e:a9 B fi env)(R:ai A d)(I:Inv B H s)(F:aA s H σ env B) :
   wpAny (model B.prog B.w) A (eval iter env) (λx s₁=>wpAny (model B.prog B.w) A (pyIter x) (tY B A tgt H s q) NoE s₁) NoE s:=
 wpm (hi A s env e R I F) (λO O h=>wpm h (λO O m=>.of (R.le hd) I m))
theorem Tr.turnedC {s₀:Shared}{m:Str->Option Value}(t:Tr noU s H' s₀ H B)(I₀:Inv B H s₀)(hn:s.heap.Ns C m)(hC:s₀.heap.objs.size<=C)(hs:Heap.SameBut C s.heap h'):Tr noU { s with heap:=h' } H' s₀ H B:=by
 obtain ⟨o,es,ep,ho,hd,O⟩:=hn;exact t.turned I₀ ho (by rw [hd];(intros;first | contradiction | (intro q;cases q))) (by rw [hd];(intros;first | contradiction | (intro q;cases q))) hC hs
theorem cF {iter elt:Expr}{ifs:List Expr}(σ':St)
   (hc:CSt B σ scope.names σ')
   (hi:EvI B fi d NoE tgt iter σ H λitems deps H₁=>∀D,sm B (cfi fi scope σ') d tgt ifs elt D deps items [] σ' H₁ λacc H'=>Q (.list acc) H')
   (hn:autoParam ((scope.names.map λe=>e.1).Nodup) nF)(hk:autoParam (scope.kind=.function) nA)(hco:autoParam (scope.isCoroutine=false) nA)(hs:autoParam (∀env x,foldedSetIterable iter env x=pure x) nC)
   (hd:autoParam (3<=d) nB)(hifs:autoParam (ifs.length<=1) nB):Ev E B d fi σ H (.ListComp elt [⟨tgt,iter,ifs,0⟩] scope pos) Q:=λA s env e R I F=>by
 show wpAny _ A (comprehension (.ListComp elt [⟨tgt,iter,ifs,0⟩] scope pos) scope env (firstIterPos [⟨tgt,iter,ifs,0⟩] pos) (newList []) (firstAsync [⟨tgt,iter,ifs,0⟩]) (firstIter [⟨tgt,iter,ifs,0⟩] env)) _ _ s;refine wpAny_mono (ji (K:=aL B H s Q) e R I F hifs (hi.madeC hd e R I F) hc hn hk hco (hs env) ?_) (λO O x=>x) λO O x=>x.elim
 rintro D acc H' C s' t ⟨m,hns⟩ hC q
 refine ⟨m,hns,λh' hsb=>?_⟩;have t':=t.turnedC I hns hC hsb;exact ⟨.list acc,H',t'.drop_key,t'.inv.freeze,q⟩
theorem fz {p:Pos}{elt:Expr}{gens:List Comprehension}{cp:Pos}{line:Nat}(hb:env.scope.kind=.function)(hk:env.kindOf x=some .local)(hl:(p.line==cp.line)=true)
   (hno:(scope.names.any λ(n,k)=>n==x && (k==.local || k==.cell))=false):swapsWith (.ListComp elt gens scope cp) (some (.Name x p)) line env=pure true:=by
 show (pure (env.blockKind==.function && env.kindOf x==some .local && p.line==cp.line && !(scope.names.any λ(n,k)=>n==x && (k==.local || k==.cell))):Sem Bool)=pure true;have:env.blockKind=.function:=by unfold Env.blockKind;rw [hb];rfl
 rw [this,hk,hl,hno]
 rfl
theorem aA.turned {s₀:Shared}{σ₀:St}{H₀:AH}{m:Str->Option Value}(F₀:aA s₀ H₀ σ₀ env B)(F:aA s H σ env B)(hn:s.heap.Ns C m)(hC:s₀.heap.objs.size<=C)(hs:Heap.SameBut C s.heap h'):aA { s with heap:=h' } H σ env B:=by
 obtain ⟨o,es,ep,ho,hd,O⟩:=hn;have hk:∀a ob,s.heap.get? a=some ob->ah ob->¬Trk H B a->h'.get? a=some ob:=λa ob e ⟨vs,n,q⟩ _=>(hs.2 a λeq=>by rw [eq,ho] at e;cases e;rw [hd] at q;cases q).trans e;refine ⟨F.fresh,F.apart,F.keys,F.nodup,?_,λy ov hy=>?_,F.glob⟩
 . obtain ⟨m',hns',hm⟩:=F.ns
   exact ⟨m',hns'.sameBut hs λq=>absurd (F₀.own_lt (.inl rfl)) (nlr (q▸hC)),λy p hy=>(hm y p hy).mono hk λO O t=>t⟩
 . obtain ⟨c,w,hc,⟨oc,hoc,hdc⟩,hv⟩:=F.cell y ov hy
   exact ⟨c,w,hc,⟨oc,(hs.2 c λeq=>by rw [eq,ho] at hoc;cases hoc;rw [hd] at hdc;cases hdc).trans hoc,hdc⟩,hv.mono hk λO O t=>t⟩
theorem oC {pos':Pos}{D:Addr}{acc:List PV}{H':AH}{s':Shared}{σ₂:St}(e:a9 B fi env)(I:Inv B H s)(F:aA s H σ env B)(t:Tr noU s' ((D,acc)::H') s H B)(hns:∃m,s'.heap.Ns C m)(hC:s.heap.objs.size<=C)(hr:Rep x (.list acc) .local σ σ₂)(q:Qn σ₂ H') :
   compPost (model B.prog B.w) A NoE (some (assign (.Name x pos') env)) (λO s'=>∃σ₂ H',Tr (bT env) s' H' s H B/\aA s' H' σ₂ env B/\Qn σ₂ H') (.ref D) C (.ok .next) s':=by
 obtain ⟨m,hns⟩:=hns;show wpAny _ A (do standAt pos';bindName env x (.ref D)) _ _ s';refine wpAny_bind (wpAny_standAt (wpAny_bindName ?_));have F':=F.tr I t.drop_key;refine wpm (dD e t.inv.drop_key F' t.inv.freeze hr (.inl rfl)) (λO s'' hh1=>?_);obtain ⟨t₂,F₂⟩:=hh1
 have hns':s''.heap.Ns C m:=by
   obtain ⟨o,es,ep,ho,hd',r⟩:=hns;refine ⟨o,es,ep,t₂.step.heap _ _ ho λq=>?_,hd',r⟩;rcases q with q | q
   . exact b9 t.inv.drop_key ho (by rw [hd'];(intros;first | contradiction | (intro q;cases q))) (by rw [hd'];(intros;first | contradiction | (intro q;cases q))) q
   . exact absurd (F.own_lt (by rcases q with q | ⟨y,a,b,c⟩;exact .inl q;exact .inr ⟨y,a,b,c⟩)) (nlr hC)
 refine ⟨m,hns',λh' hsb=>⟨σ₂,H',?_,F.turned F₂ hns' hC hsb,q⟩⟩;have T₂:Tr (bT env) s'' H' s H B:=t.drop_key.up.trans t₂;obtain ⟨o,es,ep,ho,hd',O⟩:=hns';exact ⟨T₂.inv.change (t:=s''.toks) ho (by rw [hd'];(intros;first | contradiction | (intro q;cases q))) (by rw [hd'];(intros;first | contradiction | (intro q;cases q))) (Heap.get?_none_of_le (ntr I.size hC)) hsb,⟨λb ob eb hnb=>(hsb.2 b λqq=>absurd (Heap.lt_size eb) (by rw [qq];exact nlr hC)).trans (T₂.step.heap b ob eb hnb),by show _<=h'.objs.size;rw [hsb.1];exact T₂.step.size,T₂.step.gens⟩,T₂.keys⟩
theorem ft {x:Str}{pos':Pos}{iter elt:Expr}{ifs:List Expr}{cpos:Pos}(σ':St)
   (hc:CSt B σ scope.names σ')
   (hi:EvI B fi d NoE tgt iter σ H λitems deps H₁=>∀D,sm B (cfi fi scope σ') d tgt ifs elt D deps items [] σ' H₁ λacc H'=>∃σ₂,Rep x (.list acc) .local σ σ₂/\Qn σ₂ H')
   (hx:∃ov,(x,NameKind.local,ov)∈σ)(hl:autoParam ((pos'.line==cpos.line)=true) nA)(hno:autoParam ((scope.names.any λ(n,k)=>n==x && (k==.local || k==.cell))=false) nF)
   (hn:autoParam ((scope.names.map λe=>e.1).Nodup) nF)(hk:autoParam (scope.kind=.function) nA)(hco:autoParam (scope.isCoroutine=false) nA)(hs:autoParam (∀env x,foldedSetIterable iter env x=pure x) nC)
   (hd:autoParam (3<=d) nB)(hifs:autoParam (ifs.length<=1) nB):X B fi d E (.Assign [.Name x pos'] (.ListComp elt [⟨tgt,iter,ifs,0⟩] scope cpos) pos) σ H Qn Qf:=λA s env e R I F=>by
 obtain ⟨ov,hx⟩:=hx;rw [exec_Assign_Name_used x pos' _ pos (fz e.kindF (F.kindOf hx) hl hno)];refine wpAny_bind (wpAny_standAt (wpAny_bind ?_));show wpAny _ A (do let _<-comprehension (.ListComp elt [⟨tgt,iter,ifs,0⟩] scope cpos) scope env (firstIterPos [⟨tgt,iter,ifs,0⟩] cpos) (newList []) (firstAsync [⟨tgt,iter,ifs,0⟩]) (firstIter [⟨tgt,iter,ifs,0⟩] env) (some (assign (.Name x pos') env))) _ _ s;refine wpAny_bind (wpAny_mono (ji (K:=λO s'=>∃σ₂ H',Tr (bT env) s' H' s H B/\aA s' H' σ₂ env B/\Qn σ₂ H') e R I F hifs (hi.madeC hd e R I F) hc hn hk hco (hs env) ?_) (λO s' hh1=>by obtain ⟨σ₂,H',t,F',q⟩:=hh1;exact wpAny_pure (wpAny_pure ⟨σ₂,H',t,F',.inl ⟨rfl,q⟩⟩)) λO O x=>x.elim);exact λD acc H' C s' t hns hC hh1=>by obtain ⟨σ₂,hr,q⟩:=hh1;exact oC e I F t hns hC hr q
end
noncomputable def bF (s:Shared)(fs:List Frame)(M:Model)(A:Around)(c:Code)(Φ:End->Shared->Prop)(t:Sem Fin):Prop:=
 ∀Γ p,Γ.code=c->Γ.Woken A->∃e s',Runs M Γ p t fs s e s'/\Φ e s'
section
variable {M:Model}{Φ:End->Shared->Prop}{c:Code}{fs:List Frame}
 {K:Flow->Sem Fin}{Hh:Value->Sem Fin}{gd:Bool->Bool}{lv:List Value->List Value}
theorem dA {α:Type}{m:Sem α}{K:α->Sem Fin}{H:Value->Sem Fin}{gd:Bool->Bool}{lv:List Value->List Value}
   (h:wpAny M (A.over c fs) m (λa s'=>bF s' fs M A c Φ (K a)) (λx s'=>bF s' fs M A c Φ (H x)) s):bF s fs M A c Φ (m.wrap K H gd lv):=by
 rintro Γ p rfl hΓ
 exact runs_wrap_of_wp K H gd lv m (h (Γ.over fs) p (hΓ.over fs)) (λa p' s' h'=>h' Γ p' rfl hΓ) (λx p' s' h'=>h' Γ p' rfl hΓ)
theorem HA {p':Pos}{k:Unit->Sem Fin}(h:bF s fs M A c Φ (k ())):bF s fs M A c Φ (.at p' k):=
 dA (m:=standAt p') (K:=k) (H:=.raise) (gd:=id) (lv:=id) (wpAny_standAt h)
theorem Di {l:List Value}{k:Unit->Sem Fin}(h:bF s fs M A c Φ (k ())):bF s fs M A c Φ (.point l k):=
 dA (m:=point) (K:=k) (H:=.raise) (gd:=id) (lv:=λO=>l) (wpAny_point h)
theorem E1 {c':Code}{h:Option Value}{g:Bool}{l:List Value}{k:Result->Sem Fin}(hc:∀p,bF s (.ret k h g l c p []::fs) M A c' Φ (M.den c')):bF s fs M A c Φ (.call c' h g l k):=by
 rintro Γ p rfl hΓ
 obtain ⟨e,s',hr,he⟩:=hc p (Γ.goto c') p rfl (hΓ.goto c');exact ⟨e,s',runs_call_seg hr,he⟩
theorem GA {k:Result->Sem Fin}{h:Option Value}{g:Bool}{l:List Value}{c₁:Code}{p₁:Pos}{kp:List Value}(r:Result)(hk:bF s fs M A c₁ Φ (k r)):bF s (.ret k h g l c₁ p₁ kp::fs) M A c Φ (leafOf r):=by
 rintro Γ p rfl hΓ
 obtain ⟨e,s',hr,he⟩:=hk (Γ.goto c₁) p₁ rfl (hΓ.goto c₁);exact ⟨e,s',Runs.pop r hr,he⟩
theorem iX {c':Code}(hq:c'.quiet=true)(hc:bF s fs M A c' Φ (M.den c')):bF s fs M A c Φ (.pure (.again c')):=by
 rintro Γ p rfl hΓ
 obtain ⟨e,s',hr,he⟩:=hc (Γ.goto c') p rfl (hΓ.goto c');exact ⟨e,s',Runs.head (c₁:=c') (λO O x=>.again hq x) hr,he⟩
theorem zb (r:Result)(h:Φ (.ret r) s):bF s [] M A c Φ (leafOf r):=by
 rintro Γ p rfl _
 exact ⟨.ret r,s,Runs.leaf r,h⟩
theorem zf {v:Value}{g:Bool}{l:List Value}{k:Resume->Sem Fin}(hfs:splitAtGen fs=none)(h:∀p,Φ (.susp v g l k c p fs) s):bF s fs M A c Φ (.yield v g l k):=by
 rintro Γ p rfl _
 exact ⟨_,s,Runs.yield' fs hfs,h p⟩
theorem cu {st:Stmt}(h:bF s fs M A c Φ ((exec st env).wrap (λf=>match f with | .next=>(execs rest env).wrap K Hh gd lv | f=>K f) Hh gd lv)) :
   bF s fs M A c Φ ((execs (st::rest) env).wrap K Hh gd lv):=by rw [execs_cons_wrap];exact h
theorem F8 {st:Stmt}(h:wpAny M (A.over c fs) (exec st env) (λf s'=>bF s' fs M A c Φ (K f)) NoE s):bF s fs M A c Φ ((exec st env).wrap K Hh gd lv):=
 dA (wpAny_mono h (λO O x=>x) λO O x=>x.elim)
theorem aEl {t:Expr}{b o:List Stmt}(h:wpAny M (A.over c fs) (isTrue t env (eval t env)) (λv s'=>bF s' fs M A c Φ ((execs (if v then b else o) env).wrap K Hh gd lv)) NoE s) :
   bF s fs M A c Φ ((exec (.If t b o pos) env).wrap K Hh gd lv):=by
 have e:exec (.If t b o pos) env=(standAt pos >>= λO=>isTrue t env (eval t env) >>= λv=>if v=true then execs b env else execs o env):=rfl;rw [e,Sem.bind_eq_wrap',Sem.wrap_wrap];refine dA (wpAny_standAt ?_);rw [Sem.bind_eq_wrap',Sem.wrap_wrap];refine dA (wpAny_mono h (λv s' h'=>?_) λO O x=>x.elim);cases v
 . simpa using h'
 . simpa using h'
theorem Cj {ypos:Pos}(hfs:splitAtGen fs=none)(hgd:gd false=false)(hfg:fs.any Frame.guarded=false)
   (h:wpAny M (A.over c fs) (eval e env) (λv s'=>∀g l p k,(∀Φ' s'',bF s'' fs M A c Φ' (K .next)->bF s'' fs M A c Φ' (k (.send .none)))->(End.susp v g l k c p fs).quiet=true->Φ (.susp v g l k c p fs) s') NoE s)(hco:env.scope.isCoroutine=false)(hi:interactive env=false) :
   bF s fs M A c Φ ((exec (.Expr (.Yield (some e) ypos) pos) env).wrap K Hh gd lv):=by
 rw [exec_Expr env _ pos hi rfl];show bF s fs M A c Φ (.at pos λO=>((eval e env >>= λv=>(standAt ypos >>= λO=>yieldOut env v)) >>= λx=>dropValue (.Yield (some e) ypos) pos x).wrap K Hh gd lv);have hy:∀v,yieldOut env v=yieldValue v:=λv=>by simp only [yieldOut,hco,B1,if_false]
 simp only [hy];refine HA ?_;rw [Sem.bind_eq_wrap',Sem.bind_eq_wrap',Sem.wrap_wrap,Sem.wrap_wrap];refine dA (wpAny_mono h (λv s' h'=>?_) λO O x=>x.elim);refine HA (zf hfs λp=>?_);refine h' _ _ p _ (λΦ' s'' hs=>?_) (by simp [End.quiet,hgd,hfg]);exact hs
noncomputable def vx (env:Env)(r:Result):Sem Flow:=(match r with | .ok f=>(.pure f:Sem Flow) | .error e=>.raise e).onRaise λ(x:Value)=>do
       if (<-field x 1)==Value.none then unsupported "frame.own-activation:exception-without-traceback"
       setFlight x env.frame
theorem yD {c':Code}(h:∀p,bF s (.ret (λr=>(vx env r).wrap K Hh gd lv) none (gd false) (lv []) c p []::fs) M A c' Φ (M.den c')) :
   bF s fs M A c Φ ((runOwn c' env).wrap K Hh gd lv):=E1 h
theorem aCs {it:Expr}(hs:∀x,foldedSetIterable it env x=pure x)
   (h:wpAny M (A.over c fs) (eval it env) (λx s₁=>wpAny M (A.over c fs) (pyIter x) (λitv s₂=>∀p,bF s₂ (.ret (λr=>(vx env r).wrap K Hh gd lv) none (gd false) (lv []) c p []::fs) M A (.forLoop tgt itv body [] env) Φ (M.den (.forLoop tgt itv body [] env))) NoE s₁) NoE s):bF s fs M A c Φ ((exec (.For tgt it body [] pos) env).wrap K Hh gd lv):=by
 have e:exec (.For tgt it body [] pos) env=((standAt pos >>= λO=>eval it env >>= λx=>foldedSetIterable it env x >>= λx=>standAt it.pos >>= λO=>holding [x] (pyIter x)) >>= λitv=>runOwn (.forLoop tgt itv body [] env) env):=by
   show (do standAt pos;let x<-foldedSetIterable it env (<-eval it env);standAt it.pos;runOwn (.forLoop tgt (<-holding [x] (pyIter x)) body [] env) env)=_;simp only [bind_assoc]
 rw [e,Sem.bind_eq_wrap',Sem.wrap_wrap];refine dA (wpAny_bind (wpAny_standAt (wpAny_bind (wpAny_mono h (λx s₁ h₁=>?_) λO O x=>x.elim))));refine wpAny_bind (wpAny_of_eq (hs x) (wpAny_bind (wpAny_standAt (wpAny_holding (wpAny_mono h₁ (λitv s₂ h₂=>?_) λO O x=>x.elim)))));exact yD h₂
end
section
variable {prog:Program}{w:World}{Φ:End->Shared->Prop}{c:Code}{fs:List Frame}
noncomputable def Gs (tgt:Expr)(itv:Value)(body:List Stmt)(env:Env):Flow->Sem Fin
 | .next | .cont=>.pure (.again (.forLoop tgt itv body [] env))
 | .brk=>.pure (.done .next)
 | .ret v=>.pure (.done (.ret v))
noncomputable def HC (env:Env)(e:Value):Sem Fin:=(do noteFrame e env;theTreesLotGoes e:Sem Unit).wrap (λO=>.raise e) .raise id id
theorem l3 {itv:Value}
   (h:wpAny (model prog w) (A.over (.forLoop tgt itv body [] env) fs) (pyNext itv) (λr s₁=>match r with
     | none=>bF s₁ fs (model prog w) A (.block [] env) Φ (leafOf (.ok .next))
     | some v=>wpAny (model prog w) (A.over (.forLoop tgt itv body [] env) fs) (letOwnedTupleGo tgt itv v) (λO s₂=>wpAny (model prog w) (A.over (.forLoop tgt itv body [] env) fs) (assign tgt env v) (λO s₃=>
         bF s₃ fs (model prog w) A (.forLoop tgt itv body [] env) Φ ((execs body env).wrap (Gs tgt itv body env) (HC env) id id)) NoE s₂) NoE s₁) NoE s) :
   bF s fs (model prog w) A (.forLoop tgt itv body [] env) Φ ((model prog w).den (.forLoop tgt itv body [] env)):=by
 show bF s fs _ A _ Φ ((forTurn tgt itv body [] env).onRaise (λx=>do noteFrame x env;theTreesLotGoes x));unfold forTurn;rw [Sem.onRaise_eq_wrap,Sem.bind_eq_wrap',Sem.wrap_wrap];refine dA (wpAny_standAt ?_);rw [Sem.bind_eq_wrap',Sem.wrap_wrap];refine dA (m:=(pyNext itv).onRaise λO=>standAt { tgt.pos with line:=0 }) ?_
 have hon:∀{α:Type} {m:Sem α} {f:Value->Sem Unit} {Q:α->Shared->Prop} {E:EP} {s:Shared} {A:Around},wpAny (model prog w) A m Q NoE s->wpAny (model prog w) A (m.onRaise f) Q E s:=by
   intro α m f Q E s A hm;exact wpAny_onRaise (wpAny_mono hm (λO O x=>x) λO O x=>x.elim)
 refine hon (wpm h (λr s₁ h₁=>?_))
 cases r with
 | none=>exact iX rfl h₁
 | some v=>
   dsimp only at h₁ ⊢;rw [Sem.bind_eq_wrap',Sem.wrap_wrap];refine dA (wpAny_mono h₁ (λO s₂ h₂=>?_) λO O x=>x.elim);rw [Sem.bind_eq_wrap',Sem.wrap_wrap];refine dA (wpAny_mono h₂ (λO s₃ h₃=>?_) λO O x=>x.elim);rw [Sem.bind_eq_wrap',Sem.wrap_wrap]
   rw [Sem.wrap_congr (execs body env) _ _ (K':=Gs tgt itv body env) (H':=HC env) (λf=>by cases f <;> rfl) (λe=>by
     first | exact Sem.bind_eq_wrap _ _ | (show (do noteFrame e env;theTreesLotGoes e:Sem Unit).bind (λO=>.raise e)=_;rw [Sem.bind_eq_wrap];rfl))]
   exact h₃
theorem G3 
   (h:bF s fs (model prog w) A (.func body env) Φ ((execs body env).wrap (λf=>.pure (.done (.ret (match f with | .ret v=>v | _=>.none))))
     (λe=>(leaving env e).wrap (λO=>.raise e) .raise id id) id id)) :
   bF s fs (model prog w) A (.func body env) Φ ((model prog w).den (.func body env)):=by
 show bF s fs _ A _ Φ (.point [] λO=>((execs body env).onRaise (leaving env)) >>= _);refine Di ?_;rw [Sem.onRaise_eq_wrap,Sem.bind_eq_wrap',Sem.wrap_wrap]
 rw [Sem.wrap_congr (execs body env) _ _ (K':=λf=>.pure (.done (.ret (match f with | .ret v=>v | _=>.none))))
   (H':=λe=>(leaving env e).wrap (λO=>.raise e) .raise id id) (λf=>by cases f <;> rfl)
   (λe=>by rw [Sem.bind_eq_wrap,Sem.wrap_wrap];rfl)]
 exact h
noncomputable def wT (M:Model)(A:Around)(Φ:End->Shared->Prop)(gs:GenState)(s:Shared):Prop:=
 match gs with
 | .fresh c=>bF s [] M A c Φ (M.den c)
 | .suspended k _ c _ fs _=>bF s fs M A c Φ (k (.send .none))
 | _=>False
theorem xa {M:Model}{g:Nat}{gs:GenState}{l:List Value}{α:Type}{k:GenResult->Sem α}{Q:α->Shared->Prop}(hg:s.gens[g]?=some gs)
   (hgo:wT M A Φ gs (s.setGen g .running))(hq:∀e s',Φ e s'->e.quiet=true)
   (hR:∀e s₁,Φ e s₁->wpAny M A (k e.result) Q E (s₁.setGen g e.genState)):wpAny M A (.resume g (.send .none) l k) Q E s:=by
 intro Γ p hΓ;rw [Sem.wp_resume];have hB:∀c,(Γ.wake c p).Woken A:=λc=>hΓ.wake c p
 cases gs with
 | fresh c=>
   obtain ⟨e₁,s₁,hr,he⟩:=hgo (Γ.wake c p) p rfl (hB c);exact ⟨_,_,by unfold Wakes;rw [hg];exact ⟨e₁,s₁,hr,hq e₁ s₁ he,rfl,rfl⟩,hR e₁ s₁ he Γ p hΓ⟩
 | suspended k₀ l₀ c₀ p₀ fs₀ cl=>
   obtain ⟨e₁,s₁,hr,he⟩:=hgo (Γ.wake c₀ p) p₀ rfl (hB c₀);exact ⟨_,_,by unfold Wakes;rw [hg];exact ⟨e₁,s₁,hr,hq e₁ s₁ he,rfl,rfl⟩,hR e₁ s₁ he Γ p hΓ⟩
 | running=>exact hgo.elim
 | finished=>exact hgo.elim
theorem Fp {g:Nat}{gs:GenState}{Q:Option Value->Shared->Prop}(hh:A.handled=none)(hl:s.heap.NoLimit)(hroom:A.depth<recursionLimit)
   (hg:s.heap.IsGen a g)(hgs:s.gens[g]?=some gs)(hgo:wT (model prog w) A.in1 Φ gs (s.setGen g .running))(hq:∀e s',Φ e s'->e.quiet=true)
   (hR:∀e s₁,Φ e s₁->(e=.ret (.ok (.ret .none))/\∀h',(∀b o,s₁.heap.get? b=some o->h'.get? b=some o)->s₁.heap.objs.size<=h'.objs.size->Q none { s₁.setGen g .finished with heap:=h' })\/(∃v g₀ l k c p fs,e=.susp v g₀ l k c p fs/\Q (some v) (s₁.setGen g e.genState))) :
   wpAny (model prog w) A (pyNext (.ref a)) Q E s:=by
 unfold pyNext
 refine wpAny_bind (wpAny_attempt (wpAny_callSpecial?_slot (name:=Ω "__next__") hg.typeIs slot_gen_next
   (wpAny_call_entry slot_gen_next hg.typeIs entry_gen_next ?_ (args_gen_next _))))
 show wpAny _ _ (Builtin.Generator.genWake (.ref a) (.send .none)) _ _ s;unfold Builtin.Generator.genWake;refine wpAny_bind (wpAny_holding (wpAny_genNumber hg (wpAny_bind (wpAny_genState hgs ?_))))
 cases gs with
 | running=>exact hgo.elim
 | finished=>exact hgo.elim
 | _=>
   refine wpAny_bind (wpAny_roomToWake hl hroom ?_);show wpAny _ _ (.resume g (.send .none) [] _) _ _ s;refine xa hgs hgo hq λe s₁ he=>?_;rcases hR e s₁ he with ⟨rfl,hp⟩ | ⟨v,g₀,l,k,c,p,fs,rfl,hv⟩
   . show wpAny _ _ (newExc (.type "StopIteration") [] >>= _) _ _ _
     refine wpAny_bind ?_;simp only [newExc,newTuple];refine wpAny_bind (wpAny_newObj_type ?_ (by size_fits));refine wpAny_bind (m:=firstArgMember _ _) (wpAny_of_eq (a:=Value.none) (by first | rfl | (simp only [firstArgMember];rfl)) ?_);refine wpAny_newObj_type ?_ (by size_fits);unfold raiseNew;refine wpAny_bind (wpAny_bind (wpAny_handled ?_));rw [show A.in1.handled=none from hh];refine wpAny_throw ?_;refine wpAny_bind (wpAny_isInstance (T:="StopIteration") (b:=true) ⟨_,Heap.get?_push_size _ rfl,rfl⟩ isSubtype_stop ?_);exact wpAny_pure (hp _ (λb o hb=>Heap.get?_push_of_some _ (Heap.get?_push_of_some _ hb)) (by rw [Heap.size_push,Heap.size_push];show s₁.heap.objs.size<=s₁.heap.objs.size+1+1;lia))
   . exact wpAny_pure ⟨v,rfl,wpAny_pure hv⟩
end
noncomputable def aT (H:AH)(v:PV)(xs:List PV):Prop:=v=.list xs\/∃a,v=.lref a/\(a,xs)∈H
theorem aT.list :aT H (.list xs) xs:=.inl rfl
theorem aT.lref (h:(a,xs)∈H):aT H (.lref a) xs:=.inr ⟨a,rfl,h⟩
section
theorem aT.at (h:aT H v xs)(I:Inv B H s)(r:VR s.heap (Trk H B) va v) :
   ∃a vs n,va=.ref a/\s.heap.get? a=some (aO vs n)/\VRs s.heap (Trk H B) vs.toList xs:=by
 rcases h with rfl | ⟨a,rfl,hm⟩
 . cases r with | list ho hn hs=>exact ⟨_,_,_,rfl,ho,hs⟩
 . obtain ⟨O,rfl⟩:=r.inv
   obtain ⟨O,vs,n,ho,hv⟩:=I.objs _ hm;exact ⟨a,vs,n,rfl,ho,hv⟩
theorem VRs.asize {vs:Array Value}(r:VRs h T vs.toList xs):vs.size=xs.length:=by
 have:=r.length;simpa using this
theorem vt {a b:Int}(h:Q (.int (a+b)) H):V2 H E B d (.int b) (.int a) (binaryOp .Add) Q:=λA s R I va vb r1 r2=>by
 obtain ⟨O,rfl⟩:=r1.inv;obtain ⟨O,rfl⟩:=r2.inv;exact P.add_int ⟨_,_,Tr.tok I _,.int _ _,h⟩
theorem k9 {a b:Int}(h:Q (.int (a-b)) H):V2 H E B d (.int b) (.int a) (binaryOp .Sub) Q:=λA s R I va vb r1 r2=>by
 obtain ⟨O,rfl⟩:=r1.inv;obtain ⟨O,rfl⟩:=r2.inv;exact P.sub_int ⟨_,_,Tr.tok I _,.int _ _,h⟩
theorem fJ {a b:Int}(hm:IntMulOk a b)(h:Q (.int (a*b)) H):V2 H E B d (.int b) (.int a) (binaryOp .Mult) Q:=λA s R I va vb r1 r2=>by
 obtain ⟨O,rfl⟩:=r1.inv;obtain ⟨O,rfl⟩:=r2.inv;exact P.mul_int ⟨_,_,Tr.tok I _,.int _ _,h⟩ hm
theorem aGs {a b:Int}(hb:b.natAbs<2 ^ 9000):Builtin.divisionGoesByPylong a b=false:=by
 unfold Builtin.divisionGoesByPylong
 have:¬((if b==0 then 0 else b.natAbs.log2/30+1) > 300):=by
   by_cases h0:(b==0)=true
   . rw [if_pos h0];lia
   . rw [if_neg h0]
     have hne:b.natAbs≠0:=by
       intro q;apply h0;simp;lia
     have:=(Nat.log2_lt hne).mpr hb
     lia
 simp only [decide_eq_false this,Bool.false_and]
theorem d5 {a b:Int}(hb:b≠0)(hp:Builtin.divisionGoesByPylong a b=false)(h:Q (.int (a.fdiv b)) H):V2 H E B d (.int b) (.int a) (binaryOp .FloorDiv) Q:=λA s R I va vb r1 r2=>by
 obtain ⟨O,rfl⟩:=r1.inv;obtain ⟨O,rfl⟩:=r2.inv;exact floordiv_int hb ⟨_,_,Tr.tok I _,.int _ _,h⟩ (.inl hp)
theorem b7 {a b:Int}(hb:b≠0)(h:Q (.int (a.fmod b)) H):V2 H E B d (.int b) (.int a) (binaryOp .Mod) Q:=λA s R I va vb r1 r2=>by
 obtain ⟨O,rfl⟩:=r1.inv;obtain ⟨O,rfl⟩:=r2.inv;exact mod_int' hb ⟨_,_,Tr.tok I _,.int _ _,h⟩
theorem qD {a n:Int}(hn:0<=n)(h:Q (.int (a.fdiv (2 ^ n.toNat))) H):V2 H E B d (.int n) (.int a) (binaryOp .RShift) Q:=λA s R I va vb r1 r2=>by
 obtain ⟨O,rfl⟩:=r1.inv;obtain ⟨O,rfl⟩:=r2.inv;exact rshift_int hn ⟨_,_,Tr.tok I _,.int _ _,h⟩
theorem wa {a b:Int}(h:Q (.int (Builtin.bitXor a b)) H):V2 H E B d (.int b) (.int a) (binaryOp .BitXor) Q:=λA s R I va vb r1 r2=>by
 obtain ⟨O,rfl⟩:=r1.inv;obtain ⟨O,rfl⟩:=r2.inv;exact xor_int ⟨_,_,Tr.tok I _,.int _ _,h⟩
theorem Co {a:Int}(h:Q (.int (-a)) H):V1 B d E (unaryOp .USub) (.int a) H Q:=λA s R I va r1=>by
 obtain ⟨O,rfl⟩:=r1.inv;exact P.neg_int ⟨_,_,Tr.tok I _,.int _ _,h⟩
theorem DW {a:Int}(h:Q (.int (Builtin.bitNot a)) H):V1 B d E (unaryOp .Invert) (.int a) H Q:=λA s R I va r1=>by
 obtain ⟨O,rfl⟩:=r1.inv;exact invert_int ⟨_,_,Tr.tok I _,.int _ _,h⟩
theorem aA1 {a b:Int}(h:Q (.int (a+b)) H):V2 H E B d (.int b) (.int a) (inplaceOp .Add) Q:=λA s R I va vb r1 r2=>by
 obtain ⟨O,rfl⟩:=r1.inv;obtain ⟨O,rfl⟩:=r2.inv;exact P.iadd_int ⟨_,_,Tr.tok I _,.int _ _,h⟩
theorem aBl {a b:Int}(h:Q (.int (a-b)) H):V2 H E B d (.int b) (.int a) (inplaceOp .Sub) Q:=λA s R I va vb r1 r2=>by
 obtain ⟨O,rfl⟩:=r1.inv;obtain ⟨O,rfl⟩:=r2.inv;exact P.isub_int ⟨_,_,Tr.tok I _,.int _ _,h⟩
theorem CM {a b:Int}(h:Q (.bool (a==b)) H):V2 H E B d (.int b) (.int a) (compareOp .Eq) Q:=λA s R I va vb r1 r2=>by
 obtain ⟨O,rfl⟩:=r1.inv;obtain ⟨O,rfl⟩:=r2.inv;exact P.eq_int (aL.here I (.bool _) h)
theorem Cl {a b:Int}(h:Q (.bool (a != b)) H):V2 H E B d (.int b) (.int a) (compareOp .NotEq) Q:=λA s R I va vb r1 r2=>by
 obtain ⟨O,rfl⟩:=r1.inv;obtain ⟨O,rfl⟩:=r2.inv;exact P.ne_int (aL.here I (.bool _) h)
theorem Dr {a b:Int}(h:Q (.bool (decide (a<b))) H):V2 H E B d (.int b) (.int a) (compareOp .Lt) Q:=λA s R I va vb r1 r2=>by
 obtain ⟨O,rfl⟩:=r1.inv;obtain ⟨O,rfl⟩:=r2.inv;exact P.lt_int (aL.here I (.bool _) h)
theorem zk {a b:Int}(h:Q (.bool (decide (a<=b))) H):V2 H E B d (.int b) (.int a) (compareOp .LtE) Q:=λA s R I va vb r1 r2=>by
 obtain ⟨O,rfl⟩:=r1.inv;obtain ⟨O,rfl⟩:=r2.inv;exact P.le_int (aL.here I (.bool _) h)
theorem vn {a:Int}{Q:BQ}(h:Q (a != 0) H):Tru B d E (.int a) H Q:=λA s R I va r=>by
 obtain ⟨O,rfl⟩:=r.inv;exact P.truthy_int ⟨H,.refl I,h⟩
noncomputable def jC:PV->Bool
 | .none | .bool _=>true
 | _=>false
noncomputable def cU:PV->Bool
 | .raw _=>false
 | _=>true
noncomputable def il:PV->PV->Bool
 | .none,.none=>true
 | .bool a,.bool b=>a==b
 | _,_=>false
theorem Go {a:PV}(w:Value)(p:PV)(hn:plainIs .none w=true/\(Value.none==w)=il .none p)(hb:∀x,plainIs (.bool x) w=true/\(Value.bool x==w)=il (.bool x) p)
   (hi:∀x t,plainIs (.int x t) w=true/\(Value.int x t==w)=false)(hs:∀x t,plainIs (.str x t) w=true/\(Value.str x t==w)=false)(hy:∀x t,plainIs (.bytes x t) w=true/\(Value.bytes x t==w)=false)(hr:∀x,plainIs (.ref x) w=true/\(Value.ref x==w)=false)
   (r:VR h T va a)(ha:cU a=true):plainIs va w=true/\(va==w)=il a p:=
 VR.rec (motive_1:=λva a O=>cU a=true->plainIs va w=true/\(va==w)=il a p) (motive_2:=λO O O=>True) (λO=>hn) (λx O=>hb x) (λx t O=>hi x t) (λx t O=>hs x t) (λx t O=>hy x t) (λO O O O O=>hr _) (λO O O O O=>hr _) (λO O=>hr _) (λO q=>Bool.noConfusion q) trivial (λO O O O=>trivial) r ha
theorem tV {a b:PV}(hb:jC b=true)(ha:cU a=true){vb:Value}(r1:VR h T va a)(r2:VR h T vb b):plainIs va vb=true/\(va==vb)=il a b:=by
 cases b with
 | none=>
   obtain rfl:vb=.none:=r2.inv;exact Go _ _ ⟨rfl,rfl⟩ (λO=>⟨rfl,rfl⟩) (λO O=>⟨rfl,rfl⟩) (λO O=>⟨rfl,rfl⟩) (λO O=>⟨rfl,rfl⟩) (λO=>⟨rfl,rfl⟩) r1 ha
 | bool y=>
   obtain rfl:vb=.bool y:=r2.inv;exact Go _ _ ⟨rfl,rfl⟩ (λx=>⟨rfl,by cases x <;> cases y <;> rfl⟩) (λO O=>⟨rfl,rfl⟩) (λO O=>⟨rfl,rfl⟩) (λO O=>⟨rfl,rfl⟩) (λO=>⟨rfl,rfl⟩) r1 ha
 | _=>exact (Bool.noConfusion hb)
theorem yv {a b:PV}(h:Q (.bool (il a b)) H)(hb:autoParam (jC b=true) nA)(ha:autoParam (cU a=true) nA):V2 H E B d b a (compareOp .Is) Q:=λA s R I va vb r1 r2=>by
 obtain ⟨p,e⟩:=tV hb ha r1 r2;exact wpAny_is_plain p (by rw [e];exact aL.here I (.bool _) h)
theorem oN {a b:PV}(h:Q (.bool (!il a b)) H)(hb:autoParam (jC b=true) nA)(ha:autoParam (cU a=true) nA):V2 H E B d b a (compareOp .IsNot) Q:=λA s R I va vb r1 r2=>by
 obtain ⟨p,e⟩:=tV hb ha r1 r2;exact wpAny_isNot_plain p (by rw [e];exact aL.here I (.bool _) h)
theorem di (h:Q (.bool false) H):V2 H E B d .none (.raw (.ref f)) (compareOp .Is) Q:=λA s R I va vb r1 r2=>by
 obtain ⟨O,rfl⟩:=r1.inv;obtain ⟨O,rfl⟩:=r2.inv;exact wpAny_is_other rfl (by (intros;first | contradiction | (intro q;cases q))) (aL.here I (.bool _) h)
noncomputable def EL (B:aI)(o:PV):Prop:=
 ∀A (E:EP) H s ov,Inv B H s->VR s.heap (Trk H B) ov o->∀Q:Bool->Shared->Prop,Q false s->wpAny (model B.prog B.w) A (getitemInPython ov) Q E s
theorem ke {o:Value}{T id:String}(hT:s.TypeIs o T)(hl:typeLookup (.type T) "__getitem__" = pure (some (.builtin id))){Q:Bool->Shared->Prop}(h:Q false s):wpAny (model B.prog B.w) A (getitemInPython o) Q E s:=by
 rw [getitemInPython_of_ne hT.not_modules];exact wpAny_bind (wpAny_specialOf hT hl (wpAny_pure h))
theorem dh :EL B (.tup xs):=λA E H s ov I r Q q=>by
 cases r with | tup ho hn hs=>exact ke (show s.TypeIs (.ref _) "tuple" from ⟨_,ho,rfl⟩) slot_tuple_getitem.lookup q
theorem cC :EL B (.str x):=λA E H s ov I r Q q=>by
 obtain ⟨O,rfl⟩:=r.inv;exact ke (typeIs_str _ _ _) F.slot_str_getitem.lookup q
set_option tactic.hygienic true in
theorem rG {value slice:Expr}{ov iv:Value}{Q:Value->Shared->Prop}(h:wpAny (model B.prog B.w) A (getItem ov iv) Q E s):wpAny (model B.prog B.w) A (subscripted slice false ov iv >>= λr=>letTemporaryGo value ov r >>= λO=>pure r) Q E s:=by
 have go:wpAny (model B.prog B.w) A (getItem ov iv) (λr s₃=>wpAny (model B.prog B.w) A (letTemporaryGo value ov r >>= λO=>pure r) Q E s₃) E s:=wpm h (λr s₃ p=>wpAny_bind (wpAny_letTemporaryGo (wpAny_pure p)))
 have hop:∀vs,wpAny (model B.prog B.w) A (operate vs (getItem ov iv)) (λr s₃=>wpAny (model B.prog B.w) A (letTemporaryGo value ov r >>= λO=>pure r) Q E s₃) E s:=λvs Γ p hΓ=>by
   rw [Sem.wp_operate];exact go Γ p hΓ
 refine wpAny_bind ?_;cases slice
 case Slice lo hi st p=>cases st <;> exact hop _
 all_goals exact hop _
end
section
theorem cM {k:Int}(hv:aT H v xs)(h0:0<=k)(hfit:k<2 ^ 63)(hx:xs[k.toNat]?=some p)(h:Q p H):V2 H E B d (.int k) v getItem Q:=λA s R I va vb r1 r2=>by
 obtain ⟨a,vs,n,rfl,ho,hr⟩:=hv.at I r1;obtain ⟨O,rfl⟩:=r2.inv;obtain ⟨v',hv',hr'⟩:=hr.get hx;exact wpAny_getItem_list (aQ ho) h0 hfit (by rw [<-Array.getElem?_toList];exact hv') (aL.here I hr' h)
theorem qZ {k:Int}(hv:aT H v xs)(h0:k<0)(h1:-(xs.length:Int)<=k)(hfit:-(2 ^ 63)<=k)(hx:xs[(k+xs.length).toNat]?=some p)(h:Q p H):V2 H E B d (.int k) v getItem Q:=λA s R I va vb r1 r2=>by
 obtain ⟨a,vs,n,rfl,ho,hr⟩:=hv.at I r1;obtain ⟨O,rfl⟩:=r2.inv;obtain ⟨v',hv',hr'⟩:=hr.get hx;exact wpAny_getItem_list_neg (aQ ho) h0 (by rw [hr.asize];exact h1) hfit (by rw [<-Array.getElem?_toList,hr.asize];exact hv') (aL.here I hr' h)
theorem gS {k:Int}(hlo:-(2 ^ 63)<=k)(hhi:k<2 ^ 63)(hj:seqIndex? k xs.length=some j)(hx:xs[j]?=some p)(h:Q p H):V2 H E B d (.int k) (.tup xs) getItem Q:=λA s R I va vb r1 r2=>by
 obtain ⟨O,rfl⟩:=r2.inv
 cases r1 with
 | tup ho hn hr=>
   obtain ⟨v',hv',hr'⟩:=hr.get hx;exact getItem_tuple ⟨_,ho,rfl,_,rfl⟩ hlo hhi (by rw [hr.asize];exact hj) (by rw [<-Array.getElem?_toList];exact hv') (aL.here I hr' h)
theorem Er {k:Int}{c:Nat}(hr:(decide (k < -(2 ^ 63:Int)) || decide (k ≥ 2 ^ 63))=false)(hc:(seqIndex? k x.length).bind (x.cps[·]?)=some c)(h:Q (.str ⟨#[c]⟩) H):V2 H E B d (.int k) (.str x) getItem Q:=λA s R I va vb r1 r2=>by
 obtain ⟨O,rfl⟩:=r1.inv;obtain ⟨O,rfl⟩:=r2.inv;exact PyProof.Rows.getItem_str hr hc ⟨_,_,Tr.tok I _,.str _ _,h⟩
noncomputable def oG (B:aI)(o:PV)(H:AH):Prop:=
 ∀A (E:EP) s ov,Inv B H s->VR s.heap (Trk H B) ov o->∀Q:Bool->Shared->Prop,Q false s->wpAny (model B.prog B.w) A (getitemInPython ov) Q E s
theorem bH {o:PV}(h:EL B o):oG B o H:=λA E s ov I r Q q=>h A E H s ov I r Q q
theorem aK (hv:aT H v xs):oG B v H:=λA E s ov I r Q q=>by
 obtain ⟨a,vs,n,rfl,ho,O⟩:=hv.at I r;exact ke (aQ ho).typeIs slot_list_getitem.lookup q
theorem aAz {value slice:Expr}
   (h:Ev E B d fi σ H value λo H₁=>Ev E B d fi σ H₁ slice λi H₂=>oG B o H₂/\V2 H₂ E B d i o getItem Q):Ev E B d fi σ H (.Subscript value slice pos) Q:=λA s env e R I F=>by
 refine Subscript_ (wpE (h A s env e R I F) (λov s₁ o H₁ t₁ r₁ h₁=>?_));refine wpm (h₁ A s₁ env e R t₁.inv (F.tr I t₁)) (λiv s₂ hh1=>?_);obtain ⟨i,H₂,t₂,r₂,hs,h₂⟩:=hh1;unfold subscriptTail;refine wpAny_bind (hs A E s₂ ov t₂.inv (r₁.tr t₂) _ ?_);exact rG (wpm (h₂ A s₂ R t₂.inv ov iv (r₁.tr t₂) r₂) (λO O p=>(p.trans t₂).trans t₁))
theorem aB {id:String}:bo B (.raw (.builtin id)):=λA E H s fv I r Q h=>by
 obtain ⟨O,rfl⟩:=r.inv;exact wpAny_pure (h _)
theorem bR {id:String}:bo B (.raw (.type id)):=λA E H s fv I r Q h=>by
 obtain ⟨O,rfl⟩:=r.inv;exact wpAny_pure (h _)
theorem j3 {fd:FuncData}(ho:B.g.get? f=some o)(hd:o.data=.func fd):bo B (.raw (.ref f)):=λA E H s fv I r Q h=>by
 obtain ⟨O,rfl⟩:=r.inv;unfold keeperOf;refine wpAny_bind (wpAny_load (I.keep _ _ ho) ?_);rw [hd];exact wpAny_pure (h _)
theorem ac (hv:aT H v xs)(hfit:xs.length<2 ^ 60)(h:Q (.int xs.length) H):aF [] E H B d (.raw (.builtin "len")) [v] Q:=λA s R I fv vs kvs h1 h2 h3=>by
 cases h1
 cases kvs with
 | cons _ _=>cases h3.1
 | nil=>
   cases h2 with | cons r h2=>cases h2 with | nil=>
   obtain ⟨a,vs,n,rfl,ho,hr⟩:=hv.at I r;refine len_list (aQ ho) (by rw [hr.asize];lia) ?_;rw [hr.asize];exact ⟨_,_,Tr.tok I _,.int _ _,h⟩
theorem db (hfit:x.length<2 ^ 60)(h:Q (.int x.length) H):aF [] E H B d (.raw (.builtin "len")) [.str x] Q:=λA s R I fv vs kvs h1 h2 h3=>by
 cases h1
 cases kvs with
 | cons _ _=>cases h3.1
 | nil=>
   cases h2 with | cons r h2=>cases h2 with | nil=>
   obtain ⟨O,rfl⟩:=r.inv;exact PyProof.Rows.len_str (by lia) ⟨_,_,Tr.tok I _,.int _ _,h⟩
end
inductive Has {α:Type}(e:α):List α->Prop
 | head {l:List α}:Has e (e::l)
 | tail {x:α} {l:List α}:Has e l->Has e (x::l)
theorem Has.mem {α:Type}{e:α}{l:List α}(h:Has e l):e∈l:=by
 induction h with
 | head=>exact mcs
 | tail _ ih=>exact mcm _ ih
section
theorem aFa (hm:Has (x,NameKind.local,some v) σ)(h:Q v H):Ld B fi d E x σ H Q:=D5 hm.mem h
theorem aFb (hm:Has (x,NameKind.cell,some v) σ)(h:Q v H):Ld B fi d E x σ H Q:=Ep hm.mem h
theorem aD4 (hm:Has (x,NameKind.free,some v) σ)(h:Q v H)(hc':autoParam ((x==("__classdict__" : Str))=false) nB):Ld B fi d E x σ H Q:=GY hm.mem h hc'
theorem aFm (hm:Has (x,NameKind.globalImplicit,some v) σ)(h:Q v H):Ld B fi d E x σ H Q:=xR hm.mem h
theorem Gq:bD fi .local:=.inl rfl
theorem aEk (h:autoParam ((fi.comp=λO=>false)) nA):bD fi .cell:=.inr ⟨rfl,h⟩
theorem aEr {σ':St}{K:St->Prop}(hr:Rep x v .local σ σ')(h:K σ'):∃k σ',Rep x v k σ σ'/\bD fi k/\K σ':=⟨_,_,hr,Gq,h⟩
theorem aE1 {σ':St}{K:St->Prop}(hr:Rep x v .cell σ σ')(h:K σ')(hc:autoParam ((fi.comp=λO=>false)) nA):∃k σ',Rep x v k σ σ'/\bD fi k/\K σ':=⟨_,_,hr,aEk hc,h⟩
end
theorem dE.nil {kvs:List (Str×Value)}(r:dE T h kvs []):kvs=[]:=by
 cases kvs with
 | nil=>rfl
 | cons _ _=>cases r.1
theorem dE.one {kvs:List (Str×Value)}(r:dE T h kvs [(x,p)]):∃v,kvs=[(x,v)]/\VR h T v p:=by
 cases kvs with
 | nil=>cases r.1
 | cons e l=>
   obtain ⟨y,v⟩:=e;obtain ⟨r1,r2⟩:=r;simp only [Bg,List.cons.injEq] at r2
   cases l with
   | nil=>
     cases r1 with | cons a b=>
     exact ⟨v,by rw [r2.1],a⟩
   | cons _ _=>cases r1 with | cons a b=>cases b
theorem VRs.one (r:VRs h T vs [p]):∃v,vs=[v]/\VR h T v p:=by
 obtain ⟨v,ws,rfl,a,b⟩:=r.head;rw [b.isnil];exact ⟨v,rfl,a⟩
theorem VRs.two {q:PV}(r:VRs h T vs [p,q]):∃v w,vs=[v,w]/\VR h T v p/\VR h T w q:=by
 obtain ⟨v,ws,rfl,a,b⟩:=r.head;obtain ⟨w,rfl,c⟩:=b.one;exact ⟨v,w,rfl,a,c⟩
theorem VRs.three {q r:PV}(x:VRs h T vs [p,q,r]):∃v w u,vs=[v,w,u]/\VR h T v p/\VR h T w q/\VR h T u r:=by
 obtain ⟨v,ws,rfl,a,b⟩:=x.head;obtain ⟨w,u,rfl,c,e⟩:=b.two;exact ⟨v,w,u,rfl,a,c,e⟩
theorem VRs.four {q r t:PV}(x:VRs h T vs [p,q,r,t]):∃v w u z,vs=[v,w,u,z]/\VR h T v p/\VR h T w q/\VR h T u r/\VR h T z t:=by
 obtain ⟨v,ws,rfl,a,b⟩:=x.head;obtain ⟨w,u,z,rfl,c,e,f⟩:=b.three;exact ⟨v,w,u,z,rfl,a,c,e,f⟩
section
theorem VRs.own {v:List Value}{p:List PV}(F:aA s H σ env B)(r:VRs s.heap (Trk H B) v p)(x:Tr (bT env) s' H' s H B):VRs s'.heap (Trk H' B) v p:=
 r.mono (λa o e q n=>x.step.heap a o e λy=>y.elim n λu=>F.own_data u e q) λO ha t=>Trk.new x.keys ha t
theorem nK {Q:List Value->Shared->Prop}(hh:A.handled=none)(I:Inv B H s)(hv:v=.tup xs\/aT H v xs)(r:VR s.heap (Trk H B) va v)(hn:n=xs.length)
   (h:∀vs s',Tr noU s' H s H B->VRs s'.heap (Trk H B) vs xs->Q vs s'):wpAny (model B.prog B.w) A (unpackItems va n none) Q E s:=by
 have mk:∀h':Heap,Heap.ExtBut s.heap.objs.size s.heap h'->s.heap.objs.size<=h'.objs.size->Tr noU { s with heap:=h' } H s H B:=λh' he hz=>
   Tr.ext I (λa o e=>he a o (AD (Heap.lt_size e)) e) hz rfl rfl
 rcases hv with rfl | hv
 . cases r with
   | tup ho hnt hs=>
     have hn':n=Array.size _:=hn.trans hs.asize.symm;subst hn';refine aU (unpackItems_tuple hh ⟨_,ho,rfl,_,rfl⟩ λh' he hz=>h _ _ (mk h' he hz) (hs.tr (mk h' he hz)))
 . obtain ⟨a,vs,m,rfl,ho,hs⟩:=hv.at I r
   have hn':n=Array.size _:=hn.trans hs.asize.symm;subst hn';refine aU (kun_itemsOf hh (aQ ho) λh' he hz=>h _ _ (mk h' he hz) (hs.tr (mk h' he hz)))
noncomputable def uv (B:aI)(fi:aN)(d:Nat)(E:EP):List Expr->List PV->St->AH->(SQ)->Prop
 | [],[],σ,H,Q=>Q σ H
 | t::ts,v::vs,σ,H,Q=>Asg B fi d E t v σ H λσ₁ H₁=>uv B fi d E ts vs σ₁ H₁ Q
 | _,_,_,_,_=>False
theorem eT {t:Expr}{r:List Expr}(h:av t=true):assignEach (t::r) env=(false,assign t env)::assignEach r env:=by
 cases t <;> first | rfl | cases h
theorem Eg:∀{ts:List Expr} {ps:List PV} {σ:St} {H:AH} {Q:SQ},uv B fi d E ts ps σ H Q->ts.all av=true->∀A s env,a9 B fi env->ai A d->Inv B H s->aA s H σ env B->∀vs,VRs s.heap (Trk H B) vs ps->
   wpAny (model B.prog B.w) A (assignInOrder ((assignEach ts env).map (·.2)) vs) (λO s'=>Gu B env H s Q s') E s:=by
 intro ts
 induction ts with
 | nil=>
   intro ps σ H Q h _ A s env e R I F vs r
   cases ps with
   | nil=>cases r;exact wpAny_pure ⟨σ,H,.refl I,F,h⟩
   | cons p ps=>exact h.elim
 | cons t ts ih=>
   intro ps σ H Q h hp A s env e R I F vs r
   cases ps with
   | nil=>exact h.elim
   | cons p ps=>
     obtain ⟨hp1,hp2⟩:=Bool.and_eq_true_iff.mp hp;obtain ⟨v,ws,rfl,r1,r2⟩:=r.head;rw [eT hp1];show wpAny _ A (do holding ws (assign t env v);assignInOrder ((assignEach ts env).map (·.2)) ws) _ _ _;refine wpAny_bind (wpAny_holding (wpm (h A s env e R I F v r1) (λO s₁ hh1=>?_)));obtain ⟨σ₁,H₁,t₁,F₁,q₁⟩:=hh1;exact wpm (ih q₁ hp2 A s₁ env e R t₁.inv F₁ ws (r2.own F t₁)) (λO s₂ hh1=>by obtain ⟨σ₂,H₂,t₂,F₂,q₂⟩:=hh1;exact ⟨σ₂,H₂,t₁.trans t₂,F₂,q₂⟩)
theorem C9 :∀{ts:List Expr},ts.all av=true->(assignEach ts env).length=ts.length/\(assignEach ts env).findIdx? (·.1)=none:=by
 intro ts
 induction ts with
 | nil=>
   intro _;exact ⟨rfl,rfl⟩
 | cons t ts ih=>
   intro hp;simp only [BI,BX] at hp;obtain ⟨h1,h2⟩:=ih hp.2;rw [eT hp.1];exact ⟨by simp [h1],by rw [List.findIdx?_cons,h2];rfl⟩
theorem xg {ts:List Expr}{Q:SQ}(hv:v=.tup xs\/aT H v xs)(hl:ts.length=xs.length)(h:uv B fi d E ts xs σ H Q)(hp:autoParam (ts.all av=true) nA) :
   Asg B fi d E (.Tuple ts k pos) v σ H Q:=λA s env e R I F va r=>by
 obtain ⟨l1,l2⟩:=C9 (env:=env) hp;show wpAny _ A (do standAt pos;unpack va (assignEach ts env)) _ _ s;refine wpAny_bind (wpAny_standAt ?_);unfold unpack;rw [l2,l1];refine wpAny_bind (wpAny_holding (nK R.handled I hv r hl λvs s' t rs=>?_));exact wpm (Eg h hp A s' env e R t.inv (F.tr I t) vs rs) (λO s₂ hh1=>by obtain ⟨σ₂,H₂,t₂,F₂,q₂⟩:=hh1;exact ⟨σ₂,H₂,t.up.trans t₂,F₂,q₂⟩)
theorem qY {ts:List Expr}{tpos:Pos}{value:Expr}
   (h:Ev E B d fi σ H value λv H₁=>Asg B fi d E (.Tuple ts k tpos) v σ H₁ Qn)
   (hs:autoParam (∀env,swapsWithSole [.Tuple ts k tpos] value pos.line env=pure false) nC)
   (hw:autoParam (∀env,a9 B fi env->swappedStores [.Tuple ts k tpos] value env=pure none) nC):X B fi d E (.Assign [.Tuple ts k tpos] value pos) σ H Qn Qf:=λA s env e R I F=>by
 refine Assign_Tuple (wpE (h A s env e R I F) (λv s₁ p H₁ t₁ r₁ h₁=>?_)) (hs env) (hw env e);exact wpm (h₁ A s₁ env e R t₁.inv (F.tr I t₁) v r₁) (λO s₂ hh1=>by obtain ⟨σ₂,H₂,t₂,F₂,q₂⟩:=hh1;exact ⟨σ₂,H₂,t₁.up.trans t₂,F₂,.inl ⟨rfl,q₂⟩⟩)
noncomputable def sR (fi:aN):List Str->List PV->St->(St->Prop)->Prop
 | [],[],σ,Q=>Q σ
 | x::xs,v::vs,σ,Q=>∃k σ',Rep x v k σ σ'/\bD fi k/\sR fi xs vs σ' Q
 | _,_,_,_=>False
theorem En :∀{xs:List Str} {ps:List PV} {σ:St} {H:AH} {Q:St->Prop},sR fi xs ps σ Q->∀A s,a9 B fi env->Inv B H s->aA s H σ env B->∀vs,VRs s.heap (Trk H B) vs ps->
   wpAny (model B.prog B.w) A (assignInOrder (xs.map λn=>bindName env n) vs) (λO s'=>∃σ',Tr (bT env) s' H s H B/\aA s' H σ' env B/\Q σ') E s:=by
 intro xs
 induction xs with
 | nil=>
   intro ps σ H Q h A s e I F vs r
   cases ps with
   | nil=>cases r;exact wpAny_pure ⟨σ,.refl I,F,h⟩
   | cons p ps=>exact h.elim
 | cons x xs ih=>
   intro ps σ H Q h A s e I F vs r
   cases ps with
   | nil=>exact h.elim
   | cons p ps=>
     obtain ⟨k,σ',hr,hk,h⟩:=h;obtain ⟨v,ws,rfl,r1,r2⟩:=r.head;show wpAny _ A (do holding ws (bindName env x v);assignInOrder (xs.map λn=>bindName env n) ws) _ _ _;refine wpAny_bind (wpAny_holding (wpAny_bindName (wpm (dD e I F r1 hr hk) (λO s₁ hh1=>?_))));obtain ⟨t₁,F₁⟩:=hh1;exact wpm (ih h A s₁ e t₁.inv F₁ ws (r2.own F t₁)) (λO s₂ hh1=>by obtain ⟨σ₂,t₂,F₂,q₂⟩:=hh1;exact ⟨σ₂,t₁.trans t₂,F₂,q₂⟩)
theorem mU (names:List Str){ts:List Expr}{tpos:Pos}{es:List Expr}{k':Nat}{epos:Pos}
   (hw:∀env,a9 B fi env->swappedStores [.Tuple ts k tpos] (.Tuple es k' epos) env=pure (some names))
   (h:EvL B fi d E es σ H λvs H₁=>names.length=vs.length/\sR fi names.reverse vs.reverse σ λσ'=>Qn σ' H₁)
   (hs:autoParam (∀env,swapsWithSole [.Tuple ts k tpos] (.Tuple es k' epos) pos.line env=pure false) nC)
   (hp:autoParam (es.all av=true) nA)(hl:autoParam (es.length<=64) nB):X B fi d E (.Assign [.Tuple ts k tpos] (.Tuple es k' epos) pos) σ H Qn Qf:=λA s env e R I F=>by
 have hv:Ev E B d fi σ H (.Tuple es k' epos) λv H₁=>∃vs,v=.tup vs/\names.length=vs.length/\sR fi names.reverse vs.reverse σ λσ'=>Qn σ' H₁:=
   mI (by
     have mono:∀{es:List Expr} {H:AH} {Q Q':LQ},(∀vs H',Q vs H'->Q' vs H')->EvL B fi d E es σ H Q->EvL B fi d E es σ H Q':=by
       intro es
       induction es with
       | nil=>intro H Q Q' hq h;exact hq _ _ h
       | cons x r ih=>intro H Q Q' hq h;exact Ev.mono h λv H' h'=>ih (λvs H'' h''=>hq _ _ h'') h'
     exact mono (λvs H' q=>⟨vs,rfl,q⟩) h) hp hl
 refine Assign_Tuple_swapped (wpm (hv A s env e R I F) (λv s₁ hh1=>?_)) (hs env) (hw env e);obtain ⟨p,H₁,t₁,r₁,vs,hvs,hlen,h₁⟩:=hh1;subst hvs;refine nK (xs:=vs) R.handled t₁.inv (.inl rfl) r₁ hlen λws s₂ t₂ rs=>?_;have t:=t₁.trans t₂;exact wpm (En h₁ A s₂ e t₂.inv (F.tr I t) ws.reverse rs.reverse) (λO s₃ hh1=>by obtain ⟨σ₃,t₃,F₃,q₃⟩:=hh1;exact ⟨σ₃,_,t.up.trans t₃,F₃,.inl ⟨rfl,q₃⟩⟩)
inductive aFr (B:aI)(H:AH)(s:Shared)(Q:AH->Prop)(s':Shared):Prop
 | mk (H':AH) (t:Tr noU s' H' s H B) (q:Q H')
noncomputable def Cu (B:aI)(d:Nat)(E:EP)(o i v:PV)(H:AH)(Q:AH->Prop):Prop:=
 ∀A s,ai A d->Inv B H s->∀vo vi va,VR s.heap (Trk H B) vo o->VR s.heap (Trk H B) vi i->VR s.heap (Trk H B) va v->
   wpAny (model B.prog B.w) A (setItem vo vi va) (λO s'=>aFr B H s Q s') E s
theorem qz {o i:Expr}{pos':Pos}{value:Expr}
   (h:Ev E B d fi σ H value λv H₁=>Ev E B d fi σ H₁ o λov H₂=>Ev E B d fi σ H₂ i λiv H₃=>Cu B d E ov iv v H₃ λH₄=>Qn σ H₄)
   (hs:autoParam (∀env,swapsWith value (some (.Subscript o i pos')) pos.line env=pure false) nC):X B fi d E (.Assign [.Subscript o i pos'] value pos) σ H Qn Qf:=λA s env e R I F=>by
 refine wpAny_Assign_Subscript (wpE (h A s env e R I F) (λv s₁ p H₁ t₁ r₁ h₁=>?_)) (hs env);refine wpE (h₁ A s₁ env e R t₁.inv (F.tr I t₁)) (λov s₂ p₂ H₂ t₂ r₂ h₂=>?_);refine wpE (h₂ A s₂ env e R t₂.inv (F.tr I (t₁.trans t₂))) (λiv s₃ p₃ H₃ t₃ r₃ h₃=>?_);have T:=(t₁.trans t₂).trans t₃;exact wpm (h₃ A s₃ R t₃.inv ov iv v (r₂.tr t₃) r₃ ((r₁.tr t₂).tr t₃)) (λO s₄ hh1=>by obtain ⟨H₄,t₄,q⟩:=hh1;exact ⟨σ,H₄,(T.trans t₄).up,F.tr I (T.trans t₄),.inl ⟨rfl,q⟩⟩)
theorem fQ {o i:Expr}{pos':Pos}{op:Operator}{value:Expr}
   (h:Ev E B d fi σ H o λov H₁=>Ev E B d fi σ H₁ i λiv H₂=>V2 H₂ E B d iv ov getItem λold H₃=>Ev E B d fi σ H₃ value λv H₄=>V2 H₄ E B d v old (inplaceOp op) λnew H₅=>Cu B d E ov iv new H₅ λH₆=>Qn σ H₆)
   (ha:autoParam (∀ov iv new,augStore i ov iv new=(do holding [new,ov,iv] (setItem ov iv new);release [new,ov,iv] [];pure .next)) nC):X B fi d E (.AugAssign (.Subscript o i pos') op value pos) σ H Qn Qf:=λA s env e R I F=>by
 refine wpAny_AugAssign_Subscript_any (wpE (h A s env e R I F) (λov s₁ p H₁ t₁ r₁ h₁=>?_)) ha;refine wpE (h₁ A s₁ env e R t₁.inv (F.tr I t₁)) (λiv s₂ p₂ H₂ t₂ r₂ h₂=>?_);refine wpE (h₂ A s₂ R t₂.inv ov iv (r₁.tr t₂) r₂) (λold s₃ p₃ H₃ t₃ r₃ h₃=>?_);have T₃:=(t₁.trans t₂).trans t₃;refine wpE (h₃ A s₃ env e R t₃.inv (F.tr I T₃)) (λv s₄ p₄ H₄ t₄ r₄ h₄=>?_);refine wpE (h₄ A s₄ R t₄.inv old v (r₃.tr t₄) r₄) (λnew s₅ p₅ H₅ t₅ r₅ h₅=>?_);have T₅:=(T₃.trans t₄).trans t₅;exact wpm (h₅ A s₅ R t₅.inv ov iv new ((((r₁.tr t₂).tr t₃).tr t₄).tr t₅) (((r₂.tr t₃).tr t₄).tr t₅) r₅) (λO s₆ hh1=>by obtain ⟨H₆,t₆,q⟩:=hh1;exact ⟨σ,H₆,(T₅.trans t₆).up,F.tr I (T₅.trans t₆),.inl ⟨rfl,q⟩⟩)
theorem VRs.set {v:Value}(r:VR h T v p){ps:List PV}(q:VRs h T vs ps)(i:Nat):VRs h T (vs.set i v) (ps.set i p):=by
 induction i generalizing vs ps with
 | zero=>cases q with
   | nil=>exact .nil
   | cons a b=>exact .cons r b
 | succ i ih=>cases q with
   | nil=>exact .nil
   | cons a b=>exact .cons a (ih b)
theorem rB {k:Int}{Q:AH->Prop}(u:Upd a xs (xs.set k.toNat v) H H')(h0:0<=k)(hfit:k<2 ^ 63)(hn:k<xs.length)(h:Q H') :
   Cu B d E (.lref a) (.int k) v H Q:=λA s R I vo vi va r1 r2 r3=>by
 obtain ⟨O,rfl⟩:=r1.inv;obtain ⟨O,rfl⟩:=r2.inv;obtain ⟨hg,vs,n,ho,hv⟩:=I.objs _ u.has;have hsz:=hv.asize;refine ki_setAt ho h0 hfit (by rw [hsz];exact hn) ?_;refine ⟨H',Tr.upd (t:=s.toks) u I (Heap.SameBut.update ..) (vs':=vs.setIfInBounds k.toNat va) (n':=if (vs.setIfInBounds k.toNat va).size==vs.size then n else n+1) (Heap.get?_update_self _ ho rfl) ?_,h⟩;rw [Array.toList_setIfInBounds];exact VRs.set r3 hv _
noncomputable def cS (B:aI)(H:AH)(name:Str)(id:String)(ov:PV):Prop:=
 ∀A (E:EP) s va,Inv B H s->VR s.heap (Trk H B) va ov->∀(pl:Sem Bool) (Q:Value×List Value->Shared->Prop),Q (.builtin id,[va]) s->wpAny (model B.prog B.w) A (getMethod va name pl) Q E s
theorem GJ {o:Expr}{name:Str}{apos:Pos}{args:List Expr}
   (h:Ev E B d fi σ H o λov H₁=>∃id,cS B H₁ name id ov/\EvL B fi d E args σ H₁ λvs H₂=>aF [] E H₂ B d (.raw (.builtin id)) (ov::vs) Q)
   (hp:autoParam (args.all av=true) nA)
   (he:autoParam (∀env,eval (.Call (.Attribute o name apos) args [] pos) env=(do
     let ov<-eval o env
     standAt apos.atName
     let (f,first)<-holding [ov] (getMethod ov name (do return (<-importBound o env).getD true))
     callWith pos f first (backTo pos (starEach args env)) [])) nC) :
   Ev E B d fi σ H (.Call (.Attribute o name apos) args [] pos) Q:=λA s env e R I F=>by
 refine MethodCall_ (wpm (h A s env e R I F) (λov s₁ hh1=>?_)) (he env);obtain ⟨p,H₁,t₁,r₁,id,hm,h₁⟩:=hh1;refine hm A E s₁ ov t₁.inv r₁ _ _ ?_;refine ae (au hp (wpL (ao h₁ hp A s₁ env e R t₁.inv (F.tr I t₁)) (λvs s₂ ps H₂ t₂ l₂ q₂ h₂=>?_)));refine ⟨λQ' hQ'=>wpAny_pure (hQ' _),?_⟩;refine wpm (h₂ A s₂ R t₂.inv (.builtin id) (ov::vs) [] (.raw _) (.cons (r₁.tr t₂) q₂) ⟨.nil,rfl⟩) (λO O p=>(p.trans t₂).trans t₁)
theorem aF.at {f:PV}{args:List PV}(h:∀A s,ai A d->Inv B H s->∀vs,VRs s.heap (Trk H B) vs args->∀fv,VR s.heap (Trk H B) fv f->wpAny (model B.prog B.w) A (call fv vs []) (aL B H s Q) E s):aF [] E H B d f args Q:=
 λA s R I fv vs kvs h1 h2 h3=>by rw [h3.nil];exact h A s R I vs h2 fv h1
end
section
noncomputable def l9 (Q:PQ)(xs:List PV)(H:AH):Prop:=Q (.list xs) H\/∀a,Q (.lref a) ((a,xs)::H)
theorem aL.newL (I:Inv B H s)(hv:VRs s.heap (Trk H B) vs xs)(h:l9 Q xs H):aL B H s Q (.ref s.heap.objs.size) { s with heap:=s.heap.push (aO vs.toArray 0) }:=by
 rcases h with h | h
 . exact ⟨_,_,Tr.push I _,.list (Heap.get?_push_size _ rfl) (aS I) (hv.tr (Tr.push I _)),h⟩
 . exact ⟨_,_,Tr.track I hv,.lref _,h _⟩
theorem aL.newL' {vs:Array Value}(t:Tr noU s' H s H B)(hv:VRs s'.heap (Trk H B) vs.toList xs)(h:l9 Q xs H):aL B H s Q (.ref s'.heap.objs.size) { s' with heap:=s'.heap.push { cls:=.type "list",data:=.seq vs } }:=
 (aL.newL (vs:=vs.toList) t.inv hv h).trans t
theorem sC {y:Str}(hs:x.length+y.length<=sizeLine)(h:Q (.str (x++y)) H):V2 H E B d (.str y) (.str x) (binaryOp .Add) Q:=λA s R I va vb r1 r2=>by
 obtain ⟨O,rfl⟩:=r1.inv;obtain ⟨O,rfl⟩:=r2.inv;exact SB.add (λt' k=>⟨_,_,Tr.tok I _,.str _ _,h⟩) hs
theorem EZ {y:Str}(hs:x.length+y.length<=sizeLine)(h:Q (.str (x++y)) H):V2 H E B d (.str y) (.str x) (inplaceOp .Add) Q:=λA s R I va vb r1 r2=>by
 obtain ⟨O,rfl⟩:=r1.inv;obtain ⟨O,rfl⟩:=r2.inv;exact SB.iadd (λt' k=>⟨_,_,Tr.tok I _,.str _ _,h⟩) hs
theorem sT {n:Int}(hok:MulOk x n)(h:Q (.str (Txt.mul x n)) H):V2 H E B d (.int n) (.str x) (binaryOp .Mult) Q:=λA s R I va vb r1 r2=>by
 obtain ⟨O,rfl⟩:=r1.inv;obtain ⟨O,rfl⟩:=r2.inv;exact SB.mul hok (λt' k=>⟨_,_,Tr.tok I _,.str _ _,h⟩)
theorem Str.toList_beq (x y:Str):(x.cps.toList==y.cps.toList)=decide (x=y):=by
 have:(x=y)↔x.cps.toList=y.cps.toList:=⟨λh=>by rw [h],λh=>by obtain ⟨⟨a⟩⟩:=x;obtain ⟨⟨b⟩⟩:=y;simp at h;subst h;rfl⟩;by_cases h:x=y
 . subst h;simp
 . rw [decide_eq_false h]
   exact beq_eq_false_iff_ne.mpr λq=>h (this.mpr q)
theorem wX {y:Str}(h:Q (.bool (decide (x=y))) H):V2 H E B d (.str y) (.str x) (compareOp .Eq) Q:=λA s R I va vb r1 r2=>by
 obtain ⟨O,rfl⟩:=r1.inv;obtain ⟨O,rfl⟩:=r2.inv;exact P.eq_str (by rw [Str.toList_beq];exact aL.here I (.bool _) h)
theorem v4 {y:Str}(h:Q (.bool (!decide (x=y))) H):V2 H E B d (.str y) (.str x) (compareOp .NotEq) Q:=λA s R I va vb r1 r2=>by
 obtain ⟨O,rfl⟩:=r1.inv;obtain ⟨O,rfl⟩:=r2.inv;exact P.ne_str (by rw [bne,Str.toList_beq];exact aL.here I (.bool _) h)
theorem rh {y:Str}(h:Q (.bool (!Txt.contains x y)) H):V2 H E B d (.str x) (.str y) (compareOp .NotIn) Q:=λA s R I va vb r1 r2=>by
 obtain ⟨O,rfl⟩:=r1.inv;obtain ⟨O,rfl⟩:=r2.inv;exact SB.notContains (aL.here I (.bool _) h)
theorem jO {name:Str}{id:String}(hm:∀{A:Around} {E:EP} {s:Shared} {t:Tok} {pl:Sem Bool} {Q:Value×List Value->Shared->Prop},Q (.builtin id,[.str x t]) s->wpAny (model B.prog B.w) A (getMethod (.str x t) name pl) Q E s):cS B H name id (.str x):=
 λA E s va I r pl Q q=>by obtain ⟨O,rfl⟩:=r.inv;exact hm q
theorem dj :cS B H "join" "str.join" (.str x):=jO GM.join
theorem tu :cS B H "split" "str.split" (.str x):=jO GM.split
theorem py :cS B H "replace" "str.replace" (.str x):=jO GM.replace
theorem tN :cS B H "encode" "str.encode" (.str x):=jO λh=>GM.of (.str _ _) (typeIs_str _ _ _) PySem.F.slot_str_encode PySem.F.type_str_encode GM.noRef h
theorem gB {i:Int}:cS B H "bit_length" "int.bit_length" (.int i):=λA E s va I r pl Q q=>by obtain ⟨O,rfl⟩:=r.inv;exact getMethod_int_bit_length q
theorem li {ys:List Str}:∀{vs:List Value},VRs h T vs (ys.map PV.str)->StrsAre vs ys:=by
 induction ys with
 | nil=>intro vs r;rw [r.isnil];exact .nil
 | cons y ys ih=>
   intro vs r;obtain ⟨v,ws,rfl,a,b⟩:=r.head;obtain ⟨O,rfl⟩:=a.inv;exact .cons _ _ (ih b)
theorem dg {ys:List Str}(hv:v=.tup (ys.map PV.str)\/aT H v (ys.map PV.str))(hok:(ys.map (·.length)).sum+ys.length*x.length<=16777216)(h:Q (.str (Txt.join x ys)) H) :
   aF [] E H B d (.raw (.builtin "str.join")) [.str x,v] Q:=aF.at λA s R I vs r fv rf=>by
 obtain ⟨a,b,rfl,r1,r2⟩:=r.two;obtain ⟨O,rfl⟩:=rf.inv;obtain ⟨O,rfl⟩:=r1.inv;rcases hv with rfl | hv
 . cases r2 with | tup ho hn hs=>exact join_tuple ⟨_,ho,rfl,_,rfl⟩ (li hs) hok (λt' k=>⟨_,_,Tr.tok I _,.str _ _,h⟩)
 . obtain ⟨l,vs,n,rfl,ho,hs⟩:=hv.at I r2
   exact join_list (aQ ho) (li hs) hok (λt' k=>⟨_,_,Tr.tok I _,.str _ _,h⟩)
theorem fh {i:Int}(h:Q (.int (Builtin.Int.intBits i)) H):aF [] E H B d (.raw (.builtin "int.bit_length")) [.int i] Q:=aF.at λA s R I vs r fv rf=>by
 obtain ⟨a,rfl,r1⟩:=r.one;obtain ⟨O,rfl⟩:=rf.inv;obtain ⟨O,rfl⟩:=r1.inv;exact call_int_bit_length ⟨_,_,Tr.tok I _,.int _ _,h⟩
theorem VRs.strs :∀(l:List (Str×Tok)),VRs h T (strValues l) ((l.map (·.1)).map PV.str)
 | []=>.nil
 | (y,t)::r=>.cons (.str y t) (VRs.strs r)
theorem Tr.pushTok (I:Inv B H s)(o:Obj)(k:Nat):Tr noU { s with heap:=s.heap.push o,toks:=k } H s H B:=(Tr.tok I k).trans (Tr.push (I.tok k) o)
open Builtin.Str Builtin in
set_option tactic.hygienic true in
theorem vC {y:Str}(hy:(y.length==0)=false)(hx:x.length<=16777214)(h:l9 Q ((Txt.split x y).map PV.str) H) :
   aF [] E H B d (.raw (.builtin "str.split")) [.str x,.str y] Q:=aF.at λA s R I vs r fv rf=>by
 obtain ⟨a,b,rfl,r1,r2⟩:=r.two;obtain ⟨_,rfl⟩:=rf.inv;obtain ⟨_,rfl⟩:=r1.inv;obtain ⟨_,rfl⟩:=r2.inv;rename_i t u;have hsz:x.length<=sizeLine:=by rw [sizeLine_eq];lia
 have hsz2:(partsBetween x (occurrences x y 0 x.length (x.length+1)) y.length).length<=sizeLine:=by
   have h1:=StrLaws.occ_length_le x y 0 x.length (x.length+1)
   have h2:(partsBetween x (occurrences x y 0 x.length (x.length+1)) y.length).length=(occurrences x y 0 x.length (x.length+1)).length+1:=by
     simp [partsBetween]
   rw [h2,sizeLine_eq];have:=StrLaws.occ_length_le_len x y 0 x.length (x.length+1)
   lia
 have fin:∀(l:List (Str×Tok)) k,l.map (·.1)=Txt.split x y->aL B H s Q (.ref s.heap.objs.size) { s with heap:=s.heap.push { cls:=.type "list",data:=.seq (strValues l).toArray },toks:=k }:=λl k hl=>by
   have:=aL.newL' (s:=s) (s':={ s with toks:=k }) (vs:=(strValues l).toArray) (Q:=Q) (Tr.tok I k) (VRs.strs l) (by rw [hl];exact h);exact this
 cases h1:(decide (x.length<y.length) || decide (strKind x<strKind y))
 . cases hf:(occurrences x y 0 x.length (x.length+1)).isEmpty
   . refine call_meets PySem.F.slot_str_split (typeIs_str _ _ _) PySem.F.entry_str_split (PySem.F.args_str_split_2 _ _) (meets_str_split_sep x y t u h1 hy hf hsz hsz2) ?_
     show wants _ E _ { s with toks:=_,heap:=s.heap.push { cls:=.type "list",data:=.seq (strsFrom s.toks (partsBetween x (occurrences x y 0 x.length (x.length+1)) y.length)).toArray } };rw [strsFrom_eq];exact fin (numbered s.toks _) _ ((numbered_texts _ _).trans ((if_neg (ne_true_of_eq_false h1)).trans (if_neg (ne_true_of_eq_false hf))).symm)
   . exact call_meets PySem.F.slot_str_split (typeIs_str _ _ _) PySem.F.entry_str_split (PySem.F.args_str_split_2 _ _) (meets_str_split_not_found x y t u h1 hy hf)
       (fin [(x,t)] s.toks ((if_neg (ne_true_of_eq_false h1)).trans (if_pos hf)).symm)
 . exact call_meets PySem.F.slot_str_split (typeIs_str _ _ _) PySem.F.entry_str_split (PySem.F.args_str_split_2 _ _) (meets_str_split_cannot_occur x y t u h1)
     (fin [(x,t)] s.toks (if_pos h1).symm)
end
section
theorem Tr.made {a:Addr}{vs:Array Value}{n:Nat}(I:Inv B H s)(hk:∀a o,s.heap.get? a=some o->s'.heap.get? a=some o)(hz:s.heap.objs.size<=s'.heap.objs.size)(hg:s'.gens=s.gens)(ho:s'.os=s.os)
   (ha:s.heap.objs.size<=a)(hD:s'.heap.get? a=some (aO vs n))(hv:VRs s.heap (Trk H B) vs.toList xs):Tr noU s' ((a,xs)::H) s H B:=by
 have J:Inv B H s':=I.ext hk hz (hg▸I.bare) ho
 have lt_of:∀{b:Addr},Trk H B b->b<s.heap.objs.size:=λq=>by
   rcases q with q | q
   . obtain ⟨p,hp,rfl⟩:=mmp q
     obtain ⟨O,O,O,h2,O⟩:=I.objs p hp;exact Heap.lt_size h2
   . rcases q with q | q
     . obtain ⟨p,hp,rfl⟩:=mmp q
       obtain ⟨O,h2,O⟩:=I.tabs p hp;exact Heap.lt_size h2
     . obtain ⟨p,hp,rfl⟩:=mmp q
       exact Heap.lt_size (I.hid p hp).1
 have hn:a∉H.map (·.1):=λq=>absurd (lt_of (.inl q)) (nlr ha)
 have ht:∀b,b<s.heap.objs.size->Trk ((a,xs)::H) B b->Trk H B b:=by
   intro b hb t;rcases t with t | t
   . rcases mcp t with q | q
     . exact absurd hb (by rw [show b=a from q];exact nlr ha)
     . exact .inl q
   . exact .inr t
 refine ⟨⟨J.keep,J.size,J.tabs,J.bare,J.os,List.nodup_cons.mpr ⟨hn,I.nodup⟩,λq hq=>let ⟨x,b,c,e⟩:=I.hid q hq;⟨hk _ _ x,b,c,λt=>(mcp t).elim (λt=>absurd (Heap.lt_size x) (by rw [t];exact nlr ha)) e⟩,λp hp=>?_⟩,⟨λb o e O=>hk b o e,hz,λi x e=>hg▸e⟩,λb hb=>?_⟩
 . rcases mcp hp with rfl | hp
   . exact ⟨Heap.get?_none_of_le (ntr I.size ha),vs,n,hD,hv.mono (λa o e O O=>hk a o e) ht⟩
   . obtain ⟨h1,vs',n',h2,h3⟩:=I.objs p hp
     exact ⟨h1,vs',n',hk _ _ h2,h3.mono (λa o e O O=>hk a o e) ht⟩
 . rcases mcp hb with q | q
   . exact .inr (by rw [show b=a from q];exact ha)
   . exact .inl q
theorem aL.made {a:Addr}{vs:Array Value}(I:Inv B H s)(hk:∀a o,s.heap.get? a=some o->s'.heap.get? a=some o)(hz:s.heap.objs.size<=s'.heap.objs.size)(hg:s'.gens=s.gens)(ho:s'.os=s.os)
   (ha:s.heap.objs.size<=a)(hD:s'.heap.get? a=some (aO vs n))(hv:VRs s.heap (Trk H B) vs.toList xs)(h:l9 Q xs H):aL B H s Q (.ref a) s':=by
 rcases h with h | h
 . have t:=Tr.made I hk hz hg ho ha hD hv
   exact ⟨_,_,t.drop_key,t.inv.freeze,h⟩
 . exact ⟨_,_,Tr.made I hk hz hg ho ha hD hv,.lref _,h _⟩
noncomputable def EvO (B:aI)(fi:aN)(d:Nat)(E:EP):Option Expr->St->AH->(Option Int->AH->Prop)->Prop
 | none,_,H,Q=>Q none H
 | some e,σ,H,Q=>Ev E B d fi σ H e λv H₁=>(∃i,v=.int i/\Q (some i) H₁)\/(v=.none/\Q none H₁)
inductive HD (B:aI)(H:AH)(s:Shared)(Q:Option Int->AH->Prop)(v:Value)(s':Shared):Prop
 | mk (i:Option Int) (H':AH) (t:Tr noU s' H' s H B) (p:IsPart v i) (q:Q i H')
theorem wpO {M:Model}{t:Sem Value}{Q:Option Int->AH->Prop}{P:Value->Shared->Prop}(h:wpAny M A t (HD B H s Q) E s)(k:∀v s' i H',Tr noU s' H' s H B->IsPart v i->Q i H'->P v s'):wpAny M A t P E s:=
 wpm h λv s' p=>p.casesOn (k v s')
theorem uo {o:Option Expr}{Q:Option Int->AH->Prop}(h:EvO B fi d E o σ H Q):∀A s env,a9 B fi env->ai A d->Inv B H s->aA s H σ env B->
   wpAny (model B.prog B.w) A (evalPart o env) (HD B H s Q) E s:=λA s env e R I F=>by
 cases o with
 | none=>exact wpAny_pure ⟨none,H,.refl I,.none,h⟩
 | some x=>
   refine wpE (h A s env e R I F) (λv s' p H' t r q=>?_);rcases q with ⟨i,rfl,q⟩ | ⟨rfl,q⟩
   . obtain ⟨O,rfl⟩:=r.inv;exact ⟨some i,H',t,.int _ _,q⟩
   . obtain ⟨O,rfl⟩:=r.inv;exact ⟨none,H',t,.none,q⟩
noncomputable def n8 (B:aI)(d:Nat)(E:EP)(o:PV)(l u k:Option Int)(H:AH)(Q:PQ):Prop:=
 ∀A s,ai A d->Inv B H s->∀vo sl vl vu vk,VR s.heap (Trk H B) vo o->s.heap.IsSliceOf sl vl vu vk->IsPart vl l->IsPart vu u->IsPart vk k->wpAny (model B.prog B.w) A (getItem vo (.ref sl)) (aL B H s Q) E s
theorem zL {value:Expr}{lo hi st:Option Expr}{spos:Pos}
   (h:Ev E B d fi σ H value λo H₁=>EvO B fi d E lo σ H₁ λl H₂=>EvO B fi d E hi σ H₂ λu H₃=>EvO B fi d E st σ H₃ λk H₄=>oG B o H₄/\n8 B d E o l u k H₄ Q) :
   Ev E B d fi σ H (.Subscript value (.Slice lo hi st spos) pos) Q:=λA s env e R I F=>by
 refine Subscript_ (wpE (h A s env e R I F) (λov s₁ o H₁ t₁ r₁ h₁=>?_));refine wpAny_Slice (wpO (uo h₁ A s₁ env e R t₁.inv (F.tr I t₁)) (λvl s₂ l H₂ t₂ p₂ h₂=>?_));have T₂:=t₁.trans t₂;refine wpO (uo h₂ A s₂ env e R t₂.inv (F.tr I T₂)) (λvu s₃ u H₃ t₃ p₃ h₃=>?_);have T₃:=T₂.trans t₃;refine wpO (uo h₃ A s₃ env e R t₃.inv (F.tr I T₃)) (λvk s₄ k H₄ t₄ p₄ h₄=>?_);have t₅:=Tr.push t₄.inv { cls:=.type "slice",data:=.fields #[vl,vu,vk] };have T:=(T₃.trans t₄).trans t₅;have r₅:=(((r₁.tr t₂).tr t₃).tr t₄).tr t₅;refine wpAny_bind (h₄.1 A E _ ov t₅.inv r₅ _ ?_);exact rG (wpm (h₄.2 A _ R t₅.inv ov _ vl vu vk r₅ (Heap.IsSliceOf.new ..) p₂ p₃ p₄) (λO O p=>p.trans T))
noncomputable def pick {α:Type}(xs:List α)(lo hi st:Option Int):List α:=
 (sliceRange (sliceBounds lo hi st xs.length).1 (sliceBounds lo hi st xs.length).2.1 (sliceBounds lo hi st xs.length).2.2).filterMap (xs[·]?)
theorem VRs.at (r:VRs h T vs xs)(i:Nat):(vs[i]?=none/\xs[i]?=none)\/∃v p,vs[i]?=some v/\xs[i]?=some p/\VR h T v p:=by
 rcases AU i xs.length with hi | hi
 . obtain ⟨v,e,q⟩:=r.get (List.getElem?_eq_getElem hi)
   exact .inr ⟨v,_,e,List.getElem?_eq_getElem hi,q⟩
 . exact .inl ⟨List.getElem?_eq_none (by rw [r.length];exact hi),List.getElem?_eq_none hi⟩
theorem VRs.places (r:VRs h T vs xs):∀l:List Nat,VRs h T (l.filterMap (vs[·]?)) (l.filterMap (xs[·]?))
 | []=>.nil
 | i::l=>by
   rcases r.at i with ⟨e1,e2⟩ | ⟨v,p,e1,e2,q⟩
   . rw [List.filterMap_cons_none e1,List.filterMap_cons_none e2];exact VRs.places r l
   . rw [BT e1,BT e2];exact .cons q (VRs.places r l)
theorem VRs.pick {vs:Array Value}(r:VRs h T vs.toList xs)(lo hi st:Option Int):VRs h T (slicePick vs lo hi st).toList (pick xs lo hi st):=by
 have e:(slicePick vs lo hi st).toList=(sliceRange (sliceBounds lo hi st xs.length).1 (sliceBounds lo hi st xs.length).2.1 (sliceBounds lo hi st xs.length).2.2).filterMap (vs.toList[·]?):=by
   unfold slicePick;rw [r.asize];simp [Array.getElem?_toList]
 rw [e];exact r.places _
theorem k3 {l u k:Option Int}(hv:aT H v xs)(h0:k≠some 0)(hz:xs.length<=sizeLine)(h:l9 Q (pick xs l u k) H):n8 B d E v l u k H Q:=λA s R I vo sl vl vu vk r hs pl pu pk=>by
 obtain ⟨a,vs,n,rfl,ho,hr⟩:=hv.at I r;exact wpAny_getItem_list_slice (aQ ho) hs pl pu pk h0 (aL.newL' (.refl I) (hr.pick l u k) h) (by rw [hr.asize];exact hz)
noncomputable def bE (x:Str)(l u k:Option Int):Str:=if (k.getD 1==1 && (Builtin.Str.strSliceIndices l u (k.getD 1) x.length).length==x.length)=true then x else ⟨((Builtin.Str.strSliceIndices l u (k.getD 1) x.length).filterMap (x.cps[·]?)).toArray⟩
theorem iK (x:Str)(l u k:Option Int)(h0:k≠some 0):(bE x l u k).length<=x.length:=by
 unfold bE;split
 . exact Aa _
 . show (List.filterMap _ _).toArray.size<=x.length
   rw [BO];refine ntr (List.length_filterMap_le _ _) (sliceIndicesBy_le _ _ _ ?_ x.length)
   cases k with
   | none=>decide
   | some k=>exact λq=>h0 (by simpa using q)
theorem l6 {v:Value}{i:Option Int}(p:IsPart v i):∃j:Option (Int×Tok),v=partValue j/\j.map (·.1)=i:=by
 cases p with
 | none=>exact ⟨none,rfl,rfl⟩
 | int i t=>exact ⟨some (i,t),rfl,rfl⟩
theorem mG {l u k:Option Int}(h0:k≠some 0)(hz:x.length<=sizeLine)(h:Q (.str (bE x l u k)) H):n8 B d E (.str x) l u k H Q:=λA s R I vo sl vl vu vk r hs pl pu pk=>by
 obtain ⟨O,rfl⟩:=r.inv;obtain ⟨l,rfl,rfl⟩:=l6 pl;obtain ⟨u,rfl,rfl⟩:=l6 pu;obtain ⟨k,rfl,rfl⟩:=l6 pk
 have hk:((k.map (·.1)).getD 1==0)=false:=by
   cases k with
   | none=>rfl
   | some k=>simpa using λq:k.1=0=>h0 (by simp [q])
 refine wpAny_getItem_str_slice (l:=l) (u:=u) (st:=k) hs hk ?_;exact post_val_or_str ⟨ntr (iK x (l.map (·.1)) (u.map (·.1)) (k.map (·.1)) h0) hz,λt' c=>⟨_,_,Tr.tok I c,.str _ _,h⟩⟩
theorem CI {a b:PV}(ha:aT H a xs)(hb:aT H b ys)(hz:xs.length+ys.length<=sizeLine)(h:l9 Q (xs++ys) H):V2 H E B d b a (binaryOp .Add) Q:=λA s R I va vb r1 r2=>by
 obtain ⟨l,vs,n,rfl,ho,hr⟩:=ha.at I r1;obtain ⟨l',ws,m,rfl,ho',hr'⟩:=hb.at I r2;refine P.add_list ho ho' (aL.newL' (.refl I) (vs:=vs++ws) ?_ h) (by rw [hr.asize,hr'.asize];exact hz);rw [Array.toList_append];exact hr.append hr'
theorem VRs.rep (r:VRs h T vs xs):∀n:Nat,VRs h T (List.replicate n vs).flatten (List.replicate n xs).flatten
 | 0=>.nil
 | n+1=>by rw [BP,BP,BA,BA];exact r.append (VRs.rep r n)
open PySem.F in
set_option tactic.hygienic true in
theorem rH {a:PV}{x:Int}(ha:aT H a xs)(hlo:-(2 ^ 63:Int)<=x)(hhi:x<2 ^ 63)(hsz:xs.length*x.toNat<=2 ^ 24)(h:l9 Q (List.replicate x.toNat xs).flatten H):V2 H E B d (.int x) a (binaryOp .Mult) Q:=λA s R I va vb r1 r2=>by
 obtain ⟨l,vs,n,rfl,ho,hr⟩:=ha.at I r1;obtain ⟨_,rfl⟩:=r2.inv;rename_i u;have hsz':vs.size*x.toNat<=2 ^ 24:=by rw [hr.asize];exact hsz
 obtain ⟨vs⟩:=vs;have hsz'':vs.length*x.toNat<=16777216:=by simpa using hsz'
 refine wpAny_binaryOp_repeat_ref (T:="list") (U:="int") ∅ ⟨_,ho,rfl⟩ (λs'=>typeIs_int s' x u) noFill_list_mul PySem.F.fills_int_mul PySem.F.slot_int_rmul repeat_list PySem.F.slot_int_index.lookup
   (call_meets PySem.F.slot_int_rmul (typeIs_int s x u) PySem.F.entry_int_rmul (PySem.F.args_int_rmul_2 _ _) (lm_int_rmul_list_any x u l vs.toArray n none #[])
     ⟨ho,rfl,⟨_,ho,rfl⟩,call_meets PySem.F.slot_list_mul ⟨_,ho,rfl⟩ PySem.F.entry_list_mul (PySem.F.args_list_mul_2 _ _)
       (lm_list_mul_any l vs.toArray n none #[] x u (by simp [Builtin.List.listFitsIndex];lia) (by rw [BO];lia) (by simp [Builtin.List.listTooLong,sizeLine];lia))
       ⟨ho,?_⟩⟩)
 rw [listMul_foldl_if];exact aL.newL' (.refl I) (vs:=(List.replicate x.toNat vs).flatten.toArray) (hr.rep _) h
theorem eQ {name:Str}{id:String}(hv:aT H v xs)(slot:Slot "list" name id)(hty:typeOf (.builtin id)=pure (.type "method_descriptor")):cS B H name id v:=λA E s va I r pl Q q=>by
 obtain ⟨a,vs,n,rfl,ho,O⟩:=hv.at I r;exact getMethod_list_of slot hty (aQ ho) ⟨_,ho,rfl⟩ q
theorem bA (hv:aT H v xs):cS B H "append" "list.append" v:=eQ hv PySem.F.slot_list_append PySem.F.type_list_append
theorem kH (hv:aT H v xs):cS B H "insert" "list.insert" v:=eQ hv PySem.F.slot_list_insert PySem.F.type_list_insert
theorem ju (hv:aT H v xs):cS B H "extend" "list.extend" v:=eQ hv PySem.F.slot_list_extend PySem.F.type_list_extend
theorem pL (hv:aT H v xs):cS B H "reverse" "list.reverse" v:=eQ hv PySem.F.slot_list_reverse PySem.F.type_list_reverse
theorem rP (hv:aT H v xs):cS B H "pop" "list.pop" v:=eQ hv PySem.F.slot_list_pop PySem.F.type_list_pop
theorem bQ {H':AH}(u:Upd a xs (xs++[p]) H H')(hz:xs.length<=sizeLine)(h:Q .none H'):aF [] E H B d (.raw (.builtin "list.append")) [.lref a,p] Q:=aF.at λA s R I vs r fv rf=>by
 obtain ⟨v,w,rfl,r1,r2⟩:=r.two;obtain ⟨O,rfl⟩:=rf.inv;obtain ⟨O,rfl⟩:=r1.inv;exact wpm (j8 u I r2 hz) (λr s' hh1=>by obtain ⟨e,t⟩:=hh1;exact ⟨.none,H',t,e▸.none,h⟩)
theorem et {H':AH}{vs vs':Array Value}{n n':Nat}(u:Upd a xs xs' H H')(I:Inv B H s)(hs:Heap.SameBut a s.heap h')(ho':h'.get? a=some (aO vs' n'))
   (hv:VRs s.heap (Trk H B) vs'.toList xs')(h:Q .none H'){t:Nat}:aL B H s Q .none { s with heap:=h',toks:=t }:=⟨.none,H',Tr.upd u I hs ho' hv,.none,h⟩
noncomputable def fO {α:Type}(xs:List α)(k:Nat)(x:α):List α:=xs.take k++x::xs.drop k
set_option tactic.hygienic true in
theorem jy {i:Int}(h0:0<=i)(h1:i<2 ^ 63)(u:Upd a xs (fO xs (min i.toNat xs.length) p) H H')(hz:xs.length<=sizeLine)(h:Q .none H'):aF [] E H B d (.raw (.builtin "list.insert")) [.lref a,.int i,p] Q:=aF.at λA s R I vs r fv rf=>by
 obtain ⟨v,w,y,rfl,r1,r2,r3⟩:=r.three;obtain ⟨_,rfl⟩:=rf.inv;obtain ⟨_,rfl⟩:=r1.inv;obtain ⟨_,rfl⟩:=r2.inv;rename_i t;obtain ⟨hg,vs,n,ho,hv⟩:=I.objs _ u.has;have hsz:vs.size=xs.length:=hv.asize;refine call_meets PySem.F.slot_list_insert ⟨_,ho,rfl⟩ PySem.F.entry_list_insert (PySem.F.args_list_insert_3 _ _ _) (PySem.AutoSeq1.list_insert_list_int_val_1 a vs n i t y (by simp [Builtin.List.listFitsIndex];lia) (by rw [hsz];exact hz)) ⟨ho,?_⟩;refine et u I (Heap.SameBut.update ..) (vs:=vs) (vs':=_) (n:=n) (n':=_) (Heap.get?_update_self _ ho rfl) ?_ h;simp only [show ¬i<0 by lia,if_false]
 have:((vs.extract 0 (min i.toNat vs.size)).push y++vs.extract (min i.toNat vs.size)).toList=vs.toList.take (min i.toNat xs.length)++y::vs.toList.drop (min i.toNat xs.length):=by
   have hl:vs.toList.length=xs.length:=by simpa using hsz
   rw [hsz];simp;rw [Bo (by rw [Bm,hl];exact Aa _)]
 rw [this];exact (hv.take _).append (.cons r3 (hv.drop _))
theorem qu (u:Upd a xs xs.reverse H H')(hz:xs.length<=sizeLine)(h:Q .none H'):aF [] E H B d (.raw (.builtin "list.reverse")) [.lref a] Q:=aF.at λA s R I vs r fv rf=>by
 obtain ⟨v,rfl,r1⟩:=r.one;obtain ⟨O,rfl⟩:=rf.inv;obtain ⟨O,rfl⟩:=r1.inv;obtain ⟨hg,vs,n,ho,hv⟩:=I.objs _ u.has;have hsz:vs.size=xs.length:=hv.asize;refine call_meets PySem.F.slot_list_reverse ⟨_,ho,rfl⟩ PySem.F.entry_list_reverse (PySem.F.args_list_reverse_1 _) (PySem.AutoSeq1.list_reverse_list_0 a vs n (by rw [hsz];exact hz)) ⟨ho,?_⟩;refine et u I (Heap.SameBut.update ..) (vs:=vs) (vs':=_) (n:=n) (n':=_) (Heap.get?_update_self _ ho rfl) ?_ h;simp only [Array.toList_reverse];exact hv.reverse
theorem kW (hv:v=.tup ys\/aT H v ys)(u:Upd a xs (xs++ys) H H')(hz:xs.length+ys.length<=16777216)(h:Q .none H'):aF [] E H B d (.raw (.builtin "list.extend")) [.lref a,v] Q:=aF.at λA s R I vs r fv rf=>by
 obtain ⟨x,y,rfl,r1,r2⟩:=r.two;obtain ⟨O,rfl⟩:=rf.inv;obtain ⟨O,rfl⟩:=r1.inv;obtain ⟨hg,vs,n,ho,hr⟩:=I.objs _ u.has;have hsz:vs.size=xs.length:=hr.asize;have e24:(2:Nat) ^ 24=16777216:=by decide
 rcases hv with rfl | hv
 . cases r2 with
   | @tup b ws m _ ho' hn hr'=>
     have hsz':=hr'.asize;refine call_meets PySem.F.slot_list_extend ⟨_,ho,rfl⟩ PySem.F.entry_list_extend (PySem.F.args_list_extend_2 _ _) (PySem.AutoSeq1.list_extend_list_tuple_0 a vs n b ws m (by simp [Builtin.List.listTooLong,sizeLine];intro _;rw [hsz,hsz'];lia) (by rw [hsz,sizeLine_eq];lia) (by rw [hsz,hsz',sizeLine_eq];lia)) ⟨ho,ho',?_⟩;refine et u I (Heap.SameBut.update ..) (vs:=vs) (vs':=_) (n:=n) (n':=_) (Heap.get?_update_self _ ho rfl) ?_ h;simp only [Array.toList_append];exact hr.append hr'
 . obtain ⟨b,ws,m,rfl,ho',hr'⟩:=hv.at I r2
   have hsz':=hr'.asize;refine call_meets PySem.F.slot_list_extend ⟨_,ho,rfl⟩ PySem.F.entry_list_extend (PySem.F.args_list_extend_2 _ _) (PySem.AutoSeq1.list_extend_list_list_0 a vs n b ws m (by simp [Builtin.List.listTooLong,sizeLine];intro _;rw [hsz,hsz'];lia) (by rw [hsz,sizeLine_eq];lia) (by rw [hsz,hsz',sizeLine_eq];lia)) ⟨ho,ho',?_⟩;refine et u I (Heap.SameBut.update ..) (vs:=vs) (vs':=_) (n:=n) (n':=_) (Heap.get?_update_self _ ho rfl) ?_ h;simp only [Array.toList_append];exact hr.append hr'
theorem xd (hv:v=.tup xs\/aT H v xs)(hz:xs.length<=sizeLine)(h:l9 Q xs H):aF [] E H B d (.raw (.type "list")) [v] Q:=aF.at λA s R I vs r fv rf=>by
 obtain ⟨x,rfl,r1⟩:=r.one;obtain ⟨O,rfl⟩:=rf.inv;rcases hv with rfl | hv
 . cases r1 with
   | tup ho hn hr=>
     exact aU (call_list_seq (hsz:=by rw [hr.asize];exact hz) _ (.inr rfl) ho rfl rfl λh' c' hk hD hz'=>aL.made I hk hz' rfl rfl (Aa _) hD hr h)
 . obtain ⟨b,ws,m,rfl,ho',hr'⟩:=hv.at I r1
   exact aU (call_list_seq (hsz:=by rw [hr'.asize];exact hz) b (.inl rfl) ho' rfl rfl λh' c' hk hD hz'=>aL.made I hk hz' rfl rfl (Aa _) hD hr' h)
theorem lh {ns:List Int}:∀{vs:List Value},VRs h T vs (ns.map PV.int)->IntsAre vs ns:=by
 induction ns with
 | nil=>intro vs r;rw [r.isnil];exact .nil
 | cons y ys ih=>
   intro vs r;obtain ⟨v,ws,rfl,a,b⟩:=r.head;obtain ⟨O,rfl⟩:=a.inv;exact .cons _ _ (ih b)
theorem Tr.kept {t:Nat}(I:Inv B H s)(hk:∀b o,s.heap.get? b=some o->h'.get? b=some o)(hz:s.heap.objs.size<=h'.objs.size):Tr noU { s with heap:=h',toks:=t } H s H B:=Tr.ext I hk hz rfl rfl
theorem D8 {ns:List Int}(hv:aT H v (ns.map PV.int))(h:Q (.int ns.sum) H):aF [] E H B d (.raw (.builtin "sum")) [v] Q:=aF.at λA s R I vs r fv rf=>by
 obtain ⟨x,rfl,r1⟩:=r.one;obtain ⟨O,rfl⟩:=rf.inv;obtain ⟨l,ws,m,rfl,ho,hr⟩:=hv.at I r1;have hi:=lh hr;obtain ⟨xs,hx⟩:=hi.allInts.items;rw [Array.toArray_toList] at hx;subst hx;refine aU (sum_intListG R.handled (aQ ho) λh' tk t' hk hz=>?_);have e1:ns=xs.toList.map (·.1):=by rw [<-nums_intItems];exact hi.numsOf.symm
 have e2:preSum (numAt xs) xs.size=ns.sum:=by rw [preSum_eq,Bo (by simp),e1]
 rw [e2];exact ⟨_,_,Tr.kept I hk hz,.int _ _,h⟩
theorem jf {a b:Int}(h:Q (.int (max a b)) H):aF [] E H B d (.raw (.builtin "max")) [.int a,.int b] Q:=aF.at λA s R I vs r fv rf=>by
 obtain ⟨x,y,rfl,r1,r2⟩:=r.two;obtain ⟨O,rfl⟩:=rf.inv;obtain ⟨O,rfl⟩:=r1.inv;obtain ⟨O,rfl⟩:=r2.inv;refine aU (max_two_ints R.handled λh' tk hk hz=>⟨_,_,Tr.kept I hk hz,?_,h⟩);by_cases hc:b > a
 . rw [if_pos hc,show max a b=b by lia];exact .int _ _
 . rw [if_neg hc,show max a b=a by lia];exact .int _ _
theorem xo {a b:Int}(h:Q (.int (min a b)) H):aF [] E H B d (.raw (.builtin "min")) [.int a,.int b] Q:=aF.at λA s R I vs r fv rf=>by
 obtain ⟨x,y,rfl,r1,r2⟩:=r.two;obtain ⟨O,rfl⟩:=rf.inv;obtain ⟨O,rfl⟩:=r1.inv;obtain ⟨O,rfl⟩:=r2.inv;refine aU (min_two_ints R.handled λh' tk hk hz=>⟨_,_,Tr.kept I hk hz,?_,h⟩);by_cases hc:b<a
 . rw [if_pos hc,show min a b=b by lia];exact .int _ _
 . rw [if_neg hc,show min a b=a by lia];exact .int _ _
theorem CF {a:Int}(h:Q (.int a.natAbs) H):aF [] E H B d (.raw (.builtin "abs")) [.int a] Q:=aF.at λA s R I vs r fv rf=>by
 obtain ⟨x,rfl,r1⟩:=r.one;obtain ⟨O,rfl⟩:=rf.inv;obtain ⟨O,rfl⟩:=r1.inv;refine call_abs_int λu tk=>⟨_,_,Tr.tok I _,?_,h⟩;by_cases hc:a<0
 . rw [if_pos hc,show ((a.natAbs:Nat):Int)=-a by lia];exact .int _ _
 . rw [if_neg hc,show ((a.natAbs:Nat):Int)=a by lia];exact .int _ _
end
section
noncomputable def hZ (B:aI)(d:Nat)(E:EP)(tgt:Expr)(f:PV)(args:List PV)(H:AH)(Q:IQ):Prop:=
 ∀A s,ai A d->Inv B H s->∀fv vs,VR s.heap (Trk H B) fv f->VRs s.heap (Trk H B) vs args->wpAny (model B.prog B.w) A (call fv vs []) (λx s₁=>wpAny (model B.prog B.w) A (pyIter x) (oz B A tgt H s Q) E s₁) E s
theorem Cd {func:Expr}{args:List Expr}{Q:IQ}
   (h:Ev E B d fi σ H func λf H₁=>bo B f/\EvL B fi d E args σ H₁ λvs H₂=>hZ B d E tgt f vs H₂ Q)
   (hp:autoParam (args.all av=true) nA)
   (he:autoParam (∀env,eval (.Call func args [] pos) env=(do callWith pos (<-eval func env) [] (backTo pos (starEach args env)) (backToKw pos (keywordEach [] env)))) nC) :
   EvI B fi d E tgt (.Call func args [] pos) σ H Q:=λA s env e R I F=>by
 refine Call_ (wpm (h A s env e R I F) (λfv s₁ hh1=>?_)) (he env);obtain ⟨f,H₁,t₁,q₁,hk,h₁⟩:=hh1;refine ae (au hp (wpL (ao h₁ hp A s₁ env e R t₁.inv (F.tr I t₁)) (λvs s₂ ps H₂ t₂ l₂ q₂ h₂=>?_)));refine ⟨hk A E H₂ s₂ fv t₂.inv (q₁.tr t₂),?_⟩;refine wpm (h₂ A s₂ R t₂.inv fv vs (q₁.tr t₂) q₂) (λO O p=>wpm p (λit s₄ m=>m.trans (t₁.trans t₂) (jj (t₁.trans t₂))))
noncomputable def Src (B:aI)(deps H:AH)(s:Shared)(l:Addr)(xs:List PV):Prop:=
 (∃vs n,s.heap.get? l=some (aO vs n)/\VRs s.heap (Trk H B) vs.toList xs)/\(¬Trk H B l\/((l,xs)∈deps/\(l,xs)∈H))
theorem Src.stable {P:Addr->Prop}{G:Nat->Prop}{deps:AH}(h:Src B deps H s l xs)(e:Evo B P G deps H s H' s'):Src B deps H' s' l xs:=by
 obtain ⟨⟨vs,n,hl,hv⟩,h | ⟨h1,h2⟩⟩:=h
 . exact ⟨⟨vs,n,e.seq _ _ hl ⟨_,_,rfl⟩ h,e.vrs hv⟩,.inl (e.trk (Heap.lt_size hl) h)⟩
 . have hm:=e.deps _ h1
   obtain ⟨O,vs',n',ho,hv'⟩:=e.inv.objs _ hm;exact ⟨⟨vs',n',ho,hv'⟩,.inr ⟨h1,hm⟩⟩
theorem Src.only {P:Addr->Prop}{G:Nat->Prop}{deps:AH}(h:Src B deps H s l xs)(hS:∀p,P p->∀o,s.heap.get? p=some o->¬ah o)(o:bt s' G s H B P):Src B deps H s' l xs:=by
 obtain ⟨⟨vs,n,hl,hv⟩,h⟩:=h;exact ⟨⟨vs,n,o.heap _ _ hl λp=>hS _ p _ hl ⟨_,_,rfl⟩,hv.mono (λa ob e q O=>o.heap a ob e λp=>hS _ p _ e q) λO O t=>t⟩,h⟩
noncomputable def cI:PV->List PV->AH
 | .lref a,xs=>[(a,xs)]
 | _,_=>[]
theorem Src.of {v:PV}{xs:List PV}(hv:aT H v xs)(I:Inv B H s)(r:VR s.heap (Trk H B) va v):∃l,va=.ref l/\Src B (cI v xs) H s l xs/\(∀p∈cI v xs,p∈H):=by
 rcases hv with rfl | ⟨a,rfl,hm⟩
 . cases r with | list ho hn hs=>exact ⟨_,rfl,⟨⟨_,_,ho,hs⟩,.inl hn⟩,(by intros;first | contradiction | (intro q;cases q))⟩
 . obtain ⟨O,rfl⟩:=r.inv
   obtain ⟨O,vs,n,ho,hs⟩:=I.objs _ hm;exact ⟨a,rfl,⟨⟨vs,n,ho,hs⟩,.inr ⟨mcs,hm⟩⟩,λp hp=>by rcases mcp hp with rfl | hp;exact hm;cases hp⟩
noncomputable def Own (B:aI)(H:AH)(a:Addr):Prop:=B.g.objs.size<=a/\¬Trk H B a
end
section
theorem d0 {ws:List Addr}{t:Nat}(I:Inv B H s)(hk:∀a o,s.heap.get? a=some o->a∉ws->h'.get? a=some o)(hz:s.heap.objs.size<=h'.objs.size)(ho:∀p∈ws,Own B H p)(hL:∀p∈ws,∀o,s.heap.get? p=some o->bW o):bt { s with heap:=h',toks:=t } (λO=>False) s H B (·∈ws):=
 bt.make I hk hz ho hL (λO O e O=>e) (Aa _) I.bare rfl
theorem el {P:Addr->Prop}{G:Nat->Prop}{deps:AH}(e:Evo B P G deps H s H' s')(h:Own B H a)(ha:a<s.heap.objs.size):Own B H' a:=⟨h.1,e.trk ha h.2⟩
theorem VR.ow {P:Addr->Prop}{G:Nat->Prop}{v:Value}{p:PV}(r:VR s.heap (Trk H B) v p)(o:bt s' G s H B P)(hS:∀p,P p->∀o,s.heap.get? p=some o->¬ah o):VR s'.heap (Trk H B) v p:=
 r.mono (λa ob e q O=>o.heap a ob e λp=>hS _ p _ e q) λO O t=>t
theorem df {vs:Array Value}(hd:o.data=.fields vs)(h:∀q t,vs[1]?≠some (.str q t)):bW o:=by
 refine ⟨λq=>?_,λws q t e=>?_⟩
 . obtain ⟨O,O,q⟩:=q;rw [hd] at q;cases q
 . rw [hd] at e;cases e;exact h q t
noncomputable def dG (step:Int):Int->Nat->List PV
 | _,0=>[]
 | x,n+1=>.int x::dG step (x+step) n
inductive JR (B:aI)(it:Addr)(c:Int)(items:List PV)(H:AH)(s:Shared):Prop
 | mk (x:Int) (n:Nat) (a:IsRangeIter s.heap it x (n:Nat) c) (b:items=dG c x n) (d:Own B H it)
theorem ny {it:Addr}{x l c:Int}(e:IsRangeIter h it x l c):∀o,h.get? it=some o->bW o:=λo ho=>by
 rw [e] at ho;cases ho;exact df rfl (by intro q t;simp [rawInt])
theorem EQ (tgt:Expr)(it:Addr)(c:Int):mS B [] tgt (.ref it) (·∈[it]) (λO=>False) (JR B it c) where
 self:=λitems H s A E Q ⟨x,n,hit,_,_⟩ q=>wpAny_pyIter_slot ⟨_,hit,rfl⟩ PySem.F.slot_range_iterator_iter (wpAny_call_entry PySem.F.slot_range_iterator_iter ⟨_,hit,rfl⟩ PySem.F.entry_range_iterator_iter
     (show wpAny _ _ (ret (.ref it)) _ _ s from wpAny_pure ⟨_,rfl,"range_iterator",_,⟨_,hit,rfl⟩,PySem.F.slot_range_iterator_next.lookup,q⟩) (PySem.F.args_range_iterator_iter_1 _))
 notseq:=λitems H s ⟨x,n,hit,_,_⟩ p hp o ho=>by rw [msp hp] at ho;exact (ny hit o ho).1
 stable:=λitems H s H' s' ⟨x,n,hit,hi,ho⟩ e=>⟨x,n,e.own _ _ hit (List.mem_singleton.mpr rfl),hi,el e ho (Heap.lt_size hit)⟩
 next:=λitems H s A ⟨x,n,hit,hi,ho⟩ R I=>by
   have hL:∀p∈[it],∀o,s.heap.get? p=some o->bW o:=λp hp o e=>ny hit o (by rw [<-msp hp];exact e);have hO:∀p∈[it],Own B H p:=λp hp=>by rw [msp hp];exact ho
   subst hi
   cases n with
   | zero=>exact aU (wpAny_pyNext_range_end R.handled hit (by simp) λh' hx hz=>⟨rfl,d0 (t:=s.toks) I (λa o e hn=>hx a o (λq=>hn (by simp [q])) e) hz hO hL⟩)
   | succ n=>
     refine wpAny_pyNext_range_item hit (by lia) λh' hit' hs=>⟨_,rfl,c6 hit' rfl rfl ?_⟩;have o:=d0 (t:=s.toks+1) I (λa o e hn=>(hs.2 a λq=>hn (by simp [q])).trans e) (by rw [hs.1];exact Aa _) hO hL;exact ⟨o,.int _ _,x+c,n,by rw [show ((n+1:Nat):Int)-1=(n:Nat) by lia] at hit';exact hit',rfl,ho⟩
noncomputable def rangeLen (a b:Int):Nat:=(b-a).toNat
theorem gy (a b:Int):Builtin.Range.rangeSize a b 1=(rangeLen a b:Nat):=by
 unfold rangeLen;rw [rangeSize_one];split <;> lia
theorem iL {r:Addr}{a b c:Int}{t u v:Tok}{n:Nat}{Q:IQ}{s₀:Shared}(I:Inv B H s)(hr:IsRange s.heap r a b c t u v)(hsm:Builtin.Range.small a b c=true)(hn:Builtin.Range.rangeSize a b c=(n:Nat))(h:Q (dG c a n) [] H)
   (t₀:Tr noU s H s₀ H B)(hg:s₀.gens.size<=s.gens.size):wpAny (model B.prog B.w) A (pyIter (.ref r)) (oz B A tgt H s₀ Q) E s:=by
 refine wpAny_pyIter_range hr hsm ?_;rw [hn];have t:=Tr.push I { cls:=.type "range_iterator",data:=.fields #[rawInt a,rawInt (n:Nat),rawInt c] };refine i4.made ⟨_,[],H,_,_,_,t₀.trans t,EQ tgt s.heap.objs.size c,⟨a,n,Heap.get?_push_size _ rfl,rfl,I.size,aS I⟩,λp hp=>?_,λO f=>f.elim,(λO hm=>(by cases hm)),h⟩;rw [msp hp];exact ⟨t₀.step.size,cG,aS I⟩
set_option tactic.hygienic true in
theorem qp {b:Int}{Q:IQ}(hlo:-(2 ^ 62)<=b)(hhi:b<2 ^ 62)(h:Q (dG 1 0 b.toNat) [] H):hZ B d E tgt (.raw (.type "range")) [.int b] H Q:=λA s R I fv vs r1 r2=>by
 obtain ⟨_,rfl⟩:=r1.inv;obtain ⟨v,rfl,r⟩:=r2.one;obtain ⟨_,rfl⟩:=r.inv;rename_i tb;refine call_range_1 ?_;have t:=Tr.pushTok I { cls:=.type "range",data:=.fields #[.int 0 s.toks,.int b tb,.int 1 (s.toks+1)] } (s.toks+1+1);exact iL t.inv (Heap.get?_push_size _ rfl) (small_one ∅ ∅ hlo hhi) (gy 0 b) (by simpa [rangeLen] using h) t (Aa _)
set_option tactic.hygienic true in
theorem pO {a b:Int}{Q:IQ}(hlo:-(2 ^ 62)<=b)(hhi:b<2 ^ 62)(hlo':-(2 ^ 62)<=a)(hhi':a<2 ^ 62)(h:Q (dG 1 a (b-a).toNat) [] H):hZ B d E tgt (.raw (.type "range")) [.int a,.int b] H Q:=λA s R I fv vs r1 r2=>by
 obtain ⟨_,rfl⟩:=r1.inv;obtain ⟨v,w,rfl,r,r'⟩:=r2.two;obtain ⟨_,rfl⟩:=r.inv;cases r';rename_i ta tb;refine call_range_2 ?_;have t:=Tr.pushTok I { cls:=.type "range",data:=.fields #[.int a ta,.int b tb,.int 1 s.toks] } (s.toks+1);exact iL t.inv (Heap.get?_push_size _ rfl) (small_one hlo' hhi' hlo hhi) (gy a b) h t (Aa _)
noncomputable def kh:Nat->List PV->List PV
 | _,[]=>[]
 | i,x::r=>.tup [.int i,x]::kh (i+1) r
inductive JE (B:aI)(deps:AH)(e it l:Addr)(xs:List PV)(items:List PV)(H:AH)(s:Shared):Prop
 | mk (i:Nat) (old:Value) (a:IsEnum s.heap e it (i:Nat) old) (b:s.heap.IsListIter it l i) (c:Src B deps H s l xs) (d:items=kh i (xs.drop i)) (f:Own B H e) (g:Own B H it) (h:e≠it)
theorem fG {e it:Addr}{i:Int}{old:Value}(x:IsEnum h e it i old):∀o,h.get? e=some o->bW o:=λo ho=>by
 rw [x] at ho;cases ho;exact df rfl (by intro q t;simp)
theorem Fw (elts:List Expr)(k:Nat)(pos:Pos)(deps:AH)(e it l:Addr)(xs:List PV):mS B deps (.Tuple elts k pos) (.ref e) (·∈[e,it]) (λO=>False) (JE B deps e it l xs) where
 self:=λitems H s A E Q ⟨i,old,he,_,_,_,_,_,_⟩ q=>wpAny_pyIter_enum he q
 notseq:=λitems H s ⟨i,old,he,hit,_,_,_,_,_⟩ p hp o ho=>by
   rcases mcp hp with rfl | hp
   . exact (fG he o ho).1
   . rw [msp hp] at ho;exact (cD hit o ho).1
 stable:=λitems H s H' s' ⟨i,old,he,hit,hs,hi,ho,ho',hne⟩ ev=>
   ⟨i,old,ev.own _ _ he (by simp),lT ev (by simp) hit,hs.stable ev,hi,el ev ho (Heap.lt_size he),el ev ho' (uP hit),hne⟩
 next:=λitems H s A ⟨i,old,he,hit,hs,hi,ho,ho',hne⟩ R I=>by
   have hL:∀p∈[e,it],∀o,s.heap.get? p=some o->bW o:=λp hp o eq=>by
     rcases mcp hp with rfl | hp
     . exact fG he o eq
     . rw [msp hp] at eq;exact cD hit o eq
   have hO:∀p∈[e,it],Own B H p:=λp hp=>by
     rcases mcp hp with rfl | hp
     . exact ho
     . rw [msp hp];exact ho'
   have hS:∀p,p∈[e,it]->∀o,s.heap.get? p=some o->¬ah o:=λp hp o eq=>(hL p hp o eq).1;obtain ⟨⟨vs,n,hl,hv⟩,O⟩:=id hs;subst hi;rcases hv.at i with ⟨e1,e2⟩ | ⟨v,p,e1,e2,hr⟩
   . have hd:xs.drop i=[]:=List.drop_eq_nil_iff.mpr (List.getElem?_eq_none_iff.mp e2)
     rw [hd];exact aU (wpAny_pyNext_enum_end R.handled he hit (aQ hl) (by rw [<-Array.getElem?_toList];exact e1) λh' hx hz=>⟨rfl,d0 (t:=s.toks) I (λa o eq hn=>hx a o (λq=>hn (by simp [q])) eq) hz hO hL⟩)
   . have hd:xs.drop i=p::xs.drop (i+1):=by
       obtain ⟨hi,e3⟩:=List.getElem?_eq_some_iff.mp e2;rw [<-e3];exact (Bv hi)
     rw [hd];refine wpAny_pyNext_enum_item he hit (aQ hl) (by rw [<-Array.getElem?_toList];exact e1) hne λh' ho1 hit' hT hsz hk=>⟨_,rfl,?_⟩;refine wpAny_letOwnedTupleGo_enum ho1 λh₂ he₂ hs₂=>?_;have hz:s.heap.objs.size<=h₂.objs.size:=by rw [hs₂.1,hsz];exact Aj _
     have o:=d0 (t:=s.toks+1) I (h':=h₂) (λa o eq hn=>(hs₂.2 a λq=>hn (by simp [q])).trans (hk a o (λq=>hn (by simp [q])) (λq=>hn (by simp [q])) eq)) hz hO hL;have helt:=Heap.lt_size he;refine ⟨o,?_,i+1,v,by simpa using he₂,?_,hs.only hS o,rfl,ho,ho',hne⟩
     . refine .tup (vs:=#[.int i s.toks,v]) (n:=0) ((hs₂.2 _ (Ax helt)).trans hT) (aS I) ?_
       exact .cons (.int _ _) (.cons (hr.ow o hS) .nil)
     . obtain ⟨oi,a,b⟩:=hit'
       exact ⟨oi,(hs₂.2 _ (Ne.symm hne)).trans a,b⟩
theorem vF {elts:List Expr}{Q:IQ}(hv:aT H v xs)(h:Q (kh 0 xs) (cI v xs) H):hZ B d E (.Tuple elts k pos) (.raw (.type "enumerate")) [v] H Q:=λA s R I fv vs r1 r2=>by
 obtain ⟨O,rfl⟩:=r1.inv;obtain ⟨va,rfl,r⟩:=r2.one;obtain ⟨l,rfl,hs,hd⟩:=Src.of hv I r;obtain ⟨⟨ws,n,hl,hr⟩,O⟩:=id hs;refine call_enumerate_list (aQ hl) λh' he hit hsz hk=>?_;refine wpAny_pyIter_enum he ?_;have hz:s.heap.objs.size<=h'.objs.size:=by rw [hsz];exact Af _ _
 have t:=Tr.kept (t:=s.toks) I hk hz
 have hn:∀{b:Addr},s.heap.objs.size<=b->Own B H b:=λ{b} hb=>⟨ntr I.size hb,λq=>absurd (nlt (by
     rcases q with q | q | q
     . obtain ⟨p,hp,rfl⟩:=mmp q
       obtain ⟨O,O,O,e,O⟩:=I.objs p hp;exact Heap.lt_size e
     . obtain ⟨p,hp,rfl⟩:=mmp q
       obtain ⟨O,e,O⟩:=I.tabs p hp;exact Heap.lt_size e
     . obtain ⟨p,hp,rfl⟩:=mmp q
       exact Heap.lt_size (I.hid p hp).1) hb) (Al _)⟩
 refine i4.made ⟨kh 0 xs,cI v xs,H,_,_,_,t,Fw elts k pos (cI v xs) _ _ l xs,⟨0,.none,he,hit,?_,rfl,hn (Aj _),hn (Aa _),Nat.succ_ne_self _⟩,λp hp=>?_,λO f=>f.elim,hd,h⟩
 . exact ⟨⟨ws,n,hk _ _ hl,hr.tr t⟩,hs.2⟩
 . rcases mcp hp with rfl | hp
   . exact ⟨Aj _,by show _<h'.objs.size;rw [hsz];exact An _,(hn (Aj _)).2⟩
   . rw [msp hp]
     exact ⟨Aa _,by show _<h'.objs.size;rw [hsz];exact AG ∅,(hn (Aa _)).2⟩
inductive JV (B:aI)(deps:AH)(it l:Addr)(xs:List PV)(items:List PV)(H:AH)(s:Shared):Prop
 | mk (i:Nat) (a:i<=xs.length) (b:s.heap.IsRevIter it l ((i:Int)-1)) (c:Src B deps H s l xs) (d:items=(xs.take i).reverse) (e:Own B H it)
theorem oh {it:Addr}{i:Int}(x:h.IsRevIter it l i):∀o,h.get? it=some o->bW o:=λo ho=>by
 obtain ⟨o',e,O,hd⟩:=x;rw [e] at ho;cases ho;exact df hd (by intro q t;simp [rawInt])
theorem aA4 {it:Addr}{i:Int}(x:h.IsRevIter it l i):it<h.objs.size:=by obtain ⟨o',e,O⟩:=x;exact Heap.lt_size e
theorem G9 (tgt:Expr)(deps:AH)(it l:Addr)(xs:List PV):mS B deps tgt (.ref it) (·∈[it]) (λO=>False) (JV B deps it l xs) where
 self:=λitems H s A E Q ⟨i,_,hit,_,_,_⟩ q=>wpAny_pyIter_revIter hit q
 notseq:=λitems H s ⟨i,_,hit,_,_,_⟩ p hp o ho=>by rw [msp hp] at ho;exact (oh hit o ho).1
 stable:=λitems H s H' s' ⟨i,hi,hit,hs,hx,ho⟩ e=>⟨i,hi,hit.at λo q=>e.own _ _ q (List.mem_singleton.mpr rfl),hs.stable e,hx,el e ho (aA4 hit)⟩
 next:=λitems H s A ⟨i,hi,hit,hs,hx,ho⟩ R I=>by
   have hL:∀p∈[it],∀o,s.heap.get? p=some o->bW o:=λp hp o e=>oh hit o (by rw [<-msp hp];exact e);have hO:∀p∈[it],Own B H p:=λp hp=>by rw [msp hp];exact ho
   have hS:∀p,p∈[it]->∀o,s.heap.get? p=some o->¬ah o:=λp hp o eq=>(hL p hp o eq).1;subst hx
   cases i with
   | zero=>exact aU (wpAny_pyNext_rev_end R.handled (by simpa using hit) λh' hx hz=>⟨rfl,d0 (t:=s.toks) I (λa o e hn=>hx a o (λq=>hn (by simp [q])) e) hz hO hL⟩)
   | succ i=>
     obtain ⟨⟨vs,n,hl,hv⟩,O⟩:=id hs;have hlt:i<xs.length:=hi;obtain ⟨v,e1,hr⟩:=hv.get (List.getElem?_eq_getElem hlt);have ht:(xs.take (i+1)).reverse=xs[i]::(xs.take i).reverse:=by rw [BR hlt];simp
     rw [ht];rw [show ((i+1:Nat):Int)-1=(i:Nat) by lia] at hit;refine wpAny_pyNext_rev_item hit (aQ hl) (by rw [<-Array.getElem?_toList];exact e1) λh' hit' hs'=>⟨_,rfl,?_⟩;have o:=d0 (t:=s.toks) I (λa o e hn=>(hs'.2 a λq=>hn (by simp [q])).trans e) (by rw [hs'.1];exact Aa _) hO hL;obtain ⟨oo,a1,a2,a3⟩:=id hit';refine c6 a1 a2 rfl ⟨o,hr.ow o hS,i,Ac hlt,hit',hs.only hS o,rfl,ho⟩
theorem xY {Q:IQ}(hv:aT H v xs)(h:Q xs.reverse (cI v xs) H):hZ B d E tgt (.raw (.type "reversed")) [v] H Q:=λA s R I fv vs r1 r2=>by
 obtain ⟨O,rfl⟩:=r1.inv;obtain ⟨va,rfl,r⟩:=r2.one;obtain ⟨l,rfl,hs,hd⟩:=Src.of hv I r;obtain ⟨⟨ws,n,hl,hr⟩,O⟩:=id hs;refine call_reversed_list (aQ hl) ?_;have t:=Tr.push I (revObj l ((ws.size:Int)-1));have hit:({ s with heap:=s.heap.push (revObj l ((ws.size:Int)-1)) }:Shared).heap.IsRevIter s.heap.objs.size l ((xs.length:Int)-1):=⟨_,Heap.get?_push_size _ rfl,rfl,by rw [<-hr.asize];rfl⟩;refine wpAny_pyIter_revIter hit (i4.made ⟨xs.reverse,cI v xs,H,_,_,_,t,G9 tgt (cI v xs) s.heap.objs.size l xs,⟨xs.length,Aa _,hit,⟨⟨ws,n,Heap.get?_push_of_some _ hl,hr.tr t⟩,hs.2⟩,by simp,I.size,aS I⟩,λp hp=>?_,λO f=>f.elim,hd,h⟩);rw [msp hp];exact ⟨Aa _,cG,aS I⟩
end
section
mutual
noncomputable def pd:PV->PyData
 | .none=>.none
 | .bool b=>.bool b
 | .int i=>.int i
 | .str s=>.str s
 | .tup xs=>.tuple (pds xs)
 | .list xs=>.list (pds xs)
 | .bytes _=>.dict []
 | .lref _=>.dict []
 | .raw _=>.dict []
noncomputable def pds:List PV->List PyData
 | []=>[]
 | x::xs=>pd x::pds xs
end
theorem tD {a b:Bool}(h:(a && b)=true):a=true/\b=true:=(Bool.and_eq_true_iff).mp h
theorem VR.reads {v:Value}(r:VR h T v p):(pd p).canLay0=true->∃as,Reads h v (pd p) as:=
 VR.rec (motive_1:=λv p O=>(pd p).canLay0=true->∃as,Reads h v (pd p) as) (motive_2:=λvs ps O=>PyData.canLayAll0 (pds ps)=true->∃as,ReadsAll h vs (pds ps) as)
   (λO=>⟨_,.none⟩) (λb O=>⟨_,.bool b⟩) (λi t O=>⟨_,.int i t⟩) (λs t O=>⟨_,.str s t⟩) (λO O c=>(BW c).elim) (λho O O ih c=>(ih c).elim λO r=>⟨_,.tuple ho rfl rfl r⟩)
   (λho O O ih c=>(ih c).elim λO r=>⟨_,.list ho rfl rfl r⟩) (λO c=>(BW c).elim) (λO c=>(BW c).elim) (λO=>⟨_,.nil⟩) (λO O ih1 ih2 c=>by
     obtain ⟨c1,c2⟩:=tD c;obtain ⟨as,r1⟩:=ih1 c1;obtain ⟨bs,r2⟩:=ih2 c2
     exact ⟨_,.cons r1 r2⟩) r
theorem VRs.reads {ps:List PV}(r:VRs h T vs ps):PyData.canLayAll0 (pds ps)=true->∃as,ReadsAll h vs (pds ps) as:=
 r.ind (P:=λvs ps=>PyData.canLayAll0 (pds ps)=true->∃as,ReadsAll h vs (pds ps) as) (λO=>⟨_,.nil⟩) λO O O O a O ih c=>by
   obtain ⟨c1,c2⟩:=tD c;obtain ⟨as,r1⟩:=a.reads c1;obtain ⟨bs,r2⟩:=ih c2;exact ⟨_,.cons r1 r2⟩
noncomputable def IsD (H:AH)(v p:PV):Prop:=v=p\/∃xs,aT H v xs/\p=.list xs
theorem IsD.self :IsD H v v:=.inl rfl
theorem IsD.items (h:aT H v xs):IsD H v (.list xs):=.inr ⟨xs,h,rfl⟩
theorem IsD.reads (h:IsD H v p)(I:Inv B H s)(r:VR s.heap (Trk H B) va v)(c:(pd p).canLay0=true):∃as,Reads s.heap va (pd p) as:=by
 rcases h with rfl | ⟨xs,hv,rfl⟩
 . exact r.reads c
 . obtain ⟨a,vs,n,rfl,ho,hr⟩:=hv.at I r
   obtain ⟨as,q⟩:=hr.reads c;exact ⟨_,.list ho rfl rfl q⟩
noncomputable def okD (p:PV):Bool:=SeqAt.shaped (pd p)
theorem tp (R:ai A d):A.units+64<cLine:=by have:=R.units;lia
theorem qm {a b pa pb:PV}(ha:IsD H a pa)(hb:IsD H b pb)(oa:okD pa=true)(ob:okD pb=true)(h:Q (.bool (PyData.eqv (pd pa) (pd pb))) H):V2 H E B d b a (compareOp .Eq) Q:=λA s R I va vb r1 r2=>by
 obtain ⟨O,q1⟩:=ha.reads I r1 (SeqAt.canLay_of_shaped oa);obtain ⟨O,q2⟩:=hb.reads I r2 (SeqAt.canLay_of_shaped ob);exact SeqAt.compareEq_shaped q1 q2 oa ob (tp R) (aL.here I (.bool _) h)
theorem k7 {a b pa pb:PV}(ha:IsD H a pa)(hb:IsD H b pb)(oa:okD pa=true)(ob:okD pb=true)(h:Q (.bool (!PyData.eqv (pd pa) (pd pb))) H):V2 H E B d b a (compareOp .NotEq) Q:=λA s R I va vb r1 r2=>by
 obtain ⟨O,q1⟩:=ha.reads I r1 (SeqAt.canLay_of_shaped oa);obtain ⟨O,q2⟩:=hb.reads I r2 (SeqAt.canLay_of_shaped ob);exact SeqAt.compareNe_shaped q1 q2 oa ob (tp R) (aL.here I (.bool _) h)
theorem jH {α:Type}(f:α->PV):∀l:List α,pds (l.map f)=l.map λa=>pd (f a)
 | []=>rfl
 | a::l=>congrArg (pd (f a)::·) (jH f l)
theorem lu {α:Type}(f:α->PV):∀l:List α,(∀a∈l,(pd (f a)).canLay0=true)->PyData.canLayAll0 (pds (l.map f))=true
 | [],_=>rfl
 | a::l,h=>Bool.and_eq_true_iff.mpr ⟨h a mcs,lu f l λb hb=>h b (mcm _ hb)⟩
theorem me {α:Type}(f:α->PV)(n:Nat):∀l:List α,(∀a∈l,(pd (f a)).depth<=n)->PyData.depthAll (pds (l.map f))<=n
 | [],_=>Ab _
 | a::l,h=>Nat.max_le.mpr ⟨h a mcs,me f n l λb hb=>h b (mcm _ hb)⟩
theorem i9 {α:Type}{f:α->PV}{l:List α}(n:Nat)(hn:n<=63)(hc:∀a∈l,(pd (f a)).canLay0=true)(hd:∀a∈l,(pd (f a)).depth<=n):okD (.list (l.map f))=true:=by
 have h2:=me f n l hd;exact Bool.and_eq_true_iff.mpr ⟨lu f l hc,decide_eq_true (show PyData.depthAll (pds (l.map f))+1<=64 by lia)⟩
theorem lW (ns:List Int):okD (.list (ns.map PV.int))=true:=i9 0 ∅ (λO O=>rfl) (λO O=>Aa _)
theorem y6 (ns:List Bool):okD (.list (ns.map PV.bool))=true:=i9 0 ∅ (λO O=>rfl) (λO O=>Aa _)
theorem ib (ns:List Str)(h:∀x∈ns,PyData.strOk x=true):okD (.list (ns.map PV.str))=true:=i9 0 ∅ (λx hx=>h x hx) (λO O=>Aa _)
theorem lZ {α:Type}[DecidableEq α](f:α->PyData)(hf:∀a b,PyData.eqv (f a) (f b)=decide (a=b))(l:List α):∀m:List α,PyData.eqvAll (l.map f) (m.map f)=decide (l=m):=by
 induction l with
 | nil=>intro m;cases m <;> rfl
 | cons a r ih=>
   intro m
   cases m with
   | nil=>rfl
   | cons b t=>
     show (PyData.eqv (f a) (f b) && PyData.eqvAll (r.map f) (t.map f))=_;rw [hf,ih t,<-Bool.decide_and];exact decide_eq_decide.mpr ⟨λh=>h.1▸h.2▸rfl,λh=>List.cons.inj h⟩
theorem vW {α:Type}[DecidableEq α](a b:α):(a==b)=decide (a=b):=rfl
theorem Do (ns ms:List Int):PyData.eqv (pd (.list (ns.map PV.int))) (pd (.list (ms.map PV.int)))=decide (ns=ms):=by
 show PyData.eqvAll (pds (ns.map PV.int)) (pds (ms.map PV.int))=_;rw [jH,jH];exact lZ PyData.int (λa b=>vW a b) ns ms
theorem tl (ns ms:List Str):PyData.eqv (pd (.list (ns.map PV.str))) (pd (.list (ms.map PV.str)))=decide (ns=ms):=by
 show PyData.eqvAll (pds (ns.map PV.str)) (pds (ms.map PV.str))=_;rw [jH,jH];exact lZ PyData.str (λa b=>vW a b) ns ms
theorem FE {a b:PV}{ns ms:List Int}(ha:aT H a (ns.map .int))(hb:aT H b (ms.map .int))(h:Q (.bool (decide (ns=ms))) H):V2 H E B d b a (compareOp .Eq) Q:=
 qm (.items ha) (.items hb) (lW _) (lW _) (by rw [Do];exact h)
theorem Dv {a b:PV}{ns ms:List Str}(ha:aT H a (ns.map .str))(hb:aT H b (ms.map .str))(h1:∀x∈ns,PyData.strOk x=true)(h2:∀x∈ms,PyData.strOk x=true)(h:Q (.bool (decide (ns=ms))) H):V2 H E B d b a (compareOp .Eq) Q:=
 qm (.items ha) (.items hb) (ib _ h1) (ib _ h2) (by rw [tl];exact h)
theorem sM {a b:PV}{ns ms:List Str}(ha:aT H a (ns.map .str))(hb:aT H b (ms.map .str))(h1:∀x∈ns,PyData.strOk x=true)(h2:∀x∈ms,PyData.strOk x=true)(h:Q (.bool (!decide (ns=ms))) H):V2 H E B d b a (compareOp .NotEq) Q:=
 k7 (.items ha) (.items hb) (ib _ h1) (ib _ h2) (by rw [tl];exact h)
theorem xe {xs:List PV}{Q:BQ}(hv:aT H v xs)(hfit:xs.length<2 ^ 60)(h:Q (!xs.isEmpty) H):Tru B d E v H Q:=λA s R I va r=>by
 obtain ⟨a,vs,n,rfl,ho,hr⟩:=hv.at I r;refine wpAny_truthy_list (aQ ho) (by rw [hr.asize];lia) ⟨H,Tr.tok I _,?_⟩
 have:vs.isEmpty=xs.isEmpty:=by
   have h1:=hr.asize
   cases xs with
   | nil=>simpa using h1
   | cons y ys=>
     have h2:vs.size≠0:=by rw [h1];simp
     simp only [Array.isEmpty,List.isEmpty_cons];exact decide_eq_false h2
 rw [this];exact h
theorem Fu {a n:Int}(hn:0<=n)(hsz:(Builtin.Int.intBits a:Int)+n<=2 ^ 27)(h:Q (.int (a*2 ^ n.toNat)) H):V2 H E B d (.int n) (.int a) (binaryOp .LShift) Q:=λA s R I va vb r1 r2=>by
 obtain ⟨O,rfl⟩:=r1.inv;obtain ⟨O,rfl⟩:=r2.inv;exact lshift_int hn hsz ⟨_,_,Tr.tok I _,.int _ _,h⟩
theorem kU {a b:Int}(hb:b≠0)(hp:Builtin.divisionGoesByPylong a b=false)(h:Q (.tup [.int (a.fdiv b),.int (a.fmod b)]) H):aF [] E H B d (.raw (.builtin "divmod")) [.int a,.int b] Q:=aF.at λA s R I vs r fv rf=>by
 obtain ⟨x,y,rfl,r1,r2⟩:=r.two;obtain ⟨O,rfl⟩:=rf.inv;obtain ⟨O,rfl⟩:=r1.inv;obtain ⟨O,rfl⟩:=r2.inv;refine divmod_int hb ?_ (.inl hp);have t:=Tr.pushTok I (bf #[.int (a.fdiv b) s.toks,.int (a.fmod b) (s.toks+1)] 0) (s.toks+1+1);exact ⟨_,_,t,.tup (vs:=#[.int (a.fdiv b) s.toks,.int (a.fmod b) (s.toks+1)]) (n:=0) (Heap.get?_push_size _ rfl) (aS I) (.cons (.int _ _) (.cons (.int _ _) .nil)),h⟩
end
section
theorem jB {Q:LQ}(h:Q [] H):EvL B fi d E [] σ H Q:=h
theorem zo {r:List Expr}{Q:LQ}(h:Ev E B d fi σ H e λv H₁=>EvL B fi d E r σ H₁ λvs H₂=>Q (v::vs) H₂):EvL B fi d E (e::r) σ H Q:=h
theorem zy {op:BoolOp}{Q:BQ}(h:Q (op==.And) H):fT B fi d E op [] σ H Q:=h
theorem G2 {x:Expr}{r:List Expr}{Q:BQ}(h:Tst B fi d E x σ H λb H₁=>if b=true then Q true H₁ else fT B fi d E .Or r σ H₁ Q):fT B fi d E .Or (x::r) σ H Q:=by
 show Tst B fi d E x σ H λb H₁=>if b=(BoolOp.Or==BoolOp.Or) then Q b H₁ else fT B fi d E .Or r σ H₁ Q;intro A s env e R I F;refine wpm (h A s env e R I F) (λb s' ⟨H',t,q⟩=>⟨H',t,?_⟩);cases b <;> exact q
theorem zd {x:Expr}{r:List Expr}{Q:BQ}(h:Tst B fi d E x σ H λb H₁=>if b=true then fT B fi d E .And r σ H₁ Q else Q false H₁):fT B fi d E .And (x::r) σ H Q:=by
 show Tst B fi d E x σ H λb H₁=>if b=(BoolOp.And==BoolOp.Or) then Q b H₁ else fT B fi d E .And r σ H₁ Q;intro A s env e R I F;refine wpm (h A s env e R I F) (λb s' ⟨H',t,q⟩=>⟨H',t,?_⟩);cases b <;> exact q
theorem DO {Q:SQ}(h:Q σ H):uv B fi d E [] [] σ H Q:=h
theorem zQ {Q:St->Prop}(h:Q σ):sR fi [] [] σ Q:=h
theorem aB4 {xs:List Str}{vs:List PV}{Q:St->Prop}(hr:Rep x v .local σ σ')(h:sR fi xs vs σ' Q):sR fi (x::xs) (v::vs) σ Q:=⟨_,_,hr,Gq,h⟩
theorem C1 {Q:Option Int->AH->Prop}(h:Q none H):EvO B fi d E none σ H Q:=h
theorem G4 {Q:Option Int->AH->Prop}(h:Ev E B d fi σ H e λv H₁=>∃i,v=.int i/\Q (some i) H₁):EvO B fi d E (some e) σ H Q:=Ev.mono h λv H' q=>.inl q
theorem aC8 {i:Int}{P:Int->Prop}(h:P i):∃j,PV.int i=.int j/\P j:=⟨i,rfl,h⟩
theorem fP {Q:SQ}(h:∃k σ',Rep x v k σ σ'/\bD fi k/\Q σ' H):Asg B fi d E (.Name x pos) v σ H Q:=rC h
theorem jU {ts:List Expr}{Q:SQ}(hl:ts.length=xs.length)(hp:ts.all av=true)(h:uv B fi d E ts xs σ H Q):Asg B fi d E (.Tuple ts k pos) (.tup xs) σ H Q:=xg (.inl rfl) hl h hp
theorem b6 {deps:AH}(h:Qn σ H):cQ B fi d tgt body deps [] σ H Qn Qf:=h
theorem bP {deps:AH}{x:PV}
   (h:Asg B fi d NoE tgt x σ H λσ₁ H₁=>Xs NoE B d fi H₁ σ₁ body (λσ₂ H₂=>(∀p∈deps,p∈H₂)/\cQ B fi d tgt body deps xs σ₂ H₂ Qn Qf)
     (λσ₂ pf H₂=>match pf with
       | .cont=>(∀p∈deps,p∈H₂)/\cQ B fi d tgt body deps xs σ₂ H₂ Qn Qf
       | .brk=>Qn σ₂ H₂
       | .ret v=>Qf σ₂ (.ret v) H₂)):cQ B fi d tgt body deps (x::xs) σ H Qn Qf:=h
theorem ik {a b:Int}(h:b.natAbs<2 ^ 64):Builtin.divisionGoesByPylong a b=false:=aGs (nlt h (AY ∅ ∅))
end
theorem ifp {c:Prop}[Decidable c]{a b:Prop}(h:c)(q:a):if c then a else b:=(if_pos h).symm▸q
theorem dk (h:Nat.ble n k=true):n<=d+k:=ntr (Ap h) (Am k d)
theorem aFu (h:j<n)(hn:n<2 ^ 60):(j:Int)<2 ^ 63:=by omega
theorem bl {a:Nat}(h:Nat.ble a b=true):a<=b:=Ap h
theorem ifn {c:Prop}[Decidable c]{a b:Prop}(h:¬c)(q:b):if c then a else b:=(if_neg h).symm▸q
theorem rq {c:Prop}[Decidable c]{a b:Prop}(h:c)(q:a):if decide c=true then a else b:=ifp (decide_eq_true h) q
theorem mY {c:Prop}[Decidable c]{a b:Prop}(h:¬c)(q:b):if decide c=true then a else b:=ifn (λe=>h (of_decide_eq_true e)) q
theorem aC4 {c:Prop}[Decidable c]{a b:Prop}(h:c)(q:b):if (!decide c)=true then a else b:=ifn (by rw [decide_eq_true h];exact BW) q
theorem aB5 {c:Prop}[Decidable c]{a b:Prop}(h:¬c)(q:a):if (!decide c)=true then a else b:=ifp (by rw [decide_eq_false h];rfl) q
section
variable {α:Type}{e a b c x0 x1 x2 x3 x4 x5 x6 x7:α}{l:List α}
theorem Has.h1:Has e (x0::e::l):=.tail .head
theorem Has.h2:Has e (x0::x1::e::l):=.tail .h1
theorem Has.h3:Has e (x0::x1::x2::e::l):=.tail .h2
theorem Has.h4:Has e (x0::x1::x2::x3::e::l):=.tail .h3
theorem Has.h5:Has e (x0::x1::x2::x3::x4::e::l):=.tail .h4
theorem Has.h6:Has e (x0::x1::x2::x3::x4::x5::e::l):=.tail .h5
theorem Has.h7:Has e (x0::x1::x2::x3::x4::x5::x6::e::l):=.tail .h6
theorem Has.t8 (h:Has e l):Has e (x0::x1::x2::x3::x4::x5::x6::x7::l):=.tail (.tail (.tail (.tail (.tail (.tail (.tail (.tail h)))))))
end
section
variable {k:NameKind}{ov:Option PV}{e0 e1 e2 e3 e4 e5 e6 e7:Str×NameKind×Option PV}{r r':St}
theorem Rep.h1:Rep x p k (e0::(x,k,ov)::r) (e0::(x,k,some p)::r):=.tail .head
theorem Rep.h2:Rep x p k (e0::e1::(x,k,ov)::r) (e0::e1::(x,k,some p)::r):=.tail .h1
theorem Rep.h3:Rep x p k (e0::e1::e2::(x,k,ov)::r) (e0::e1::e2::(x,k,some p)::r):=.tail .h2
theorem Rep.h4:Rep x p k (e0::e1::e2::e3::(x,k,ov)::r) (e0::e1::e2::e3::(x,k,some p)::r):=.tail .h3
theorem Rep.h5:Rep x p k (e0::e1::e2::e3::e4::(x,k,ov)::r) (e0::e1::e2::e3::e4::(x,k,some p)::r):=.tail .h4
theorem Rep.h6:Rep x p k (e0::e1::e2::e3::e4::e5::(x,k,ov)::r) (e0::e1::e2::e3::e4::e5::(x,k,some p)::r):=.tail .h5
theorem Rep.h7:Rep x p k (e0::e1::e2::e3::e4::e5::e6::(x,k,ov)::r) (e0::e1::e2::e3::e4::e5::e6::(x,k,some p)::r):=.tail .h6
theorem Rep.t8 (h:Rep x p k r r'):Rep x p k (e0::e1::e2::e3::e4::e5::e6::e7::r) (e0::e1::e2::e3::e4::e5::e6::e7::r'):=.tail (.tail (.tail (.tail (.tail (.tail (.tail (.tail h)))))))
end
section
noncomputable def PE (σ:St)(e:Expr)(v:PV):Prop:=∀B fi d E H Q,Q v H->Ev E B d fi σ H e Q
noncomputable def PL (σ:St)(e:List Expr)(v:List PV):Prop:=∀B fi d E H Q,Q v H->EvL B fi d E e σ H Q
noncomputable def PT (σ:St)(e:Expr)(c:Bool):Prop:=∀B fi d E H Q,Q c H->Tst B fi d E e σ H Q
noncomputable def P2 (t:Value->Value->Sem Value)(a b v:PV):Prop:=∀B d E H Q,Q v H->V2 H E B d b a t Q
noncomputable def P1 (t:Value->Sem Value)(a v:PV):Prop:=∀B d E H Q,Q v H->V1 B d E t a H Q
theorem bZ {w:PV}(h:v=w)(q:Q w H):Q v H:=h▸q
theorem GS {t:Value->Value->Sem Value}{a b c:PV}(h:b=c)(q:V2 H E B d c a t Q):V2 H E B d b a t Q:=h▸q
theorem rU {t:Value->Value->Sem Value}{a b c:PV}(h:a=c)(q:V2 H E B d b c t Q):V2 H E B d b a t Q:=h▸q
theorem lL (p:PE σ e v)(q:Q v H):Ev E B d fi σ H e Q:=p _ _ _ _ _ _ q
theorem EI {e:List Expr}{v:List PV}{Q:LQ}(p:PL σ e v)(q:Q v H):EvL B fi d E e σ H Q:=p _ _ _ _ _ _ q
theorem aEn {c:Bool}{Q:BQ}(p:PT σ e c)(q:Q c H):Tst B fi d E e σ H Q:=p _ _ _ _ _ _ q
theorem rp {t:Value->Value->Sem Value}{a b:PV}(p:P2 t a b v)(q:Q v H):V2 H E B d b a t Q:=p _ _ _ _ _ q
theorem aF2 {t:Value->Sem Value}{a:PV}(p:P1 t a v)(q:Q v H):V1 B d E t a H Q:=p _ _ _ _ _ q
noncomputable def PK (x:Str)(k:NameKind):Prop:=(k=.local\/k=.globalImplicit\/k=.cell\/(k=.free/\(x==("__classdict__" : Str))=false))/\(x==("__debug__" : Str))=false
theorem aF5 (h:(x==("__debug__" : Str))=false):PK x .local:=⟨.inl rfl,h⟩
theorem aF3 (h:(x==("__debug__" : Str))=false):PK x .globalImplicit:=⟨.inr (.inl rfl),h⟩
theorem aG0 (h:(x==("__debug__" : Str))=false):PK x .cell:=⟨.inr (.inr (.inl rfl)),h⟩
theorem aF6 (h:(x==("__debug__" : Str))=false)(h2:(x==("__classdict__" : Str))=false):PK x .free:=⟨.inr (.inr (.inr ⟨rfl,h2⟩)),h⟩
theorem P_N {k:NameKind}{τ:St}{z:PV}(h:Has (x,k,some z) τ)(hk:PK x k):PE τ (.Name x pos) z:=λO O O O O Q q=>by
 obtain ⟨hk,hd⟩:=hk;refine k5 ?_ hd;rcases hk with rfl | rfl | rfl | ⟨rfl,h2⟩
 . exact aFa h q
 . exact aFm h q
 . exact aFb h q
 . exact aD4 h q h2
theorem P_i {i:Int}{τ:St}:PE τ (.Constant (.int i) k pos) (.int i):=λO O O O O O q=>Cn q
theorem P_s {τ:St}:PE τ (.Constant (.str x) k pos) (.str x):=λO O O O O O q=>uO q
theorem P_y {x:List UInt8}{τ:St}:PE τ (.Constant (.bytes x) k pos) (.bytes x.toArray):=λO O O O O O q=>rR q
theorem P_o {b:Bool}{τ:St}:PE τ (.Constant (.bool b) k pos) (.bool b):=λO O O O O O q=>wI q
theorem P_n {τ:St}:PE τ (.Constant .none k pos) .none:=λO O O O O O q=>vg q
theorem aDp {l r:Expr}{op:Operator}{a b:PV}{τ:St}(h1:PE τ l a)(h2:PE τ r b)(h3:P2 (binaryOp op) a b v):PE τ (.BinOp l op r pos) v:=λO O O O O O q=>tM (lL h1 (lL h2 (rp h3 q)))
theorem aDo {l r:Expr}{op:CmpOp}{a b:PV}{τ:St}(h1:PE τ l a)(h2:PE τ r b)(h3:P2 (compareOp op) a b v)(hm:behindInMarks op r=false):PE τ (.Compare l [op] [r] pos) v:=λO O O O O O q=>kE (lL h1 (lL h2 (rp h3 q))) hm
theorem aGx {l:Expr}{op:UnaryOp}{a:PV}{τ:St}(h1:PE τ l a)(h3:P1 (unaryOp op) a v):PE τ (.UnaryOp op l pos) v:=λO O O O O O q=>uK (lL h1 (aF2 h3 q))
theorem aD3 {τ:St}:PL τ [] []:=λO O O O O O q=>jB q
theorem aAo {r:List Expr}{τ:St}{z:PV}{zs:List PV}(h1:PE τ e z)(h2:PL τ r zs):PL τ (e::r) (z::zs):=λO O O O O O q=>zo (lL h1 (EI h2 q))
theorem aEs {es:List Expr}{vs:List PV}{τ:St}(h:PL τ es vs)(hp:es.all av=true)(hl:es.length<=64):PE τ (.Tuple es k pos) (.tup vs):=λO O O O O O q=>mI (EI h q) hp hl
theorem aEo {a b:Int}:P2 (binaryOp .Add) (.int a) (.int b) (.int (a+b)):=λO O O O O q=>vt q
theorem aEa {a b:Int}:P2 (binaryOp .Sub) (.int a) (.int b) (.int (a-b)):=λO O O O O q=>k9 q
theorem aDw {a b:Int}:P2 (binaryOp .BitXor) (.int a) (.int b) (.int (Builtin.bitXor a b)):=λO O O O O q=>wa q
theorem aDx {a:Int}:P1 (unaryOp .USub) (.int a) (.int (-a)):=λO O O O O q=>Co q
theorem aDz {a:Int}:P1 (unaryOp .Invert) (.int a) (.int (Builtin.bitNot a)):=λO O O O O q=>DW q
theorem aG8 {a b:Int}:P2 (compareOp .Eq) (.int a) (.int b) (.bool (a==b)):=λO O O O O q=>CM q
theorem aGt {a b:Int}:P2 (compareOp .NotEq) (.int a) (.int b) (.bool (a != b)):=λO O O O O q=>Cl q
theorem aAp {a b:Int}:P2 (compareOp .Lt) (.int a) (.int b) (.bool (decide (a<b))):=λO O O O O q=>Dr q
theorem aG1 {a b:Int}:P2 (compareOp .LtE) (.int a) (.int b) (.bool (decide (a<=b))):=λO O O O O q=>zk q
theorem aGe {a b:PV}(hb:jC b=true)(ha:cU a=true):P2 (compareOp .Is) a b (.bool (il a b)):=λO O O O O q=>yv q hb ha
theorem aEm {a b:PV}(hb:jC b=true)(ha:cU a=true):P2 (compareOp .IsNot) a b (.bool (!il a b)):=λO O O O O q=>oN q hb ha
theorem aFn {y:Str}:P2 (compareOp .Eq) (.str x) (.str y) (.bool (decide (x=y))):=λO O O O O q=>wX q
theorem aEg {y:Str}:P2 (compareOp .NotEq) (.str x) (.str y) (.bool (!decide (x=y))):=λO O O O O q=>v4 q
theorem aCg {y:Str}:P2 (compareOp .NotIn) (.str y) (.str x) (.bool (!Txt.contains x y)):=λO O O O O q=>rh q
theorem aEv {l r:Expr}{op:CmpOp}{a b:PV}{c:Bool}{τ:St}(h1:PE τ l a)(h2:PE τ r b)(h3:P2 (compareOp op) a b (.bool c))(hm:behindInMarks op r=false):PT τ (.Compare l [op] [r] pos) c:=
 λO O O O O O q=>i7 (lL h1 (lL h2 (rp h3 (dC q)))) hm
theorem aDr {a:Int}{τ:St}(h:PE τ e (.int a))(he:∀env w,isTrue e env w=(do let v<-w;standAt e.pos;holding [v] (truthy v))):PT τ e (a != 0):=λO O O O O O q=>j0 (lL h (vn q)) he
theorem aAc {c:Bool}{τ:St}(h:PE τ e (.bool c))(he:∀env w,isTrue e env w=(do let v<-w;standAt e.pos;holding [v] (truthy v))):PT τ e c:=λO O O O O O q=>j0 (lL h (dC q)) he
end
section
noncomputable abbrev qB2 (B:aI)(d:Nat)(E:EP)(op:Operator)(a:PV)(Q:PQ):PQ:=λb H₂=>V2 H₂ E B d b a (binaryOp op) Q
noncomputable abbrev qB1 (B:aI)(fi:aN)(d:Nat)(E:EP)(op:Operator)(r:Expr)(σ:St)(Q:PQ):PQ:=λa H₁=>Ev E B d fi σ H₁ r (qB2 B d E op a Q)
noncomputable abbrev qC2 (B:aI)(d:Nat)(E:EP)(op:CmpOp)(a:PV)(Q:PQ):PQ:=λb H₂=>V2 H₂ E B d b a (compareOp op) Q
noncomputable abbrev qC1 (B:aI)(fi:aN)(d:Nat)(E:EP)(op:CmpOp)(r:Expr)(σ:St)(Q:PQ):PQ:=λa H₁=>Ev E B d fi σ H₁ r (qC2 B d E op a Q)
noncomputable abbrev qT (B:aI)(d:Nat)(E:EP)(Q:BQ):PQ:=λv H₁=>Tru B d E v H₁ Q
noncomputable abbrev aGv (Q:BQ):BQ:=λb H₁=>Q (!b) H₁
noncomputable def qOr (B:aI)(fi:aN)(d:Nat)(E:EP)(r:List Expr)(σ:St)(Q:BQ):BQ:=λb H₁=>if b=true then Q true H₁ else fT B fi d E .Or r σ H₁ Q
noncomputable def aFv (B:aI)(fi:aN)(d:Nat)(E:EP)(r:List Expr)(σ:St)(Q:BQ):BQ:=λb H₁=>if b=true then fT B fi d E .And r σ H₁ Q else Q false H₁
noncomputable abbrev qL2 (v:PV)(Q:LQ):LQ:=λvs H₂=>Q (v::vs) H₂
noncomputable abbrev qL1 (B:aI)(fi:aN)(d:Nat)(E:EP)(r:List Expr)(σ:St)(Q:LQ):PQ:=λv H₁=>EvL B fi d E r σ H₁ (qL2 v Q)
noncomputable abbrev aHh (Q:PQ):LQ:=λvs H₁=>Q (.tup vs) H₁
noncomputable abbrev qX (E:EP)(B:aI)(d:Nat)(Qf:FQ)(fi:aN)(rest:List Stmt)(Qn:SQ):SQ:=λσ' H'=>Xs E B d fi H' σ' rest Qn Qf
noncomputable abbrev qP (fi:aN)(x:Str)(σ:St)(Qn:SQ):PQ:=λv H₁=>∃k σ',Rep x v k σ σ'/\bD fi k/\Qn σ' H₁
noncomputable abbrev qR (σ:St)(Qf:FQ):PQ:=λv H₁=>Qf σ (.ret v) H₁
noncomputable abbrev qE (σ:St)(Qn:SQ):PQ:=λO H₁=>Qn σ H₁
noncomputable def qI (E:EP)(o:List Stmt)(b:List Stmt)(fi:aN)(d:Nat)(B:aI)(Qf:FQ)(Qn:SQ)(σ:St):BQ:=λc H₁=>if c then Xs E B d fi H₁ σ b Qn Qf else Xs E B d fi H₁ σ o Qn Qf
noncomputable abbrev qA3 (B:aI)(d:Nat)(E:EP)(op:Operator)(a:PV)(fi:aN)(x:Str)(σ:St)(Qn:SQ):PQ:=λv H₂=>V2 H₂ E B d v a (inplaceOp op) (qP fi x σ Qn)
noncomputable abbrev qA1 (B:aI)(fi:aN)(d:Nat)(E:EP)(op:Operator)(e:Expr)(x:Str)(σ:St)(Qn:SQ):PQ:=λa H₁=>Ev E B d fi σ H₁ e (qA3 B d E op a fi x σ Qn)
noncomputable abbrev aHi (B:aI)(d:Nat)(E:EP)(f:PV)(Q:PQ):LQ:=λvs H₂=>aF [] E H₂ B d f vs Q
noncomputable abbrev qCl (B:aI)(fi:aN)(d:Nat)(E:EP)(args:List Expr)(σ:St)(Q:PQ):PQ:=λf H₁=>bo B f/\EvL B fi d E args σ H₁ (aHi B d E f Q)
noncomputable abbrev aFy (B:aI)(d:Nat)(E:EP)(tgt:Expr)(f:PV)(Q:IQ):LQ:=λvs H₂=>hZ B d E tgt f vs H₂ Q
noncomputable abbrev qIc (B:aI)(fi:aN)(d:Nat)(E:EP)(tgt:Expr)(args:List Expr)(σ:St)(Q:IQ):PQ:=λf H₁=>bo B f/\EvL B fi d E args σ H₁ (aFy B d E tgt f Q)
noncomputable abbrev qS2 (B:aI)(d:Nat)(E:EP)(o:PV)(Q:PQ):PQ:=λi H₂=>oG B o H₂/\V2 H₂ E B d i o getItem Q
noncomputable abbrev qS1 (B:aI)(fi:aN)(d:Nat)(E:EP)(slice:Expr)(σ:St)(Q:PQ):PQ:=λo H₁=>Ev E B d fi σ H₁ slice (qS2 B d E o Q)
noncomputable abbrev aF0 (B:aI)(d:Nat)(E:EP)(o:PV)(l u:Option Int)(Q:PQ):Option Int->AH->Prop:=λk H₄=>oG B o H₄/\n8 B d E o l u k H₄ Q
noncomputable abbrev aHg (B:aI)(fi:aN)(d:Nat)(E:EP)(st:Option Expr)(σ:St)(o:PV)(l:Option Int)(Q:PQ):Option Int->AH->Prop:=λu H₃=>EvO B fi d E st σ H₃ (aF0 B d E o l u Q)
noncomputable abbrev aGy (B:aI)(fi:aN)(d:Nat)(E:EP)(hi st:Option Expr)(σ:St)(o:PV)(Q:PQ):Option Int->AH->Prop:=λl H₂=>EvO B fi d E hi σ H₂ (aHg B fi d E st σ o l Q)
noncomputable abbrev aG5 (B:aI)(fi:aN)(d:Nat)(E:EP)(lo hi st:Option Expr)(σ:St)(Q:PQ):PQ:=λo H₁=>EvO B fi d E lo σ H₁ (aGy B fi d E hi st σ o Q)
noncomputable abbrev qO (Q:Option Int->AH->Prop):PQ:=λv H₁=>∃i,v=.int i/\Q (some i) H₁
noncomputable abbrev qAs (B:aI)(fi:aN)(d:Nat)(E:EP)(ts:List Expr)(vs:List PV)(Q:SQ):SQ:=λσ₁ H₁=>uv B fi d E ts vs σ₁ H₁ Q
noncomputable abbrev qAt (B:aI)(fi:aN)(d:Nat)(E:EP)(t:Expr)(σ:St)(Qn:SQ):PQ:=λv H₁=>Asg B fi d E t v σ H₁ Qn
noncomputable abbrev qFo (B:aI)(fi:aN)(d:Nat)(tgt:Expr)(body:List Stmt)(σ:St)(Qn:SQ)(Qf:FQ):IQ:=λitems deps H₁=>cQ B fi d tgt body deps items σ H₁ Qn Qf
variable {T:BQ}
theorem yK {l r:Expr}{op:Operator}(h:Ev E B d fi σ H l (qB1 B fi d E op r σ Q)):Ev E B d fi σ H (.BinOp l op r pos) Q:=tM h
theorem pn {l r:Expr}{op:CmpOp}(h:Ev E B d fi σ H l (qC1 B fi d E op r σ Q))(hm:behindInMarks op r=false):Ev E B d fi σ H (.Compare l [op] [r] pos) Q:=kE h hm
theorem ul (h:Ev E B d fi σ H e (qT B d E T))(he:∀env w,isTrue e env w=(do let v<-w;standAt e.pos;holding [v] (truthy v))):Tst B fi d E e σ H T:=j0 h he
theorem m9 {l r:Expr}{op:CmpOp}(h:Ev E B d fi σ H l (qC1 B fi d E op r σ (qT B d E T)))(hm:behindInMarks op r=false):Tst B fi d E (.Compare l [op] [r] pos) σ H T:=i7 h hm
theorem yh {x:Expr}(h:Tst B fi d E x σ H (aGv T)):Tst B fi d E (.UnaryOp .Not x pos) σ H T:=GL h
theorem DZ {x:Expr}{r:List Expr}(h:Tst B fi d E x σ H (qOr B fi d E r σ T)):fT B fi d E .Or (x::r) σ H T:=G2 h
theorem yV {x:Expr}{r:List Expr}(h:Tst B fi d E x σ H (aFv B fi d E r σ T)):fT B fi d E .And (x::r) σ H T:=zd h
theorem aBr {r:List Expr}{b:Bool}(h:if b=true then T true H else fT B fi d E .Or r σ H T):qOr B fi d E r σ T b H:=h
theorem G5 {r:List Expr}{b:Bool}(h:if b=true then fT B fi d E .And r σ H T else T false H):aFv B fi d E r σ T b H:=h
theorem aDt {b o:List Stmt}{c:Bool}(h:if c then Xs E B d fi H σ b Qn Qf else Xs E B d fi H σ o Qn Qf):qI E o b fi d B Qf Qn σ c H:=h
theorem mo {r:List Expr}{Q:LQ}(h:Ev E B d fi σ H e (qL1 B fi d E r σ Q)):EvL B fi d E (e::r) σ H Q:=h
theorem je {es:List Expr}(h:EvL B fi d E es σ H (aHh Q))(hp:es.all av=true)(hl:es.length<=64):Ev E B d fi σ H (.Tuple es k pos) Q:=mI h hp hl
theorem aH {st:Stmt}(h:X B fi d E st σ H (qX E B d Qf fi rest Qn) Qf):Xs E B d fi H σ (st::rest) Qn Qf:=GE h
theorem mK {pos':Pos}{value:Expr}(h:Ev E B d fi σ H value (qP fi x σ Qn))(hs:∀env,swapsWith value (some (.Name x pos')) pos.line env=pure false):X B fi d E (.Assign [.Name x pos'] value pos) σ H Qn Qf:=mW h hs
theorem xi (h:Ev E B d fi σ H e (qR σ Qf)):X B fi d E (.Return (some e) pos) σ H Qn Qf:=rE h
theorem GV (h:Ev E B d fi σ H e (qE σ Qn))(hs:∀env,swapsWith e none pos.line env=pure false):X B fi d E (.Expr e pos) σ H Qn Qf:=aDb h hs
theorem aEj {t:Expr}{b o:List Stmt}(h:Tst B fi d E t σ H (qI E o b fi d B Qf Qn σ)):X B fi d E (.If t b o pos) σ H Qn Qf:=aGn h
theorem jR {pos':Pos}{op:Operator}{value:Expr}(h:Ld B fi d E x σ H (qA1 B fi d E op value x σ Qn)):X B fi d E (.AugAssign (.Name x pos') op value pos) σ H Qn Qf:=jl h
theorem sO {func:Expr}{args:List Expr}(h:Ev E B d fi σ H func (qCl B fi d E args σ Q))(hp:args.all av=true)
   (he:∀env,eval (.Call func args [] pos) env=(do callWith pos (<-eval func env) [] (backTo pos (starEach args env)) (backToKw pos (keywordEach [] env)))):Ev E B d fi σ H (.Call func args [] pos) Q:=FN h hp he
theorem xC {func:Expr}{args:List Expr}{Q:IQ}(h:Ev E B d fi σ H func (qIc B fi d E tgt args σ Q))(hp:args.all av=true)
   (he:∀env,eval (.Call func args [] pos) env=(do callWith pos (<-eval func env) [] (backTo pos (starEach args env)) (backToKw pos (keywordEach [] env)))):EvI B fi d E tgt (.Call func args [] pos) σ H Q:=Cd h hp he
theorem FV {value slice:Expr}(h:Ev E B d fi σ H value (qS1 B fi d E slice σ Q)):Ev E B d fi σ H (.Subscript value slice pos) Q:=aAz h
theorem yN {value:Expr}{lo hi st:Option Expr}{spos:Pos}(h:Ev E B d fi σ H value (aG5 B fi d E lo hi st σ Q)):Ev E B d fi σ H (.Subscript value (.Slice lo hi st spos) pos) Q:=zL h
theorem DT {Q:Option Int->AH->Prop}(h:Ev E B d fi σ H e (qO Q)):EvO B fi d E (some e) σ H Q:=G4 h
theorem ui {t:Expr}{ts:List Expr}{vs:List PV}{Q:SQ}(h:Asg B fi d E t v σ H (qAs B fi d E ts vs Q)):uv B fi d E (t::ts) (v::vs) σ H Q:=h
theorem eG {ts:List Expr}{tpos:Pos}{value:Expr}(h:Ev E B d fi σ H value (qAt B fi d E (.Tuple ts k tpos) σ Qn))(hs:∀env,swapsWithSole [.Tuple ts k tpos] value pos.line env=pure false)
   (hw:∀env,a9 B fi env->swappedStores [.Tuple ts k tpos] value env=pure none):X B fi d E (.Assign [.Tuple ts k tpos] value pos) σ H Qn Qf:=qY h hs hw
theorem aCm (h:qP fi x σ Qn v H):Asg B fi d E (.Name x pos) v σ H Qn:=rC h
theorem jc {it:Expr}(h:EvI B fi d E tgt it σ H (qFo B fi d tgt body σ Qn Qf))(hd:3<=d)(hs:∀env x,foldedSetIterable it env x=pure x):X B fi d E (.For tgt it body [] pos) σ H Qn Qf:=aFk h hd hs
end
noncomputable def aI.up (B:aI)(g:Heap)(hk:∀a o,B.g.get? a=some o->g.get? a=some o)(ht:∀q∈B.tabs,g.get? q.2=Option.none):aI:=
 { B with g:=g,inK:=B.inK.keeps hk,nsg:=B.nsg.keeps hk,nsb:=B.nsb.keeps hk,nolimit:=B.nolimit.keeps hk,tabsHidden:=ht }
open Classical in
noncomputable def c9 (g h:Heap)(P:Addr->Prop):Heap:=
 { objs:=Array.ofFn (n:=h.objs.size) λi=>if P i.val then (h.objs[i.val]?).getD default else (g.objs[i.val]?).getD { cls:=.none,data:=.freed },life:=h.life }
theorem get?_eq (e:h.objs[a]?=h'.objs[a]?):h.get? a=h'.get? a:=by
 unfold Heap.get?;rw [e]
theorem c0 {g:Heap}{P:Addr->Prop}:(c9 g h P).objs.size=h.objs.size:=by simp [c9]
theorem de {g:Heap}{P:Addr->Prop}(ha:P a):(c9 g h P).get? a=h.get? a:=by
 refine get?_eq ?_;by_cases hl:@LT.lt Nat _ a h.objs.size
 . have:(c9 g h P).objs[a]?=some ((h.objs[a]?).getD default):=by
     rw [c9,Array.getElem?_ofFn,dif_pos hl,if_pos ha]
   rw [this,Array.getElem?_eq_getElem hl]
   rfl
 . rw [Array.getElem?_eq_none (by rw [c0];exact Az hl),Array.getElem?_eq_none (Az hl)]
theorem cK {g:Heap}{P:Addr->Prop}(ha:¬P a)(hz:g.objs.size<=h.objs.size):(c9 g h P).get? a=g.get? a:=by
 by_cases hl:@LT.lt Nat _ a h.objs.size
 . have:(c9 g h P).objs[a]?=some ((g.objs[a]?).getD { cls:=.none,data:=.freed }):=by
     rw [c9,Array.getElem?_ofFn,dif_pos hl,if_neg ha]
   unfold Heap.get?;rw [this]
   cases hg:g.objs[a]? with
   | none=>rfl
   | some o=>rfl
 . refine get?_eq ?_
   rw [Array.getElem?_eq_none (by rw [c0];exact Az hl),Array.getElem?_eq_none (ntr hz (Az hl))]
section
theorem f6 (I:Inv B H s)(F:aA s H σ env B):∀a o,B.g.get? a=some o->(c9 B.g s.heap λa=>¬Trk H B a/\a≠env.locals).get? a=some o:=λa o e=>by
 by_cases hp:¬Trk H B a/\a≠env.locals
 . rw [de hp];exact I.keep a o e
 . rw [cK hp I.size];exact e
theorem gC (I:Inv B H s):∀q∈B.tabs,(c9 B.g s.heap λa=>¬Trk H B a/\a≠env.locals).get? q.2=Option.none:=λq hq=>by
 rw [cK (λh=>h.1 (.inr (.inl (Bk hq)))) I.size];exact B.tabsHidden q hq
variable {g:Heap}{hk:∀a o,B.g.get? a=some o->g.get? a=some o}{ht:∀q∈B.tabs,g.get? q.2=Option.none}
theorem iS (hk:∀a o,B.g.get? a=some o->g.get? a=some o){a:Addr}(h:g.get? a=Option.none):B.g.get? a=Option.none:=by
 cases e:B.g.get? a with
 | none=>rfl
 | some o=>rw [hk a o e] at h;cases h
theorem Inv.down (hz:B.g.objs.size<=g.objs.size)(I:Inv (B.up g hk ht) H s):Inv B H s:=
 ⟨λa o e=>I.keep a o (hk a o e),ntr hz I.size,I.tabs,I.bare,I.os,I.nodup,λq hq=>let ⟨a,b,c,e⟩:=I.hid q hq;⟨a,b,iS hk c,e⟩,λp hp=>let ⟨a,vs,n,b,c⟩:=I.objs p hp;⟨iS hk a,vs,n,b,c⟩⟩
theorem Tr.down {U:Addr->Prop}(hz:B.g.objs.size<=g.objs.size)(t:Tr U s' H' s H (B.up g hk ht)):Tr U s' H' s H B:=⟨t.inv.down hz,t.step,t.keys⟩
theorem aA.down (F:aA s H σ env (B.up g hk ht)):aA s H σ env B:=⟨iS hk F.fresh,F.apart,F.keys,F.nodup,F.ns,F.cell,F.glob⟩
theorem Inv.pin (I:Inv B H s)(F:aA s H σ env B):Inv (B.up _ (f6 I F) (gC I)) H s:=by
 have none':∀a,Trk H B a->B.g.get? a=Option.none->(c9 B.g s.heap λa=>¬Trk H B a/\a≠env.locals).get? a=Option.none:=λa h e=>by
   rw [cK (λq=>q.1 h) I.size];exact e
 refine ⟨λa o e=>?_,Ad c0,I.tabs,I.bare,I.os,I.nodup,λq hq=>?_,λp hp=>?_⟩
 . change (c9 B.g s.heap λa=>¬Trk H B a/\a≠env.locals).get? a=some o at e
   by_cases hp:¬Trk H B a/\a≠env.locals
   . rwa [de hp] at e
   . rw [cK hp I.size] at e;exact I.keep a o e
 . obtain ⟨a,b,c,e⟩:=I.hid q hq
   exact ⟨a,b,none' _ (.inr (.inr (Bk hq))) c,e⟩
 . obtain ⟨a,vs,n,b,c⟩:=I.objs p hp
   exact ⟨none' _ (.inl (Bk hp)) a,vs,n,b,c⟩
theorem aA.pin (I:Inv B H s)(F:aA s H σ env B):aA s H σ env (B.up _ (f6 I F) (gC I)):=
 ⟨(cK (λq=>q.2 rfl) I.size).trans F.fresh,F.apart,F.keys,F.nodup,F.ns,F.cell,F.glob⟩
theorem a9.still (e:a9 B fi env):a9 (B.up g hk ht) { fi with comp:=λO=>true } env:=⟨e.scope,e.kind,e.coro,e.globals,e.builtins,e.qual,e.code,(λO h=>(by cases h)),(λO h=>(by cases h))⟩
noncomputable def fj:PV->Bool
 | .tup _ | .list _=>false
 | _=>true
theorem VR.hard {v:Value}(r:VR h T v p)(hp:fj p=true):∀T' h',VR h' T' v p:=λT' h'=>by
 cases r with
 | none=>exact .none
 | bool=>exact .bool _
 | int=>exact .int _ _
 | str=>exact .str _ _
 | bytes=>exact .bytes _ _
 | tup=>cases hp
 | list=>cases hp
 | lref=>exact .lref _
 | raw=>exact .raw _
structure ax (qual:Str)(pos:Pos)(P:Addr)(c:Addr)(B:aI):Prop where
 mem:(c,P)∈B.tabs
 hd:CodeHd B.g c P
 qn:∀p:Pos,p.line=pos.line->p.col=pos.col->B.qn P p=some qual
 ba:B.g.BuiltinsAt B.mg P
noncomputable def d7 (env:Env):List (Str×NameKind)->List (Str×Addr)->List (Str×Addr)
 | [],acc=>acc
 | (n,k)::r,acc=>if k==.free then d7 env r ((n,(env.cells.lookup n).getD default)::acc) else d7 env r acc
theorem dZ {n:Str}{k:NameKind}{r:List (Str×NameKind)}{acc:List (Str×Addr)}:d7 env ((n,k)::r) acc=if k==.free then d7 env r ((n,(env.cells.lookup n).getD default)::acc) else d7 env r acc:=rfl
theorem gw (h:∀n,(n,NameKind.free)∈scope.names->∃c,env.cells.lookup n=some c):closureFor scope env=pure (d7 env scope.names []):=by
 have go:∀(ns:List (Str×NameKind)) (acc:List (Str×Addr)),(∀n,(n,NameKind.free)∈ns->∃c,env.cells.lookup n=some c)->
     (forIn ns acc λx (cs:List (Str×Addr))=>(if (x.2==NameKind.free)=true then do let c<-cellOf env x.1;pure (ForInStep.yield ((x.1,c)::cs)) else pure (ForInStep.yield cs):Sem _))=pure (d7 env ns acc):=by
   intro ns
   induction ns with
   | nil=>intro acc _;rfl
   | cons x r ih=>
     intro acc hn;obtain ⟨n,k⟩:=x;rw [List.forIn_cons];by_cases hf:(k==NameKind.free)=true
     . obtain ⟨c,hc⟩:=hn n (by rw [eq_of_beq hf];exact mcs)
       rw [if_pos hf,dZ,if_pos hf,nq hc,hc];exact ih _ λn' h'=>hn n' (mcm _ h')
     . rw [if_neg hf,dZ,if_neg hf]
       exact ih _ λn' h'=>hn n' (mcm _ h')
 have:=go scope.names [] h;exact (bind_pure _).trans this
theorem iI :∀{ns:List (Str×NameKind)} {acc:List (Str×Addr)} {x:Str} {c:Addr},(∀n,(n,NameKind.free)∈ns->∃c,env.cells.lookup n=some c)->(x,c)∈d7 env ns acc->(x,c)∈acc\/env.cells.lookup x=some c:=by
 intro ns
 induction ns with
 | nil=>
   intro acc x c _ h;exact .inl h
 | cons hd r ih=>
   intro acc x c hn h;obtain ⟨n,k⟩:=hd;by_cases hf:(k==NameKind.free)=true
   . rw [dZ,if_pos hf] at h
     rcases ih (λn' h'=>hn n' (mcm _ h')) h with h | h
     . rcases mcp h with e | h
       . cases e
         obtain ⟨c,hc⟩:=hn _ (by rw [eq_of_beq hf];exact mcs);exact .inr (by rw [hc];rfl)
       . exact .inl h
     . exact .inr h
   . rw [dZ,if_neg hf] at h
     exact ih (λn' h'=>hn n' (mcm _ h')) h
theorem uu :∀{ns:List (Str×NameKind)} {acc:List (Str×Addr)} {e:Str×Addr},e∈acc->e∈d7 env ns acc:=by
 intro ns
 induction ns with
 | nil=>
   intro acc e h;exact h
 | cons hd r ih=>
   intro acc e h;obtain ⟨n,k⟩:=hd;by_cases hf:(k==NameKind.free)=true
   . rw [dZ,if_pos hf];exact ih (mcm _ h)
   . rw [dZ,if_neg hf];exact ih h
theorem vP :∀{ns:List (Str×NameKind)} {acc:List (Str×Addr)},(x,NameKind.free)∈ns->∃c,(x,c)∈d7 env ns acc:=by
 intro ns
 induction ns with
 | nil=>intro acc h;exact (Be h).elim
 | cons e r ih=>
   intro acc h;obtain ⟨n,k⟩:=e;rcases mcp h with e | h
   . cases e
     rw [dZ,if_pos (show (NameKind.free==NameKind.free)=true from rfl)];exact ⟨_,uu mcs⟩
   . rw [dZ]
     by_cases hf:(k==NameKind.free)=true
     . rw [if_pos hf];exact ih h
     . rw [if_neg hf];exact ih h
theorem uL {α:Type}{l:List (Str×α)}{c:α}(h:(x,c)∈l):∃c',l.lookup x=some c':=by
 induction l with
 | nil=>exact (Be h).elim
 | cons e r ih=>
   rw [BH]
   cases hb:x==e.1 with
   | true=>exact ⟨_,rfl⟩
   | false=>
     rcases mcp h with q | h
     . exact (ne_of_beq_false hb (congrArg (·.1) q)).elim
     . exact ih h
theorem md {ns:List (Str×NameKind)}(hn:∀n,(n,NameKind.free)∈ns->∃c,env.cells.lookup n=some c)(h:(x,NameKind.free)∈ns):∃c,(d7 env ns []).lookup x=some c/\env.cells.lookup x=some c:=by
 obtain ⟨c,hc⟩:=vP (env:=env) (acc:=[]) h;obtain ⟨c',hc'⟩:=uL hc;rcases iI hn (mem_of_lookup hc') with q | q
 . cases q
 . exact ⟨c',hc',q⟩
structure dt (B:aI)(f:Addr)(name qual:Str)(params:Arguments)(body:List Stmt)(scope:Scope)(σ:St):Prop where
 at_:∃clos doc pm cv ctv,B.g.get? f=some { cls:=.type "function",data:=.func (fnX name qual params body scope clos .none .none doc pm none cv ctv) }/\B.g.CodeRec cv qual/\
   (∀x p,(x,NameKind.free)∈scope.names->(x,NameKind.cell,some p)∈σ->fj p=true->∃c v,clos.lookup x=some c/\B.g.IsCell c (some v)/\∀T h,VR h T v p)/\
   (∀x y c,clos.lookup x=some c->clos.lookup y=some c->x=y)
theorem sI {name:Str}{k:NameKind}(h:env.kindOf name=some k)(hk:k≠.globalExplicit):qualnameIn env name name=env.qual++name:=by
 unfold qualnameIn;rw [h,if_neg];intro q;exact hk (by simpa using q)
end
set_option tactic.hygienic true in
theorem mT {p:Pos}{a b:Int}{c cv:Value}(l:List Value)(h:TriplesOk l):codeAmong p (l++[rawInt a,rawInt b,c])=some cv->codeAmong p l=some cv\/((p.line:Int)=a/\(p.col:Int)=b/\cv=c):=by
 fun_induction TriplesOk l with
 | case1=>
   intro e;simp only [Bp,codeAmong,rawInt] at e;split at e
   . rename_i hc
     simp only [BX,beq_iff_eq] at hc;exact .inr ⟨hc.1.symm,hc.2.symm,(Option.some.inj e).symm⟩
   . cases e
 | case2 x t y u z rest ih=>
   intro e;simp only [Bl,codeAmong] at e ⊢;split at e
   . rename_i hc;rw [if_pos hc];exact .inl e
   . rename_i hc;rw [if_neg hc];exact ih h e
 | case3=>exact h.elim
theorem sk {l:List Value}(h:TriplesOk l){t:Tok}:l[1]?≠some (.str x t):=by
 fun_induction TriplesOk l with
 | case1=>exact λe=>(by cases e)
 | case2 a t y u z rest ih=>exact λe=>(by cases ((e:some (Value.int y u)=some (.str x _))))
 | case3=>exact h.elim
section
theorem ll {c:Addr}{q:Str}{P:Addr}{ps:Array Value}(r:h.CodeRec (.ref c) q)(hP:h.get? P=some (tabObj ps))(ht:TriplesOk ps.toList):c≠P:=λe=>by
 obtain ⟨c',o,vs,t,e1,e2,e3,e4⟩:=r;cases e1;subst e;rw [hP] at e2;cases e2;cases e3;exact sk ht (by rw [Array.getElem?_toList];exact e4)
theorem kF (I:Inv B H s){q:Addr×Addr}(hq:q∈B.tabs):q.2∉H.map (·.1)/\q.2∉B.hid.map (·.1):=by
 obtain ⟨ps,h1,O⟩:=I.tabs q hq;exact ⟨iT I h1 (λO O=>(by intros;first | contradiction | (intro q;cases q))),fA I h1 (λO O=>(by intros;first | contradiction | (intro q;cases q)))⟩
theorem gF {cd:Value}{q:Str}{P:Addr}{ps:Array Value}(r:h.CodeRec cd q)(hP:h.get? P=some (tabObj ps))(ht:TriplesOk ps.toList)(hx:Heap.ExtBut P h h'):h'.CodeRec cd q:=by
 obtain ⟨c,o,vs,t,e1,e2,e3,e4⟩:=id r;subst e1;exact ⟨c,o,vs,t,rfl,hx _ _ (ll r hP ht) e2,e3,e4⟩
theorem Tr.grown {c P:Addr}{qual:Str}{ps:Array Value}{c':Addr}{tk:Tok}(I:Inv B H s)(N:ax qual pos P c B)(hP:s.heap.get? P=some (tabObj ps))(ht:TriplesOk ps.toList)
   (hc:∀p cv,codeAmong p ps.toList=some cv->∃qn,B.qn P p=some qn/\s.heap.CodeRec cv qn)
   (hx:Heap.ExtBut P s.heap h')(hz:s.heap.objs.size<=h'.objs.size)(hr:h'.CodeRec (.ref c') qual)(hP':h'.get? P=some (tabObj (ps++#[rawInt pos.line,rawInt pos.col,.ref c']))):Tr noU { s with heap:=h'.push o,toks:=tk } H s H B:=by
 have kk:∀a ob,a≠P->s.heap.get? a=some ob->(h'.push o).get? a=some ob:=λa ob hn e=>Heap.get?_push_of_some _ (hx a ob hn e);have tP:Trk H B P:=.inr (.inl (mmr ⟨_,N.mem,rfl⟩));have hsz:s.heap.objs.size<=(h'.push o).objs.size:=by rw [Heap.size_push];exact ntr hz (Aj _)
 refine ⟨⟨λa ob e=>kk a ob (λq=>?_) (I.keep a ob e),ntr I.size hsz,λq hq=>?_,I.bare,I.os,I.nodup,λq hq=>?_,λp hp=>?_⟩,⟨λa ob e hn=>kk a ob (λq=>hn (.inl (q▸tP))) e,hsz,λO O e=>e⟩,λO h=>.inl h⟩
 . have:=B.tabsHidden _ N.mem
   rw [q] at e;rw [e] at this;cases this
 . by_cases hq2:q.2=P
   . refine ⟨_,by rw [hq2];exact Heap.get?_push_of_some _ hP',by rw [Array.toList_append];exact TriplesOk_snoc _ _ _ _ ht,λp cv e=>?_⟩
     rw [Array.toList_append] at e;rcases mT _ ht e with e | ⟨a1,a2,a3⟩
     . obtain ⟨qn,b1,b2⟩:=hc p cv e
       exact ⟨qn,by rw [hq2];exact b1,(gF b2 hP ht hx).push _⟩
     . subst a3
       exact ⟨qual,by rw [hq2];exact N.qn p (Int.ofNat.inj a1) (Int.ofNat.inj a2),hr.push _⟩
   . obtain ⟨qs,h1,h2,h3⟩:=I.tabs q hq
     exact ⟨qs,kk _ _ hq2 h1,h2,λp cv e=>(h3 p cv e).imp λqn b=>⟨b.1,(gF b.2 hP ht hx).push _⟩⟩
 . obtain ⟨a,r1,r2,r3⟩:=I.hid q hq
   refine ⟨kk _ _ (λe=>(kF I N.mem).2 ?_) a,r1,r2,r3⟩;exact mmr ⟨q,hq,e⟩
 . obtain ⟨a,vs,n,e,r⟩:=I.objs p hp
   refine ⟨a,vs,n,kk _ _ (λe=>(kF I N.mem).1 (mmr ⟨p,hp,e⟩)) e,r.mono (λb ob eb O hn=>kk b ob (λq=>hn (q▸tP)) eb) λO O t=>t⟩
theorem E9 {c P:Addr}{qual name:Str}{params:Arguments}{clos:List (Str×Addr)}{Q:Value->Shared->Prop}(e:a9 B fi env)(I:Inv B H s)(N:ax qual pos P c B)(hfi:fi.code=some (c,P))(hcl:closureFor scope env=pure clos)
   (h:∀f doc pm cv ctv s',Tr noU s' H s H B->s.heap.objs.size<=f->s'.heap.get? f=some { cls:=.type "function",data:=.func (fnX name qual params body scope clos .none .none doc pm none cv ctv) }->s'.heap.CodeRec cv qual->Q (.ref f) s') :
   wpAny (model B.prog B.w) A (makeFunction name qual params (.stmts body) scope env [] [] [] pos pos.line) Q E s:=by
 obtain ⟨ps,hP,ht,hc⟩:=I.tabs _ N.mem;have C:CodeHd s.heap c P:=N.hd.keeps I.keep
 have ba:s.heap.BuiltinsAt B.mg P:=by
   obtain ⟨bm,o,h1,h2,h3,h4,h5,r⟩:=N.ba;exact ⟨bm,o,h1,h2,h3,h4,I.keep _ _ h5,r⟩
 have hg:=B.nsg.keeps I.keep
 cases hf:codeAmong pos ps.toList with
 | none=>
   refine makeFunction_K hcl e.globals hg (e.code _ _ hfi) C hP ht hf (B.low _ N.mem) ba λc' ctv doc h' tk hx hge hlt hr hP'=>?_;have hz:s.heap.objs.size<=h'.objs.size:=ntr hge (Ac hlt);exact h _ _ _ _ _ _ (Tr.grown I N hP ht hc hx hz hr hP') hz (Heap.get?_push_size _ rfl) (hr.push _)
 | some cv=>
   refine makeFunction_hit hcl e.globals hg (e.code _ _ hfi) C hP ht hf ba λctv doc h' tk hk hz=>?_;obtain ⟨qn,b1,b2⟩:=hc pos cv hf;have b3:=N.qn pos rfl rfl;rw [b1] at b3;cases b3;refine h _ _ _ _ _ _ (Tr.ext I (λa o e=>Heap.get?_push_of_some _ (hk a o e)) (by rw [Heap.size_push];exact ntr hz (Aj _)) rfl rfl) hz (Heap.get?_push_size _ rfl) ((b2.keeps hk).push _)
theorem gU {cv:Value}{q:Str}(I:Inv B H s)(r:s.heap.CodeRec cv q)(k:∀a o vs,s.heap.get? a=some o->o.data=.fields vs->¬Trk H B a->h'.get? a=some o):h'.CodeRec cv q:=by
 obtain ⟨c',o,vs,t,e1,e2,e3,e4⟩:=id r;refine ⟨c',o,vs,t,e1,k _ _ _ e2 e3 λq=>?_,e3,e4⟩;rcases q with q | q | q
 . exact iT I e2 (λO O=>by rw [e3];(intros;first | contradiction | (intro q;cases q))) q
 . obtain ⟨qq,hq,rfl⟩:=mmp q
   obtain ⟨ps,h1,h2,O⟩:=I.tabs qq hq;subst e1;exact ll r h1 h2 rfl
 . exact fA I e2 (λO O=>by rw [e3];(intros;first | contradiction | (intro q;cases q))) q
theorem aA.nloc (F:aA s H σ env B)(e:s.heap.get? a=some o)(hd:∀es n,o.data≠.dict es n):a≠env.locals:=λq=>by
 obtain ⟨O,⟨O,O,O,e',hd',O⟩,O⟩:=F.ns;subst q;cases e.symm.trans e';exact hd _ _ hd'
theorem C5 {name qual:Str}{params:Arguments}{c P:Addr}{k:NameKind}{σ':Addr->St}
   (N:ax qual pos P c B)(hfi:fi.code=some (c,P))(hq:fi.qual++name=qual)(hd0:params.defaults=[])(hk0:params.kw_defaults=[])(ha:∀env,annTrees params none env=[])
   (hfr:∀n,(n,NameKind.free)∈scope.names->∃ov,(n,NameKind.cell,ov)∈σ)(hrep:∀f,Rep name (.raw (.ref f)) k σ (σ' f))(hst:bD fi k)
   (h:∀g hk ht f,dt (B.up g hk ht) f name qual params body scope (σ' f)->Xs E (B.up g hk ht) d { fi with comp:=λO=>true } H (σ' f) rest Qn Qf) :
   Xs E B d fi H σ (.FunctionDef name params body [] none [] scope none name pos::rest) Qn Qf:=λA s env e R I F=>by
 have hcells:∀n,(n,NameKind.free)∈scope.names->∃c,env.cells.lookup n=some c:=λn hn=>by
   obtain ⟨ov,hm⟩:=hfr n hn;obtain ⟨c,O,hc,O⟩:=F.cell n ov (.inl hm);exact ⟨c,hc⟩
 have hkn:env.kindOf name=some k:=by
   obtain ⟨ov,hm⟩:=(hrep default).has;exact F.kindOf hm
 have hqe:qualnameIn env name name=qual:=by
   rw [sI hkn (by rcases hst with rfl | ⟨rfl,_⟩ <;> (intros;first | contradiction | (intro q;cases q))),e.qual,hq]
 refine wpAny_execs_cons ?_;refine nestDef_K hd0 hk0 (ha env) ?_;rw [hqe];refine E9 e I N hfi (gw hcells) λf doc pm cv ctv s₁ t₁ hf ho hr=>?_;refine wpm (dD e t₁.inv (F.tr I t₁) (.raw _) (hrep f) hst) (λO s₂ hh1=>?_);obtain ⟨t₂,F₂⟩:=hh1;have I₂:=t₂.inv;have t:Tr (bT env) s₂ H s H B:=t₁.up.trans t₂
 have fresh:∀a,Trk H B a\/bT env a->a<s.heap.objs.size:=λa q=>by
   rcases q with q | q
   . exact dN I q
   . exact F.own_lt q
 have ho₂:=t₂.step.heap f _ ho λq=>absurd (fresh f q) (nlr hf);have F₁:=F.tr I t₁;have hr₂:s₂.heap.CodeRec cv qual:=gU t₁.inv hr λa o vs e d n=>t₂.step.heap a o e λq=>q.elim n λu=>(F₁.own_not u e).2 vs d;have pinned:∀{a:Addr} {o:Obj},s₂.heap.get? a=some o->¬Trk H B a->a≠env.locals->(c9 B.g s₂.heap λa=>¬Trk H B a/\a≠env.locals).get? a=some o:=λe h1 h2=>by rw [de ⟨h1,h2⟩];exact e
 have hz:B.g.objs.size<=(c9 B.g s₂.heap λa=>¬Trk H B a/\a≠env.locals).objs.size:=by rw [c0];exact I₂.size
 have NF:dt (B.up _ (f6 I₂ F₂) (gC I₂)) f name qual params body scope (σ' f):=by
   refine ⟨_,doc,pm,cv,ctv,pinned ho₂ (b9 I₂ ho₂ (λO O=>(by intros;first | contradiction | (intro q;cases q))) (λO=>(by intros;first | contradiction | (intro q;cases q)))) (F₂.nloc ho₂ (λO O=>(by intros;first | contradiction | (intro q;cases q)))),gU I₂ hr₂ λa o vs e d n=>pinned e n (F₂.nloc e λO O=>by rw [d];(intros;first | contradiction | (intro q;cases q))),λx p hx hp hh=>?_,λx y c hx hy=>?_⟩
   . obtain ⟨c,hc1,hc2⟩:=md hcells hx
     obtain ⟨c',w,hc',⟨o,eo,ed⟩,v,hw,hv⟩:=F₂.cell x _ (.inl hp);rw [hc2] at hc';cases hc';subst hw;exact ⟨c,v,hc1,⟨o,pinned eo (b9 I₂ eo (λO O=>by rw [ed];(intros;first | contradiction | (intro q;cases q))) (λO=>by rw [ed];(intros;first | contradiction | (intro q;cases q)))) (F₂.nloc eo (λO O=>by rw [ed];(intros;first | contradiction | (intro q;cases q)))),ed⟩,hv.hard hh⟩
   . rcases iI hcells (mem_of_lookup hx) with q | q
     . cases q
     . rcases iI hcells (mem_of_lookup hy) with q' | q'
       . cases q'
       . exact F.apart x y c q q'
 refine wpm (h _ (f6 I₂ F₂) (gC I₂) f NF A s₂ env e.still R (I₂.pin F₂) (F₂.pin I₂)) (λfl s₃ hh1=>by obtain ⟨σ₃,H₃,t₃,F₃,q⟩:=hh1;exact ⟨σ₃,H₃,t.trans (t₃.down hz),F₃.down,q⟩)
end
noncomputable def aCh (B:aI)(bs:List (Str×PV))(out:St)(e:Str×NameKind×Option PV):Prop:=match e.2.1 with
 | .local=>∀p,e.2.2=some p->(e.1,p)∈bs
 | .globalImplicit=>∀p,e.2.2=some p->aC B e.1 p
 | .free=>∃p,e.2.2=some p/\(e.1,NameKind.cell,some p)∈out/\fj p=true
 | _=>False
noncomputable def dX (B:aI)(bs:List (Str×PV))(out:St)(ns:List (Str×NameKind))(σ:St):Prop:=σ.map (λe=>(e.1,e.2.1))=ns/\∀e∈σ,aCh B bs out e
section
variable {bs:List (Str×PV)}{out:St}{ns:List (Str×NameKind)}
theorem dX.keys (h:dX B bs out ns σ):σ.map (λe=>(e.1,e.2.1))=ns:=h.1
theorem dX.all (h:dX B bs out ns σ):∀e∈σ,aCh B bs out e:=h.2
theorem dX.nil:dX B bs out [] []:=⟨rfl,λO h=>absurd h Be⟩
theorem dX.cons {k:NameKind}{ov:Option PV}(q:aCh B bs out (x,k,ov))(h:dX B bs out ns σ):dX B bs out ((x,k)::ns) ((x,k,ov)::σ):=⟨congrArg (List.cons _) h.1,fmc ⟨q,h.2⟩⟩
theorem dX.arg (h1:(x,p)∈bs)(h:dX B bs out ns σ):dX B bs out ((x,.local)::ns) ((x,.local,some p)::σ):=.cons (λO e=>Option.some.inj e▸h1) h
theorem dX.unset (h:dX B bs out ns σ):dX B bs out ((x,.local)::ns) ((x,.local,Option.none)::σ):=.cons (λO e=>(by cases e)) h
theorem dX.glob (h1:aC B x p)(h:dX B bs out ns σ):dX B bs out ((x,.globalImplicit)::ns) ((x,.globalImplicit,some p)::σ):=.cons (λO e=>Option.some.inj e▸h1) h
theorem dX.free (h1:(x,NameKind.cell,some p)∈out)(h2:fj p=true)(h:dX B bs out ns σ):dX B bs out ((x,.free)::ns) ((x,.free,some p)::σ):=.cons ⟨_,rfl,h1,h2⟩ h
end
section
theorem dt.call {name qual:Str}{params:Arguments}{scope:Scope}{σ₀:St}{args:List PV}{kw bs:List (Str×PV)}(h:dt B f name qual params body scope σ)
   (hb:∀clos doc pm cv ctv,cB B (fnX name qual params body scope clos .none .none doc pm none cv ctv) args kw H bs)(hbn:(bs.map (λe=>e.1)).Nodup)(hbk:∀e∈bs,(e.1,NameKind.local)∈scope.names)
   (hsn:(scope.names.map (λe=>e.1)).Nodup)(hnc:∀e∈scope.names,e.2≠.cell)(hk:scope.kind=.function)(hco:scope.isCoroutine=false)(hge:scope.isGenerator=false)(hi:dX B bs σ scope.names σ₀)
   (hx:Xs NoE B d ⟨scope,none,qual++".<locals>.",λO=>false⟩ H σ₀ body (λO H'=>Q .none H') (PX Q)):aF kw NoE H B (d+1) (.raw (.ref f)) args Q:=λA s R I fv vs kvs h1 h2 h3=>by
 obtain ⟨clos,doc,pm,cv,ctv,ho,hcr,hcell,hap⟩:=h.at_;cases h1;refine wpAny_call ?_;refine codeAny_call_function (by have:=R.depth;lia) (I.keep _ _ ho) rfl hco hge rfl (hcr.keeps I.keep) ?_;refine hb clos doc pm cv ctv _ s I vs kvs h2 h3 _ _ λbv hbv=>?_;have hn1:(bv.map (λe=>e.1)).Nodup:=hbv.2.symm▸hbn;refine wpAny_newFunctionEnv hnc (λx hx=>?_) (λh' hns hsb=>?_) hk
 . obtain ⟨e',he',hee⟩:=mmp (hbv.2▸Bk (f:=λe:Str×Value=>e.1) hx:x.1∈bs.map (λe=>e.1))
   exact aY hsn (hee▸hbk e' he')
 have t₁:Tr noU { s with heap:=h',toks:=s.toks+bv.length } H s H B:=Tr.ext I (λa o e=>(hsb.2 a (AD (Heap.lt_size e))).trans (Heap.get?_push_of_some _ e)) (by rw [hsb.1,Heap.size_push];exact Aj _) rfl rfl;refine ⟨B.nolimit.keeps t₁.inv.keep,codeAny_func ?_⟩;generalize henv:newEnv scope s.heap.objs.size mainGlobals clos (qual++".<locals>.") (some f) cv none builtinsNs=env;obtain ⟨hlo,hcs,hsc,hgl,hbu,hq⟩:env.locals=s.heap.objs.size/\env.cells=clos/\env.scope=scope/\env.globals=mainGlobals/\env.builtins=builtinsNs/\env.qual=qual++".<locals>.":=henv▸⟨rfl,rfl,rfl,rfl,rfl,rfl⟩;have nocell:∀x,env.kindOf x≠some .cell:=λx hm=>hnc (x,.cell) (mem_of_lookup (by unfold Env.kindOf at hm;rw [hsc] at hm;exact hm)) rfl;have mk:∀{x:Str} {k:NameKind} {ov:Option PV},(x,k,ov)∈σ₀->(x,k)∈scope.names:=λhm=>hi.keys▸Bk (f:=λe:Str×NameKind×Option PV=>(e.1,e.2.1)) hm
 have Fr:aA { s with heap:=h',toks:=s.toks+bv.length } H σ₀ env B:=by
   refine ⟨Heap.get?_none_of_le (hlo▸I.size),λx y c hx hy=>hap x y c (hcs▸hx) (hcs▸hy),hi.keys.trans (hsc▸rfl),hsc▸hsn,⟨_,by rw [hlo];exact hns,λx p hm=>?_⟩,λx ov hm=>?_,λx p hm=>hi.all _ hm p rfl⟩
   . obtain ⟨v,hv,hr⟩:=VRs.zip_mem hbv.1 hbv.2 _ (hi.all _ hm p rfl)
     exact ⟨v,aY (by rw [Bs];exact List.pairwise_reverse.mpr (hn1.imp λh=>Ne.symm h)) (List.mem_reverse.mpr hv),hr.tr t₁⟩
   . rcases hm with hm | hm
     . exact absurd rfl (hnc _ (mk hm))
     . obtain ⟨p,e,q1,q2⟩:=hi.all _ hm
       obtain ⟨c,v,c1,c2,c3⟩:=hcell x p (mk hm) q1 q2;exact ⟨c,some v,hcs▸c1,c2.keeps t₁.inv.keep,(show ov=some p from e)▸⟨v,rfl,c3 _ _⟩⟩
 exact wpAny_mono (hx (A.deeper env) _ env ⟨hsc,hk,hco,hgl,hbu,hq,(λc P e=>(by cases e)),(λx O c hx O=>absurd hx (nocell x)),(λx O c hx O=>absurd hx (nocell x))⟩ (R.deeper env) t₁.inv Fr) (λfl s' p=>tS I t₁ (λa ha=>ha.elim (λe=>Ad (by rw [e];exact hlo.symm)) λq=>q.elim λx q=>absurd q.1 (nocell x)) p) λO O x=>x.elim
end
noncomputable abbrev pw:Program:=PySem.Challenge.pw_wc0020_01
noncomputable abbrev w9:Nat:=11
noncomputable abbrev aFt:Nat:=12
noncomputable abbrev gQ:Nat:=13
noncomputable abbrev dI:Nat:=14
noncomputable abbrev ey:Nat:=15
noncomputable abbrev ie:Nat:=16
noncomputable abbrev kR:Nat:=18
noncomputable abbrev bq:Nat:=19
noncomputable abbrev kB:Nat:=20
noncomputable abbrev cZ:Nat:=21
noncomputable abbrev cH:Nat:=23
noncomputable abbrev iH:Nat:=24
noncomputable abbrev jr:Nat:=25
noncomputable abbrev rb:Nat:=26
noncomputable abbrev j1:Nat:=6
noncomputable abbrev eI:Nat:=7
noncomputable abbrev nb:Nat:=8
noncomputable def aJ (k:Nat):Stmt:=(pw.main.body[k]?).getD (.Pass default)
set_option backward.match.sparseCases false in
noncomputable def ee:Stmt->Arguments
 | .FunctionDef _ a _ _ _ _ _ _ _ _=>a
 | _=>⟨[],[],none,[],[],none,[]⟩
set_option backward.match.sparseCases false in
noncomputable def aZ:Stmt->List Stmt
 | .FunctionDef _ _ b _ _ _ _ _ _ _=>b
 | _=>[]
set_option backward.match.sparseCases false in
noncomputable def aG:Stmt->Scope
 | .FunctionDef _ _ _ _ _ _ s _ _ _=>s
 | _=>⟨.module,[],false,false,[]⟩
set_option genInjectivity false in
set_option genSizeOf false in
structure af (dV:Value)(kV:Value)(k:Nat)(name:Str)(f:Addr)(cdv:Value)(B:aI):Prop where
 at_:∃oc od osl doc pm an ct,B.g.get? f=some ⟨oc,od,.func (fnOf name name (ee (aJ k)) (aZ (aJ k)) (aG (aJ k)) dV kV doc pm an cdv ct),osl⟩
 code:B.g.CodeRec cdv name
noncomputable abbrev d8 (k:Nat)(name:Str):aN:=⟨aG (aJ k),none,name++".<locals>.",λO=>false⟩
noncomputable abbrev bN (name:Str)(k:Nat)(dV kV doc pm:Value)(an:Option Addr)(cdv ct:Value):FuncData:=fnOf name name (ee (aJ k)) (aZ (aJ k)) (aG (aJ k)) dV kV doc pm an cdv ct
noncomputable def bb (nm:List Str)(s:Scope):Bool:=
 decide nm.Nodup && nm.all (λx=>s.names.any λe=>decide (e.1=x) && (e.2==.local || e.2==.cell)) && decide ((s.names.map λe=>e.1).Nodup) && s.names.all (λe=>e.2 != .free) && (s.kind==.function) && !s.isCoroutine && !s.isGenerator
theorem dw {nm:List Str}{s:Scope}(h:bb nm s=true):nm.Nodup:=by
 simp only [bb,BX,decide_eq_true_eq] at h;exact h.1.1.1.1.1.1
theorem f9 {nm:List Str}{s:Scope}(h:bb nm s=true):∀x∈nm,∃k,(x,k)∈s.names/\gN k:=λx hx=>by
 simp only [bb,BX,BK,List.any_eq_true,decide_eq_true_eq,BY,beq_iff_eq] at h;obtain ⟨⟨y,k⟩,he,rfl,hk⟩:=h.1.1.1.1.1.2 x hx;exact ⟨k,he,hk⟩
theorem dq {nm:List Str}{s:Scope}(h:bb nm s=true):(s.names.map λe=>e.1).Nodup:=by
 simp only [bb,BX,decide_eq_true_eq] at h;exact h.1.1.1.1.2
theorem eK {nm:List Str}{s:Scope}(h:bb nm s=true):∀e∈s.names,e.2≠.free:=λe he=>by
 simp only [bb,BX,BK] at h;have:=h.1.1.1.2 e he;simpa using this
theorem eZ {nm:List Str}{s:Scope}(h:bb nm s=true):s.kind=.function:=by
 simp only [bb,BX,beq_iff_eq] at h;exact h.1.1.2
theorem ip {nm:List Str}{s:Scope}(h:bb nm s=true):s.isCoroutine=false:=by
 simp only [bb,BX,BZ] at h;exact h.1.2
theorem f5 {nm:List Str}{s:Scope}(h:bb nm s=true):s.isGenerator=false:=by
 simp only [bb,BX,BZ] at h;exact h.2
section
theorem af.call {name:Str}(h:af dV kV k name f cdv B){args:List PV}{kw bs:List (Str×PV)}{nm:List Str}{σ₀:St}
   (hb:∀doc pm an ct,cB B (bN name k dV kV doc pm an cdv ct) args kw H bs)(hnm:bs.map (λe=>e.1)=nm)(hc:bb nm (aG (aJ k))=true)
   (hi:Ini B bs (aG (aJ k)).names σ₀)(hx:Xs NoE B d (d8 k name) H σ₀ (aZ (aJ k)) (λO H'=>Q .none H') (PX Q)):aF kw NoE H B (d+1) (.raw (.ref f)) args Q:=by
 obtain ⟨oc,od,osl,doc,pm,an,ct,ho⟩:=h.at_;exact tA (fd:=bN name k dV kV doc pm an cdv ct) (cp:=none) (λs I=>I.keep _ _ ho) rfl rfl (λs I=>h.code.keeps I.keep) (eZ hc) (ip hc) (f5 hc) rfl rfl (λO O h=>(by cases h)) (hb doc pm an ct)
   (by rw [hnm];exact dw hc) (λe he=>f9 hc _ (by rw [<-hnm];exact mmr ⟨e,he,rfl⟩)) (dq hc) (eK hc) hi hx
end
noncomputable abbrev qf (hs:Int)(tk:Tok)(n:Nat):Obj:={ cls:=.type "dict",dict:=none,data:=.dict #[⟨hs,.str (Ω "key") tk,.none⟩] n,slots:=#[] }
set_option genInjectivity false in
set_option genSizeOf false in
structure aw (B:aI)(dV kV:Value):Prop where
 d:∃T n t,dV=.ref T/\B.g.get? T=some (bf #[.int 0 t,.none] n)
 k:∃D hs tk n,kV=.ref D/\B.g.get? D=some (qf hs tk n)
set_option backward.match.sparseCases false in
noncomputable def sy {α:Type}(S:Setting):Sem α->List Obj->Option (List Addr×α)
 | .pure a=>λos=>if os.isEmpty then some ([],a) else none
 | .rule _ k=>sy S (k ())
 | .point _ k=>sy S (k ())
 | .ask k=>sy S (k S)
 | .load a _ k=>λos=>os.head?.bind λo=>(sy S (k o) os.tail).map λr=>(a::r.1,r.2)
 | _=>λO=>none
noncomputable abbrev b0 {α:Type}(S:Setting)(os:List Obj)(t:Sem α):Option (List Addr×α):=sy S t os
theorem qG {α:Type}{a:α}{P:Prop}(h:(none:Option α)=some a):P:=by cases h
theorem uw {α:Type}{M:Model}{Γ:Ctx}{Q:α->Pos->Shared->Prop}{E:Value->Pos->Shared->Prop}{p:Pos} :
   ∀(t:Sem α) (os:List Obj) (as:List Addr) (r:α),b0 ⟨M.prog,M.w.params⟩ os t=some (as,r)->(∀e∈as.zip os,s.heap.get? e.1=some e.2)->Q r p s->Sem.wp M Γ t Q E p s:=by
 intro t
 induction t with
 | pure b=>
   intro os as r e _ q
   cases os with
   | nil=>cases e;exact q
   | cons _ _=>exact qG e
 | rule _ k ih=>intro os as r e h q;exact ih () os as r e h q
 | point _ k ih=>intro os as r e h q;exact ih () os as r e h q
 | ask k ih=>intro os as r e h q;exact ih _ os as r e h q
 | load a _ k ih=>
   intro os as r e h q
   cases os with
   | nil=>exact qG e
   | cons o os=>
     obtain ⟨⟨as',r'⟩,e1,e2⟩:=Option.map_eq_some_iff.mp e;cases e2;exact ⟨o,h (a,o) mcs,ih o os as' r' e1 (λx hx=>h x (mcm _ hx)) q⟩
 | _=>exact λO O O e O O=>qG e
theorem bc {α:Type}{M:Model}{Q:α->Shared->Prop}{t:Sem α}{os:List Obj}{as:List Addr}{r:α}(e:b0 ⟨M.prog,M.w.params⟩ os t=some (as,r))(h:∀e∈as.zip os,s.heap.get? e.1=some e.2)(q:Q r s):wpAny M A t Q E s:=
 λO O O=>uw t os as r e h q
section
variable {T D:Addr}{t tk:Tok}{hs:Int}{name:Str}{doc pm ct:Value}{v u z ky:Value}
noncomputable abbrev rM (n m:Nat)(t tk:Tok)(hs:Int):List Obj:=[bf #[.int 0 t,.none] n,qf hs tk m]
noncomputable abbrev dn (v w u z ky:Value):List (Str×Value):=[(Ω "a",v),(Ω "x",w),(Ω "lo",u),(Ω "hi",z),(Ω "key",ky)]
noncomputable abbrev ko (k:Nat)(name:Str)(T D:Addr)(doc pm:Value)(an:Option Addr)(cdv ct:Value):FuncData:=bN name k (.ref T) (.ref D) doc pm an cdv ct
theorem aFj:b0 S (rM n m t tk hs) (bindArgs (ko cZ name T D doc pm an cdv ct) ⟨[v,w],[]⟩)=some ([T,D],dn v w (.int 0 t) .none .none):=by kernel_rfl
theorem aEc:b0 S (rM n m t tk hs) (bindArgs (ko bq name T D doc pm an cdv ct) ⟨[v,w],[]⟩)=some ([T,D],dn v w (.int 0 t) .none .none):=by kernel_rfl
end
local macro_rules | `(tactic| walk_at $s:str) => do
 let n<-Lean.Macro.addMacroScope `h
 return match s.getString with
 | "c_r"=>nD "tacticRfl" [.atom .none "rfl"]
 | "c_d"=>nD "decide" [.atom .none "decide",nD "optConfig" [nL []]]
 | "c_i"=>nD "paren" [.atom .none "(",nQ [nD "intros" [.atom .none "intros",nL []],.atom .none ";",nW "c_r"],.atom .none ")"]
 | "c_u"=>nD "withUnfoldingAll" [.atom .none "with_unfolding_all",nQ [nW "c_r"]]
 | "w"=>nD "tacticRepeat_" [.atom .none "repeat",nQ [nW "mw"]]
 | "k"=>nD "tacticRepeat_" [.atom .none "repeat",nQ [nW "kk"]]
 | s=>nD "first" [.atom .none "first",nL (nT n (((nR.lookup s).getD "").splitOn "|"))]
theorem dE.cons {v:Value}{kvs:List (Str×Value)}{kw:List (Str×PV)}(a:VR h T v p)(b:dE T h kvs kw):dE T h ((x,v)::kvs) ((x,p)::kw):=⟨.cons a b.1,by simp only [Bg];rw [b.2]⟩
theorem dE.nl :dE T h [] []:=⟨.nil,rfl⟩
section
noncomputable abbrev Ct (a x lo hi key:PV):List (Str×PV):=[(Ω "a",a),(Ω "x",x),(Ω "lo",lo),(Ω "hi",hi),(Ω "key",key)]
theorem yi {fd:Value->Value->FuncData}{kvs:List (Str×Value)}{bv:Tok->List (Str×Value)}(D:aw B dV kV)(I:Inv B H s){Q:List (Str×Value)->Shared->Prop}
   (h:∀T D n m t tk hs,b0 ⟨B.prog,B.w.params⟩ (rM n m t tk hs) (bindArgs (fd (.ref T) (.ref D)) ⟨vs,kvs⟩)=some ([T,D],bv t))(q:∀t,Q (bv t) s):wpAny (model B.prog B.w) A (bindArgs (fd dV kV) ⟨vs,kvs⟩) Q E s:=by
 obtain ⟨T,n,t,rfl,e1⟩:=D.d;obtain ⟨D',hs,tk,m,rfl,e2⟩:=D.k;refine bc (os:=rM n m t tk hs) (h T D' n m t tk hs) (λe he=>?_) (q t);simp only [List.zip_cons_cons,List.zip_nil_right,List.mem_cons,Be,or_false] at he;rcases he with rfl | rfl
 . exact I.keep _ _ e1
 . exact I.keep _ _ e2
theorem wL {a x:PV}{fd:Value->Value->FuncData}(D:aw B dV kV)(hf:∀(S:Setting) T D n m t tk hs v w,b0 S (rM n m t tk hs) (bindArgs (fd (.ref T) (.ref D)) ⟨[v,w],[]⟩)=some ([T,D],dn v w (.int 0 t) .none .none)) :
   cB B (fd dV kV) [a,x] [] H (Ct a x (.int 0) .none .none):=λA s I vs kvs h1 h2 E Q hQ=>by
 obtain ⟨v,w,rfl,r1,r2⟩:=h1.two;rw [h2.nil];exact yi D I (bv:=λt=>dn v w (.int 0 t) .none .none) (λT D n m t tk hs=>hf _ T D n m t tk hs v w) λt=>hQ _ (.cons r1 (.cons r2 (.cons (.int _ _) (.cons .none (.cons .none .nl)))))
end
section
open Lean
noncomputable abbrev nX (a x lo hi:PV):St:=[(Ω "a",.local,some a),(Ω "x",.local,some x),(Ω "lo",.local,some lo),(Ω "hi",.local,some hi),(Ω "key",.local,some .none),(Ω "mid",.local,none),
 (Ω "ValueError",.globalImplicit,some (.raw (.type "ValueError"))),(Ω "len",.globalImplicit,some (.raw (.builtin "len")))]
noncomputable def clp (c lo hi:Nat):Nat:=max lo (min c hi)
theorem qo {c lo hi:Nat}(h:lo<hi)(hc:(lo+hi)/2<c):clp c ((lo+hi)/2+1) hi=clp c lo hi:=by
 have h1:(lo+hi)/2+1<=min c hi:=Nat.le_min.mpr ⟨hc,fD h⟩;unfold clp;rw [AP h1,AP (ntr (Aw (qr h)) h1)]
theorem qH {c lo hi:Nat}(h:lo<hi)(hc:¬(lo+hi)/2<c):clp c lo ((lo+hi)/2)=clp c lo hi:=by
 have h1:=Az hc;unfold clp;rw [AE h1,AE (ntr h1 (Ac (fD h)))]
theorem k2 {c lo hi:Nat}(h:¬lo<hi):clp c lo hi=lo:=A2 (ntr (AL _ _) (Az h))
theorem i0 {c:Nat}(h:c<=n):clp c 0 n=c:=(AP (Ab _)).trans (AE h)
theorem Ce {c lo hi:Nat}(h:lo<=n)(h2:hi<=n):clp c lo hi<=n:=Nat.max_le.mpr ⟨h,ntr (AL _ _) h2⟩
noncomputable abbrev aG3 (a x lo hi:PV)(mid:Option PV):St:=[(Ω "a",.local,some a),(Ω "x",.local,some x),(Ω "lo",.local,some lo),(Ω "hi",.local,some hi),(Ω "key",.local,some .none),(Ω "mid",.local,mid),
 (Ω "ValueError",.globalImplicit,some (.raw (.type "ValueError"))),(Ω "len",.globalImplicit,some (.raw (.builtin "len")))]
theorem jQ (lo hi:Nat):((lo:Int)+(hi:Int)).fdiv 2=((lo+hi)/2:Nat):=by
 rw [B7 _ ∅];lia
noncomputable def kY (hv:PV)(hi n:Nat):Prop:=(hv=.none/\hi=n)\/(hv=.int hi/\hi<=n)
theorem kY.le {hv:PV}{hi:Nat}(h:kY hv hi n):hi<=n:=by rcases h with ⟨_,h⟩ | ⟨_,h⟩ <;> lia
theorem gO (hv:aT H v xs)(hm:m<xs.length)(hn:xs.length<2 ^ 60)(h:Q xs[m] H):V2 H E B d (.int (m:Nat)) v getItem Q:=
 cM hv (B2 _) (Int.lt_trans (Int.ofNat_lt.mpr (Ag hm hn)) ∅) (List.getElem?_eq_getElem hm) h
inductive CH (H:AH)(a x:PV)(c lo hi n:Nat):Nat->SQ
 | mk {lo' hi':Nat} (mid:Option PV) (h:clp c lo' hi'=clp c lo hi) (hn:hi'<=n):CH H a x c lo hi n (hi'-lo') (aG3 a x (.int lo') (.int hi') mid) H
theorem D7 {st:Stmt}{S:St}(h:X B fi d E st σ H (λσ' H'=>σ'=S/\H'=H) Qf)(q:Qn S H):X B fi d E st σ H Qn Qf:=
λA s env eo R I F=>wpm (h A s env eo R I F) (λfl s' p=>by
   obtain ⟨σ',H',t,F',hq⟩:=p;rcases hq with ⟨e,rfl,rfl⟩ | h
   . exact ⟨_,_,t,F',.inl ⟨e,q⟩⟩
   . exact ⟨σ',H',t,F',.inr h⟩)
set_option tactic.hygienic true in
theorem y7 {a x hv:PV}{lo hi c:Nat}(ha:aT H a xs)(hh:kY hv hi xs.length)(hn:xs.length<2 ^ 60)
   (hlt:∀(d:Nat) m y,xs[m]?=some y->P2 (compareOp .Lt) y x (.bool (decide (m<c))))(q:Q (.int (clp c lo hi)) H) :
   Xs NoE B d (d8 cZ "bisect_left") H (nX a x (.int lo) hv) (aZ (aJ cZ)) (λ_ H'=>Q .none H') (PX Q):=by
 refine' aH ?_;ext;refine' mY (Int.not_lt.mpr (B2 _)) ?_;refine' dB (aH (D7 (S:=nX a x (.int lo) (.int hi)) ?_ ?_))
 . ext
   rcases hh with ⟨rfl,rfl⟩ | ⟨rfl,_⟩
   . ext
     refine' ifp rfl ?_;ext;refine ⟨aB,?_⟩;ext;refine ac ha hn ?_;ext;exact ⟨rfl,rfl⟩
   . ext
     refine' ifn BW ?_;ext;exact ⟨rfl,rfl⟩
 ext;refine' ifp rfl ?_;refine' aH (ec (CH H a x c lo hi xs.length) ⟨none,rfl,hh.le⟩ ?_)
 rintro _ _ _ ⟨mid,hb,hle'⟩
 rename_i lo' hi';ext;by_cases hc:lo'<hi'
 . refine' ifp (decide_eq_true (Int.ofNat_lt.mpr hc)) ?_
   ext;refine' d5 ∅ (ik ∅) ?_;rw [jQ];ext;refine ⟨aK ha,?_⟩;have hm:(lo'+hi')/2<xs.length:=nlt (fD hc) hle';refine gO ha hm hn ?_;ext;refine' rp (hlt d _ _ (List.getElem?_eq_getElem hm)) ?_;ext;by_cases hp:(lo'+hi')/2<c
   . refine' rq hp ?_
     ext;exact ⟨_,lf hc,⟨_,(qo hc hp).trans hb,hle'⟩⟩
   . refine' mY hp ?_
     ext;exact ⟨_,lO hc,⟨_,(qH hc hp).trans hb,Ac hm⟩⟩
 . refine' ifn (λe=>hc (Int.ofNat_lt.mp (of_decide_eq_true e))) ?_
   ext;rw [k2 hc] at hb;rw [<-hb] at q;exact q
set_option tactic.hygienic true in
theorem x9 {a x hv:PV}{lo hi c:Nat}(ha:aT H a xs)(hh:kY hv hi xs.length)(hn:xs.length<2 ^ 60)
   (hlt:∀(d:Nat) m y,xs[m]?=some y->P2 (compareOp .Lt) x y (.bool (!decide (m<c))))(q:Q (.int (clp c lo hi)) H) :
   Xs NoE B d (d8 bq "bisect_right") H (nX a x (.int lo) hv) (aZ (aJ bq)) (λ_ H'=>Q .none H') (PX Q):=by
 refine' aH ?_;ext;refine' mY (Int.not_lt.mpr (B2 _)) ?_;refine' dB (aH (D7 (S:=nX a x (.int lo) (.int hi)) ?_ ?_))
 . ext
   rcases hh with ⟨rfl,rfl⟩ | ⟨rfl,_⟩
   . ext
     refine' ifp rfl ?_;ext;refine ⟨aB,?_⟩;ext;refine ac ha hn ?_;ext;exact ⟨rfl,rfl⟩
   . ext
     refine' ifn BW ?_;ext;exact ⟨rfl,rfl⟩
 ext;refine' ifp rfl ?_;refine' aH (ec (CH H a x c lo hi xs.length) ⟨none,rfl,hh.le⟩ ?_)
 rintro _ _ _ ⟨mid,hb,hle'⟩
 rename_i lo' hi';ext;by_cases hc:lo'<hi'
 . refine' ifp (decide_eq_true (Int.ofNat_lt.mpr hc)) ?_
   ext;refine' d5 ∅ (ik ∅) ?_;rw [jQ];ext;refine ⟨aK ha,?_⟩;have hm:(lo'+hi')/2<xs.length:=nlt (fD hc) hle';refine gO ha hm hn ?_;ext;refine' rp (hlt d _ _ (List.getElem?_eq_getElem hm)) ?_;ext;by_cases hp:(lo'+hi')/2<c
   . refine' aC4 hp ?_
     ext;exact ⟨_,lf hc,⟨_,(qo hc hp).trans hb,hle'⟩⟩
   . refine' aB5 hp ?_
     ext;exact ⟨_,lO hc,⟨_,(qH hc hp).trans hb,Ac hm⟩⟩
 . refine' ifn (λe=>hc (Int.ofNat_lt.mp (of_decide_eq_true e))) ?_
   ext;rw [k2 hc] at hb;rw [<-hb] at q;exact q
theorem ki:bb [Ω "a",Ω "x",Ω "lo",Ω "hi",Ω "key"] (aG (aJ cZ))=true:=by decide +kernel
theorem CU {a x lo hi:PV}(gV:aC B "ValueError" (.raw (.type "ValueError")))(gl:aC B "len" (.raw (.builtin "len"))):Ini B (Ct a x lo hi .none) (aG (aJ cZ)).names (nX a x lo hi):=by
 refine .arg (by walk_at "mm") (.inl rfl) (.arg (by walk_at "mm") (.inl rfl) (.arg (by walk_at "mm") (.inl rfl) (.arg (by walk_at "mm") (.inl rfl) (.arg (by walk_at "mm") (.inl rfl) (.unset (.glob gV (.glob gl .nil)))))))
theorem yP {bs:List PV}{a x hv:PV}{lo hi c:Nat}(h:af dV kV cZ "bisect_left" f cdv B)(D:aw B dV kV)
   (gV:aC B "ValueError" (.raw (.type "ValueError")))(gl:aC B "len" (.raw (.builtin "len")))(ha:aT H a xs)(hh:kY hv hi xs.length)(hn:xs.length<2 ^ 60)
   (hlt:∀(d:Nat) m y,xs[m]?=some y->P2 (compareOp .Lt) y x (.bool (decide (m<c))))
   (hb:∀doc pm an ct,cB B (bN "bisect_left" cZ dV kV doc pm an cdv ct) bs [] H (Ct a x (.int lo) hv .none))(q:Q (.int (clp c lo hi)) H) :
   aF [] NoE H B (d+1) (.raw (.ref f)) bs Q:=
 h.call hb rfl ki (CU gV gl) (y7 ha hh hn hlt q)
theorem uN {a x:PV}{c:Nat}(h:af dV kV cZ "bisect_left" f cdv B)(D:aw B dV kV)
   (gV:aC B "ValueError" (.raw (.type "ValueError")))(gl:aC B "len" (.raw (.builtin "len")))(ha:aT H a xs)(hn:xs.length<2 ^ 60)
   (hlt:∀(d:Nat) m y,xs[m]?=some y->P2 (compareOp .Lt) y x (.bool (decide (m<c))))(q:Q (.int (clp c 0 xs.length)) H) :
   aF [] NoE H B (d+1) (.raw (.ref f)) [a,x] Q:=
 yP (lo:=0) (hi:=xs.length) (hv:=.none) h D gV gl ha (.inl ⟨rfl,rfl⟩) hn hlt (λdoc pm an ct=>wL (fd:=λdV kV=>bN "bisect_left" cZ dV kV doc pm an cdv ct) D λS T D n m t tk hs v w=>aFj) q
theorem iy:bb [Ω "a",Ω "x",Ω "lo",Ω "hi",Ω "key"] (aG (aJ bq))=true:=by decide +kernel
theorem DS {a x lo hi:PV}(gV:aC B "ValueError" (.raw (.type "ValueError")))(gl:aC B "len" (.raw (.builtin "len"))):Ini B (Ct a x lo hi .none) (aG (aJ bq)).names (nX a x lo hi):=by
 refine .arg (by walk_at "mm") (.inl rfl) (.arg (by walk_at "mm") (.inl rfl) (.arg (by walk_at "mm") (.inl rfl) (.arg (by walk_at "mm") (.inl rfl) (.arg (by walk_at "mm") (.inl rfl) (.unset (.glob gV (.glob gl .nil)))))))
theorem xF {bs:List PV}{a x hv:PV}{lo hi c:Nat}(h:af dV kV bq "bisect_right" f cdv B)(D:aw B dV kV)
   (gV:aC B "ValueError" (.raw (.type "ValueError")))(gl:aC B "len" (.raw (.builtin "len")))(ha:aT H a xs)(hh:kY hv hi xs.length)(hn:xs.length<2 ^ 60)
   (hlt:∀(d:Nat) m y,xs[m]?=some y->P2 (compareOp .Lt) x y (.bool (!decide (m<c))))
   (hb:∀doc pm an ct,cB B (bN "bisect_right" bq dV kV doc pm an cdv ct) bs [] H (Ct a x (.int lo) hv .none))(q:Q (.int (clp c lo hi)) H) :
   aF [] NoE H B (d+1) (.raw (.ref f)) bs Q:=
 h.call hb rfl iy (DS gV gl) (x9 ha hh hn hlt q)
theorem tv {a x:PV}{c:Nat}(h:af dV kV bq "bisect_right" f cdv B)(D:aw B dV kV)
   (gV:aC B "ValueError" (.raw (.type "ValueError")))(gl:aC B "len" (.raw (.builtin "len")))(ha:aT H a xs)(hn:xs.length<2 ^ 60)
   (hlt:∀(d:Nat) m y,xs[m]?=some y->P2 (compareOp .Lt) x y (.bool (!decide (m<c))))(q:Q (.int (clp c 0 xs.length)) H) :
   aF [] NoE H B (d+1) (.raw (.ref f)) [a,x] Q:=
 xF (lo:=0) (hi:=xs.length) (hv:=.none) h D gV gl ha (.inl ⟨rfl,rfl⟩) hn hlt (λdoc pm an ct=>wL (fd:=λdV kV=>bN "bisect_right" bq dV kV doc pm an cdv ct) D λS T D n m t tk hs v w=>aEc) q
end
section
open Lean
variable {dV' kV' cdv':Value}
theorem tg:bb [Ω "a",Ω "x",Ω "lo",Ω "hi",Ω "key"] (aG (aJ kB))=true:=by decide +kernel
theorem rz:bb [Ω "a",Ω "x",Ω "lo",Ω "hi",Ω "key"] (aG (aJ kR))=true:=by decide +kernel
theorem aD {name:Str}(h:af dV kV k name f cdv B):bo B (.raw (.ref f)):=by
 obtain ⟨oc,od,osl,doc,pm,an,ct,ho⟩:=h.at_;exact j3 ho rfl
end
noncomputable def aV:Nat->Bool->List Nat->List (Nat×List Nat)
 | i,e,[]=>if e then [(i-1,[92])] else []
 | i,true,c::r=>(i,[92,c])::aV (i+1) false r
 | i,false,c::r=>if c=92 then aV (i+1) true r else (i,[c])::aV (i+1) false r
theorem dv {c:Nat}:aV i false (c::r)=if c=92 then aV (i+1) true r else (i,[c])::aV (i+1) false r:=rfl
noncomputable def dS (t:Nat×List Nat):PV:=.tup [.int t.1,.str ⟨t.2.toArray⟩]
noncomputable def B0 (B:aI):aI:={ B with tabs:=[],tabsHidden:=(λO h=>(by cases h)),low:=(λO h=>(by cases h)) }
theorem aDk (I:Inv B H s):Inv (B0 B) [] s:=⟨I.keep,I.size,(λO h=>(by cases h)),I.bare,I.os,List.nodup_nil,(λq hq=>let ⟨a,b,c,_⟩:=I.hid q hq;⟨a,b,c,(λh=>(by cases h))⟩),(λO h=>(by cases h))⟩
theorem aGd (I:Inv (B0 B) [] s)(e:s.heap.get? a=some o)(hs:¬ah o):¬Trk [] (B0 B) a:=λq=>by
 rcases q with q | q | q
 . cases q
 . cases q
 . exact fA I e (λvs n h=>hs ⟨vs,n,h⟩) q
section
noncomputable abbrev stG (x:Str)(p e ch:Option PV):St:=[(Ω "addr",.local,some (.str x)),(Ω "pos",.local,p),(Ω "escape",.local,e),(Ω "ch",.local,ch),(Ω "enumerate",.globalImplicit,some (.raw (.type "enumerate")))]
noncomputable abbrev fiG:aN:=d8 cH "_iter_escaped_chars"
structure bM (B:aI)(ws:List Addr)(s s':Shared):Prop where
 inv:Inv (B0 B) [] s'
 heap:∀a o,s.heap.get? a=some o->a∉ws->s'.heap.get? a=some o
 size:s.heap.objs.size<=s'.heap.objs.size
 gens:∀(i:Nat) (x:GenState),s.gens[i]?=some x->s'.gens[i]?=some x
theorem bM.refl {ws:List Addr}(I:Inv (B0 B) [] s):bM B ws s s:=⟨I,λO O e O=>e,Aa _,λO O e=>e⟩
theorem bM.trans {ws:List Addr}{s'':Shared}(a:bM B ws s s')(b:bM B ws s' s''):bM B ws s s'':=
 ⟨b.inv,λx o e n=>b.heap x o (a.heap x o e n) n,ntr a.size b.size,λi x e=>b.gens i x (a.gens i x e)⟩
theorem bM.of_tr {ws:List Addr}(I:Inv (B0 B) [] s)(hc:env.cells=[])(hw:env.locals∈ws)(t:Tr (bT env) s' [] s [] (B0 B)):bM B ws s s':=
by
 refine ⟨t.inv,λa o e n=>?_,t.step.size,t.step.gens⟩;by_cases hh:a∈(B0 B).hid.map (·.1)
 . obtain ⟨q,hq,rfl⟩:=mmp hh
   have h1:=(I.hid q hq).1;rw [e] at h1;cases h1;exact (t.inv.hid q hq).1
 . refine t.step.heap a o e λq=>?_
   rcases q with q | q | ⟨x,_,hx,_⟩
   . rcases q with q | q | q
     . cases q
     . cases q
     . exact hh q
   . exact n (q▸hw)
   . rw [hc] at hx;cases hx
structure jq (B:aI)(ws:List Addr)(s s':Shared):Prop where
 inv:Inv (B0 B) [] s'
 own:∀a∈ws,∀o,s.heap.get? a=some o->s'.heap.get? a=some o
noncomputable def aG7 (q:PV):Prop:=∀{T T':Addr->Prop} {h h':Heap} {v:Value},VR h T v q->VR h' T' v q
noncomputable def cR (o:Option PV):Prop:=∀q,o=some q->aG7 q
noncomputable def aE8 (e:Str×NameKind×Option PV):Prop:=match e.2.1 with
 | .local=>cR e.2.2
 | .globalImplicit=>True
 | _=>False
theorem dJ {i:Int}:cR (some (.int i)):=λq e=>Option.some.inj e▸λr=>by obtain ⟨O,rfl⟩:=r.inv;exact .int _ _
theorem dL {z:Str}:cR (some (.str z)):=λq e=>Option.some.inj e▸λr=>by obtain ⟨O,rfl⟩:=r.inv;exact .str _ _
theorem fF {b:Bool}:cR (some (.bool b)):=λq e=>Option.some.inj e▸λr=>by rw [r.inv];exact .bool _
theorem fK:cR none:=λq e=>(by cases e)
theorem g8 {x:Str}{p e ch:Option PV}(h1:cR p)(h2:cR e)(h3:cR ch):∀q∈stG x p e ch,aE8 q:=
 fmc ⟨dL,fmc ⟨h1,fmc ⟨h2,fmc ⟨h3,fmc ⟨trivial,λO h=>absurd h Be⟩⟩⟩⟩⟩
theorem aA.glater {x:Str}{p e ch:Option PV}{ws:List Addr}(F:aA s [] (stG x p e ch) env (B0 B))(hw:env.locals∈ws)(l:jq B ws s s')
   (hp:∀q∈stG x p e ch,aE8 q):aA s' [] (stG x p e ch) env (B0 B):=by
 refine ⟨F.fresh,F.apart,F.keys,F.nodup,?_,λy ov hy=>hy.elim (λh=>(hp _ h).elim) λh=>(hp _ h).elim,F.glob⟩;obtain ⟨m,⟨o,es,ep,ho,hd,r⟩,hm⟩:=F.ns;refine ⟨m,⟨o,es,ep,l.own _ hw _ ho,hd,r⟩,λy q hy=>?_⟩;obtain ⟨v,e1,e2⟩:=hm y q hy;exact ⟨v,e1,hp _ hy q rfl e2⟩
variable {t:Tok}
structure GAt (i:Nat)(t:Tok)(it:Addr)(e:Addr)(s:Shared)(B:aI)(env:Env)(x:Str)(p:Option PV)(ch:Option PV)(esc:Option PV):Prop where
 frame:aA s [] (stG x p esc ch) env (B0 B)
 enum:∃old,IsEnum s.heap e it i old
 iter:s.heap.IsStrIter it "str_ascii_iterator" x t i
 ne:e≠it
 ne1:env.locals≠e
 ne2:env.locals≠it
 ge:B.g.objs.size<=e
 gi:B.g.objs.size<=it
 le:i<=x.cps.size
noncomputable abbrev gws (env:Env)(e it:Addr):List Addr:=[env.locals,e,it]
theorem GAt.notin {e it:Addr}{p esc ch:Option PV}(g:GAt i t it e s B env x p ch esc):∀a∈[env.locals],a∉[e,it]:=λa h=>msp h▸λq=>(mcp q).elim g.ne1 λq=>g.ne2 (msp q)
theorem GAt.later {e it:Addr}{p esc ch:Option PV}(g:GAt i t it e s B env x p ch esc)(l:jq B (gws env e it) s s')(h1:cR p)(h2:cR esc)(h3:cR ch):GAt i t it e s' B env x p ch esc:=
 ⟨g.frame.glater (.head _) l (g8 h1 h2 h3),by obtain ⟨old,h⟩:=g.enum;exact ⟨old,l.own _ (.tail _ (.head _)) _ h⟩,by obtain ⟨o,h,r⟩:=g.iter;exact ⟨o,l.own _ (.tail _ (.tail _ (.head _))) _ h,r⟩,g.ne,g.ne1,g.ne2,g.ge,g.gi,g.le⟩
theorem GAt.frm {e it:Addr}{p esc ch p' esc' ch':Option PV}(g:GAt i t it e s B env x p ch esc)(r:bM B [env.locals] s s')(F:aA s' [] (stG x p' esc' ch') env (B0 B)):GAt i t it e s' B env x p' ch' esc':=
 ⟨F,by obtain ⟨old,h⟩:=g.enum;exact ⟨old,r.heap _ _ h (λq=>g.ne1 (msp q).symm)⟩,by obtain ⟨o,h,q⟩:=g.iter;exact ⟨o,r.heap _ _ h (λq=>g.ne2 (msp q).symm),q⟩,g.ne,g.ne1,g.ne2,g.ge,g.gi,g.le⟩
theorem bM.mono {ws ws':List Addr}(h:∀a∈ws,a∈ws')(r:bM B ws s s'):bM B ws' s s':=⟨r.inv,λa o e n=>r.heap a o e λq=>n (h a q),r.size,r.gens⟩
theorem kD {it:Addr}{ty:String}(y:h.IsStrIter it ty x t i):∀o,h.get? it=some o->bW o:=λo ho=>by
 obtain ⟨o',e,O,hd⟩:=y;rw [e] at ho;cases ho;exact df hd (by intro q t;simp)
theorem ro {m:Str->Option Value}(y:h.Ns C m):∀o,h.get? C=some o->bW o:=λo ho=>by
 obtain ⟨o',O,O,e,hd,O⟩:=y;rw [e] at ho;cases ho;refine ⟨λq=>?_,λvs q t e=>?_⟩
 . obtain ⟨O,O,q⟩:=q;rw [hd] at q;cases q
 . rw [hd] at e;cases e
theorem aFi (I:Inv (B0 B) [] s)(h:B.g.objs.size<=a)(e:s.heap.get? a=some o)(hl:bW o):Own (B0 B) [] a:=⟨h,aGd I e hl.1⟩
theorem ol {elts:List Expr}{e it:Addr}{p esc ch:Option PV}(ha:x.cps.all (· < 128)=true)(hA:A.handled=none)(I:Inv (B0 B) [] s)(g:GAt i t it e s B env x p ch esc) :
   wpAny (model B.prog B.w) A (pyNext (.ref e)) (λr s₁=>match x.cps.toList.drop i with
     | []=>r=none/\bM B [e,it] s s₁
     | c::_=>∃v,r=some v/\wpAny (model B.prog B.w) A (letOwnedTupleGo (.Tuple elts k pos) (.ref e) v) (λO s₂=>bM B [e,it] s s₂/\VR s₂.heap (Trk [] (B0 B)) v (.tup [.int i,.str ⟨#[c]⟩])/\
         (∃old,IsEnum s₂.heap e it (i+1:Nat) old)/\s₂.heap.IsStrIter it "str_ascii_iterator" x t (i+1)) NoE s₁) NoE s:=by
 obtain ⟨old,he⟩:=g.enum;have D:=Draws.strAscii (prog:=B.prog) (w:=B.w) (A:=A.in1) hA it x t
 have hL:∀p∈[e,it],∀o,s.heap.get? p=some o->bW o:=λp hp o eq=>by
   rcases mcp hp with rfl | hp
   . exact fG he o eq
   . rw [msp hp] at eq;exact kD g.iter o eq
 have hO:∀p∈[e,it],Own (B0 B) [] p:=λp hp=>by
   rcases mcp hp with rfl | hp
   . exact aFi I g.ge he (hL _ (.head _) _ he)
   . rw [msp hp]
     obtain ⟨oi,hoi,O⟩:=id g.iter;exact aFi I g.gi hoi (hL _ (.tail _ (.head _)) _ hoi)
 have toRel:∀{s':Shared},bt s' (λO=>False) s [] (B0 B) (·∈[e,it])->bM B [e,it] s s':=λo=>⟨o.inv,o.heap,o.size,λi x q=>o.gens i x q id⟩;rcases AU i x.cps.size with hi | hi
 . have hd:x.cps.toList.drop i=x.cps[i]::x.cps.toList.drop (i+1):=by
     rw [Bv (by simpa using hi)];simp
   rw [hd];refine wpAny_pyNext_enum_itemD D he g.iter hi g.ne (by simp [g.ne]) λy h' tk hP ho hit' hT hsz hk=>⟨_,rfl,?_⟩;obtain ⟨c,u,hc,rfl⟩:=hP;have hcc:c=x.cps[i]:=by rw [Array.getElem?_eq_getElem hi] at hc;cases hc;rfl
   subst hcc;refine wpAny_letOwnedTupleGo_enum ho λh₂ he₂ hs₂=>?_;have hz:s.heap.objs.size<=h₂.objs.size:=by rw [hs₂.1,hsz];exact Aj _
   have o:=d0 (t:=tk+1) I (h':=h₂) (λa o eq hn=>(hs₂.2 a λq=>hn (q▸.head _)).trans (hk a o (λq=>hn (q▸.head _)) (λq=>hn (q▸.tail _ (.head _))) eq)) hz hO hL;have helt:=Heap.lt_size he;refine ⟨toRel o,?_,⟨_,by simpa using he₂⟩,?_⟩
   . exact .tup (vs:=#[.int i tk,.str ⟨#[x.cps[i]]⟩ u]) (n:=0) ((hs₂.2 _ (Ax helt)).trans hT) (aS I) (.cons (.int _ _) (.cons (.str _ _) .nil))
   . obtain ⟨oi,a,b⟩:=hit'
     exact ⟨oi,(hs₂.2 _ (Ne.symm g.ne)).trans a,b⟩
 . have hd:x.cps.toList.drop i=[]:=List.drop_eq_nil_iff.mpr (by simpa using hi)
   rw [hd];have hi':i=x.cps.size:=AF g.le hi;have hit:=g.iter;rw [hi'] at hit;exact aU (wpAny_pyNext_enum_endD D he hit λh' hx hz=>⟨rfl,toRel (d0 (t:=s.toks) I (λa o eq hn=>hx a o (λq=>hn (q▸.tail _ (.head _))) eq) hz hO hL)⟩)
inductive aD0 (B:aI)(A:Around)(tk:Nat×List Nat)(N:List Addr->Shared->End->Shared->Prop)(ws:List Addr)(s₀:Shared)(e:End)(s':Shared):Prop
 | mk (v:Value) (g:Bool) (l:List Value) (k:Resume->Sem Fin) (c:Code) (p:Pos) (fs:List Frame) (ws':List Addr) (he:e=.susp v g l k c p fs) (hq:e.quiet=true) (vr:VR s'.heap (Trk [] (B0 B)) v (dS tk)) (G:bM B ws s₀ s')
     (hws:∀a∈ws',(a∈ws\/s₀.heap.objs.size<=a)/\∃o,s'.heap.get? a=some o/\bW o) (go:∀s'',jq B ws' s' s''->wT (model B.prog B.w) A (N ws' s'') e.genState s'')
noncomputable def qv (B:aI)(A:Around):List (Nat×List Nat)->List Addr->Shared->End->Shared->Prop
 | [],ws,s₀,e,s'=>e=.ret (.ok (.ret .none))/\bM B ws s₀ s'
 | tk::r,ws,s₀,e,s'=>aD0 B A tk (λws' s''=>qv B A r ws' s'') ws s₀ e s'
theorem bM.gsize {ws:List Addr}(r:bM B ws s s'):s.gens.size<=s'.gens.size:=Az λh=>
 (by cases ((Array.getElem?_eq_none (Aa _)).symm.trans (r.gens _ _ (Array.getElem?_eq_getElem h))))
theorem bM.ext {ws ws':List Addr}{s₀:Shared}(a:bM B ws s₀ s)(b:bM B ws' s s')(h:∀x∈ws',x∈ws\/s₀.heap.objs.size<=x):bM B ws s₀ s':=
 ⟨b.inv,λx o e n=>b.heap x o (a.heap x o e n) λq=>(h x q).elim n λq=>absurd (Heap.lt_size e) (nlr q),ntr a.size b.size,λi x e=>b.gens i x (a.gens i x e)⟩
theorem GAt.loose {e it:Addr}{p esc ch:Option PV}(g:GAt i t it e s B env x p ch esc):∀a∈gws env e it,∃o,s.heap.get? a=some o/\bW o:=λa ha=>by
 simp only [gws,List.mem_cons,Be,or_false] at ha;rcases ha with rfl | rfl | rfl
 . obtain ⟨m,hns,O⟩:=g.frame.ns
   obtain ⟨o,a1,a2,ho,r⟩:=id hns;exact ⟨o,ho,ro hns o ho⟩
 . obtain ⟨old,he⟩:=g.enum;exact ⟨_,he,fG he _ he⟩
 . obtain ⟨o,ho,r⟩:=id g.iter;exact ⟨o,ho,kD g.iter o ho⟩
theorem bM.later {ws ws':List Addr}(r:bM B ws s s')(h:∀a∈ws',a∉ws):jq B ws' s s':=⟨r.inv,λa ha o e=>r.heap a o e (h a ha)⟩
set_option backward.match.sparseCases false in
noncomputable def a0:Stmt->Expr
 | .For t _ _ _ _=>t
 | _=>.Constant .none 0 default
set_option backward.match.sparseCases false in
noncomputable def aM:Stmt->List Stmt
 | .For _ _ b _ _=>b
 | _=>[]
noncomputable abbrev rA:Stmt:=((aZ (aJ cH))[2]?).getD (.Pass default)
theorem aA2:∃elts k pos,a0 rA=.Tuple elts k pos:=⟨_,_,_,rfl⟩
theorem uX {c:Nat}{p esc ch:Option PV}:Asg (B0 B) fiG d NoE (a0 rA) (.tup [.int i,.str ⟨#[c]⟩]) (stG x p esc ch) [] (λσ H=>σ=stG x (some (.int i)) esc (some (.str ⟨#[c]⟩))/\H=[]):=by
 obtain ⟨elts,k,pos,h⟩:=aA2;show Asg (B0 B) fiG d NoE (.Tuple _ _ _) _ _ _ _;ext;exact ⟨rfl,rfl⟩
end
section
variable {t:Tok}
theorem bM.of_tr0 (I:Inv (B0 B) [] s)(t:Tr noU s' [] s [] (B0 B)):bM B [] s s':=by
 refine ⟨t.inv,λa o e n=>?_,t.step.size,t.step.gens⟩;by_cases hh:a∈(B0 B).hid.map (·.1)
 . obtain ⟨q,hq,rfl⟩:=mmp hh
   have h1:=(I.hid q hq).1;rw [e] at h1;cases h1;exact (t.inv.hid q hq).1
 . refine t.step.heap a o e λq=>?_
   rcases q with q | q
   . rcases q with q | q | q
     . cases q
     . cases q
     . exact hh q
   . exact q
theorem jP {c:Code}{fs:List Frame}{Φ:End->Shared->Prop}{K:Flow->Sem Fin}{Hh:Value->Sem Fin}{gd:Bool->Bool}{lv:List Value->List Value}{st:Stmt}{Qn:St->Prop}
   (he:a9 (B0 B) fiG env)(hc:env.cells=[])(R:ai (A.over c fs) 3)(I:Inv (B0 B) [] s)(F:aA s [] σ env (B0 B))
   (hx:X (B0 B) fiG 3 NoE st σ [] (λσ' H=>H=[]/\Qn σ') (λO O O=>False))
   (h:∀σ' s',Qn σ'->aA s' [] σ' env (B0 B)->bM B [env.locals] s s'->bF s' fs (model B.prog B.w) A c Φ (K .next)):bF s fs (model B.prog B.w) A c Φ ((exec st env).wrap K Hh gd lv):=by
 refine F8 (wpm (hx (A.over c fs) s env he R I F) (λf s' hh1=>?_));obtain ⟨σ',H',tr,F',q⟩:=hh1;rcases q with ⟨rfl,rfl,q⟩ | ⟨pf,_,q⟩
 . exact h σ' s' q F' (bM.of_tr I hc (by simp) tr)
 . exact q.elim
theorem vO {c:Code}{fs:List Frame}{Φ:End->Shared->Prop}{K:Flow->Sem Fin}{Hh:Value->Sem Fin}{gd:Bool->Bool}{lv:List Value->List Value}{tst:Expr}{b o:List Stmt}{r:Bool}
   (he:a9 (B0 B) fiG env)(hc:env.cells=[])(R:ai (A.over c fs) 3)(I:Inv (B0 B) [] s)(F:aA s [] σ env (B0 B))
   (hx:Tst (B0 B) fiG 3 NoE tst σ [] (λv H=>H=[]/\v=r))
   (h:∀s',aA s' [] σ env (B0 B)->bM B [] s s'->bF s' fs (model B.prog B.w) A c Φ ((execs (if r then b else o) env).wrap K Hh gd lv)):bF s fs (model B.prog B.w) A c Φ ((exec (.If tst b o pos) env).wrap K Hh gd lv):=by
 refine aEl (wpT (hx (A.over c fs) s env he R I F) (λv s' H' tr q=>?_));obtain ⟨rfl,rfl⟩:=q;exact h s' (F.tr I tr) (bM.of_tr0 I tr)
theorem jg {c:Code}{fs:List Frame}{K:Flow->Sem Fin}{Hh:Value->Sem Fin}{gd:Bool->Bool}{lv:List Value->List Value}{y:Expr}{ypos:Pos}{s₀:Shared}{tk:Nat×List Nat}{rest:List (Nat×List Nat)}{ws ws':List Addr}
   (he:a9 (B0 B) fiG env)(hc:env.cells=[])(R:ai (A.over c fs) 3)(I:Inv (B0 B) [] s)(F:aA s [] σ env (B0 B))(hfs:splitAtGen fs=none)(hgd:gd false=false)(hfg:fs.any Frame.guarded=false)(hw:env.locals∈ws)
   (hr:bM B ws s₀ s)(hl:∀s',aA s' [] σ env (B0 B)->bM B [] s s'->∀a∈ws',(a∈ws\/s₀.heap.objs.size<=a)/\∃o,s'.heap.get? a=some o/\bW o)
   (hx:Ev NoE (B0 B) 3 fiG σ [] y (λv H=>H=[]/\v=dS tk))
   (h:∀s' s'',aA s' [] σ env (B0 B)->bM B [] s s'->jq B ws' s' s''->bF s'' fs (model B.prog B.w) A c (qv B A rest ws' s'') (K .next)) :
   bF s fs (model B.prog B.w) A c (qv B A (tk::rest) ws s₀) ((exec (.Expr (.Yield (some y) ypos) pos) env).wrap K Hh gd lv):=by
 refine Cj hfs hgd hfg (wpE (hx (A.over c fs) s env he R I F) (λv s' p H' tr r q=>?_)) (by rw [he.scope];exact he.coro) (by unfold interactive;rw [he.kindF];rfl);obtain ⟨rfl,rfl⟩:=q;intro g l p k hk hq;have F':=F.tr I tr;have G:=bM.of_tr0 I tr;exact ⟨v,g,l,k,c,p,fs,ws',rfl,hq,r,hr.trans (G.mono (by simp)),hl s' F' G,λs'' ls=>hk _ s'' (h s' s'' F' G ls)⟩
end
section
variable {t:Tok}
theorem u4:Ω "\\" = (⟨#[92]⟩:Str):=by decide +kernel
theorem aA9 (c:Nat):decide ((⟨#[c]⟩:Str)=⟨#[92]⟩)=decide (c=92):=by
 by_cases h:c=92
 . subst h;simp
 . rw [decide_eq_false h,decide_eq_false];intro q;injection q with q;simp at q;exact h q
theorem GAt.nil {e it:Addr}{p esc ch:Option PV}(g:GAt i t it e s B env x p ch esc)(r:bM B [] s s')(F:aA s' [] (stG x p esc ch) env (B0 B)):GAt i t it e s' B env x p ch esc:=g.frm (r.mono (by simp)) F
theorem DK {fs:List Frame}{e it:Addr}(he:a9 (B0 B) fiG env)(hc:env.cells=[])(ha:x.cps.all (· < 128)=true)(hfs:splitAtGen fs=none)(hfg:fs.any Frame.guarded=false)
   (R:ai (A.over (.forLoop (a0 rA) (.ref e) (aM rA) [] env) fs) 3)
   (hend:∀ws s₀ s esc p ch,bM B ws s₀ s->env.locals∈ws->aA s [] (stG x (some p) (some (.bool esc)) ch) env (B0 B)->Inv (B0 B) [] s->(esc=true->p=.int ((x.cps.size-1:Nat)))->cR (some p)->cR ch->
     bF s fs (model B.prog B.w) A (.block [] env) (qv B A (aV x.cps.size esc []) ws s₀) (leafOf (.ok .next))) :
   ∀k i esc p ch ws s₀ s,i+k=x.cps.size->bM B ws s₀ s->env.locals∈ws->(∀a∈gws env e it,a∈ws\/s₀.heap.objs.size<=a)->Inv (B0 B) [] s->GAt i t it e s B env x (some p) ch (some (.bool esc))->(esc=true->p=.int ((i-1:Nat)))->cR (some p)->cR ch->
     bF s fs (model B.prog B.w) A (.forLoop (a0 rA) (.ref e) (aM rA) [] env) (qv B A (aV i esc (x.cps.toList.drop i)) ws s₀) ((model B.prog B.w).den (.forLoop (a0 rA) (.ref e) (aM rA) [] env)):=by
 intro k
 induction k with
 | zero=>
   intro i esc p ch ws s₀ s hk hr hw hws I g hp pp pc;obtain rfl:i=x.cps.size:=hk;have hd:x.cps.toList.drop x.cps.size=[]:=List.drop_eq_nil_iff.mpr (Aa _);obtain ⟨elts,k,pos,ht⟩:=aA2;refine l3 (wpm (ol (elts:=elts) (k:=k) (pos:=pos) ha R.handled I g) (λr s₁ h₁=>?_));rw [hd] at h₁ ⊢;obtain ⟨rfl,G₁⟩:=h₁;have F₁:=g.frame.glater (ws:=[env.locals]) (.head _) (G₁.later g.notin) (g8 pp fF pc);exact hend ws s₀ s₁ esc p ch (hr.ext G₁ λa ha=>hws a (.tail _ ha)) hw F₁ G₁.inv hp pp pc
 | succ k ih=>
   intro i esc p ch ws s₀ s hk hr hw hws I g hp pp pc;have hi:i<x.cps.size:=hk▸AG (As k);have hk1:i+1+k=x.cps.size:=(AV i k).trans hk;have hd:x.cps.toList.drop i=x.cps[i]::x.cps.toList.drop (i+1):=Bv hi;generalize hcc:x.cps[i]=c at hd;obtain ⟨elts,kk,pos,ht⟩:=aA2;refine l3 (wpm (ol (elts:=elts) (k:=kk) (pos:=pos) ha R.handled I g) (λr s₁ h₁=>?_));rw [hd] at h₁ ⊢;obtain ⟨v,rfl,h₁⟩:=h₁;dsimp only;rw [ht];refine wpm h₁ (λO s₂ hh1=>?_);obtain ⟨G₂,vr,hen,hit⟩:=hh1;have F₂:=g.frame.glater (ws:=[env.locals]) (.head _) (G₂.later g.notin) (g8 pp fF pc);rw [<-ht];refine wpm (uX (d:=3) (A.over _ fs) s₂ env he R G₂.inv F₂ v vr) (λO s₃ hh1=>?_);obtain ⟨σ',H',tr,F₃,q⟩:=hh1;obtain ⟨rfl,rfl⟩:=q;have one:∀a∈[env.locals],a∈ws:=λa h=>msp h▸hw;have zero:∀{ws:List Addr},∀a∈([]:List Addr),a∈ws:=λa h=>(by cases h);have G₃:=bM.of_tr G₂.inv hc (ws:=[env.locals]) (.head _) tr;have g₂:GAt (i+1) t it e s₂ B env x (some p) ch (some (.bool esc)):=⟨F₂,hen,hit,g.ne,g.ne1,g.ne2,g.ge,g.gi,hi⟩;have g₃:=g₂.frm G₃ F₃;have hr₃:bM B ws s₀ s₃:=(hr.ext G₂ λa ha=>hws a (.tail _ ha)).trans (G₃.mono one);refine cu ?_;refine vO (r:=esc) he hc R G₃.inv F₃ ?_ λs₄ F₄ G₄=>?_
   . ext
     exact ⟨rfl,rfl⟩
   have g₄:=g₃.nil G₄ F₄;have hr₄:=hr₃.trans (G₄.mono zero)
   have loose:∀{s s':Shared} {p esc ch:Option PV} {i:Nat},GAt i t it e s B env x p ch esc->∀(ws:List Addr) (s₀:Shared),(∀a∈gws env e it,a∈ws\/s₀.heap.objs.size<=a)->aA s' [] (stG x p esc ch) env (B0 B)->bM B [] s s'->∀a∈gws env e it,(a∈ws\/s₀.heap.objs.size<=a)/\∃o,s'.heap.get? a=some o/\bW o:=
     λg ws s₀ hws F G a ha=>⟨hws a ha,(g.nil G F).loose a ha⟩
   cases esc with
   | true=>
     have htk:aV i true (c::x.cps.toList.drop (i+1))=(i,[92,c])::aV (i+1) false (x.cps.toList.drop (i+1)):=rfl;rw [htk,if_pos rfl];refine cu (jg (ws':=gws env e it) he hc R G₄.inv F₄ hfs rfl hfg hw hr₄ (λs' F' G=>loose g₄ ws s₀ hws F' G) ?_ λs' s'' F' G ls=>?_)
     . ext
       refine sC (bl rfl) ?_;ext;exact ⟨rfl,by rw [u4];rfl⟩
     . have g'':=(g₄.nil G F').later ls dJ fF dL
       refine cu (jP (Qn:=λσ'=>σ'=stG x (some (.int i)) (some (.bool false)) (some (.str ⟨#[c]⟩))) he hc R ls.inv g''.frame ?_ λσ' s₆ hq F₆ G₆=>?_)
       . ext
         exact ⟨rfl,rfl⟩
       . subst hq
         exact iX rfl (ih (i+1) false (.int i) _ (gws env e it) s'' s₆ hk1 (G₆.mono λa h=>msp h▸.head _) (.head _) (λa ha=>.inl ha) G₆.inv (g''.frm G₆ F₆) (λh=>(by cases h)) dJ dL)
   | false=>
     rw [if_neg BW];refine cu (vO (r:=decide (c=92)) he hc R G₄.inv F₄ ?_ λs₅ F₅ G₅=>?_)
     . ext
       exact ⟨rfl,by rw [u4];exact aA9 c⟩
     have g₅:=g₄.nil G₅ F₅;have hr₅:=hr₄.trans (G₅.mono zero);by_cases h92:c=92
     . rw [decide_eq_true h92,if_pos rfl]
       have htk:aV i false (c::x.cps.toList.drop (i+1))=aV (i+1) true (x.cps.toList.drop (i+1)):=dv.trans (if_pos h92);rw [htk];refine cu (jP (Qn:=λσ'=>σ'=stG x (some (.int i)) (some (.bool true)) (some (.str ⟨#[c]⟩))) he hc R G₅.inv F₅ ?_ λσ' s₆ hq F₆ G₆=>?_)
       . ext
         exact ⟨rfl,rfl⟩
       . subst hq
         exact iX rfl (ih (i+1) true (.int i) _ ws s₀ s₆ hk1 (hr₅.trans (G₆.mono one)) hw hws G₆.inv (g₅.frm G₆ F₆) (λO=>rfl) dJ dL)
     . rw [decide_eq_false h92,if_neg BW]
       have htk:aV i false (c::x.cps.toList.drop (i+1))=(i,[c])::aV (i+1) false (x.cps.toList.drop (i+1)):=dv.trans (if_neg h92);rw [htk];refine cu (jg (ws':=gws env e it) he hc R G₅.inv F₅ hfs rfl hfg hw hr₅ (λs' F' G=>loose g₅ ws s₀ hws F' G) ?_ λs' s'' F' G ls=>?_)
       . ext
         exact ⟨rfl,rfl⟩
       . have g'':=(g₅.nil G F').later ls dJ fF dL
         exact iX rfl (ih (i+1) false (.int i) _ (gws env e it) s'' s'' hk1 (.refl ls.inv) (.head _) (λa ha=>.inl ha) ls.inv g''  (λh=>(by cases h)) dJ dL)
end
section
variable {t:Tok}
theorem y4 (R:ai A (d+1)):ai (A.over (.func body env) []) d:=by
 refine ⟨R.handled,?_,?_⟩
 . have:=R.depth
   show A.depth+frameCount []+(Code.func body env).weight+d<_;have h1:frameCount []=0:=rfl;have h2:(Code.func body env).weight=1:=rfl
   lia
 . have:=R.units
   show A.units+unitsOf []+(Code.func body env).cUnits+8*d+100<_;have h1:unitsOf []=0:=rfl;have h2:(Code.func body env).cUnits=3:=rfl
   lia
theorem xT {body':List Stmt}{it:Value}{k:Result->Sem Fin}{l:List Value}{p:Pos}{kp:List Value}(R:ai A (d+2)):ai (A.over (.forLoop tgt it body [] env) [.ret k none false l (.func body' env) p kp]) d:=by
 refine ⟨R.handled,?_,?_⟩
 . have:=R.depth
   show A.depth+frameCount [(Code.func body' env,p)]+(Code.forLoop tgt it body [] env).weight+d<_;have h1:frameCount [(Code.func body' env,p)]=1:=rfl;have h2:(Code.forLoop tgt it body [] env).weight=0:=rfl
   lia
 . have:=R.units
   show A.units+unitsOf [(Code.func body' env,p)]+(Code.forLoop tgt it body [] env).cUnits+8*d+100<_;have h1:unitsOf [(Code.func body' env,p)]=3:=rfl;have h2:(Code.forLoop tgt it body [] env).cUnits=0:=rfl
   lia
theorem yu {p esc ch:Option PV}(he:a9 (B0 B) fiG env)(ha:x.cps.all (· < 128)=true)(R:ai A 3)(I:Inv (B0 B) [] s)(F:aA s [] (stG x p esc ch) env (B0 B)){func:Expr}{args:List Expr}(hp:args.all av=true)
   (hf:Ev NoE (B0 B) 3 fiG (stG x p esc ch) [] func λf H₁=>f=.raw (.type "enumerate")/\H₁=[])(hargs:EvL (B0 B) fiG 3 NoE args (stG x p esc ch) [] λvs H₁=>vs=[.str x]/\H₁=[])
   (hev:∀env,eval (.Call func args [] pos) env=(do callWith pos (<-eval func env) [] (backTo pos (starEach args env)) (backToKw pos (keywordEach [] env)))) :
   wpAny (model B.prog B.w) A (eval (.Call func args [] pos) env) (λv s₁=>wpAny (model B.prog B.w) A (pyIter v) (λitv s₂=>∃e it t,itv=.ref e/\bM B [] s s₂/\GAt 0 t it e s₂ B env x p ch esc/\s.heap.objs.size<=e/\s.heap.objs.size<=it) NoE s₁) NoE s:=by
 refine Call_ (wpm (hf A s env he R I F) (λfv s₁ hh1=>?_)) (hev env);obtain ⟨f,H₁,t₁,q₁,e1,e2⟩:=hh1;subst e1 e2;obtain ⟨O,rfl⟩:=q₁.inv;have F₁:=F.tr I t₁;refine ae (au hp (wpm (ao hargs hp A s₁ env he R t₁.inv F₁) (λvs s₂ hh1=>?_)));obtain ⟨ps,H₂,t₂,l₂,q₂,e3,e4⟩:=hh1;refine ⟨λQ' hQ=>wpAny_pure (hQ _),?_⟩;subst e3 e4;have F₂:=F₁.tr t₁.inv t₂;obtain ⟨va,rfl,r⟩:=q₂.one
 cases r with
 | str _ t=>
   show wpAny (model B.prog B.w) A (call (.type "enumerate") [.str x t]) _ NoE s₂;refine call_enumerate_str λh' hE hI hsz hk=>?_;refine wpAny_pyIter_enum hE ?_;have hz:s₂.heap.objs.size<=h'.objs.size:=by rw [hsz];exact Af _ _
   have t₃:=Tr.kept (t:=s₂.toks) t₂.inv hk hz;have T:=(t₁.trans t₂).trans t₃;have hs:s.heap.objs.size<=s₂.heap.objs.size:=(t₁.trans t₂).step.size;have hty:strIterType x = "str_ascii_iterator":=by unfold strIterType;rw [if_pos ha]
   rw [hty] at hI;have hl:env.locals<s₂.heap.objs.size:=by obtain ⟨m,hns,O⟩:=F₂.ns;exact hns.lt
   refine ⟨_,_,t,rfl,bM.of_tr0 I T,⟨F₂.tr t₂.inv t₃,⟨_,hE⟩,hI,Nat.succ_ne_self _,AD (AZ hl),AD hl,ntr t₂.inv.size (Aj _),t₂.inv.size,Ab _⟩,ntr hs (Aj _),hs⟩
theorem xO (he:a9 (B0 B) fiG env)(hc:env.cells=[])(ha:x.cps.all (· < 128)=true)(R:ai A 5)(I:Inv (B0 B) [] s)(F:aA s [] (stG x none none none) env (B0 B)) :
   bF s [] (model B.prog B.w) A (.func (aZ (aJ cH)) env) (qv B A (aV 0 false x.cps.toList) [env.locals] s) ((model B.prog B.w).den (.func (aZ (aJ cH)) env)):=by
 have R0:ai (A.over (.func (aZ (aJ cH)) env) []) 3:=y4 (R.le ∅);refine G3 ?_;refine cu (jP (Qn:=λσ'=>σ'=stG x (some (.int (0:Nat))) none none) he hc R0 I F ?_ λσ' s₁ hq F₁ G₁=>?_)
 . ext
   exact ⟨rfl,rfl⟩
 subst hq;refine cu (jP (Qn:=λσ'=>σ'=stG x (some (.int (0:Nat))) (some (.bool false)) none) he hc R0 G₁.inv F₁ ?_ λσ' s₂ hq F₂ G₂=>?_)
 . ext
   exact ⟨rfl,rfl⟩
 subst hq;refine cu (aCs (λO=>rfl) (wpm (yu he ha R0 G₂.inv F₂ ?_ ?_ ?_ ?_) (λv s₃ h₃=>wpm h₃ (λitv s₄ hh1 p=>?_))))
 . rfl
 . ext
   exact ⟨rfl,rfl⟩
 . ext
   exact ⟨rfl,rfl⟩
 . intro _;rfl
 obtain ⟨e,it,t,e1,G₄,g₄,ge,gi⟩:=hh1;subst e1;have G:bM B [env.locals] s s₄:=(G₁.trans G₂).trans (G₄.mono (by simp));have hs:s.heap.objs.size<=s₂.heap.objs.size:=(G₁.trans G₂).size;show bF _ _ _ _ _ (qv B A (aV 0 false (x.cps.toList.drop 0)) [env.locals] s) _
 refine DK (t:=t) he hc ha ?_ ?_ (xT (R.le ∅)) ?_ x.cps.size 0 false (.int (0:Nat)) none [env.locals] s s₄ (Ak _) G (.head _) (λa ha=>by
   simp only [gws,List.mem_cons,Be,or_false] at ha;rcases ha with rfl | rfl | rfl
   . exact .inl (by simp)
   . exact .inr (ntr hs ge)
   . exact .inr (ntr hs gi)) G₄.inv g₄ (λh=>(by cases h)) dJ fK
 . rfl
 . rfl
 . intro ws s₀ s₅ esc p ch hr hw F₅ I₅ hp pp pc
   refine GA (.ok .next) ?_;refine cu (vO (r:=esc) he hc R0 I₅ F₅ ?_ λs₆ F₆ G₆=>?_)
   . ext
     exact ⟨rfl,rfl⟩
   have hr₆:=hr.trans (G₆.mono (by simp))
   cases esc with
   | true=>
     have hp':=hp rfl;subst hp';rw [if_pos rfl];have htk:aV x.cps.size true []=[(x.cps.size-1,[92])]:=rfl;rw [htk];refine cu (jg (ws':=[]) he hc R0 G₆.inv F₆ rfl rfl rfl hw hr₆ (λs' F' G a ha=>(by cases ha)) ?_ λs' s'' F' G ls=>?_)
     . ext
       exact ⟨rfl,by rw [u4];rfl⟩
     . exact zb (.ok (.ret .none)) ⟨rfl,.refl ls.inv⟩
   | false=>
     rw [if_neg BW];exact zb (.ok (.ret .none)) ⟨rfl,hr₆⟩
end
section
variable {t:Tok}
theorem sK {a:Array GenState}{g:Nat}{y:GenState}(h:AllBare a)(hy:y.bare=true):AllBare (a.setIfInBounds g y):=λz hz=>by
 obtain ⟨i,hi,rfl⟩:=Array.mem_iff_getElem.mp hz;simp only [Array.size_setIfInBounds] at hi;rw [Array.getElem_setIfInBounds];split
 . exact hy
 . exact h _ (Array.getElem_mem hi)
 . exact hi
theorem mD {g:Nat}{y z:GenState}(h:s.gens[i]?=some z)(hne:i≠g):(s.setGen g y).gens[i]?=some z:=by
 simp [Shared.setGen,Ne.symm hne,h]
theorem Inv.gen {g:Nat}{y:GenState}(I:Inv B H s)(hy:y.bare=true):Inv B H (s.setGen g y):=⟨I.keep,I.size,I.tabs,sK I.bare hy,I.os,I.nodup,I.hid,I.objs⟩
inductive JG (B:aI)(A:Around)(a:Addr)(g:Nat)(W:Addr->Prop)(items:List PV)(H:AH)(s:Shared):Prop
 | mk (rest:List (Nat×List Nat)) (ws:List Addr) (gs:GenState) (hi:items=rest.map dS) (hW:W=(λp=>p=a\/p∈ws)) (hg:s.heap.IsGen a g) (hgs:s.gens[g]?=some gs) (ha:a∉ws)
   (ho:∀p∈ws,Own B H p/\∃o,s.heap.get? p=some o/\bW o) (hgo:∀s'',jq B ws s s''->wT (model B.prog B.w) A.in1 (qv B A.in1 rest ws s'') gs s'')
theorem VR.up0 {v:Value}{tk:Nat×List Nat}(I:Inv B H s)(r:VR s.heap (Trk [] (B0 B)) v (dS tk)):VR s.heap (Trk H B) v (dS tk):=by
 obtain ⟨a,vs,n,rfl,ho,hn,hs⟩:=r.inv;obtain ⟨u,w,he,h1,h2⟩:=hs.two;refine .tup ho (λq=>?_) (he▸.cons (dJ _ rfl h1) (.cons (dL _ rfl h2) .nil));rcases q with q | q | q
 . obtain ⟨p,hp,rfl⟩:=mmp q
   obtain ⟨O,vs,n,e,O⟩:=I.objs p hp;exact absurd (Value.type.inj (congrArg Obj.cls (Option.some.inj (e.symm.trans ho)))) ∅
 . exact iF I ho (by (intros;first | contradiction | (intro q;cases q))) q
 . exact hn (.inr (.inr q))
theorem ED {g:Nat}(hg:h.IsGen a g)(k:∀o,h.get? a=some o->h'.get? a=some o):h'.IsGen a g:=by
 obtain ⟨o,nm,qn,e,r⟩:=hg;exact ⟨o,nm,qn,k o e,r⟩
theorem aAb {g:Nat}(hg:h.IsGen a g):a<h.objs.size:=by
 obtain ⟨o,nm,qn,e,r⟩:=hg;exact Heap.lt_size e
theorem DE {g:Nat}(hg:h.IsGen a g)(e:h.get? a=some o):¬ah o:=by
 obtain ⟨o',nm,qn,e',O,hd,O⟩:=hg;cases e'.symm.trans e
 rintro ⟨_,_,q⟩
 exact (by cases (hd.symm.trans q))
section
variable {ws:List Addr}{g:Nat}(I:Inv B H s)(ho:∀p∈ws,Own B H p/\∃o,s.heap.get? p=some o/\bW o)
include I ho
theorem JG.only {h':Heap}{y:GenState}(G:bM B ws (s.setGen g .running) s₁)(hk:∀b o,s₁.heap.get? b=some o->h'.get? b=some o)(hz:s₁.heap.objs.size<=h'.objs.size)(hy:y.bare=true) :
   bt { s₁.setGen g y with heap:=h' } (·=g) s H B (λp=>p=a\/p∈ws):=by
 have o:=bt.make (B:=B) (H:=H) (P:=(·∈ws)) (G:=(·=g)) (s:=s) (s':={ s₁.setGen g y with heap:=h' }) I (λb ob e hn=>hk b ob (G.heap b ob e hn)) (ntr G.size hz) (λp hp=>(ho p hp).1)
   (λp hp o e=>by obtain ⟨O,o',e',hl⟩:=ho p hp;exact Option.some.inj (e'.symm.trans e)▸hl)
   (λi z e hne=>mD (G.gens i z (mD e hne)) hne) ?_ (sK G.inv.bare hy) (G.inv.os.trans I.os.symm)
 . exact ⟨o.inv,λb ob e hn=>o.heap b ob e λq=>hn (.inr q),o.size,o.gens,o.gsize⟩
 . have h:=G.gsize
   rw [show (s.setGen g .running).gens.size=s.gens.size from Array.size_setIfInBounds] at h;exact ntr h (Ad Array.size_setIfInBounds.symm)
theorem JG.susp {gs:GenState}(hg:s.heap.IsGen a g)(hgs:s.gens[g]?=some gs)(ha:a∉ws){tk:Nat×List Nat}{r:List (Nat×List Nat)}{e:End}(h:aD0 B A.in1 tk (λws' s''=>qv B A.in1 r ws' s'') ws (s.setGen g .running) e s₁) :
   ∃v g₀ l k c p fs,e=.susp v g₀ l k c p fs/\∃v',some v=some v'/\wpAny (model B.prog B.w) A (letOwnedTupleGo tgt (.ref a) v') (λO s₂=>bt s₂ (·=g) s H B (λp=>p=a\/p∈ws)/\VR s₂.heap (Trk H B) v' (dS tk)/\
       ∃W':Addr->Prop,(∀p,W' p->(p=a\/p∈ws)\/(s.heap.objs.size<=p/\p<s₂.heap.objs.size))/\JG B A a g W' (r.map dS) H s₂) NoE (s₁.setGen g e.genState):=by
 obtain ⟨v,g₀,l,k,c,p,fs,ws',he,hq,vr,G,hws,hgo₁⟩:=h;subst he;have O:bt (s₁.setGen g (End.susp v g₀ l k c p fs).genState) (·=g) s H B (λp=>p=a\/p∈ws):=JG.only I ho G (λO O e=>e) (Aa _) (End.bare_of_quiet hq);have hg':(s₁.setGen g (End.susp v g₀ l k c p fs).genState).heap.IsGen a g:=ED hg λo e=>G.heap a o e ha;obtain ⟨og,nm,qn,eg,cg,rg⟩:=id hg';refine ⟨v,g₀,l,k,c,p,fs,rfl,v,rfl,c6 eg cg rfl ⟨O,VR.up0 O.inv vr,λp=>p=a\/p∈ws',λp hp=>?_,r,ws',_,rfl,rfl,hg',setGen_self (gs:=.running) (G.gens g _ (setGen_self hgs)),λq=>(hws a q).1.elim ha λq=>absurd (aAb hg) (nlr q),λp hp=>?_,λs'' ls=>hgo₁ s'' ⟨ls.inv,ls.own⟩⟩⟩
 . rcases hp with rfl | hp
   . exact .inl (.inl rfl)
   . obtain ⟨q,o,eo,O⟩:=hws p hp
     exact q.imp .inr λq=>⟨q,Heap.lt_size eo⟩
 . have x:=hws p hp
   exact ⟨x.1.elim (λq=>(ho p q).1) λq=>⟨ntr I.size q,λt=>absurd (dN I t) (nlr q)⟩,x.2⟩
end
theorem GH (tgt:Expr)(a:Addr)(g:Nat):sW B A [] tgt (.ref a) (·=g) (JG B A a g) where
 self:=λW items H s E Q j q=>by
   obtain ⟨O,O,O,O,O,hg,O,O,O,O⟩:=j;exact wpAny_pyIter_gen hg q
 notseq:=λW items H s j p hp o e=>by
   obtain ⟨O,ws,O,O,hW,hg,O,O,ho,O⟩:=j;subst hW;rcases hp with rfl | hp
   . exact DE hg e
   . obtain ⟨O,o',e',hl⟩:=ho p hp
     exact Option.some.inj (e'.symm.trans e)▸hl.1
 stable:=λW items H s H' s' j e=>by
   obtain ⟨rest,ws,gs,hi,hW,hg,hgs,ha,ho,hgo⟩:=j;subst hW;refine ⟨rest,ws,gs,hi,rfl,ED hg λo eo=>e.own a o eo (.inl rfl),e.gens g gs rfl hgs,ha,λp hp=>?_,λs'' l=>hgo s'' ⟨l.inv,λp hp o eo=>l.own p hp o (e.own p o eo (.inr hp))⟩⟩;obtain ⟨h,o,eo,hl⟩:=ho p hp;exact ⟨⟨h.1,e.trk (Heap.lt_size eo) h.2⟩,o,e.own p o eo (.inr hp),hl⟩
 next:=λW items H s j R I=>by
   obtain ⟨rest,ws,gs,hi,hW,hg,hgs,ha,ho,hgo⟩:=j;subst hW hi;refine Fp R.handled (B.nolimit.keeps I.keep) (by have:=R.depth;lia) hg hgs (hgo (s.setGen g .running) ⟨(aDk I).gen rfl,λp hp o e=>e⟩) (λe s' h=>?_) (λe s₁ h=>?_)
   . cases rest with
     | nil=>rw [h.1];rfl
     | cons tk r=>
       obtain ⟨O,O,O,O,O,O,O,O,O,hq,O⟩:=h;exact hq
   . cases rest with
     | nil=>exact .inl ⟨h.1,λh' hk hz=>⟨rfl,JG.only I ho h.2 hk hz rfl⟩⟩
     | cons tk r=>exact .inr (JG.susp I ho hg hgs ha h)
end
section
theorem C7 {doc pm ct:Value}{v:Value}:b0 S [] (bindArgs (bN "_iter_escaped_chars" cH .none .none doc pm an cdv ct) ⟨[v],[]⟩)=some ([],[(Ω "addr",v)]):=by kernel_rfl
theorem eL:(aG (aJ cH)).names=[(Ω "addr",.local),(Ω "pos",.local),(Ω "escape",.local),(Ω "ch",.local),(Ω "enumerate",.globalImplicit)]:=by kernel_rfl
theorem tR:(aG (aJ cH)).kind=.function:=by kernel_rfl
theorem Dn:(aG (aJ cH)).isCoroutine=false:=by kernel_rfl
theorem Ek:(aG (aJ cH)).isGenerator=true:=by kernel_rfl
theorem Tr.gpush {y:GenState}(I:Inv B H s)(hk:∀a o,s.heap.get? a=some o->s'.heap.get? a=some o)(hz:s.heap.objs.size<=s'.heap.objs.size)(hg:s'.gens=s.gens.push y)(hy:y.bare=true)(ho:s'.os=s.os):Tr noU s' H s H B:=
 ⟨I.ext hk hz (hg▸I.bare.push hy) ho,⟨λa o e O=>hk a o e,hz,λi x e=>by
   rw [hg,Array.getElem?_push,if_neg λq=>(by cases ((q▸e).symm.trans (Array.getElem?_eq_none (Aa _))))]
   exact e⟩,λO h=>.inl h⟩
theorem jk {Q:IQ}(h:af .none .none cH "_iter_escaped_chars" f cdv B)(ge:aC B "enumerate" (.raw (.type "enumerate")))(ha:x.cps.all (· < 128)=true)
   (q:Q ((aV 0 false x.cps.toList).map dS) [] H):hZ B (d+7) E tgt (.raw (.ref f)) [.str x] H Q:=λA s R I fv vs r1 r2=>by
 obtain ⟨O,rfl⟩:=r1.inv;obtain ⟨v,rfl,r⟩:=r2.one
 cases r with
 | str _ tx=>
 obtain ⟨oc,od,osl,doc,pm,an,ct,ho⟩:=h.at_;refine wpAny_call (codeAny_call_generator (by have:=R.depth;lia) (I.keep _ _ ho) rfl Dn Ek rfl (h.code.keeps I.keep) ?_);refine bc (os:=[]) C7 (by simp) ?_;refine wpAny_newFunctionEnv_cells tR (λe he=>?_) λenv he s₁ ic=>⟨(B.nolimit.keeps I.keep).keeps ic.toInCall.keep,?_⟩
 . rw [msp he]
   exact .inl (by show (aG (aJ cH)).names.lookup _=_;rw [eL];simp [List.lookup])
 . have fd:DF (B0 B) [] s fiG (stG x none none none) env s₁:=by
     subst he;exact Gk (bs:=[(Ω "addr",.str x)]) rfl rfl rfl (aDk I) ic (by rw [eL];decide +kernel) (by rw [eL];decide +kernel) (by rw [eL];exact .arg (.head _) (.inl rfl) (.unset (.unset (.unset (.glob ge .nil))))) (List.nodup_cons.mpr ⟨Be,List.nodup_nil⟩) ⟨.cons (.str _ _) .nil,rfl⟩ rfl rfl rfl rfl (λO O e=>(by cases e)) tR Dn
   have hloc:=fd.loc
   have hcells:env.cells=[]:=by
     rw [he];show cellsFrom (s.heap.objs.size+1) (aG (aJ cH)).names []=[];rw [eL];rfl
   obtain ⟨h',tk,hs₁,O⟩:=ic.toInCall.done;have hl₁:s.heap.objs.size<s₁.heap.objs.size:=Ae ic.toInCall.fresh ic.toInCall.ns.lt;have t₁:Tr noU s₁ H s H B:=Tr.ext I ic.toInCall.keep (Ac hl₁) (by rw [hs₁]) (by rw [hs₁]);generalize hs₂:({ s₁ with gens:=s₁.gens.push (.fresh (.func (aZ (aJ cH)) env)),toks:=s₁.toks+1+1,heap:=s₁.heap.push { cls:=.type "generator",data:=.fields #[.int s₁.gens.size 0,.str (bN "_iter_escaped_chars" cH .none .none doc pm an cdv ct).name s₁.toks,.str (bN "_iter_escaped_chars" cH .none .none doc pm an cdv ct).qualname (s₁.toks+1)] } }:Shared)=s₂;have hh₂:s₂.heap=s₁.heap.push { cls:=.type "generator",data:=.fields #[.int s₁.gens.size 0,.str (bN "_iter_escaped_chars" cH .none .none doc pm an cdv ct).name s₁.toks,.str (bN "_iter_escaped_chars" cH .none .none doc pm an cdv ct).qualname (s₁.toks+1)] }:=by rw [<-hs₂]
   have hg₂:s₂.gens=s₁.gens.push (.fresh (.func (aZ (aJ cH)) env)):=by rw [<-hs₂]
   have ho₂:s₂.os=s₁.os:=by rw [<-hs₂]
   have k₂:∀a o,s₁.heap.get? a=some o->s₂.heap.get? a=some o:=λa o e=>by rw [hh₂];exact Heap.get?_push_of_some _ e
   have z₂:s₂.heap.objs.size=s₁.heap.objs.size+1:=by rw [hh₂,Heap.size_push]
   have z:s₁.heap.objs.size<=s₂.heap.objs.size:=by rw [z₂];exact Aj _
   have t₂:Tr noU s₂ H s₁ H B:=.gpush t₁.inv k₂ z hg₂ rfl ho₂;have hG:s₂.heap.IsGen s₁.heap.objs.size s₁.gens.size:=⟨_,_,_,by rw [hh₂];exact Heap.get?_push_size _ rfl,rfl,rfl,rfl⟩;have hgs:s₂.gens[s₁.gens.size]?=some (.fresh (.func (aZ (aJ cH)) env)):=by rw [hg₂];exact Array.getElem?_push_size ..
   have hns₂:s₂.heap.Ns env.locals (bindL env.kindOf [(Ω "addr",.str x tx)] λO=>none):=ic.toInCall.ns.at' λo e=>k₂ _ o e;have F₂:aA s₂ [] (stG x none none none) env (B0 B):=fd.frm.tr fd.tr.inv (.gpush fd.tr.inv k₂ z hg₂ rfl ho₂);refine wpAny_pyIter_gen hG ?_;have hap:env.locals<s₁.heap.objs.size:=by rw [hloc];exact hl₁
   refine ⟨_,[],H,_,(·=s₁.gens.size),JG B A s₁.heap.objs.size s₁.gens.size,t₁.trans t₂,GH tgt _ _,⟨aV 0 false x.cps.toList,[env.locals],_,rfl,rfl,hG,hgs,?_,λp hp=>?_,λs'' l=>?_⟩,λp hp=>?_,λi hi=>?_,(λO hm=>(by cases hm)),q⟩
   . intro hm
     rw [List.mem_singleton] at hm;exact absurd hap (by rw [<-hm];exact Al _)
   . rw [msp hp]
     obtain ⟨o,a1,a2,eo,r⟩:=id hns₂;refine ⟨⟨hloc▸I.size,λq=>?_⟩,o,eo,ro hns₂ o eo⟩;exact absurd (dN I q) (by rw [hloc];exact Al _)
   . exact xO fd.eok hcells ha (⟨R.handled,by have:=R.depth;show A.depth+5<_;lia,by have:=R.units;show A.units+1+8*5+100<_;lia⟩) l.inv (F₂.glater (.head _) l (g8 fK fK fK))
   . rcases hp with rfl | hp
     . exact ⟨Ac hl₁,by rw [z₂];exact An _,λq=>absurd (dN t₁.inv q) (Al _)⟩
     . rw [msp hp]
       exact ⟨Ad hloc.symm,by rw [z₂];exact AZ hap,λq=>absurd (dN I q) (by rw [hloc];exact Al _)⟩
   . subst hi
     exact ⟨jj t₁,by rw [hg₂,Array.size_push];exact An _⟩
end
noncomputable def ak (x:Str):List (Nat×List Nat)->Nat->Option Nat->List Str->List Str
 | [],st,_,acc=>if st<x.length then acc++[bE x (some st) none none] else acc
 | (p,s)::r,st,o,acc=>if s=[34] then (match o with
     | none=>ak x r st (some p) acc
     | some op=>ak x r (p+1) none (if st≠op then acc++[bE x (some st) (some op) none] else acc)) else ak x r st o acc
section
variable {p st op:Nat}{o:Option Nat}{s:List Nat}{r:List (Nat×List Nat)}{acc:List Str}
theorem dz:ak x [] st o acc=if st<x.length then acc++[bE x (some st) none none] else acc:=rfl
theorem bS (h:s≠[34]):ak x ((p,s)::r) st o acc=ak x r st o acc:=if_neg h
theorem ew (h:s=[34]):ak x ((p,s)::r) st none acc=ak x r st (some p) acc:=if_pos h
theorem jW (h:s=[34])(e:st=op):ak x ((p,s)::r) st (some op) acc=ak x r (p+1) none acc:=(if_pos h).trans (congrArg (ak x r (p+1) none) (if_neg λn=>n e))
theorem kI (h:s=[34])(e:¬st=op):ak x ((p,s)::r) st (some op) acc=ak x r (p+1) none (acc++[bE x (some (st:Int)) (some (op:Int)) none]):=(if_pos h).trans (congrArg (ak x r (p+1) none) (if_pos e))
end
noncomputable def d6 (x:Str):Str:=if Txt.contains x ⟨#[34]⟩=true then Txt.join ⟨#[]⟩ (ak x (aV 0 false x.cps.toList) 0 none []) else x
theorem eh:∀(l:List Nat) (i:Nat) (e:Bool),(aV i e l).length<=l.length+1
 | [],_,true=>Aa 1
 | [],_,false=>Ab 1
 | _::r,i,true=>Ai (eh r (i+1) false)
 | c::r,i,false=>by
   by_cases h:c=92
   . rw [dv,if_pos h];exact Aw (eh r (i+1) true)
   . rw [dv,if_neg h];exact Ai (eh r (i+1) false)
section
theorem cO {fd:FuncData}{nm:Str}{a:PV}(hf:∀(S:Setting) v,b0 S [] (bindArgs fd ⟨[v],[]⟩)=some ([],[(nm,v)])):cB B fd [a] [] H [(nm,a)]:=λA s I vs kvs h1 h2 E Q hQ=>by
 obtain ⟨v,rfl,r1⟩:=h1.one;rw [h2.nil];exact bc (os:=[]) (hf _ v) (by simp) (hQ _ (.cons r1 .nl))
theorem D6 {fd:FuncData}{n1 n2:Str}{a b:PV}(hf:∀(S:Setting) v w,b0 S [] (bindArgs fd ⟨[v,w],[]⟩)=some ([],[(n1,v),(n2,w)])):cB B fd [a,b] [] H [(n1,a),(n2,b)]:=λA s I vs kvs h1 h2 E Q hQ=>by
 obtain ⟨v,w,rfl,r1,r2⟩:=h1.two;rw [h2.nil];exact bc (os:=[]) (hf _ v w) (by simp) (hQ _ (.cons r1 (.cons r2 .nl)))
theorem rQ {fd:FuncData}{n1 n2 n3:Str}{a b c:PV}(hf:∀(S:Setting) v w u,b0 S [] (bindArgs fd ⟨[v,w,u],[]⟩)=some ([],[(n1,v),(n2,w),(n3,u)])):cB B fd [a,b,c] [] H [(n1,a),(n2,b),(n3,c)]:=λA s I vs kvs h1 h2 E Q hQ=>by
 obtain ⟨v,w,u,rfl,r1,r2,r3⟩:=h1.three;rw [h2.nil];exact bc (os:=[]) (hf _ v w u) (by simp) (hQ _ (.cons r1 (.cons r2 (.cons r3 .nl))))
theorem dH {f:PV}{args:List PV}{kw:List (Str×PV)}(h:aF kw E H B d f args λv H'=>∃e H'',H'=e::H''/\Q v H''):aF kw E H B d f args Q:=λA s R I fv vs kvs h1 h2 h3=>
 wpm (h A s R I fv vs kvs h1 h2 h3) (λr s' p=>by
   obtain ⟨v,H',t,r',e,H'',eq,q⟩:=p;subst eq
   exact ⟨v,H'',t.drop_key,r'.drop_key,q⟩)
end
section
variable {cdv':Value}
theorem lK {doc pm ct:Value}{v:Value}:b0 S [] (bindArgs (bN "_strip_quoted_realnames" iH .none .none doc pm an cdv ct) ⟨[v],[]⟩)=some ([],[(Ω "addr",v)]):=by kernel_rfl
theorem oI:bb [Ω "addr"] (aG (aJ iH))=true:=by decide +kernel
noncomputable abbrev stS (x:Str)(st op res pos ch:Option PV)(g:Addr):St:=[(Ω "addr",.local,some (.str x)),(Ω "start",.local,st),(Ω "open_pos",.local,op),(Ω "result",.local,res),(Ω "pos",.local,pos),(Ω "ch",.local,ch),
 (Ω "_iter_escaped_chars",.globalImplicit,some (.raw (.ref g))),(Ω "len",.globalImplicit,some (.raw (.builtin "len")))]
theorem o0 {g:Addr}(gi:aC B "_iter_escaped_chars" (.raw (.ref g)))(gl:aC B "len" (.raw (.builtin "len"))):Ini B [(Ω "addr",.str x)] (aG (aJ iH)).names (stS x none none none none none g):=by
 refine .arg (by walk_at "mm") (.inl rfl) (.unset (.unset (.unset (.unset (.unset (.glob gi (.glob gl .nil)))))))
theorem jZ:Ω "\"" = (⟨#[34]⟩:Str):=by decide +kernel
theorem pQ (s:List Nat)(c:Nat):decide ((⟨s.toArray⟩:Str)=⟨#[c]⟩)=decide (s=[c]):=by
 by_cases h:s=[c]
 . subst h;simp
 . rw [decide_eq_false h,decide_eq_false];intro q;injection q with q;apply h;simpa using congrArg Array.toList q
noncomputable abbrev aCo:Stmt:=((aZ (aJ iH))[4]?).getD (.Pass default)
noncomputable abbrev v3:Option Nat->PV
 | none=>.none
 | some n=>.int n
theorem yG {g:Addr}(hx:x.length<=4096):∀(toks:List (Nat×List Nat)) (st:Nat) (o:Option Nat) (acc:List Str) (pos ch:Option PV),st<=5000->(∀t∈toks,t.1<=4096)->(∀op,o=some op->op<=4096)->acc.length+toks.length<=5000->
   (∀st' o' acc' pos' ch',(∀y∈acc',y.length<=x.length)->st'<=5000->acc'.length<=5000->ak x toks st o acc=ak x [] st' o' acc'->Qn (stS x (some (.int (st':Nat))) (some (v3 o')) (some (.lref a)) pos' ch' g) ((a,acc'.map PV.str)::H))->(∀y∈acc,y.length<=x.length)->
   cQ B (d8 iH "_strip_quoted_realnames") d (a0 aCo) (aM aCo) [] (toks.map dS) (stS x (some (.int (st:Nat))) (some (v3 o)) (some (.lref a)) pos ch g) ((a,acc.map PV.str)::H) Qn Qf:=by
 intro toks
 induction toks with
 | nil=>intro st o acc pos ch hst ht ho hn hq hacc;exact b6 (hq st o acc pos ch hacc hst hn rfl)
 | cons t r ih=>
   intro st o acc pos ch hst ht ho hn' hq hacc;obtain ⟨p,s⟩:=t;refine bP ?_;obtain ⟨htp,ht⟩:=List.forall_mem_cons.mp ht;have ih:=λst o acc pos ch h1 h2 h3=>ih st o acc pos ch h1 ht h2 h3;have hl:=Nat.le_of_add_right_le (Ao hn');show Asg B _ d NoE (a0 aCo) (.tup [.int p,.str ⟨s.toArray⟩]) _ _ _;refine' jU rfl rfl ?_;ext;refine' aH ?_;ext;rw [jZ,pQ];by_cases h34:s=[34]
   . refine' rq h34 ?_
     cases o with
     | none=>
       ext;refine' ifp (show il (v3 none) .none=true from rfl) ?_;ext;refine ⟨(λO h=>(by cases h)),ih st (some p) acc _ _ hst (λop e=>by cases e;exact htp) (Ao hn') (λst' o' acc' pos' ch' h1 h2 h3 h4=>hq st' o' acc' pos' ch' h1 h2 h3 ((ew h34).trans h4)) hacc⟩
     | some op=>
       have hop:=ho op rfl;ext;refine' ifn (show ¬il (v3 (some op)) .none=true from BW) ?_;ext;by_cases hse:st=op
       . refine' ifn (λe=>bne_iff_ne.mp e (congrArg Int.ofNat hse)) ?_
         ext;exact ⟨(λO h=>(by cases h)),ih (p+1) none acc _ _ (ntr (Ai htp) ∅) (λop e=>(by cases e)) (Ao hn') (λst' o' acc' pos' ch' h1 h2 h3 h4=>hq st' o' acc' pos' ch' h1 h2 h3 ((jW h34 hse).trans h4)) hacc⟩
       . refine' ifp (bne_iff_ne.mpr λe=>hse (Int.ofNat.inj e)) ?_
         ext;refine ⟨_,bA (.lref mcs),?_⟩;ext;refine ⟨bH cC,mG ∅ (ntr hx ∅) ?_⟩;ext;refine bQ .head (ntr (Ad (Ba _)) (ntr hl ∅)) ?_;ext;refine ⟨(λO h=>(by cases h)),?_⟩;rw [za]
         exact ih (p+1) none _ _ _ (ntr (Ai htp) ∅) (λop e=>(by cases e)) (by rw [Bb,A8];exact hn') (λst' o' acc' pos' ch' h1 h2 h3 h4=>hq st' o' acc' pos' ch' h1 h2 h3 ((kI h34 hse).trans h4)) (λy hy=>by
           rcases mpp hy with h | h
           . exact hacc y h
           . rw [msp h];exact iK x _ _ _ ∅)
   . refine' mY h34 ?_
     ext;refine ⟨(λO h=>(by cases h)),ih st o acc _ _ hst ho (Ao hn') (λst' o' acc' pos' ch' h1 h2 h3 h4=>hq st' o' acc' pos' ch' h1 h2 h3 ((bS h34).trans h4)) hacc⟩
theorem fx {x:List Nat}{t:Nat×List Nat}{l:List (Nat×List Nat)}(h:t=(i,x)\/t∈l)(g:t∈l->t.1<=i+1+n):t.1<=i+(n+1):=
 h.elim (λe=>e▸Af _ _) λh=>ntr (g h) (by lia)
theorem uB:∀(l:List Nat) (i:Nat) (e:Bool),∀t∈aV i e l,t.1<=i+l.length:=by
 intro l
 induction l with
 | nil=>intro i e t h;cases e with
   | true=>rw [msp h];exact Aq _ _
   | false=>cases h
 | cons c r ih=>intro i e t h;cases e with
   | true=>exact fx (mcp h) (ih (i+1) false t)
   | false=>
     by_cases e:c=92
     . rw [dv,if_pos e] at h;exact fx (x:=[]) (.inr h) (ih (i+1) true t)
     . rw [dv,if_neg e] at h;exact fx (mcp h) (ih (i+1) false t)
theorem aAn {x:Nat}:∀(l:List Str),(∀y∈l,y.length<=x)->(l.map (·.length)).sum<=l.length*x:=by
 intro l
 induction l with
 | nil=>
   intro _;simp
 | cons a r ih=>
   intro h;have:=ih λy hy=>h y (mcm _ hy);have:=h a mcs;simp only [Bg,BB,Bf,Nat.add_mul,A0];lia
theorem mN {g:Addr}(h:af .none .none iH "_strip_quoted_realnames" f cdv B)(hg:af .none .none cH "_iter_escaped_chars" g cdv' B)(gi:aC B "_iter_escaped_chars" (.raw (.ref g)))(gl:aC B "len" (.raw (.builtin "len")))
   (ge:aC B "enumerate" (.raw (.type "enumerate")))(ha:x.cps.all (· < 128)=true)(hx:x.length<=3000)(q:Q (.str (d6 x)) H):aF [] NoE H B (d+12) (.raw (.ref f)) [.str x] Q:=by
 have hz:x.length<=sizeLine:=by rw [sizeLine_eq];lia
 have hl:x.cps.toList.length=x.length:=rfl;by_cases hc:Txt.contains x ⟨#[34]⟩=true
 . refine dH ?_
   refine h.call (d:=d+11) (λdoc pm an ct=>cO λS v=>lK) rfl oI (o0 gi gl) ?_;refine' aH ?_;ext;refine' ifn (show ¬(!Txt.contains x (Ω "\""))=true by rw [jZ,hc];exact BW) ?_;ext;refine cA ?_;refine jB λa=>?_;ext;refine ⟨aD hg,?_⟩;ext;refine jk (d:=d+4) hg ge ha ?_;refine yG (x:=x) (by lia) (aV 0 false x.cps.toList) 0 none [] none none (by lia) (λt ht=>by have:=uB _ _ _ t ht;lia) (λO e=>(by cases e)) (by have:=eh x.cps.toList 0 false;simp only [List.length_nil];lia) ?_ (λO e=>(by cases e));intro st' o' acc' pos' ch' h1 h2 h3 h4;have hsum:=aAn acc' h1;have hmul:acc'.length*x.length<=5000*3000:=A3 h3 hx;have hres:d6 x=Txt.join ⟨#[]⟩ (ak x [] st' o' acc'):=by rw [d6,if_pos hc,h4]
   have e0:(Ω "").length=0:=by decide +kernel
   ext;refine ⟨aB,?_⟩;ext;refine db (by lia) ?_;ext;by_cases hlt:st'<x.length
   . refine' ifp (show decide ((st':Int)<(x.length:Int))=true by simp;lia) ?_
     ext;refine ⟨_,bA (.lref mcs),?_⟩;ext;refine ⟨bH cC,mG (by simp) hz ?_⟩;ext;refine bQ .head (by rw [Ba,sizeLine_eq];lia) ?_;ext;refine ⟨_,dj,?_⟩;ext;have e3:acc'.map PV.str++[PV.str (bE x (some (st':Int)) none none)]=(acc'++[bE x (some (st':Int)) none none]).map PV.str:=by simp
     rw [e3];have hp:=iK x (some (st':Int)) none none (by simp);refine dg (.inr (.lref mcs)) (by rw [e0];simp only [Bj,List.sum_append,Bg,List.map_nil,BB,List.sum_nil,AM];lia) ?_;refine ⟨_,_,rfl,?_⟩;rw [hres,dz,if_pos hlt] at q;exact q
   . refine' ifn (show ¬decide ((st':Int)<(x.length:Int))=true by simp;lia) ?_
     ext;refine ⟨_,dj,?_⟩;ext;refine dg (.inr (.lref mcs)) (by rw [e0];lia) ?_;refine ⟨_,_,rfl,?_⟩;rw [hres,dz,if_neg hlt] at q;exact q
 . refine h.call (d:=d+11) (λdoc pm an ct=>cO λS v=>lK) rfl oI (o0 gi gl) ?_
   refine' aH ?_;ext;refine' ifp (show (!Txt.contains x (Ω "\""))=true by rw [jZ];simpa using hc) ?_;ext;rw [d6,if_neg hc] at q;exact q
end
noncomputable def Asc (x:Str):Prop:=∀c∈x.cps.toList,c<128
theorem Asc.all (h:Asc x):x.cps.all (· < 128)=true:=by
 rw [<-Array.all_toList,BK];exact λc hc=>decide_eq_true (h c hc)
theorem Asc.pick (h:Asc x)(l u k:Option Int):Asc (bE x l u k):=by
 unfold bE;split
 . exact h
 . intro c hc
   simp only [List.mem_filterMap] at hc;obtain ⟨i,O,e⟩:=hc;exact h c (by rw [<-Array.getElem?_toList] at e;exact List.mem_of_getElem? e)
theorem Asc.add {y:Str}(hx:Asc x)(hy:Asc y):Asc (x++y):=by
 intro c hc
 have e:(x++y).cps.toList=x.cps.toList++y.cps.toList:=by
   show (x.cps++y.cps).toList=_;simp
 rw [e] at hc;rcases mpp hc with h | h
 . exact hx c h
 . exact hy c h
theorem Asc.join {s:Str}(hs:Asc s):∀{l:List Str},(∀y∈l,Asc y)->Asc (Txt.join s l):=by
 intro l h;unfold Txt.join;rw [StrLaws.glued_eq_join]
 induction l with
 | nil=>intro c hc;simp [Str.join,Str.empty] at hc
 | cons a r ih=>
   cases r with
   | nil=>exact h a mcs
   | cons b r=>exact ((h a mcs).add hs).add (ih λy hy=>h y (mcm _ hy))
theorem si {x:Str}(hx:Asc x):∀(t:List (Nat×List Nat)) (st:Nat) (o:Option Nat) (acc:List Str),(∀y∈acc,Asc y)->∀y∈ak x t st o acc,Asc y:=by
 intro t
 induction t with
 | nil=>
   intro st o acc h y hy;rw [dz] at hy;split at hy
   . rcases mpp hy with h' | h'
     . exact h y h'
     . rw [msp h'];exact hx.pick _ _ _
   . exact h y hy
 | cons hd r ih=>
   intro st o acc h y hy;obtain ⟨p,s⟩:=hd;by_cases hs:s=[34]
   . cases o with
     | none=>rw [ew hs] at hy;exact ih _ _ _ h y hy
     | some op=>
       by_cases e:st=op
       . rw [jW hs e] at hy;exact ih _ _ _ h y hy
       . rw [kI hs e] at hy
         refine ih _ _ _ (λz hz=>?_) y hy;rcases mpp hz with h' | h'
         . exact h z h'
         . rw [msp h'];exact hx.pick _ _ _
   . rw [bS hs] at hy;exact ih _ _ _ h y hy
theorem uS (h:Asc x):Asc (d6 x):=by
 unfold d6;split
 . exact Asc.join (λc hc=>by simp at hc) (si h _ _ _ _ (λO hy=>(by cases hy)))
 . exact h
noncomputable def eA:List (Nat×List Nat)->Int->Bool
 | [],o=>o==0
 | (_,s)::r,o=>if s=[40] then eA r (o+1) else if s=[41] then (if o-1<0 then false else eA r (o-1)) else eA r o
noncomputable def fU (x:Str):Bool:=eA (aV 0 false (d6 x).cps.toList) 0
section
variable {o:Int}{p:Nat}{s:List Nat}{r:List (Nat×List Nat)}
theorem iJ (h:s=[40]):eA ((p,s)::r) o=eA r (o+1):=if_pos h
theorem oF (h:s=[41])(hn:o-1<0):eA ((p,s)::r) o=false:=(if_neg (by rw [h];decide)).trans ((if_pos h).trans (if_pos hn))
theorem fX (h:s=[41])(hn:¬o-1<0):eA ((p,s)::r) o=eA r (o-1):=(if_neg (by rw [h];decide)).trans ((if_pos h).trans (if_neg hn))
theorem fC (h:¬s=[40])(h':¬s=[41]):eA ((p,s)::r) o=eA r o:=(if_neg h).trans (if_neg h')
end
section
variable {cdv' cdv'':Value}
theorem u6 {doc pm ct:Value}{v:Value}:b0 S [] (bindArgs (bN "_check_parenthesis" jr .none .none doc pm an cdv ct) ⟨[v],[]⟩)=some ([],[(Ω "addr",v)]):=by kernel_rfl
theorem ya:bb [Ω "addr"] (aG (aJ jr))=true:=by decide +kernel
noncomputable abbrev stC (x:Str)(ops pos ch:Option PV)(f g:Addr):St:=[(Ω "addr",.local,some (.str x)),(Ω "opens",.local,ops),(Ω "pos",.local,pos),(Ω "ch",.local,ch),
 (Ω "_strip_quoted_realnames",.globalImplicit,some (.raw (.ref f))),(Ω "_iter_escaped_chars",.globalImplicit,some (.raw (.ref g)))]
theorem xJ {g:Addr}(gs:aC B "_strip_quoted_realnames" (.raw (.ref f)))(gi:aC B "_iter_escaped_chars" (.raw (.ref g))):Ini B [(Ω "addr",.str x)] (aG (aJ jr)).names (stC x none none none f g):=by
 refine .arg (by walk_at "mm") (.inl rfl) (.unset (.unset (.unset (.glob gs (.glob gi .nil)))))
theorem zX:Ω "(" = (⟨#[40]⟩:Str):=by decide +kernel
theorem yW:Ω ")" = (⟨#[41]⟩:Str):=by decide +kernel
noncomputable abbrev aAk:Stmt:=((aZ (aJ jr))[2]?).getD (.Pass default)
theorem xG {g:Addr}:∀(toks:List (Nat×List Nat)) (o:Int) (pos ch:Option PV),
   (∀o' pos' ch',eA toks o=(o'==0)->Qn (stC x (some (.int o')) pos' ch' f g) H)->(∀σ,eA toks o=false->Qf σ (.ret (.bool false)) H)->
   cQ B (d8 jr "_check_parenthesis") d (a0 aAk) (aM aAk) [] (toks.map dS) (stC x (some (.int o)) pos ch f g) H Qn Qf:=by
 intro toks
 induction toks with
 | nil=>
   intro o pos ch hq hf;exact b6 (hq o pos ch rfl)
 | cons hd r ih=>
   intro o pos ch hq hf;obtain ⟨p,s⟩:=hd;refine bP ?_;have ih:=λo pos ch=>ih o pos ch;show Asg B _ d NoE (a0 aAk) (.tup [.int p,.str ⟨s.toArray⟩]) _ _ _;refine' jU rfl rfl ?_;ext;refine' aH ?_;ext;rw [zX,pQ];by_cases h1:s=[40]
   . rw [decide_eq_true h1,if_pos rfl]
     ext;exact ⟨(λO h=>(by cases h)),ih (o+1) _ _ (λo' pos' ch' e=>hq o' pos' ch' ((iJ h1).trans e)) λσ e=>hf σ ((iJ h1).trans e)⟩
   . rw [decide_eq_false h1,if_neg BW]
     ext;rw [yW,pQ];by_cases h2:s=[41]
     . rw [decide_eq_true h2,if_pos rfl]
       ext;by_cases h3:o-1<0
       . refine' ifp (decide_eq_true h3) ?_
         ext;exact hf _ (oF h2 h3)
       . refine' ifn (by simpa using h3) ?_
         ext;exact ⟨(λO h=>(by cases h)),ih (o-1) _ _ (λo' pos' ch' e=>hq o' pos' ch' ((fX h2 h3).trans e)) λσ e=>hf σ ((fX h2 h3).trans e)⟩
     . rw [decide_eq_false h2,if_neg BW]
       ext;exact ⟨(λO h=>(by cases h)),ih o _ _ (λo' pos' ch' e=>hq o' pos' ch' ((fC h1 h2).trans e)) λσ e=>hf σ ((fC h1 h2).trans e)⟩
set_option genInjectivity false in
set_option genSizeOf false in
structure gK (B:aI) where
 f:Addr
 g:Addr
 c:Addr
 cdf:Value
 cdg:Value
 cdc:Value
 hf:af .none .none iH "_strip_quoted_realnames" f cdf B
 hg:af .none .none cH "_iter_escaped_chars" g cdg B
 hc:af .none .none jr "_check_parenthesis" c cdc B
 gf:aC B "_strip_quoted_realnames" (.raw (.ref f))
 gg:aC B "_iter_escaped_chars" (.raw (.ref g))
 gc:aC B "_check_parenthesis" (.raw (.ref c))
 gl:aC B "len" (.raw (.builtin "len"))
 ge:aC B "enumerate" (.raw (.type "enumerate"))
theorem iG (M:gK B)(ha:Asc x)(hx:x.length<=3000)(q:Q (.bool (fU x)) H):aF [] NoE H B (d+13) (.raw (.ref M.c)) [.str x] Q:=by
 refine M.hc.call (d:=d+12) (λdoc pm an ct=>cO λS v=>u6) rfl ya (xJ M.gf M.gg) ?_;refine' aH ?_;ext;refine ⟨aD M.hf,?_⟩;ext;refine mN M.hf M.hg M.gg M.gl M.ge ha.all hx ?_;ext;refine ⟨aD M.hg,?_⟩;ext;refine jk (d:=d+5) M.hg M.ge (uS ha).all ?_;refine xG (aV 0 false (d6 x).cps.toList) 0 none none (λo' pos' ch' e=>?_) λσ e=>?_
 . ext
   have e':fU x=(o'==0):=e;rw [e'] at q;exact q
 . have e':fU x=false:=e
   rw [e'] at q;exact q
theorem kQ (M:gK B){b:Bool}(ha:Asc x)(hx:x.length<=3000)(e:fU x=b)(q:Q (.bool b) H):aF [] NoE H B (d+13) (.raw (.ref M.c)) [.str x] Q:=iG M ha hx (e▸q)
end
noncomputable def aEe:Str:=Ω "('', '')"
noncomputable def dy (x:Str):Str:=if fU x=true then x else aEe
section
variable {cdv' cdv'':Value}
theorem z7 {doc pm ct:Value}{v:Value}:b0 S [] (bindArgs (bN "_pre_parse_validation" rb .none .none doc pm an cdv ct) ⟨[v],[]⟩)=some ([],[(Ω "email_header_fields",v)]):=by kernel_rfl
theorem FK:bb [Ω "email_header_fields"] (aG (aJ rb))=true:=by decide +kernel
noncomputable abbrev v1 (a:Addr)(acc v:Option PV)(c:Addr):St:=[(Ω "email_header_fields",.local,some (.lref a)),(Ω "accepted_values",.local,acc),(Ω "v",.local,v),(Ω "_check_parenthesis",.globalImplicit,some (.raw (.ref c)))]
theorem Fh {c:Addr}(gc:aC B "_check_parenthesis" (.raw (.ref c))):Ini B [(Ω "email_header_fields",.lref a)] (aG (aJ rb)).names (v1 a none none c):=by
 refine .arg (by walk_at "mm") (.inl rfl) (.unset (.unset (.glob gc .nil)))
noncomputable abbrev Ch:Stmt:=((aZ (aJ rb))[1]?).getD (.Pass default)
theorem E6 (M:gK B){b:Addr}{all:List Str}(ha:(a,all.map PV.str)∈H):∀(l acc:List Str) (v:Option PV),(∀x∈l,Asc x/\x.length<=3000)->acc.length+l.length<=5000->
   (∀v',Qn (v1 a (some (.lref b)) v' M.c) ((b,(acc++l.map dy).map PV.str)::H))->
   cQ B (d8 rb "_pre_parse_validation") (d+14) (a0 Ch) (aM Ch) [(a,all.map PV.str)] (l.map PV.str) (v1 a (some (.lref b)) v M.c) ((b,acc.map PV.str)::H) Qn Qf:=by
 intro l
 induction l with
 | nil=>
   intro acc v hl hn hq;simpa using b6 (hq v)
 | cons x r ih=>
   intro acc v hl hn hq;refine bP ?_;have ih:=λacc v=>ih acc v (λy hy=>hl y (mcm _ hy));obtain ⟨hx,hx'⟩:=hl x mcs;have hn':acc.length+r.length+1<=5000:=by simp at hn;lia
   have hz:(acc.map PV.str).length<=sizeLine:=by rw [Ba,sizeLine_eq];lia
   have fin:∀y v',y=dy x->(∀p∈[(a,all.map PV.str)],p∈(b,acc.map PV.str++[PV.str y])::H)/\cQ B (d8 rb "_pre_parse_validation") (d+14) (a0 Ch) (aM Ch) [(a,all.map PV.str)] (r.map PV.str) (v1 a (some (.lref b)) v' M.c) ((b,acc.map PV.str++[PV.str y])::H) Qn Qf:=λy v' e=>by
     subst e;refine ⟨λp hp=>by rw [msp hp];exact mcm _ ha,?_⟩;have e:acc.map PV.str++[PV.str (dy x)]=(acc++[dy x]).map PV.str:=by simp
     rw [e];exact ih (acc++[dy x]) v' (by simp;lia) λv''=>by simpa using hq v''
   show Asg B _ (d+14) NoE (a0 Ch) (.str x) _ _ _;refine' fP ?_;ext;refine' aH ?_;ext;refine ⟨aD M.hc,?_⟩;ext;refine iG M (d:=d+1) hx hx' ?_;ext
   cases hk:fU x with
   | true=>
     refine' ifn (by simp) ?_;ext;refine ⟨_,bA (.lref mcs),?_⟩;ext;refine bQ .head hz ?_;ext;exact fin _ _ (by rw [dy,if_pos hk])
   | false=>
     refine' ifp (by simp) ?_;ext;refine ⟨_,bA (.lref mcs),?_⟩;ext;refine bQ .head hz ?_;ext;exact fin _ _ (by rw [dy,if_neg (by simp [hk])];rfl)
theorem Dp (M:gK B){all:List Str}(h:af .none .none rb "_pre_parse_validation" f cdv B)(ha:(a,all.map PV.str)∈H)(hl:∀x∈all,Asc x/\x.length<=3000)(hn:all.length<=4000)
   (q:∀b,Q (.lref b) ((b,(all.map dy).map PV.str)::H)):aF [] NoE H B (d+15) (.raw (.ref f)) [.lref a] Q:=by
 refine h.call (d:=d+14) (λdoc pm an ct=>cO λS v=>z7) rfl FK (Fh M.gc) ?_;refine' aH ?_;ext;refine cA ?_;refine jB λb=>?_;ext;refine cJ ?_;ext;refine cV (mcm _ ha) ?_;refine E6 M ha all [] none hl (by simp;lia) λv'=>?_;ext;exact q b
end
noncomputable abbrev bits (n:Nat):Nat:=Builtin.Int.intBits (n:Int)
theorem dP {a:Nat}:bits a<=m↔a<2 ^ m:=by
 have:=intBits_le_iff (m:=m) (x:=(a:Int));simpa using this
theorem wD (a:Nat):a<2 ^ bits a:=dP.mp (Aa _)
theorem iz (h:b≠0):1<=bits b/\2 ^ (bits b-1)<=b:=by
 have h1:1<=bits b:=by
   rcases Nat.eq_zero_or_pos (bits b) with e | e
   . have:=dP.mp (Ad e);simp at this;exact absurd this h
   . exact e
 refine ⟨h1,?_⟩;rcases AU b (2 ^ (bits b-1)) with q | q
 . have:=dP.mpr q;lia
 . exact q
theorem wG (a k:Nat):((a:Int)).fdiv (2 ^ k)=((a/2 ^ k:Nat):Int):=by
 rw [B7 _ (by exact_mod_cast Ab _)]
 norm_cast
theorem G8 (a k:Nat):(a:Int)*2 ^ k=((a*2 ^ k:Nat):Int):=by norm_cast
theorem E0 (a b:Nat):Builtin.bitAnd (a:Int) (b:Int)=((a &&& b:Nat):Int):=by
 rw [bitAnd_pp (by lia) (by lia)];simp
theorem zT (x k:Nat):Builtin.bitXor (x:Int) ((x/2 ^ k*2 ^ k:Nat):Int)=((x%2 ^ k:Nat):Int):=by
 rw [bitXor_and,E0]
 have:x &&& x/2 ^ k*2 ^ k=x/2 ^ k*2 ^ k:=by
   apply Nat.eq_of_testBit_eq;intro i;rw [Nat.testBit_and,AN,Nat.testBit_two_pow_mul];by_cases hi:k<=i
   . rw [decide_eq_true hi,Bool.true_and,Nat.testBit_div_two_pow,Nat.sub_add_cancel hi];simp
   . rw [decide_eq_false hi];simp
 rw [this];have:=Nat.div_add_mod x (2 ^ k);have e:x/2 ^ k*2 ^ k=2 ^ k*(x/2 ^ k):=AN _ _
 lia
theorem jI (a b:Nat):((a:Int)).fdiv (b:Int)=((a/b:Nat):Int):=by
 rw [B7 _ (by lia)];norm_cast
theorem lI (a b:Nat):((a:Int)).fmod (b:Int)=((a%b:Nat):Int):=by
 rw [B8 _ (by lia)];norm_cast
theorem aD5 {a:Nat}(hb:2 ^ (n-1)<=b)(ha:a<2 ^ (n+4000))(hn:1<=n):Builtin.divisionGoesByPylong (a:Int) (b:Int)=false:=by
 unfold Builtin.divisionGoesByPylong;have hb0:b≠0:=by have:=AI (n-1);lia
 have h1:n-1<=b.log2:=(Nat.le_log2 hb0).mpr hb;have h2:a≠0->a.log2<n+4000:=λh=>(Nat.log2_lt h).mpr ha;have e0:((b:Int)==0)=false:=by simp;lia
 simp only [e0,Int.natAbs_natCast,B1,if_false,Bool.and_eq_false_iff,decide_eq_false_iff_not]
 right
 by_cases ha0:a=0
 . subst ha0;simp
 . have e1:((a:Int)==0)=false:=by simp;lia
   simp only [e1,B1,if_false];have:=h2 ha0
   lia
theorem aA5 {a12 a3 b1 b2:Nat}(e:b=b1*2 ^ n+b2)(h3:a3<2 ^ n)(hlt:a12<b):a12*2 ^ n+a3<b*2 ^ n:=by
 have:(a12+1)*2 ^ n<=b*2 ^ n:=A1 _ hlt;rw [Nat.add_mul] at this
 lia
section
theorem sP {x s:Nat}(q:Q (.int ((x/2 ^ s:Nat):Int)) H):V2 H E B d (.int (s:Nat)) (.int (x:Nat)) (binaryOp .RShift) Q:=qD (B2 s) (by rw [B3,wG];exact q)
theorem zH {x s:Nat}(hx:x<2 ^ m)(hz:m+s<=134217728):(Builtin.Int.intBits (x:Int):Int)+(s:Nat)<=2 ^ 27:=Int.ofNat_le.mpr (ntr (AJ (dP.mpr hx) s) hz)
theorem km {x s:Nat}(hx:x<2 ^ m)(hz:m+s<=134217728)(q:Q (.int ((x*2 ^ s:Nat):Int)) H):V2 H E B d (.int (s:Nat)) (.int (x:Nat)) (binaryOp .LShift) Q:=Fu (B2 s) (zH hx hz) (by rw [B3,G8];exact q)
theorem lg {a:Nat}{b:Int}(h:a<2 ^ 62)(q:Q (.int (a*b)) H):V2 H E B d (.int b) (.int (a:Nat)) (binaryOp .Mult) Q:=fJ (.of_left (intBits_le_64 (by omega) (by omega))) q
end
theorem wK {L R:Nat}(h:L<R)(hc:R≠L+1):L<(L+R)/2:=(Nat.le_div_iff_mul_le ∅).mpr (by omega)
theorem vX {L R:Nat}(h:L<R):(L+R)/2<R:=(AK ∅).mpr (by omega)
theorem wM {L R:Nat}(h:R-L<=2 ^ (k+1))(hl:L<R):(L+R)/2-L<=2 ^ k:=by
 rw [Nat.pow_succ] at h;exact Nat.sub_le_of_le_add (Nat.div_le_of_le_mul (by omega))
theorem wR {L R:Nat}(h:R-L<=2 ^ (k+1))(hl:L<R):R-(L+R)/2<=2 ^ k:=by
 rw [Nat.pow_succ] at h;exact Nat.sub_le_of_le_add (by omega)
theorem w2 (L R:Nat):((L:Int)+(R:Int)).fdiv (2 ^ (1:Int).toNat)=(((L+R)/2:Nat):Int):=wG (L+R) 1
theorem qy {L M R:Nat}(h1:L<=M)(h2:M<=R):R-L=(M-L)+(R-M):=by omega
section
theorem cb {fd:FuncData}{n1 n2:Str}{a b:PV}(hf:∀(S:Setting) v w,b0 S [] (bindArgs fd ⟨[v,w],[]⟩)=some ([],[(n1,v),(n2,w)])):cB B fd [a,b] [] H [(n1,a),(n2,b)]:=λA s I vs kvs h1 h2 E Q hQ=>by
 obtain ⟨v,w,rfl,r1,r2⟩:=h1.two;rw [h2.nil];exact bc (os:=[]) (hf _ v w) (by simp) (hQ _ (.cons r1 (.cons r2 .nl)))
theorem kb {fd:FuncData}{n1 n2 n3:Str}{a b c:PV}(hf:∀(S:Setting) v w u,b0 S [] (bindArgs fd ⟨[v,w,u],[]⟩)=some ([],[(n1,v),(n2,w),(n3,u)])):cB B fd [a,b,c] [] H [(n1,a),(n2,b),(n3,c)]:=λA s I vs kvs h1 h2 E Q hQ=>by
 obtain ⟨v,w,u,rfl,r1,r2,r3⟩:=h1.three;rw [h2.nil];exact bc (os:=[]) (hf _ v w u) (by simp) (hQ _ (.cons r1 (.cons r2 (.cons r3 .nl))))
set_option genInjectivity false in
set_option genSizeOf false in
structure DivFns (B:aI) where
 f2:Addr
 f3:Addr
 cd2:Value
 cd3:Value
 h2:af .none .none w9 "_div2n1n" f2 cd2 B
 h3:af .none .none aFt "_div3n2n" f3 cd3 B
 g2:aC B "_div2n1n" (.raw (.ref f2))
 g3:aC B "_div3n2n" (.raw (.ref f3))
 gl:aC B "_DIV_LIMIT" (.int 4000)
 gd:aC B "divmod" (.raw (.builtin "divmod"))
theorem FI {doc pm ct:Value}{v u:Value}:b0 S [] (bindArgs (bN "_div2n1n" w9 .none .none doc pm an cdv ct) ⟨[v,w,u],[]⟩)=some ([],[(Ω "a",v),(Ω "b",w),(Ω "n",u)]):=by kernel_rfl
theorem aB3:bb [Ω "a",Ω "b",Ω "n"] (aG (aJ w9))=true:=by decide +kernel
end
section
noncomputable def Gz (bk:Bool)(lk:Str->Option NameKind)(ts vs:List Expr):Option (Option (List Str)):=
 if (!(ts.length==2 || ts.length==3) || vs.length != ts.length || bk)=true then some none else
 if (vs.any fun | .Starred ..=>true | _=>false)=true then some none else
 let line:=(ts.head?.map (·.pos.line)).getD 0;let names:=ts.filterMap fun
   | .Name id pos=>if lk id==some .local && pos.line==line then some id else none
   | _=>none
 if (names.length != ts.length || names.eraseDups.length != names.length)=true then some none else
 if vs.all (foldedForSure 8)=true then some none else
 if vs.all (constantsAlone 8)=true then none else some (some names)
noncomputable abbrev yt (sc:Scope)(ts vs:List Expr):Option (Option (List Str)):=Gz false (λid=>sc.names.lookup id) ts vs
theorem wU {c:Prop}[Decidable c]{x r:Option (List Str)}{o:Option (Option (List Str))}{m:Sem (Option (List Str))}(h:(if c then some x else o)=some r)(k:o=some r->m=pure r):(if c then pure x else m)=pure r:=by
 by_cases hc:c
 . rw [if_pos hc] at h ⊢
   exact congrArg pure (Option.some.inj h)
 . rw [if_neg hc] at h ⊢
   exact k h
theorem Ef {c:Prop}[Decidable c]{x:List Str}{r:Option (List Str)}{m:Sem (Option (List Str))}(h:(if c then none else some (some x))=some r):(if c then m else pure (some x))=pure r:=by
 by_cases hc:c
 . rw [if_pos hc] at h;exact (by cases h)
 . rw [if_neg hc] at h ⊢
   exact congrArg pure (Option.some.inj h)
theorem Dq {ts vs:List Expr}{k':Nat}{p p':Pos}{r:Option (List Str)}(h:Gz (env.blockKind != .function) env.kindOf ts vs=some r):swappedStores [.Tuple ts k p] (.Tuple vs k' p') env=pure r:=
 wU h λh=>wU h λh=>wU h λh=>wU h λh=>Ef h
theorem sQ (e:a9 B fi env){ts vs:List Expr}{k':Nat}{p p':Pos}{r:Option (List Str)}(h:yt fi.scope ts vs=some r):swappedStores [.Tuple ts k p] (.Tuple vs k' p') env=pure r:=by
 refine Dq ?_;rw [show (env.blockKind != .function)=false by unfold Env.blockKind;rw [e.kindF];rfl,show env.kindOf=λid=>fi.scope.names.lookup id by unfold Env.kindOf;rw [e.scope]];exact h
noncomputable abbrev aGp (fi:aN)(x y:Str)(σ:St)(v:PV)(Qn:SQ):PQ:=λw H₂=>sR fi [y,x] [w,v] σ λσ'=>Qn σ' H₂
noncomputable abbrev aF9 (B:aI)(fi:aN)(d:Nat)(E:EP)(e2:Expr)(x y:Str)(σ:St)(Qn:SQ):PQ:=λv H₁=>Ev E B d fi σ H₁ e2 (aGp fi x y σ v Qn)
theorem qA (x y:Str){ts:List Expr}{tpos:Pos}{e1 e2:Expr}{k':Nat}{epos:Pos}(hw:yt fi.scope ts [e1,e2]=some [x,y])(h:Ev E B d fi σ H e1 (aF9 B fi d E e2 x y σ Qn))
   (hs:autoParam (∀env,swapsWithSole [.Tuple ts k tpos] (.Tuple [e1,e2] k' epos) pos.line env=pure false) nC)(hp:autoParam ([e1,e2].all av=true) nA):X B fi d E (.Assign [.Tuple ts k tpos] (.Tuple [e1,e2] k' epos) pos) σ H Qn Qf:=
 mU [x,y] (λenv e=>sQ e hw) (h.mono λv H₁ h₁=>Ev.mono h₁ λw H₂ h₂=>⟨rfl,h₂⟩) hs hp (Ap rfl)
end
section
noncomputable abbrev aFx (a b n:Nat)(pad half mask b1 b2 q1 r q2:Option PV)(f3:Addr):St:=[(Ω "a",.local,some (.int a)),(Ω "b",.local,some (.int b)),(Ω "n",.local,some (.int n)),(Ω "pad",.local,pad),(Ω "half_n",.local,half),(Ω "mask",.local,mask),
 (Ω "b1",.local,b1),(Ω "b2",.local,b2),(Ω "q1",.local,q1),(Ω "r",.local,r),(Ω "q2",.local,q2),(Ω "_DIV_LIMIT",.globalImplicit,some (.int 4000)),(Ω "divmod",.globalImplicit,some (.raw (.builtin "divmod"))),(Ω "_div3n2n",.globalImplicit,some (.raw (.ref f3)))]
theorem aBn (F:DivFns B){a:Nat}:Ini B [(Ω "a",.int a),(Ω "b",.int b),(Ω "n",.int n)] (aG (aJ w9)).names (aFx a b n none none none none none none none none F.f3):=by
 refine .arg (by walk_at "mm") (.inl rfl) (.arg (by walk_at "mm") (.inl rfl) (.arg (by walk_at "mm") (.inl rfl) (.unset (.unset (.unset (.unset (.unset (.unset (.unset (.unset (.glob F.gl (.glob F.gd (.glob F.g3 .nil)))))))))))))
theorem wh {a:Nat}:(Builtin.Int.intBits (a:Int):Int)-(n:Nat)<=4000↔bits a<=n+4000:=by
 show (bits a:Int)-n<=4000↔_
 omega
noncomputable abbrev gD:Nat:=4000
theorem ja:gD<=2097152:=by decide
theorem aAv (F:DivFns B){a:Nat}(h1:2 ^ (n-1)<=b)(h2:b<2 ^ n)(hn:1<=n)(ha:a<b*2 ^ n)(hz:n<=gD)(q:Q (.tup [.int ((a/b:Nat):Int),.int ((a%b:Nat):Int)]) H):aF [] NoE H B 22 (.raw (.ref F.f2)) [.int a,.int b,.int n] Q:=by
 have hc:bits a<=n+4000:=ntr (dP.mpr (nlt ha (by rw [AB];exact A1 _ (Ac h2)))) (Au hz n);refine F.h2.call (d:=21) (λdoc pm an ct=>kb λS v w u=>FI) rfl aB3 (aBn F) ?_;refine' aH ?_;ext;refine ⟨_,gB,?_⟩;ext;refine fh ?_;ext;refine' rq (wh.mpr hc) ?_;ext;refine ⟨aB,?_⟩;ext;refine kU (Int.natCast_ne_zero.mpr (Ax (nlt (AI _) h1))) (aD5 h1 (dP.mp hc) hn) ?_;rw [jI,lI];exact q
end
noncomputable def aAa (p:Prop):Prop:=p
theorem HE {n m:Str}{a:Arguments}{b:List Stmt}{ds:List Expr}{r:Option Expr}{tps:List TypeParam}{sc:Scope}{o:Option Scope}{p:Pos}
   (h:aAa (Xs E B d fi H σ (.FunctionDef n a b ds r tps sc o m p::rest) Qn Qf)):Xs E B d fi H σ (.FunctionDef n a b ds r tps sc o m p::rest) Qn Qf:=h
noncomputable def aCx (k i:Nat):Stmt:=((aZ (aJ k))[i]?).getD (.Pass default)
noncomputable def iC:Stmt->Pos
 | .FunctionDef _ _ _ _ _ _ _ _ _ p=>p
 | _=>default
noncomputable def aCp (ns ks:List (Str×NameKind)):Bool:=ns.all λe=>e.2 != .free || ks.any λf=>f.1==e.1 && f.2==.cell
theorem n7 {ns:List (Str×NameKind)}(h:aCp ns (σ.map λe=>(e.1,e.2.1))=true):∀n,(n,NameKind.free)∈ns->∃ov,(n,NameKind.cell,ov)∈σ:=λn hn=>by
 have:=List.all_eq_true.mp h _ hn;simp only [BY,List.any_eq_true,BX,beq_iff_eq] at this;rcases this with q | ⟨f,hf,h1,h2⟩
 . cases q
 . obtain ⟨⟨y,k,ov⟩,he,rfl⟩:=mmp hf
   simp only at h1 h2;subst h1 h2;exact ⟨ov,he⟩
noncomputable def qS (nm:List Str)(s:Scope):Bool:=
 decide nm.Nodup && nm.all (λx=>s.names.any λe=>decide (e.1=x) && (e.2==.local)) && decide ((s.names.map λe=>e.1).Nodup) && s.names.all (λe=>e.2 != .cell) && (s.kind==.function) && !s.isCoroutine && !s.isGenerator
section
theorem dt.call' {name qual:Str}{params:Arguments}{σ₀:St}{args:List PV}{kw bs:List (Str×PV)}{nm:List Str}(h:dt B f name qual params body scope σ)
   (hb:∀clos doc pm cv ctv,cB B (fnX name qual params body scope clos .none .none doc pm none cv ctv) args kw H bs)(hnm:bs.map (λe=>e.1)=nm)(hc:qS nm scope=true)(hi:dX B bs σ scope.names σ₀)
   (hx:Xs NoE B d ⟨scope,none,qual++".<locals>.",λO=>false⟩ H σ₀ body (λO H'=>Q .none H') (PX Q)):aF kw NoE H B (d+1) (.raw (.ref f)) args Q:=by
 simp only [qS,BX,decide_eq_true_eq,BZ,beq_iff_eq] at hc;obtain ⟨⟨⟨⟨⟨⟨h1,h2⟩,h3⟩,h4⟩,h5⟩,h6⟩,h7⟩:=hc;refine h.call hb (by rw [hnm];exact h1) (λe he=>?_) h3 (λe he=>?_) h5 h6 h7 hi hx
 . have hm:e.1∈nm:=by rw [<-hnm];exact mmr ⟨e,he,rfl⟩
   have:=List.all_eq_true.mp h2 _ hm;simp only [List.any_eq_true,BX,decide_eq_true_eq,beq_iff_eq] at this;obtain ⟨⟨x,k⟩,hx,rfl,rfl⟩:=this;exact hx
 . have:=List.all_eq_true.mp h4 _ he
   simpa using this
theorem af.callC {c P:Addr}{name:Str}(h:af dV kV k name f (.ref c) B){args:List PV}{kw bs:List (Str×PV)}{nm:List Str}{σ₀:St}
   (hb:∀doc pm an ct,cB B (bN name k dV kV doc pm an (.ref c) ct) args kw H bs)(hnm:bs.map (λe=>e.1)=nm)(hc:bb nm (aG (aJ k))=true)
   (hi:Ini B bs (aG (aJ k)).names σ₀)(hx:Xs NoE B d ⟨aG (aJ k),some (c,P),name++".<locals>.",λO=>false⟩ H σ₀ (aZ (aJ k)) (λO H'=>Q .none H') (PX Q)):aF kw NoE H B (d+1) (.raw (.ref f)) args Q:=by
 obtain ⟨oc,od,osl,doc,pm,an,ct,ho⟩:=h.at_;exact tA (fd:=bN name k dV kV doc pm an (.ref c) ct) (cp:=some (c,P)) (λs I=>I.keep _ _ ho) rfl rfl (λs I=>h.code.keeps I.keep) (eZ hc) (ip hc) (f5 hc) rfl rfl (λO O h=>by cases h;rfl) (hb doc pm an ct)
   (by rw [hnm];exact dw hc) (λe he=>f9 hc _ (by rw [<-hnm];exact mmr ⟨e,he,rfl⟩)) (dq hc) (eK hc) hi hx
end
noncomputable def dig (n x i:Nat):Nat:=x/2 ^ (n*i)%2 ^ n
noncomputable def k0 (n x L R:Nat)(xs ys:List PV):Prop:=ys.length=xs.length/\∀j,ys[j]?=if L<=j/\j<R then some (.int (dig n x (j-L):Nat)) else xs[j]?
theorem Fa {x:Nat}(h:i<m):dig n (x%2 ^ (n*m)) i=dig n x i:=by
 unfold dig;obtain ⟨k,rfl⟩:=Nat.exists_eq_add_of_lt h;have e:n*(i+k+1)=n*i+(n+n*k):=by rw [AQ,AO,AC,Ah (n*k)]
 rw [e,AB,Nat.mod_mul_right_div_self,AB,Nat.mod_mul_right_mod]
theorem EG {x:Nat}:dig n (x/2 ^ (n*m)) i=dig n x (m+i):=by
 unfold dig;rw [Nat.div_div_eq_div_mul,<-AB,AO]
theorem k0.both {x L M R:Nat}{zs:List PV}(h1:L<=M)(h2:M<=R)(hz:R<=xs.length)(a:k0 n (x%2 ^ (n*(M-L))) L M xs ys)(b:k0 n (x/2 ^ (n*(M-L))) M R ys zs):k0 n x L R xs zs:=by
 refine ⟨b.1.trans a.1,λj=>?_⟩;rw [b.2 j,a.2 j];by_cases hj:M<=j/\j<R
 . rw [if_pos hj,if_pos ⟨ntr h1 hj.1,hj.2⟩,EG,Ah,Nat.sub_add_sub_cancel hj.1 h1]
 . rw [if_neg hj]
   by_cases hk:L<=j/\j<M
   . rw [if_pos hk,if_pos ⟨hk.1,nlt hk.2 h2⟩,Fa (Nat.sub_lt_sub_right hk.1 hk.2)]
   . rw [if_neg hk,if_neg (by lia)]
theorem k0.one {x L:Nat}(hx:x<2 ^ n)(hl:L<xs.length):k0 n x L (L+1) xs (xs.set L (.int (x:Nat))):=by
 refine ⟨by simp,λj=>?_⟩;rw [List.getElem?_set];by_cases hj:L=j
 . subst hj
   rw [if_pos rfl,if_pos hl,if_pos ⟨Aa _,An _⟩];simp [dig,Nat.mod_eq_of_lt hx]
 . rw [if_neg hj,if_neg (by lia)]
theorem k0.eq {x:Nat}(h:k0 n x 0 m xs ys)(hm:xs.length=m):ys=(List.range m).map λi=>PV.int (dig n x i:Nat):=by
 apply List.ext_getElem?;intro j;rw [h.2 j];by_cases hj:j<m
 . rw [if_pos ⟨Ab _,hj⟩];simp [hj]
 . rw [if_neg (by lia)]
   rw [List.getElem?_eq_none (by lia),List.getElem?_eq_none (by simp;lia)]
section
noncomputable abbrev nI:Stmt:=aCx gQ 1
noncomputable abbrev stI (a n A f:PV):St:=[(Ω "a",.local,some a),(Ω "n",.cell,some n),(Ω "a_digits",.cell,some A),(Ω "inner",.cell,some f),(Ω "len",.globalImplicit,some (.raw (.builtin "len")))]
noncomputable abbrev stJ (x L R mid shift upper lower:Option PV)(A f n:PV):St:=[(Ω "x",.local,x),(Ω "L",.local,L),(Ω "R",.local,R),(Ω "mid",.local,mid),(Ω "shift",.local,shift),(Ω "upper",.local,upper),(Ω "lower",.local,lower),
 (Ω "a_digits",.free,some A),(Ω "inner",.free,some f),(Ω "n",.free,some n)]
theorem v6 {clos:List (Str×Addr)}{doc pm cv ctv v u:Value}:b0 S [] (bindArgs (fnX "inner" "_int2digits.<locals>.inner" (ee nI) (aZ nI) (aG nI) clos .none .none doc pm none cv ctv) ⟨[v,w,u],[]⟩)=some ([],[(Ω "x",v),(Ω "L",w),(Ω "R",u)]):=by kernel_rfl
theorem C0:qS [Ω "x",Ω "L",Ω "R"] (aG nI)=true:=by decide +kernel
theorem DH {x L R a A n:PV}(hA:fj A=true)(hn:fj n=true):dX B [(Ω "x",x),(Ω "L",L),(Ω "R",R)] (stI a n A (.raw (.ref f))) (aG nI).names (stJ (some x) (some L) (some R) none none none none A (.raw (.ref f)) n):=by
 refine .arg (by walk_at "mm") (.arg (by walk_at "mm") (.arg (by walk_at "mm") (.unset (.unset (.unset (.unset (.free (by simp) hA (.free (by simp) rfl (.free (by simp) hn .nil)))))))))
theorem c5 {name qual:Str}{params:Arguments}(h:dt B f name qual params body scope σ):bo B (.raw (.ref f)):=by
 obtain ⟨clos,doc,pm,cv,ctv,ho,O⟩:=h.at_;exact j3 ho rfl
theorem GU {A:Addr}{a:PV}(hn:1<=n)(hn2:n<=2097152)(NF:dt B f "inner" "_int2digits.<locals>.inner" (ee nI) (aZ nI) (aG nI) (stI a (.int n) (.lref A) (.raw (.ref f)))) :
   ∀(k x L R:Nat) (xs:List PV) (Q:PQ),L<R->R-L<=2 ^ k->R<=xs.length->x<2 ^ (n*(R-L))->n*(R-L)<=2 ^ 26->xs.length<=2 ^ 24->(∀ys,k0 n x L R xs ys->Q .none ((A,ys)::H))->
     aF [] NoE ((A,xs)::H) B (k+1) (.raw (.ref f)) [.int x,.int L,.int R] Q:=by
 have one:∀(d' x L:Nat) (xs:List PV) (Q:PQ),L+1<=xs.length->x<2 ^ (n*(L+1-L))->xs.length<=2 ^ 24->(∀ys,k0 n x L (L+1) xs ys->Q .none ((A,ys)::H))->
     aF [] NoE ((A,xs)::H) B (d'+1) (.raw (.ref f)) [.int x,.int L,.int (L+1:Nat)] Q:=λd' x L xs Q h3 h4 h6 q=>by
   refine NF.call' (d:=d') (λclos doc pm cv ctv=>kb λS v w u=>v6) rfl C0 (DH rfl rfl) ?_;refine' aH ?_;ext;refine' ifp (beq_self_eq_true _) ?_;ext;refine qz ?_;ext;refine rB .head (B2 _) (aFu h3 (Ae h6 ∅)) (Int.ofNat_lt.mpr h3) ?_;ext;rw [AR,Nat.mul_one] at h4;exact q _ (k0.one h4 h3)
 intro k
 induction k with
 | zero=>
   intro x L R xs Q h1 h2 h3 h4 h5 h6 q;obtain rfl:R=L+1:=AF (Nat.sub_le_iff_le_add'.mp h2) h1;exact one 0 x L xs Q h3 h4 h6 q
 | succ k ih=>
   intro x L R xs Q h1 h2 h3 h4 h5 h6 q;by_cases hc:R=L+1
   . subst hc
     exact one (k+1) x L xs Q h3 h4 h6 q
   . refine NF.call' (d:=k+1) (λclos doc pm cv ctv=>kb λS v w u=>v6) rfl C0 (DH rfl rfl) ?_
     refine' aH ?_;ext;refine' ifn (λe=>hc (Int.ofNat.inj (eq_of_beq e)).symm) ?_;ext;have hM1:=wK h1 hc;have hM2:=vX h1;have hM3:=wM h2 h1;have hM4:=wR h2 h1;refine qD ∅ ?_;refine bZ (congrArg PV.int (w2 L R)) ?_;generalize (L+R)/2=M at *;have hLM:=Ac hM1;have hMR:=Ac hM2;have hMx:M<2 ^ 62:=nlt hM2 (ntr h3 (ntr h6 ∅));ext;refine rU (congrArg PV.int (Int.ofNat_sub hLM).symm) ?_;refine lg (Ae (Aq _ _) hMx) ?_;refine bZ (w:=.int ((n*(M-L):Nat):Int)) (congrArg (λz:Nat=>PV.int z) (AN _ _)) ?_;have hs3:n*(R-L)=n*(M-L)+n*(R-M):=by rw [<-AO,<-qy hLM hMR]
     have hs1:n*(M-L)<=n*(R-L):=hs3▸Af _ _;have hs2:n*(R-M)<=n*(R-L):=hs3▸Am _ _
     have hu:x/2 ^ (n*(M-L))<2 ^ (n*(R-M)):=by
       rw [AK (AI _),<-AB,Ah,<-hs3];exact h4
     ext;refine sP ?_;ext;refine km hu (ntr (Ad ((Ah _ _).trans hs3.symm)) (ntr h5 ∅)) ?_;ext;rw [zT];ext;refine ⟨c5 NF,?_⟩;ext;refine ih _ L M xs _ hM1 hM3 (ntr hMR h3) (Av _ (AI _)) (ntr hs1 h5) h6 λys hy=>?_;ext;refine ⟨c5 NF,?_⟩;ext;refine ih _ M R ys _ hM2 hM4 (hy.1▸h3) hu (ntr hs2 h5) (hy.1▸h6) λzs hz=>?_;ext;exact q _ (k0.both hLM hMR h3 hy hz)
end
section
theorem zA {doc pm ct:Value}{v:Value}:b0 S [] (bindArgs (bN "_int2digits" gQ .none .none doc pm an cdv ct) ⟨[v,w],[]⟩)=some ([],[(Ω "a",v),(Ω "n",w)]):=by kernel_rfl
theorem Ez:bb [Ω "a",Ω "n"] (aG (aJ gQ))=true:=by decide +kernel
theorem E5 {a n:PV}(gl:aC B "len" (.raw (.builtin "len"))):Ini B [(Ω "a",a),(Ω "n",n)] (aG (aJ gQ)).names [(Ω "a",.local,some a),(Ω "n",.cell,some n),(Ω "a_digits",.cell,none),(Ω "inner",.cell,none),(Ω "len",.globalImplicit,some (.raw (.builtin "len")))]:=by
 refine .arg (by walk_at "mm") (.inl rfl) (.arg (by walk_at "mm") (.inr rfl) (.unset (.unset (.glob gl .nil))))
noncomputable def nDig (a n:Nat):Nat:=(bits a+n-1)/n
theorem kd {a:Nat}(hn:1<=n):a<2 ^ (n*nDig a n):=by
 refine nlt (wD a) (AY ∅ ?_);refine Nat.le_of_add_le_add_right (b:=n-1) ?_;rw [<-Nat.add_sub_assoc hn,<-Nat.div_add_mod (bits a+n-1) n];exact Au (AT (Av _ hn)) _
theorem pN {a:Nat}:n*nDig a n<=bits a+n-1:=Nat.mul_div_le _ _
theorem yk {a:Nat}(hn:1<=n)(ha:a≠0):0<nDig a n:=by
 exact Nat.div_pos (by rw [Ah,Nat.add_sub_assoc (iz ha).1];exact Af _ _) hn
theorem DJ (k:Nat)(x:PV):(List.replicate k [x]).flatten=List.replicate k x:=by
 induction k with
 | zero=>rfl
 | succ k ih=>rw [BP,BA,ih];rfl
theorem tK {c P:Addr}{a:Nat}(h:af .none .none gQ "_int2digits" f (.ref c) B)(N:ax "_int2digits.<locals>.inner" (iC nI) P c B)(gl:aC B "len" (.raw (.builtin "len")))
   (hn:1<=n)(hn2:n<=2097152)(ha:bits a<=4194304)(q:∀A,Q (.lref A) ((A,(List.range (nDig a n)).map λi=>PV.int (dig n a i:Nat))::H)):aF [] NoE H B (d+26) (.raw (.ref f)) [.int a,.int n] Q:=by
 refine h.callC (d:=d+25) (P:=P) (λdoc pm an ct=>cb λS v w=>zA) rfl Ez (E5 gl) ?_
 have hl:nDig a n<=4194304+2097152:=by
   exact ntr (Nat.div_le_self _ _) (ntr (Aq _ _) (Ay ha hn2))
 have hl24:nDig a n<=2 ^ 23:=ntr hl ∅;refine' aH ?_;ext;refine cn ?_;ext;refine ⟨_,gB,?_⟩;ext;refine fh ?_;ext;refine d5 (Int.natCast_ne_zero.mpr (Ax hn)) (ik (Ae hn2 ∅)) ?_
 have e1:((Builtin.Int.intBits (a:Int):Int)+(n:Int)-1).fdiv (n:Int)=((nDig a n:Nat):Int):=by
   have:((Builtin.Int.intBits (a:Int):Int)+(n:Int)-1)=((bits a+n-1:Nat):Int):=by
     exact (Int.ofNat_sub (ntr hn (Am _ _))).symm
   rw [this,jI];rfl
 refine bZ (congrArg PV.int e1) ?_;refine rH .list (B6 ∅ (B2 _)) (aFu (Nat.lt_succ_of_le hl24) ∅) (by rw [Bw,A0];exact ntr hl24 ∅) ?_;rw [DJ,B3];refine .inr λA=>?_;ext;unfold aAa;refine C5 (c:=c) (P:=P) (qual:=Ω "_int2digits.<locals>.inner") (k:=.cell) (σ':=λf=>stI (.int a) (.int n) (.lref A) (.raw (.ref f))) ?hN ?hfi ?hq ?hd ?hkd ?han ?hfr ?hrep ?hst ?_
 case hN=>exact N
 case hfi=>rfl
 case hq=>kernel_rfl
 case hd=>rfl
 case hkd=>rfl
 case han=>exact λenv=>rfl
 case hfr=>exact n7 (by kernel_rfl)
 case hrep=>exact λf=>.tail (.tail (.tail .head))
 case hst=>exact .inr ⟨rfl,rfl⟩
 intro g hk ht fi NF;have nf:dt (B.up g hk ht) fi "inner" "_int2digits.<locals>.inner" (ee nI) (aZ nI) (aG nI) (stI (.int a) (.int n) (.lref A) (.raw (.ref fi))):=NF;ext;by_cases ha0:a=0
 . subst ha0
   refine' ifn BW ?_;ext
   have e0:nDig 0 n=0:=by
     show (bits 0+n-1)/n=0;have:bits 0<=0:=dP.mpr ∅;exact Nat.div_eq_of_lt (by rw [Nat.le_zero.mp this,Ak];exact Nat.sub_lt hn ∅)
   have:=q A;rw [e0] at this ⊢;exact this
 . refine' ifp (bne_iff_ne.mpr λe=>ha0 (Int.ofNat.inj e)) ?_
   ext;refine ⟨c5 nf,?_⟩;ext;refine ⟨aB,?_⟩;ext;refine ac (.lref mcs) (by rw [Bq];exact Ae hl24 ∅) ?_;ext;rw [Bq];have hfit:=kd (a:=a) hn;have hpos:=yk hn ha0;have hle:=pN (a:=a) (n:=n);refine aF.le (d':=24) (dk rfl) ?_;refine GU hn hn2 nf 23 a 0 (nDig a n) _ _ hpos hl24 (Ad List.length_replicate.symm) (by rw [Nat.sub_zero];exact hfit) (by rw [Nat.sub_zero];exact ntr hle (ntr (Aq _ _) (ntr (Ay ha hn2) ∅))) (by rw [Bq];exact ntr hl24 ∅) λys hy=>?_;ext;rw [hy.eq Bq];exact q A
end
noncomputable def valD (n:Nat):List Nat->Nat
 | []=>0
 | d::r=>d+2 ^ n*valD n r
theorem jx :∀{l m:List Nat},valD n (l++m)=valD n l+2 ^ (n*l.length)*valD n m:=by
 intro l
 induction l with
 | nil=>
   intro m;show valD n m=0+2 ^ (n*0)*valD n m;rw [AM,Nat.pow_zero,A0,Ak]
 | cons d r ih=>
   intro m;show d+2 ^ n*valD n (r++m)=d+2 ^ n*valD n r+2 ^ (n*(r.length+1))*valD n m;rw [ih,AO (2 ^ n),AO n,Nat.mul_one,Ah (n*r.length) n,AB,Nat.mul_assoc,AC]
theorem Fb :∀{l:List Nat},(∀d∈l,d<2 ^ n)->valD n l<2 ^ (n*l.length):=by
 intro l
 induction l with
 | nil=>
   intro _;exact AI _
 | cons d r ih=>
   intro h;have h1:=h d mcs;have h2:=ih λx hx=>h x (mcm _ hx);show d+2 ^ n*valD n r<2 ^ (n*(r.length+1));rw [AO,Nat.mul_one,Ah (n*r.length) n,AB];have h3:2 ^ n*(valD n r+1)<=2 ^ n*2 ^ (n*r.length):=AS _ h2;rw [AO] at h3
   lia
noncomputable def slc (ds:List Nat)(L R:Nat):List Nat:=(ds.drop L).take (R-L)
theorem yC {ds:List Nat}{L M R:Nat}(h1:L<=M)(h2:M<=R):slc ds L R=slc ds L M++slc ds M R:=by
 unfold slc;rw [qy h1 h2,List.take_add,Bn,A4 h1]
theorem vw {ds:List Nat}{L R:Nat}(h:R<=ds.length):(slc ds L R).length=R-L:=by
 unfold slc;rw [Bt,Bm];exact AE (Nat.sub_le_sub_right h L)
theorem GQ {ds:List Nat}{L:Nat}(h:L<ds.length):slc ds L (L+1)=[ds[L]]:=by
 unfold slc;rw [AR,Bv h,List.take_succ_cons,List.take_zero]
theorem E4 {ds:List Nat}{L R:Nat}(h:d∈slc ds L R):d∈ds:=List.mem_of_mem_drop (Bx h)
theorem F7 {ds:List Nat}:slc ds 0 ds.length=ds:=by unfold slc;simp
section
noncomputable abbrev nO:Stmt:=aCx dI 0
noncomputable abbrev stO (A n f:PV):St:=[(Ω "digits",.cell,some A),(Ω "n",.cell,some n),(Ω "inner",.cell,some f),(Ω "len",.globalImplicit,some (.raw (.builtin "len")))]
noncomputable abbrev stP (L R mid shift:Option PV)(A f n:PV):St:=[(Ω "L",.local,L),(Ω "R",.local,R),(Ω "mid",.local,mid),(Ω "shift",.local,shift),
 (Ω "digits",.free,some A),(Ω "inner",.free,some f),(Ω "n",.free,some n)]
theorem wP {clos:List (Str×Addr)}{doc pm cv ctv v:Value}:b0 S [] (bindArgs (fnX "inner" "_digits2int.<locals>.inner" (ee nO) (aZ nO) (aG nO) clos .none .none doc pm none cv ctv) ⟨[v,w],[]⟩)=some ([],[(Ω "L",v),(Ω "R",w)]):=by kernel_rfl
theorem DA:qS [Ω "L",Ω "R"] (aG nO)=true:=by decide +kernel
theorem CD {L R A n:PV}(hA:fj A=true)(hn:fj n=true):dX B [(Ω "L",L),(Ω "R",R)] (stO A n (.raw (.ref f))) (aG nO).names (stP (some L) (some R) none none A (.raw (.ref f)) n):=by
 refine .arg (by walk_at "mm") (.arg (by walk_at "mm") (.unset (.unset (.free (by simp) hA (.free (by simp) rfl (.free (by simp) hn .nil))))))
theorem E3 {A:Addr}{ds:List Nat}(hn:1<=n)(hn2:n<=2097152)(NF:dt B f "inner" "_digits2int.<locals>.inner" (ee nO) (aZ nO) (aG nO) (stO (.lref A) (.int n) (.raw (.ref f))))(hA:(A,ds.map λx:Nat=>PV.int x)∈H)
   (hd:∀x∈ds,x<2 ^ n)(hlen:ds.length<=2 ^ 24):∀(k L R:Nat) (Q:PQ),L<R->R-L<=2 ^ k->R<=ds.length->n*(R-L)<=2 ^ 26->Q (.int (valD n (slc ds L R):Nat)) H->
     aF [] NoE H B (k+1) (.raw (.ref f)) [.int L,.int R] Q:=by
 have one:∀(d' L:Nat) (Q:PQ),L+1<=ds.length->Q (.int (valD n (slc ds L (L+1)):Nat)) H->aF [] NoE H B (d'+1) (.raw (.ref f)) [.int L,.int (L+1:Nat)] Q:=λd' L Q h3 q=>by
   refine NF.call' (d:=d') (λclos doc pm cv ctv=>cb λS v w=>wP) rfl DA (CD rfl rfl) ?_;refine' aH ?_;ext;refine' ifp (beq_self_eq_true _) ?_;ext;refine ⟨aK (.lref hA),?_⟩;refine gO (.lref hA) (by rw [Ba];exact h3) (by rw [Ba];exact Ae hlen ∅) ?_;rw [GQ h3] at q;exact bZ ((Bu _).trans (congrArg (λz:Nat=>PV.int z) (show ds[L]=valD n [ds[L]] from rfl))) q
 intro k
 induction k with
 | zero=>
   intro L R Q h1 h2 h3 h5 q;obtain rfl:R=L+1:=AF (Nat.sub_le_iff_le_add'.mp h2) h1;exact one 0 L Q h3 q
 | succ k ih=>
   intro L R Q h1 h2 h3 h5 q;by_cases hc:R=L+1
   . subst hc
     exact one (k+1) L Q h3 q
   . refine NF.call' (d:=k+1) (λclos doc pm cv ctv=>cb λS v w=>wP) rfl DA (CD rfl rfl) ?_
     refine' aH ?_;ext;refine' ifn (λe=>hc (Int.ofNat.inj (eq_of_beq e)).symm) ?_;ext;have hM1:=wK h1 hc;have hM2:=vX h1;have hM3:=wM h2 h1;have hM4:=wR h2 h1;refine qD ∅ ?_;refine bZ (congrArg PV.int (w2 L R)) ?_;generalize (L+R)/2=M at *;have hLM:=Ac hM1;have hMR:=Ac hM2;have hMx:M<2 ^ 62:=nlt hM2 (ntr h3 (ntr hlen ∅));ext;refine rU (congrArg PV.int (Int.ofNat_sub hLM).symm) ?_;refine lg (Ae (Aq _ _) hMx) ?_;refine bZ (w:=.int ((n*(M-L):Nat):Int)) (congrArg (λz:Nat=>PV.int z) (AN _ _)) ?_;have hs3:n*(R-L)=n*(M-L)+n*(R-M):=by rw [<-AO,<-qy hLM hMR]
     have hs1:n*(M-L)<=n*(R-L):=hs3▸Af _ _;have hs2:n*(R-M)<=n*(R-L):=hs3▸Am _ _;ext;refine ⟨c5 NF,?_⟩;ext;refine ih M R _ hM2 hM4 h3 (ntr hs2 h5) ?_;ext;have hlt:=Fb (n:=n) (l:=slc ds M R) λx hx=>hd x (E4 hx);rw [vw h3] at hlt;refine km hlt (ntr (Ad ((Ah _ _).trans hs3.symm)) (ntr h5 ∅)) ?_;ext;refine ⟨c5 NF,?_⟩;ext;refine ih L M _ hM1 hM3 (ntr hMR h3) (ntr hs1 h5) ?_;ext;rw [yC hLM hMR,jx,vw (ntr hMR h3)] at q;refine bZ (congrArg (λz:Nat=>PV.int z) (show valD n (slc ds M R)*2 ^ (n*(M-L))+valD n (slc ds L M)=_ by rw [AN,Ah])) q
theorem CW {doc pm ct:Value}{v:Value}:b0 S [] (bindArgs (bN "_digits2int" dI .none .none doc pm an cdv ct) ⟨[v,w],[]⟩)=some ([],[(Ω "digits",v),(Ω "n",w)]):=by kernel_rfl
theorem EY:bb [Ω "digits",Ω "n"] (aG (aJ dI))=true:=by decide +kernel
theorem EO {a n:PV}(gl:aC B "len" (.raw (.builtin "len"))):Ini B [(Ω "digits",a),(Ω "n",n)] (aG (aJ dI)).names [(Ω "digits",.cell,some a),(Ω "n",.cell,some n),(Ω "inner",.cell,none),(Ω "len",.globalImplicit,some (.raw (.builtin "len")))]:=by
 refine .arg (by walk_at "mm") (.inr rfl) (.arg (by walk_at "mm") (.inr rfl) (.unset (.glob gl .nil)))
theorem zB {c P A:Addr}{ds:List Nat}(h:af .none .none dI "_digits2int" f (.ref c) B)(N:ax "_digits2int.<locals>.inner" (iC nO) P c B)(gl:aC B "len" (.raw (.builtin "len")))
   (hn:1<=n)(hn2:n<=2097152)(hA:(A,ds.map λx:Nat=>PV.int x)∈H)(hd:∀x∈ds,x<2 ^ n)(hlen:ds.length<=2 ^ 23)(hz:n*ds.length<=2 ^ 26)(q:Q (.int (valD n ds:Nat)) H):aF [] NoE H B (d+26) (.raw (.ref f)) [.lref A,.int n] Q:=by
 refine h.callC (d:=d+25) (P:=P) (λdoc pm an ct=>cb λS v w=>CW) rfl EY (EO gl) ?_;refine' HE ?_;unfold aAa;refine C5 (c:=c) (P:=P) (qual:=Ω "_digits2int.<locals>.inner") (k:=.cell) (σ':=λf=>stO (.lref A) (.int n) (.raw (.ref f))) ?hN ?hfi ?hq ?hd ?hkd ?han ?hfr ?hrep ?hst ?_
 case hN=>exact N
 case hfi=>rfl
 case hq=>kernel_rfl
 case hd=>rfl
 case hkd=>rfl
 case han=>exact λenv=>rfl
 case hfr=>exact n7 (by kernel_rfl)
 case hrep=>exact λf=>.tail (.tail .head)
 case hst=>exact .inr ⟨rfl,rfl⟩
 intro g hk ht fi NF;have nf:dt (B.up g hk ht) fi "inner" "_digits2int.<locals>.inner" (ee nO) (aZ nO) (aG nO) (stO (.lref A) (.int n) (.raw (.ref fi))):=NF;ext;refine bh ?_;ext;refine xe (.lref hA) (by rw [Ba];exact Ae hlen ∅) ?_
 cases hds:ds with
 | nil=>
   subst hds;simp only [List.map_nil,List.isEmpty_nil,Bool.not_true,B1,if_false];ext;exact q
 | cons x r=>
   rw [<-hds];refine' ifp (by rw [hds];rfl) ?_;have hpos:0<ds.length:=by rw [hds];simp
   ext;refine ⟨c5 nf,?_⟩;ext;refine ⟨aB,?_⟩;ext;refine ac (.lref hA) (by rw [Ba];exact Ae hlen ∅) ?_;ext;rw [Ba];refine aF.le (d':=24) (dk rfl) ?_;refine E3 hn hn2 nf hA hd (ntr hlen ∅) 23 0 ds.length _ hpos hlen (Aa _) (by rw [Nat.sub_zero];exact hz) ?_;rw [F7];exact q
end
theorem y5 (n a m:Nat):valD n ((List.range m).map (dig n a))=a%2 ^ (n*m):=by
 induction m with
 | zero=>rw [AM,Nat.pow_zero,Nat.mod_one];rfl
 | succ m ih=>
   rw [List.range_succ,Bj,jx,ih,Ba,BC,Bg,List.map_nil];show a%2 ^ (n*m)+2 ^ (n*m)*(dig n a m+2 ^ n*0)=_;rw [AM,Nat.add_zero,AQ,AB,Nat.mod_mul]
   rfl
theorem xD (T b n x:Nat)(hb:0<b):(T%b*2 ^ n+x)/b+2 ^ n*(T/b)=(x+2 ^ n*T)/b/\(x+2 ^ n*T)%b=(T%b*2 ^ n+x)%b:=by
 have e:x+2 ^ n*T=(T%b*2 ^ n+x)+(2 ^ n*(T/b))*b:=by
   have h1:=Nat.div_add_mod T b
   have h2:2 ^ n*T=2 ^ n*(T/b)*b+T%b*2 ^ n:=by
     rw [Nat.mul_assoc,AN (T%b),<-AO,AN (T/b),h1]
   rw [h2,Ah,A8,AC,Ah (2 ^ n*(T/b)*b),Ah x]
 rw [e,Nat.add_mul_div_right _ _ hb,Nat.add_mul_mod_self_right];exact ⟨rfl,rfl⟩
section
set_option genInjectivity false in
set_option genSizeOf false in
structure DigFns (B:aI) extends DivFns B where
 fi:Addr
 fo:Addr
 ci:Addr
 co:Addr
 pi:Addr
 po:Addr
 hi:af .none .none gQ "_int2digits" fi (.ref ci) B
 ho:af .none .none dI "_digits2int" fo (.ref co) B
 ni:ax "_int2digits.<locals>.inner" (iC nI) pi ci B
 no:ax "_digits2int.<locals>.inner" (iC nO) po co B
 gi:aC B "_int2digits" (.raw (.ref fi))
 go:aC B "_digits2int" (.raw (.ref fo))
 gln:aC B "len" (.raw (.builtin "len"))
 grv:aC B "reversed" (.raw (.type "reversed"))
theorem EW {doc pm ct:Value}{v:Value}:b0 S [] (bindArgs (bN "_divmod_pos" ey .none .none doc pm an cdv ct) ⟨[v,w],[]⟩)=some ([],[(Ω "a",v),(Ω "b",w)]):=by kernel_rfl
theorem aBu:bb [Ω "a",Ω "b"] (aG (aJ ey))=true:=by decide +kernel
noncomputable abbrev stQ (a b:Nat)(n ad r qd adg qdg q:Option PV)(fi f2 fo:Addr):St:=[(Ω "a",.local,some (.int a)),(Ω "b",.local,some (.int b)),(Ω "n",.local,n),(Ω "a_digits",.local,ad),(Ω "r",.local,r),(Ω "q_digits",.local,qd),(Ω "a_digit",.local,adg),(Ω "q_digit",.local,qdg),(Ω "q",.local,q),
 (Ω "_int2digits",.globalImplicit,some (.raw (.ref fi))),(Ω "reversed",.globalImplicit,some (.raw (.type "reversed"))),(Ω "_div2n1n",.globalImplicit,some (.raw (.ref f2))),(Ω "_digits2int",.globalImplicit,some (.raw (.ref fo)))]
theorem aC1 (F:DigFns B){a:Nat}:Ini B [(Ω "a",.int a),(Ω "b",.int b)] (aG (aJ ey)).names (stQ a b none none none none none none none F.fi F.f2 F.fo):=by
 refine .arg (by walk_at "mm") (.inl rfl) (.arg (by walk_at "mm") (.inl rfl) (.unset (.unset (.unset (.unset (.unset (.unset (.unset (.glob F.gi (.glob F.grv (.glob F.g2 (.glob F.go .nil))))))))))))
noncomputable abbrev aE4:Stmt:=aCx ey 4
theorem aCf (F:DigFns B){a:Nat}{A:Addr}{D:List Nat}(hb:b≠0)(hbn:n=bits b)(hn2':n<=gD)(hD:∀x∈D,x<2 ^ n)(hlen:D.length<=2 ^ 23)
   (hq:∀(qs:List Nat) (adg qdg:Option PV),(∀x∈qs,x<2 ^ n)->valD n qs.reverse=valD n D/b->qs.length=D.length->Qn (stQ a b (some (.int n)) (some (.lref A)) (some (.int (valD n D%b:Nat))) (some (.lref C)) adg qdg none F.fi F.f2 F.fo) ((C,qs.map λx:Nat=>PV.int x)::(A,D.map λx:Nat=>PV.int x)::H)) :
   ∀(ds P qs:List Nat) (adg qdg:Option PV),P++ds=D.reverse->(∀x∈qs,x<2 ^ n)->valD n qs.reverse=valD n P.reverse/b->qs.length=P.length->
   cQ B (d8 ey "_divmod_pos") (d+60) (a0 aE4) (aM aE4) [(A,D.map λx:Nat=>PV.int x)] (ds.map λx:Nat=>PV.int x) (stQ a b (some (.int n)) (some (.lref A)) (some (.int (valD n P.reverse%b:Nat))) (some (.lref C)) adg qdg none F.fi F.f2 F.fo) ((C,qs.map λx:Nat=>PV.int x)::(A,D.map λx:Nat=>PV.int x)::H) Qn Qf:=by
 have hb0:0<b:=Nat.pos_of_ne_zero hb;obtain ⟨g1,g2⟩:=iz hb;rw [<-hbn] at g1 g2;have g3:b<2 ^ n:=by rw [hbn];exact wD b
 intro ds
 induction ds with
 | nil=>
   intro P qs adg qdg e h1 h2 h3;rw [Bd] at e;subst e;rw [List.reverse_reverse] at h2 ⊢;exact b6 (hq qs adg qdg h1 h2 (h3.trans Br))
 | cons x ds ih=>
   intro P qs adg qdg e h1 h2 h3;have hx:x<2 ^ n:=hD x (List.mem_reverse.mp (by rw [<-e];exact BD _ (.head _)));have hP:P.length<=2 ^ 23:=ntr (by rw [<-Br (as:=D),<-e,Bb];exact Af _ _) hlen;have hr:valD n P.reverse%b<b:=Av _ hb0;have hv:valD n (P++[x]).reverse=x+2 ^ n*valD n P.reverse:=by rw [List.reverse_append];rfl
   have hlt:=aA5 (a12:=valD n P.reverse%b) (b1:=0) (b2:=b) (n:=n) (by rw [Nat.zero_mul,Ak]) hx hr;have hqq:(valD n P.reverse%b*2 ^ n+x)/b<2 ^ n:=by rw [AK hb0,AN (2 ^ n) b];exact hlt
   have hstep:=xD (valD n P.reverse) b n x hb0;have ih:=ih (P++[x]) (qs++[(valD n P.reverse%b*2 ^ n+x)/b]) (some (.int x)) (some (.int ((valD n P.reverse%b*2 ^ n+x)/b:Nat))) (by rw [Bc];exact e)
     (λy hy=>(mpp hy).elim (h1 y) λh=>by rw [msp h];exact hqq)
     (by
       rw [hv,List.reverse_append];show _+2 ^ n*valD n qs.reverse=_
       rw [h2,hstep.1])
     (by rw [Bb,Bb,h3];rfl)
   rw [hv,hstep.2] at ih;refine bP ?_;refine' fP ?_;ext;refine' aH ?_;ext;refine ⟨aD F.h2,?_⟩;ext;refine km (Ag hr g3) (ntr (Ay (ntr hn2' ja) (ntr hn2' ja)) ∅) ?_;ext;rw [<-Int.natCast_add];refine aF.le (d':=22) (dk rfl) ?_;refine aAv F.toDivFns g2 g3 g1 hlt hn2' ?_;ext;refine ⟨_,bA (.lref mcs),?_⟩;ext;refine bQ .head (by rw [Ba,h3];exact ntr hP (bl rfl)) ?_;ext;refine ⟨λp hp=>by rw [msp hp];exact mcm _ mcs,?_⟩;rw [Bj] at ih;exact ih
theorem FG (F:DigFns B){a:Nat}(h:af .none .none ey "_divmod_pos" f cdv B)(hb:b≠0)(hbz':bits b<=gD)(haz:bits a<=4194304)
   (q:Q (.tup [.int ((a/b:Nat):Int),.int ((a%b:Nat):Int)]) H):aF [] NoE H B (d+61) (.raw (.ref f)) [.int a,.int b] Q:=by
 obtain ⟨g1,g2⟩:=iz hb;refine dH (dH ?_);refine h.call (d:=d+60) (λdoc pm an ct=>cb λS v w=>EW) rfl aBu (aC1 F) ?_;generalize hn:bits b=n at g1 g2 hbz';have hbz:=ntr hbz' ja;refine' aH ?_;ext;refine ⟨_,gB,?_⟩;ext;refine fh ?_;rw [show Builtin.Int.intBits (b:Int)=n from hn];ext;refine ⟨aD F.hi,?_⟩;ext;refine aF.le (d':=0+26) (dk rfl) ?_;refine tK F.hi F.ni F.gln g1 hbz haz λA=>?_;have hm:(List.range (nDig a n)).map (λi=>PV.int (dig n a i:Nat))=((List.range (nDig a n)).map (dig n a)).map λx:Nat=>PV.int x:=by rw [Bi];rfl
 rw [hm];have hval:valD n ((List.range (nDig a n)).map (dig n a))=a:=by rw [y5,Nat.mod_eq_of_lt (kd g1)]
 have hnd:n*nDig a n<=4194304+2097152:=ntr pN (ntr (Aq _ _) (Ay haz hbz));have hnl:nDig a n<=n*nDig a n:=Nat.le_mul_of_pos_left _ g1;generalize hDD:(List.range (nDig a n)).map (dig n a)=D at hval;have hDl:D.length=nDig a n:=by rw [<-hDD,Ba,BC]
 have hD23:D.length<=2 ^ 23:=hDl▸ntr hnl (ntr hnd ∅)
 have hDm:∀x∈D,x<2 ^ n:=λx hx=>by
   rw [<-hDD] at hx;obtain ⟨i,O,rfl⟩:=mmp hx;exact Av _ (AI _)
 ext;refine cA ?_;refine jB λC=>?_;ext;refine ⟨bR,?_⟩;ext;refine xY (.lref (mcm _ mcs)) ?_;rw [<-Bs];have e0:((valD n ([]:List Nat).reverse%b:Nat):Int)=0:=congrArg Int.ofNat (Nat.zero_mod b);rw [<-e0];refine aCf (d:=d) (H:=H) F (a:=a) (b:=b) (n:=n) (A:=A) (C:=C) (D:=D) hb hn.symm hbz' hDm hD23 ?_ D.reverse [] [] none none rfl (λO h=>(by cases h)) (Nat.zero_div b).symm rfl;intro qs adg qdg h1 h2 h3;rw [hval] at h2 ⊢;ext;refine ⟨_,pL (.lref mcs),?_⟩;ext;refine qu .head (by rw [Ba,h3];exact ntr hD23 (bl rfl)) ?_;rw [<-Bs];ext;refine ⟨aD F.ho,?_⟩;ext;refine aF.le (d':=0+26) (dk rfl) ?_;refine zB F.ho F.no F.gln g1 hbz mcs (λx hx=>h1 x (List.mem_reverse.mp hx)) (by rw [Br,h3];exact hD23) (by rw [Br,h3,hDl];exact ntr hnd ∅) ?_;rw [h2];ext;exact ⟨_,_,rfl,_,_,rfl,q⟩
end
theorem pF (a b:Int)(hb:0<b)(ha:a<0):Builtin.bitNot ((Builtin.bitNot a).fdiv b)=a.fdiv b/\b+Builtin.bitNot ((Builtin.bitNot a).fmod b)=a.fmod b:=by
 unfold Builtin.bitNot;rw [B7 _ (by lia),B7 _ (by lia),B8 _ (by lia),B8 _ (by lia)];generalize hc:-a-1=c;have hac:a=-c-1:=by lia
 subst hac;have h1:=Int.mul_ediv_add_emod c b;have h2:=Int.emod_nonneg c (show b≠0 by lia);have h3:=Int.emod_lt_of_pos c hb
 have e:-c-1=(b-c%b-1)+b*(-(c/b)-1):=by
   rw [Int.mul_sub,Int.mul_neg];lia
 have q1:(-c-1)/b=-(c/b)-1:=by
   rw [e,Int.add_mul_ediv_left _ _ (by lia),Int.ediv_eq_zero_of_lt (by lia) (by lia),Int.zero_add]
 have q2:(-c-1)%b=b-c%b-1:=by
   rw [e,Int.add_mul_emod_self_left,Int.emod_eq_of_lt (by lia) (by lia)]
 rw [q1,q2];constructor <;> lia
theorem eC (a b:Int)(hb:b<0):(-a).fdiv (-b)=a.fdiv b/\-((-a).fmod (-b))=a.fmod b:=by
 refine ⟨Int.neg_fdiv_neg _ _,?_⟩;have h1:=Int.mul_fdiv_add_fmod a b;have h2:=Int.mul_fdiv_add_fmod (-a) (-b);rw [Int.neg_fdiv_neg,Int.neg_mul] at h2
 lia
section
set_option genInjectivity false in
set_option genSizeOf false in
structure ImFns (B:aI) extends DigFns B where
 fp:Addr
 fm:Addr
 cp:Value
 cm:Value
 hp:af .none .none ey "_divmod_pos" fp cp B
 hm:af .none .none ie "int_divmod" fm cm B
 gp:aC B "_divmod_pos" (.raw (.ref fp))
 gm:aC B "int_divmod" (.raw (.ref fm))
 gz:aC B "ZeroDivisionError" (.raw (.type "ZeroDivisionError"))
theorem k6 {doc pm ct:Value}{v:Value}:b0 S [] (bindArgs (bN "int_divmod" ie .none .none doc pm an cdv ct) ⟨[v,w],[]⟩)=some ([],[(Ω "a",v),(Ω "b",w)]):=by kernel_rfl
theorem qj:bb [Ω "a",Ω "b"] (aG (aJ ie))=true:=by decide +kernel
noncomputable abbrev aDl (a b:Int)(q r:Option PV)(fm fp:Addr):St:=[(Ω "a",.local,some (.int a)),(Ω "b",.local,some (.int b)),(Ω "q",.local,q),(Ω "r",.local,r),
 (Ω "ZeroDivisionError",.globalImplicit,some (.raw (.type "ZeroDivisionError"))),(Ω "int_divmod",.globalImplicit,some (.raw (.ref fm))),(Ω "_divmod_pos",.globalImplicit,some (.raw (.ref fp)))]
theorem uV (F:ImFns B){a b:Int}:Ini B [(Ω "a",.int a),(Ω "b",.int b)] (aG (aJ ie)).names (aDl a b none none F.fm F.fp):=by
 refine .arg (by walk_at "mm") (.inl rfl) (.arg (by walk_at "mm") (.inl rfl) (.unset (.unset (.glob F.gz (.glob F.gm (.glob F.gp .nil))))))
theorem Gp (F:ImFns B){a:Nat}(hb:b≠0)(hbz:bits b<=gD)(haz:bits a<=4194304)
   (q:Q (.tup [.int ((a/b:Nat):Int),.int ((a%b:Nat):Int)]) H):aF [] NoE H B (d+62) (.raw (.ref F.fm)) [.int a,.int b] Q:=by
 refine F.hm.call (d:=d+61) (λdoc pm an ct=>cb λS v w=>k6) rfl qj (uV F) ?_;refine' aH ?_;ext;refine' ifn (λe=>hb (Int.ofNat.inj (eq_of_beq e))) ?_;ext;refine' mY (Int.not_lt.mpr (B2 b)) ?_;ext;refine' mY (Int.not_lt.mpr (B2 a)) ?_;ext;refine ⟨aD F.hp,?_⟩;ext;exact FG F.toDigFns F.hp hb hbz haz q
theorem rW {a:Int}{N:Nat}(hm:Builtin.bitNot a=m)(h:Builtin.Int.intBits a<=N):bits m<=N:=by
 refine dP.mpr ?_;have:=intBits_le_iff.mp h;unfold Builtin.bitNot at hm;generalize 2 ^ N=M at *
 lia
theorem sE {b:Int}{N:Nat}(hm:-b=m)(h:Builtin.Int.intBits b<=N):bits m<=N:=by
 refine dP.mpr ?_;have:=intBits_le_iff.mp h;generalize 2 ^ N=M at *
 lia
theorem Gr (F:ImFns B){a:Int}(hb:b≠0)(hbz:bits b<=gD)(haz:Builtin.Int.intBits a<=4194304)
   (q:Q (.tup [.int (a.fdiv b),.int (a.fmod b)]) H):aF [] NoE H B (d+63) (.raw (.ref F.fm)) [.int a,.int b] Q:=by
 by_cases ha:0<=a
 . obtain ⟨m,rfl⟩:=B9 ha
   rw [jI,lI] at q;exact Gp F (d:=d+1) hb hbz haz q
 . refine F.hm.call (d:=d+62) (λdoc pm an ct=>cb λS v w=>k6) rfl qj (uV F) ?_
   have hb0:(0:Int)<b:=Int.natCast_pos.mpr (Nat.pos_of_ne_zero hb);obtain ⟨e1,e2⟩:=pF a b hb0 (Int.not_le.mp ha);refine' aH ?_;ext;refine' ifn (λe=>hb (Int.ofNat.inj (eq_of_beq e))) ?_;ext;refine' mY (Int.not_lt.mpr (Int.le_of_lt hb0)) ?_;ext;refine' rq (Int.not_le.mp ha) ?_;ext;refine ⟨aD F.hm,?_⟩;ext;obtain ⟨m,hm⟩:=B9 (show 0<=Builtin.bitNot a by unfold Builtin.bitNot;omega);have hmz:bits m<=4194304:=rW hm haz;rw [hm] at e1 e2 ⊢;rw [jI] at e1;rw [lI] at e2;refine Gp F hb hbz hmz ?_;ext;rw [e1,e2];exact q
theorem vf (F:ImFns B){a b:Int}(hb:b≠0)(hbz:Builtin.Int.intBits b<=gD)(haz:Builtin.Int.intBits a<=4194304)
   (q:Q (.tup [.int (a.fdiv b),.int (a.fmod b)]) H):aF [] NoE H B (d+64) (.raw (.ref F.fm)) [.int a,.int b] Q:=by
 by_cases hb0:0<b
 . obtain ⟨m,rfl⟩:=B9 (Int.le_of_lt hb0)
   exact Gr F (d:=d+1) (Ax (Int.natCast_pos.mp hb0)) hbz haz q
 . refine F.hm.call (d:=d+63) (λdoc pm an ct=>cb λS v w=>k6) rfl qj (uV F) ?_
   have hb1:b<0:=Int.lt_iff_le_and_ne.mpr ⟨Int.not_lt.mp hb0,hb⟩;obtain ⟨e1,e2⟩:=eC a b hb1;refine' aH ?_;ext;refine' ifn (λe=>hb (eq_of_beq e)) ?_;ext;refine' rq hb1 ?_;ext;refine ⟨aD F.hm,?_⟩;ext;obtain ⟨m,hm⟩:=B9 (Int.neg_nonneg_of_nonpos (Int.not_lt.mp hb0));have hmz:bits m<=gD:=sE hm hbz;rw [hm] at e1 e2 ⊢;refine Gr F (λe=>hb (Int.neg_eq_zero.mp (hm.trans (congrArg Int.ofNat e)))) hmz (intBits_neg_le haz) ?_;ext;rw [e1,e2];exact q
end
section
variable {M:Model}
open PySem.Builtin.Re in
theorem Cm {r:Option (Nat×Nat)}{Q:Sre.M->Shared->Prop}(hq:∀m',Rx.Res m' r->Q m' s):∀(k N:Nat) (m:Sre.M),Rx.Ends N m r->N<4*k->wpAny M A (reDrive k m) Q E s:=by
 intro k
 induction k with
 | zero=>intro N m h hN;exact (AW _ hN).elim
 | succ k ih=>
   intro N m ⟨n,x,h1,h2,h3⟩ hN
   have hx:(Sre.M.runFor n m).outcome.isSome=true:=by
     rw [h2]
     cases r with
     | none=>rw [show x.outcome=_ from h3];rfl
     | some p=>rw [show x.outcome=_ from h3.1];rfl
   show wpAny M A (if (Sre.M.runFor 4 m).outcome.isSome=true then pure (Sre.M.runFor 4 m) else (do rule "sre.turn";reDrive k (Sre.M.runFor 4 m))) Q E s;refine lG (λhc=>wpAny_pure (hq _ (((Rx.runFor_same hc hx).trans h2).symm▸h3))) λhc=>wpAny_bind (wpAny_rule ?_);obtain ⟨c,rfl⟩:=Nat.exists_eq_add_of_le (Nat.le_of_not_le λh=>hc ((congrArg (λm=>m.outcome.isSome) (Rx.runFor_le h hx)).trans hx));exact ih (N-4) _ ⟨c,x,Nat.le_sub_of_add_le (Ah 4 c▸h1),(Rx.runFor_add 4 c m).symm.trans h2,h3⟩ (Nat.sub_lt_right_of_lt_add (ntr (Af 4 c) h1) hN)
open PySem.Builtin.Re in
theorem aAf {r:Option (Nat×Nat)}{N:Nat}{m:Sre.M}{Q:Option Sre.M->Shared->Prop}(h:Rx.Ends N m r)(hN:N<=2 ^ 60)
   (hq:match r with | some (b,e)=>∀m',m'.start=b->m'.handed=e->Q (some m') s | none=>Q none s):wpAny M A (reRunToEnd m) Q E s:=by
 unfold reRunToEnd;refine wpAny_bind (Cm (r:=r) (λm' hm=>?_) (2 ^ 64) N m h (by lia));refine wpAny_bind (wpAny_forIn_list _ (λO O s'=>s'=s) (λO s'=>s'=s) (λx rest b s' hs=>?_) (λO O h=>h) _ _ rfl |> λh=>wpm h (λO s' hs=>?_))
 . subst hs
   cases r with
   | none=>
     have h1:m'.outcome=some .failed:=hm;rw [h1];exact wpAny_pure hq
   | some p=>
     obtain ⟨b,e⟩:=p;obtain ⟨h1,h2,h3⟩:=hm;rw [h1];exact wpAny_pure (hq _ h2 h3)
 . subst hs
   by_cases hc:m'.seen.has x=true
   . rw [if_pos hc]
     exact wpAny_bind (wpAny_rule (wpAny_pure rfl))
   . rw [if_neg hc]
     exact wpAny_pure rfl
end
inductive cc (h:Heap)(p:Addr)(code:Array Nat)(kind:Nat):Prop
 | mk (fs:Array Value) (osl:Array (Option Value)) (c:Addr) (oc:Obj) (items:Array Value) (n:Nat) (h1:h.get? p=some ⟨.type "re.Pattern",none,.fields fs,osl⟩) (h3:Builtin.Re.reRawNat (fs.getD 6 .none)=kind) (h4:Builtin.Re.reRawNat (fs.getD 2 .none)=0) (h5:fs.getD 5 .none=.ref c)
   (h6:h.get? c=some oc) (h7:oc.data=.seq items n) (h8:(items.map Builtin.Re.reRawOf).map (·.toNat)=code)
section
variable {M:Model}{p:Addr}{code:Array Nat}
theorem cc.keeps (x:cc h p code k)(hk:∀a o,h.get? a=some o->h'.get? a=some o):cc h' p code k:=by
 obtain ⟨fs,osl,c,oc,items,n,h1,h3,h4,h5,h6,h7,h8⟩:=x;exact ⟨fs,osl,c,oc,items,n,hk _ _ h1,h3,h4,h5,hk _ _ h6,h7,h8⟩
open PySem.Builtin.Re in
theorem ng {t:Tok}{Q:ReTarget->Shared->Prop}(P:cc s.heap p code 0)(h:Q { pattern:=.ref p,string:=.str x t,code:=code,text:=x.cps,kind:=0,groups:=0,pos:=0,lim:=x.cps.size } s) :
   wpAny M A (reWholeTarget (.ref p) (.str x t)) Q E s:=by
 obtain ⟨fs,osl,c,oc,items,n,h1,h3,h4,h5,h6,h7,h8⟩:=P;unfold reWholeTarget;have e1:fieldsOf (.ref p)=(do match (<-load p).data with | .fields vs=>pure vs | _=>unsupported "internal:no-fields"):=rfl;rw [e1];refine wpAny_bind (wpAny_bind (wpAny_load h1 (wpAny_pure ?_)));refine wpAny_bind (wpAny_pure (a:=(x.cps,0)) ?_);simp only [h3,h4,h5]
 show wpAny M A (do
   let items<-reRawItems (.ref c)
   pure { pattern:=.ref p,string:=.str x t,code:=items.map (·.toNat),text:=x.cps,kind:=0,groups:=0,pos:=0,lim:=x.cps.size }) Q E s
 refine wpAny_bind (wpAny_bind (wpAny_seqItems h6 h7 (wpAny_pure (wpAny_pure ?_))));rw [show (((some items).getD #[]).map reRawOf).map (·.toNat)=code from h8];exact h
end
noncomputable def mP {π:Type}(pc:Nat->Nat->π)(n:Nat)(nx:Nat->Option (Nat×Nat))(rep:π):Nat->Nat->List π
 | 0,_=>[]
 | k+1,d=>match nx d with
   | some (s,e)=>(if d<s then [pc d s] else [])++rep::mP pc n nx rep k e
   | none=>if d<n then [pc d n] else []
theorem mn {π:Type}{pc:Nat->Nat->π}{nx:Nat->Option (Nat×Nat)}{rep:π}{s e:Nat}(h:nx d=some (s,e)):mP pc n nx rep (k+1) d=(if d<s then [pc d s] else [])++rep::mP pc n nx rep k e:=by
 show (match nx d with | some (s,e)=>_ | none=>_)=_;rw [h]
theorem mr {π:Type}{pc:Nat->Nat->π}{nx:Nat->Option (Nat×Nat)}{rep:π}(h:nx d=none):mP pc n nx rep (k+1) d=if d<n then [pc d n] else []:=by
 show (match nx d with | some (s,e)=>_ | none=>_)=_;rw [h]
noncomputable abbrev ph (T:Array Nat)(nx:Nat->Option (Nat×Nat))(rep:Str):Nat->Nat->List Str:=mP (λb e=>(⟨T.extract b e⟩:Str)) T.size nx rep
structure sU (code:Array Nat)(T:Array Nat)(nx:Nat->Option (Nat×Nat))(V:Nat->Prop):Prop where
 go:∃N,N<=2 ^ 60/\∀s,V s->Rx.Ends N (Sre.forSearch code T 0 s T.size false) (nx s)
 ok:∀d s e,V d->nx d=some (s,e)->(d<=s/\s<e/\e<=T.size)/\V e
 v0:V 0
section
variable {hit:Nat->Bool}{en:Nat->Nat}{nx:Nat->Nat->Option (Nat×Nat)}{N:Nat}
theorem Db (h0:∀s,nx 0 s=none)(h1:∀k s,nx (k+1) s=if hit s=true then some (s,en s) else nx k (s+1))(he:∀s,s<N->s<en s/\en s<=N)(k:Nat):∀{d s e:Nat},d+k=N->nx k d=some (s,e)->d<=s/\s<e/\e<=N:=by
 induction k with
 | zero=>intro d s e _ h;cases (h0 d).symm.trans h
 | succ k ih=>
   intro d s e h hn;have hd:d<N:=nlt (AG (As k)) (Ad h);by_cases hh:hit d=true
   . obtain ⟨rfl,rfl⟩:=Prod.mk.inj (Option.some.inj (((h1 k d).trans (if_pos hh)).symm.trans hn))
     exact ⟨Aa _,he d hd⟩
   . obtain ⟨a,b⟩:=ih ((AV ..).trans h) (((h1 k d).trans (if_neg hh)).symm.trans hn)
     exact ⟨Ao a,b⟩
end
theorem pM {N:Nat}(s:Nat)(h:s<N):s<s+1/\s+1<=N:=⟨An s,h⟩
theorem vj {T:Array Nat}(s:Nat)(h:s<T.size):s<Rx.end3 T s/\Rx.end3 T s<=T.size:=by
 unfold Rx.end3;by_cases hc:Rx.crlfAt T s=true
 . rw [if_pos hc]
   unfold Rx.crlfAt at hc;rw [BX,BX,decide_eq_true_eq] at hc;exact ⟨AG ∅,hc.1.2⟩
 . rw [if_neg hc]
   exact pM s h
noncomputable def nxA (T:Array Nat)(d:Nat):Option (Nat×Nat):=if d<=T.size then Rx.nx1 T (T.size-d) d else none
noncomputable def nxC (T:Array Nat)(d:Nat):Option (Nat×Nat):=if d<=T.size then Rx.nx3 T (T.size-d) d else none
theorem zi (T:Array Nat)(hT:T.size<=2 ^ 30):sU Rx.code1 T (nxA T) λs=>s<=T.size:=by
 refine ⟨⟨6*T.size+6,ntr (AJ (AS 6 hT) 6) ∅,λs hs=>by unfold nxA;rw [if_pos hs];exact Rx.search1 T s hs⟩,λd s e hd h=>?_,Ab _⟩;unfold nxA at h;rw [if_pos hd] at h;have:=Db (nx:=Rx.nx1 T) (λO=>rfl) (λO O=>rfl) pM _ (A4 hd) h;exact ⟨this,this.2.2⟩
theorem aCk (T:Array Nat):sU Rx.code3 T (nxC T) λs=>s<=T.size:=by
 refine ⟨⟨20,by decide,λs hs=>by unfold nxC;rw [if_pos hs];exact Rx.search3 T s hs⟩,λd s e hd h=>?_,Ab _⟩;unfold nxC at h;rw [if_pos hd] at h;have:=Db (nx:=Rx.nx3 T) (λO=>rfl) (λO O=>rfl) vj _ (A4 hd) h;exact ⟨this,this.2.2⟩
theorem oP:entryFor table "re.Pattern.sub" = some Builtin.«re.Pattern.sub»:=entryFor_of_tree (by kernel_rfl)
theorem kc:entryFor table "re.Pattern.sub.loop" = some Builtin.«re.Pattern.sub.loop»:=entryFor_of_tree (by kernel_rfl)
theorem fZ:Slot "re.Pattern" "sub" "re.Pattern.sub":=
 .of (owner:="re.Pattern") (n:="sub") (by rw [typeLookup_type,builtinLookup_eq_fast];kernel_rfl) (by decide +kernel) (by decide +kernel) (by decide +kernel)
   (by first | exact .inl (by decide +kernel) | exact .inr (by decide +kernel)) (by rw [isSubtype_type];kernel_rfl)
theorem EH:typeOf (.builtin "re.Pattern.sub")=pure (.type "method_descriptor"):=by show builtinType _=_;rw [builtinType_eq_fast];kernel_rfl
theorem xL:PlainAttrs "re.Pattern":=⟨⟨"object.__getattribute__",by rw [typeLookup_type,builtinLookup_eq_fast];kernel_rfl,by decide +kernel⟩,by rw [typeLookup_type,builtinLookup_eq_fast];kernel_rfl⟩
section
theorem ai.under {c:Code}(R:ai A (d+1))(hw:c.weight=0)(hu:c.cUnits=1):ai (A.under c) d:=
 ⟨R.handled,by have:=R.depth;show A.depth+c.weight+d<_;lia,by have:=R.units;show A.units+c.cUnits+8*d+100<_;lia⟩
theorem cc.isType {p:Addr}{code:Array Nat}(P:cc s.heap p code k):s.TypeIs (.ref p) "re.Pattern":=by
 obtain ⟨O,O,O,O,O,O,h1⟩:=P;exact ⟨_,h1,rfl⟩
theorem jM {p:Addr}{code:Array Nat}(P:cc B.g p code k):cS B H "sub" "re.Pattern.sub" (.raw (.ref p)):=λA E s va I r pl Q q=>by
 obtain ⟨O,rfl⟩:=r.inv;obtain ⟨O,O,O,O,O,O,h1⟩:=P.keeps I.keep;exact getMethod_builtin ⟨_,h1,rfl⟩ xL fZ EH (λa e=>by cases e;exact ⟨_,h1,rfl⟩) q
noncomputable abbrev gR (p:Addr)(x rep:Value)(n:Int)(d:Nat)(a:Addr):Args:=⟨[.ref p,x,rep,rawInt 0,rawInt 0,rawInt n,rawInt d,rawInt d,.bool false,.ref a,.bool false],[]⟩
theorem lJ {p:Addr}{x rep:Value}{n:Int}:(Code.builtin "re.Pattern.sub.loop" (gR p x rep n d a)).weight=0:=by kernel_rfl
theorem mZ {p:Addr}{x rep:Value}{n:Int}:(Code.builtin "re.Pattern.sub.loop" (gR p x rep n d a)).cUnits=1:=by kernel_rfl
theorem ma {p:Addr}{x rep:Value}{n:Int}:(Code.builtin "re.Pattern.sub.loop" (gR p x rep n d a)).quiet=true:=by kernel_rfl
noncomputable def qg (B:aI)(A:Around)(R:Result->Shared->Prop)(fin:Fin)(s':Shared):Prop:=match fin with
 | .done f=>R (.ok f) s'
 | .again c'=>c'.quiet=true/\codeAny (model B.prog B.w) A c' R s'
noncomputable def uC (R:Result->Shared->Prop)(e:Value)(s':Shared):Prop:=R (.error e) s'
open PySem.Builtin.Re in
theorem sZ {π:Type}{pc:Nat->Nat->π}{pv:π->PV}{rep:π}{kind:Nat}{T:Array Nat}{sv rv:Value}{J:PV}{p:Addr}{code:Array Nat}{nx:Nat->Option (Nat×Nat)}{R:Result->Shared->Prop}{s₀:Shared}{L:List π}{V:Nat->Prop}(Rm:ai A 2)(P:cc B.g p code kind)(F:sU code T nx V)
   (hw:∀{s:Shared} {A':Around} {E':EP} {Q:ReTarget->Shared->Prop},cc s.heap p code kind->Q { pattern:=.ref p,string:=sv,code:=code,text:=T,kind:=kind,groups:=0,pos:=0,lim:=T.size } s->wpAny (model B.prog B.w) A' (reWholeTarget (.ref p) sv) Q E' s)
   (hturn:reLiteralCannotBeTurned rv=pure ())(hnn:(rv != .none)=true)(hr:∀T' h,VR h T' rv (pv rep))
   (hs:∀{A':Around} {E':EP} {s:Shared} {Q:Value->Shared->Prop} (b e:Nat),(∀v t,(∀T' h,VR h T' v (pv (pc b e)))->Q v { s with toks:=t })->wpAny (model B.prog B.w) A' (reSlice T kind b e) Q E' s)
   (hj:∀{A':Around} {E':EP} {s:Shared} {Q:Value->Shared->Prop} {jv:Value},ai A' 1->Inv B ((a,L.map pv)::H) s->L≠[]->(∀T' h,VR h T' jv (pv (pc 0 0)))->(∀v s',Tr noU s' ((a,L.map pv)::H) s ((a,L.map pv)::H) B->(∀T' h,VR h T' v J)->Q v s')->
     wpAny (model B.prog B.w) A' (call (.builtin (if (kind==0)=true then "str.join" else "bytes.join")) [jv,.ref a] []) Q E' s)
   (hj0:L=[]->pv (pc 0 0)=J)(hlen:L.length<=sizeLine)
   (hR:∀s' v,Tr noU s' H s₀ H B->(∀T' h,VR h T' v J)->R (.ok (.ret v)) s') :
   ∀(k d n:Nat) (ps:List π) (s:Shared),V d->T.size<k+d->d<=T.size->L=ps++mP pc T.size nx rep k d->Tr noU s ((a,ps.map pv)::H) s₀ H B->
     codeAny (model B.prog B.w) A (.builtin "re.Pattern.sub.loop" (gR p sv rv n d a)) R s:=by
 have push:∀{A':Around} {E':EP} {ps:List π} {s:Shared} {y:π} {v:Value} {Q':Unit->Shared->Prop},ps.length<=sizeLine->Tr noU s ((a,ps.map pv)::H) s₀ H B->(∀T' h,VR h T' v (pv y))->(∀s',Tr noU s' ((a,(ps++[y]).map pv)::H) s₀ H B->Q' () s')->
     wpAny (model B.prog B.w) A' (updateSeq a λz=>z.push v) Q' E' s:=λ{A' E' ps s y v Q'} hp Tt hv hq=>by
   refine wpm (oU (xs':=(ps++[y]).map pv) .head Tt.inv (by rw [Ba];exact hp) (by rw [Ba,Bb];exact Ai hp) λvs n O hvs=>?_) (λO s' t=>hq s' (Tt.trans t));rw [Array.toList_push,Bj];exact hvs.append (.cons (hv _ _) .nil)
 obtain ⟨⟨N,hN,hgo⟩,hok,O⟩:=F;intro k
 induction k with
 | zero=>intro d n ps s hV hk hd hL Tt;exact absurd (Ak d▸hk) (nlr hd)
 | succ k ih=>
   intro d n ps s hV hk hd hL Tt;have hpl:∀{ps r:List π},L=ps++r->ps.length<=sizeLine:=λh=>ntr (by rw [h,Bb];exact Af _ _) hlen;refine codeAny_builtin kc ?_;unfold Builtin.«re.Pattern.sub.loop»;show wpAny _ _ _ (qg B A R) (uC R) s;refine wpAny_bind (hw (P.keeps Tt.inv.keep) ?_);refine wpAny_bind (show wpAny _ _ (reLiteralCannotBeTurned rv) _ _ _ from wpAny_of_eq hturn ?_);refine wpAny_bind ?_;show wpAny _ _ (reRunToEnd (Sre.forSearch code T 0 ((d:Int).toNat) T.size false)) _ _ _;rw [B3];refine aAf (hgo d hV) hN ?_
   cases hn:nx d with
   | some be=>
     obtain ⟨b,e⟩:=be;obtain ⟨⟨o1,o2,o3⟩,hVe⟩:=hok d b e hV hn;intro m' hm1 hm2;subst hm1 hm2;have hmust:(m'.handed==m'.start)=false:=beq_false_of_ne (Ax o2);rw [mn hn] at hL;have tail:∀(ps':List π) (s':Shared),L=ps'++rep::mP pc T.size nx rep k m'.handed->Tr noU s' ((a,ps'.map pv)::H) s₀ H B->
         wpAny (model B.prog B.w) (A.under (.builtin "re.Pattern.sub.loop" (gR p sv rv n d a))) (do
           updateSeq a λz=>z.push rv
           again (.builtin "re.Pattern.sub.loop" (⟨[.ref p,sv,rv,rawInt 0,rawInt 0,rawInt ((n:Int)+1),rawInt m'.handed,rawInt m'.handed,.bool (m'.handed==m'.start),.ref a,.bool false],[]⟩))) (qg B A R) (uC R) s':=λps' s' hL' T'=>by
       refine wpAny_bind (push (hpl hL') T' hr λs'' T''=>wpAny_pure ?_);rw [hmust];exact ⟨ma,ih m'.handed (n+1) (ps'++[rep]) s'' hVe (by omega) o3 (by rw [hL',Bc];rfl) T''⟩
     show wpAny _ _ (if (d:Int).toNat<m'.start then _ else _) _ _ _;rw [B3];refine lG (λhdb=>?_) λhdb=>?_
     . rw [if_pos hdb] at hL
       refine wpAny_bind (show wpAny _ _ (reSlice T kind (d:Int).toNat m'.start) _ _ _ from hs _ _ λv t hv=>?_);refine wpAny_bind (push (hpl hL) (Tt.trans (Tr.tok Tt.inv t)) hv λs' T'=>?_);refine wpAny_ite_true rfl (wpAny_bind (wpAny_pure (wpAny_ite_true (decide_eq_true hnn) ?_)));exact tail (ps++[pc d m'.start]) s' (by rw [hL,Bc]) T'
     . rw [if_neg hdb] at hL
       refine wpAny_ite_true rfl (wpAny_bind (wpAny_pure (wpAny_ite_true (decide_eq_true hnn) ?_)));exact tail ps s hL Tt
   | none=>
     rw [mr hn] at hL
     have fin:∀(s':Shared),Tr noU s' ((a,L.map pv)::H) s₀ H B->wpAny (model B.prog B.w) (A.under (.builtin "re.Pattern.sub.loop" (gR p sv rv n d a))) (do
         let joiner<-reSlice T kind 0 0
         let items<-seqItems? (.ref a)
         if (items.getD #[]).isEmpty=true then do
           let text<-pure joiner
           ret text
         else do
           let text<-call (.builtin (if (kind==0)=true then "str.join" else "bytes.join")) [joiner,.ref a]
           ret text) (qg B A R) (uC R) s':=λs' T'=>by
       refine wpAny_bind (hs 0 0 λjv tj hjv=>?_);have T2:=T'.trans (Tr.tok T'.inv tj);obtain ⟨hg,vs,nn,ho,hv⟩:=T2.inv.objs _ mcs;refine wpAny_bind (wpAny_seqItems ho rfl ?_);have hvl:vs.size=L.length:=hv.length.trans (Ba ..);have isz:vs.isEmpty=true↔vs.size=0:=Array.isEmpty_iff_size_eq_zero;by_cases he:vs.isEmpty=true
       . refine wpAny_ite_true (decide_eq_true he) ?_
         have hL0:L=[]:=BL (hvl.symm.trans (isz.mp he));exact wpAny_pure (hR _ _ T2.drop_key λT' h=>hj0 hL0▸hjv T' h)
       . refine wpAny_ite_false (decide_eq_false he) ?_
         refine wpAny_bind (hj (Rm.under lJ mZ) T2.inv (λq=>he (isz.mpr (by rw [q] at hvl;exact hvl))) hjv λv s3 t3 r3=>?_);exact wpAny_pure (hR _ _ (T2.trans t3).drop_key r3)
     show wpAny _ _ (if (d:Int).toNat<T.size then _ else _) _ _ _;rw [B3];refine lG (λhdb=>?_) λhdb=>?_
     . rw [if_pos hdb] at hL
       refine wpAny_bind (show wpAny _ _ (reSlice T kind (d:Int).toNat T.size) _ _ _ from hs _ _ λv t hv=>?_);refine wpAny_bind (push (hpl hL) (Tt.trans (Tr.tok Tt.inv t)) hv λs' T'=>?_);exact fin s' (hL▸T')
     . rw [if_neg hdb,Bd] at hL
       exact fin s (hL▸Tt)
end
theorem yY:Manifest.owners.lookup (String.ofList ['n','r','e','t','t','a','P','.','e','r'].reverse)=some Manifest.sig_re_Pattern:=by kernel_rfl
theorem sn (a b c:Value):argsOk "re.Pattern.sub" ⟨[a,b,c],[]⟩:=by
 unfold argsOk;rw [signature?_of (id:="re.Pattern.sub") (n:=['b','u','s']) (o:=['n','r','e','t','t','a','P','.','e','r']) (by kernel_rfl) yY];kernel_rfl
theorem th:typeLookup (.type "str") "__call__" = pure none:=by rw [typeLookup_type,builtinLookup_eq_fast];kernel_rfl
theorem mV:typeLookup (.type "bytes") "__call__" = pure none:=by rw [typeLookup_type,builtinLookup_eq_fast];kernel_rfl
section
noncomputable def uY (T:Array Nat)(nx:Nat->Option (Nat×Nat))(rep:Str):List Str:=ph T nx rep (T.size+1) 0
open PySem.Builtin.Re in
set_option tactic.hygienic true in
theorem rL {p:Addr}{code:Array Nat}{rep:Str}{nx:Nat->Option (Nat×Nat)}{V:Nat->Prop}(P:cc B.g p code 0)(F:sU code x.cps nx V)(hsum:((uY x.cps nx rep).map (·.length)).sum<=16777216)(hlen:(uY x.cps nx rep).length<=sizeLine)(hx:x.length<=sizeLine)
   (hr:rep.cps.contains 92=false)(q:Q (.str (Txt.join ⟨#[]⟩ (uY x.cps nx rep))) H):aF [] E H B (d+2) (.raw (.builtin "re.Pattern.sub")) [.raw (.ref p),.str rep,.str x] Q:=aF.at λA s R I vs r fv rf=>by
 obtain ⟨a,b,c,rfl,r1,r2,r3⟩:=r.three;obtain ⟨_,rfl⟩:=rf.inv;obtain ⟨_,rfl⟩:=r1.inv;obtain ⟨_,rfl⟩:=r2.inv;obtain ⟨_,rfl⟩:=r3.inv;rename_i u t;have P':=P.keeps I.keep;have hT:s.TypeIs (.ref p) "re.Pattern":=P'.isType;refine wpAny_call (codeAny_call_builtin fZ.plain oP (fZ.check _ _ _ _ _ _ _ _ hT (sn _ _ _) ?_));unfold Builtin.«re.Pattern.sub» reSubstitute;refine wpAny_bind (wpAny_pure (a:=[some (Value.str rep u),some (Value.str x t),none]) ?_);refine wpAny_bind (wpAny_pure (a:=(0:Int)) ?_);refine wpAny_bind (wpAny_specialOf (T:="str") (typeIs_str _ _ _) th ?_);refine wpAny_bind (wpAny_pure (a:=some rep) ?_);refine wpAny_bind (wpAny_pure (a:=!rep.cps.contains 92) ?_);rw [hr];refine wpAny_bind (wpAny_pure (a:=(Value.str rep u,(0:Int))) ?_);refine wpAny_bind ?_;show wpAny _ _ (reWholeTarget (.ref p) (.str x t)) _ _ _;refine ng P' ?_;refine wpAny_bind (wpAny_newList ?_ (Ab _));refine wpAny_pure ⟨by kernel_rfl,?_⟩;have tr:=Tr.track (vs:=[]) (xs:=[]) I .nil;have hext:∀b e,(x.cps.extract b e).size<=sizeLine:=λb e=>by rw [Array.size_extract];exact ntr (Aq _ _) (ntr (AL _ _) hx)
 have ex:(⟨x.cps.extract 0 0⟩:Str)=⟨#[]⟩:=by simp
 refine sZ (pc:=λb e=>(⟨x.cps.extract b e⟩:Str)) (pv:=PV.str) (J:=.str (Txt.join ⟨#[]⟩ (uY x.cps nx rep))) (n:=0) (R.le (Am 2 d)) P F ng rfl rfl (λ_ _=>.str _ _)
   (λb e q=>show wpAny _ _ (mkStr ⟨x.cps.extract b e⟩) _ _ _ from wpAny_mkStr (q _ _ λ_ _=>.str _ _) (hext b e)) (λ{A' E' s2 Q2 jv} Ra I2 hne hjv q2=>?_) (λh=>?_) hlen (λs' v T hv=>⟨_,H,T,hv _ _,q⟩) (x.cps.size+1) 0 [] _ F.v0 (An _) (Ab _) rfl tr
 . obtain ⟨_,rfl⟩:=(hjv (λ_=>False) s.heap).inv
   rw [ex]
   have cj:aF [] E' ((s.heap.objs.size,(uY x.cps nx rep).map PV.str)::H) B 1 (.raw (.builtin "str.join")) [.str ⟨#[]⟩,.lref s.heap.objs.size] λv H'=>v=.str (Txt.join ⟨#[]⟩ (uY x.cps nx rep))/\H'=(s.heap.objs.size,(uY x.cps nx rep).map PV.str)::H:=
     dg (.inr (.lref mcs)) hsum ⟨rfl,rfl⟩
   refine wpAny_mono (cj _ _ Ra I2 _ _ _ (.raw _) (.cons (.str _ _) (.cons (.lref _) .nil)) ⟨.nil,rfl⟩) (λr s3 hh1=>?_) λ_ _ y=>y;obtain ⟨v,H3,t3,r3,e1,e2⟩:=hh1;subst e1 e2;obtain ⟨_,rfl⟩:=r3.inv;exact q2 _ _ t3 λ_ _=>.str _ _
 . rw [h,ex];rfl
end
theorem td:entryFor table "bytes.join" = some Builtin.«bytes.join»:=entryFor_of_tree (by kernel_rfl)
theorem l5:Slot "bytes" "join" "bytes.join":=
 .of (owner:="bytes") (n:="join") (by rw [typeLookup_type,builtinLookup_eq_fast];kernel_rfl) (by decide +kernel) (by decide +kernel) (by decide +kernel)
   (by first | exact .inl (by decide +kernel) | exact .inr (by decide +kernel)) (by rw [isSubtype_type];kernel_rfl)
theorem jV:Manifest.owners.lookup (String.ofList ['s','e','t','y','b'].reverse)=some Manifest.sig_bytes:=by kernel_rfl
theorem uR (a b:Value):argsOk "bytes.join" ⟨[a,b],[]⟩:=by
 unfold argsOk;rw [signature?_of (id:="bytes.join") (n:=['n','i','o','j']) (o:=['s','e','t','y','b']) (by kernel_rfl) jV];kernel_rfl
theorem ux {b:Array UInt8}{t:Tok}{id:String}:Builtin.Bytes.takeBufferQuiet? id (.bytes b t) 0=pure (some (b,none)):=by
 unfold Builtin.Bytes.takeBufferQuiet? Builtin.Bytes.takeBuffer?;have e:((0:Int)==Builtin.Bytes.fullReadOnly)=false:=by decide +kernel
 rw [KBy.special_eq KBy.look_buffer,KBy.own_buffer,e,KBy.buffer_eq]
 kernel_rfl
theorem mA (l:List (Array UInt8)):Builtin.Bytes.joined #[] l=l.foldl (·++·) #[]:=by
 unfold Builtin.Bytes.joined
 have:∀(l:List (Array UInt8)) (n:Nat) (acc:Array UInt8),(l.zipIdx n).foldl (λout (x:Array UInt8×Nat)=>(if x.2 > 0 then out++#[] else out)++x.1) acc=l.foldl (·++·) acc:=by
   intro l
   induction l with
   | nil=>intro n acc;rfl
   | cons b r ih=>
     intro n acc;rw [List.zipIdx_cons,By,By,ih];congr 1;split <;> simp
 exact this l 0 #[]
section
variable {prog:Program}{w:World}
theorem pq {M:Model}{Q:Unit->Shared->Prop}:∀(l:List (Value×Option Value)) (keep:List Value),(∀p∈l,p.2=none)->Q () s->wpAny M A (Builtin.Bytes.joinLetGo l keep) Q E s:=by
 intro l
 induction l with
 | nil=>
   intro keep _ h;exact wpAny_pure h
 | cons hd r ih=>
   intro keep hl h;obtain ⟨x,w⟩:=hd;have hw:w=none:=hl _ mcs;subst hw;exact wpAny_bind (wpAny_letGo (ih keep (λp hp=>hl p (mcm _ hp)) h))
theorem xy (l:List (Array UInt8)):∀(acc:Array UInt8) (k:Nat),acc.size=k->(l.foldl (·++·) acc).size=l.foldl (λk b=>k+b.size) k:=by
 induction l with
 | nil=>exact λO O e=>e
 | cons b r ih=>exact λacc k e=>ih _ _ (Array.size_append.trans (congrArg (· + b.size) e))
inductive BJ (bs:List (Array UInt8))(n:Nat)(s:Shared)(rest:List Nat)(b:Array (Array UInt8)×List (Value×Option Value))(s':Shared):Prop
 | mk (i:Nat) (h1:rest=List.range' i (n-i) 1) (h2:s'=s) (h3:b.1.toList=bs.take i) (h4:∀p∈b.2,p.2=none) (h5:(b.2.any λx=>x.1.onHeap)=false)
theorem BJ.next {bs:List (Array UInt8)}{x:Nat}{rest:List Nat}{b:Array (Array UInt8)×List (Value×Option Value)}(hn:n=bs.length)(j:BJ bs n s (x::rest) b s'):∃(i:Nat) (hi:i<bs.length),x=i/\s'=s/\(b.2.any λx=>x.1.onHeap)=false/\∀u,BJ bs n s rest (b.1.push bs[i],b.2++[(.bytes bs[i] u,none)]) s:=by
 obtain ⟨i,h1,h2,h3,h4,h5⟩:=j
 have hi:i<n:=by
   have:=congrArg List.length h1;rw [List.length_range',Bf] at this;exact Nat.lt_of_sub_pos (this▸As _)
 rw [show n-i=(n-(i+1))+1 by lia,List.range'_succ] at h1;have hi':i<bs.length:=hn▸hi;refine ⟨i,hi',(List.cons.inj h1).1,h2,h5,λu=>⟨i+1,(List.cons.inj h1).2,rfl,?_,λp hp=>(mpp hp).elim (h4 p) λq=>msp q▸rfl,?_⟩⟩
 . rw [Array.toList_push,h3,BR hi']
 . rw [List.any_append,h5];rfl
theorem CS {vs:Array Value}{bs:List (Array UInt8)}{t:Tok}{Q:Value->Shared->Prop}(ho:s.heap.get? a=some (aO vs n))(hv:vs.size=bs.length)(hb:∀i (h:i<bs.length),∃u,vs[i]?=some (.bytes bs[i] u))
   (hne:bs≠[])(hsz:(bs.foldl (λk b=>k+b.size) 0)<=sizeLine)(h:∀u k,Q (.bytes (bs.foldl (·++·) #[]) u) { s with toks:=k }):wpAny (model prog w) A (call (.builtin "bytes.join") [.bytes #[] t,.ref a]) Q E s:=by
 refine wpAny_call (codeAny_call_builtin l5.plain td (l5.check _ _ _ _ _ _ _ _ rfl (uR _ _) ?_));unfold Builtin.«bytes.join» Builtin.Bytes.joinM;refine wpAny_bind (wpAny_pure (a:=(Value.bytes #[] t,Value.ref a)) ?_);refine wpAny_bind (wpAny_bind (wpAny_typeOf ⟨_,ho,rfl⟩ (wpAny_pure ?_)));refine wpAny_bind (wpAny_seqItems ho rfl ?_);obtain ⟨l⟩:=vs;rcases l with _ | ⟨x,_ | ⟨y,r⟩⟩
 . exact absurd (BL hv.symm) hne
 . obtain ⟨b,rfl⟩:=List.length_eq_one_iff.mp hv.symm
   obtain ⟨u,hu⟩:=hb 0 Nat.one_pos;cases (Option.some.inj hu:x=.bytes b u);refine wpAny_bind (wpAny_of_eq (a:=Value.type "bytes") rfl ?_);refine wpAny_bind (wpAny_rule (wpAny_pure ?_));have h9:=h u s.toks;rw [By,List.foldl_nil,Array.empty_append] at h9;exact h9
 . refine wpAny_bind ?_
   rw [Std.Legacy.Range.forIn_eq_forIn_range'];generalize hvs:(⟨x::y::r⟩:Array Value)=vs at *;refine wpAny_mono (wpAny_forIn_list _ (BJ bs vs.size s) (λb s'=>s'=s/\b.1.toList=bs/\∀p∈b.2,p.2=none) (λx rest b s' hs=>?_) (λb s' hs=>?_) _ _ ?_) (λb s' hs=>?_) λO O y=>y
   . obtain ⟨i,hi,e1,e2,hnone,nx⟩:=hs.next hv
     subst e1;subst e2;obtain ⟨u,hu⟩:=hb x hi;have hget:vs.getD x .none=.bytes bs[x] u:=by rw [Array.getD_eq_getD_getElem?,hu];rfl
     refine wpAny_bind (wpAny_seqItems ho rfl ?_);refine cy (c:=(false || b.2.any λx=>x.1.onHeap)=true) (by rw [hnone];exact BW) ?_;refine wpAny_bind (wpAny_holding (wpAny_of_eq (a:=some (bs[x],none)) (hget▸ux) ?_));refine wpAny_bind (wpAny_seqItems ho rfl ?_);refine cy (c:=(vs.size != vs.size)=true) (by rw [bne_self_eq_false];exact BW) ?_;exact wpAny_pure (hget.symm▸nx u)
   . obtain ⟨i,h1,h2,h3,h4,h5⟩:=hs
     have:vs.size-i=0:=(List.length_range'▸congrArg List.length h1).symm;exact ⟨h2,h3.trans (Bo (hv▸Nat.le_of_sub_eq_zero this)),h4⟩
   . exact ⟨0,by simp [Std.Legacy.Range.size],rfl,rfl,(λO h=>(by cases h)),rfl⟩
   . obtain ⟨e,h2,h3⟩:=hs
     subst e;refine wpAny_bind (wpAny_pure (a:=#[]) ?_);refine cy (c:=Builtin.Bytes.tooLong (Array.foldl (λx1 (x2:Array UInt8)=>x1+x2.size) (0*(b.1.size-1)) b.1)=true) ?_ ?_
     . rw [Nat.zero_mul,<-Array.foldl_toList,h2]
       unfold Builtin.Bytes.tooLong;exact λe=>absurd (of_decide_eq_true e) (nlr hsz)
     refine wpAny_bind (wpAny_mkBytes (b:=Builtin.Bytes.joined #[] b.1.toList) ?_ ?_)
     . refine wpAny_bind (wpAny_holding (wpAny_point (wpAny_bind (pq _ _ h3 (wpAny_pure ?_)))))
       rw [mA,h2];exact h _ _
     . rw [mA,h2,xy bs #[] 0 rfl]
       exact hsz
end
noncomputable abbrev bB (b:Array UInt8):Array Nat:=b.map (·.toNat)
noncomputable abbrev dU (b:Array Nat):Array UInt8:=b.map (·.toUInt8)
noncomputable abbrev xr (T:Array Nat)(nx:Nat->Option (Nat×Nat))(rep:Array UInt8):Nat->Nat->List (Array UInt8):=mP (λb e=>dU (T.extract b e)) T.size nx rep
section
variable {M:Model}{p:Addr}{code:Array Nat}
open PySem.Builtin.Re in
theorem uk {b:Array UInt8}{t:Tok}:reTextOf (.bytes b t)=pure (bB b,1):=by
 unfold reTextOf;have e:asStr? (.bytes b t)=pure none:=rfl;rw [e,KBy.quiet_eq]
 rfl
open PySem.Builtin.Re in
theorem qk {b:Array UInt8}{t:Tok}:reNoCollectionInside (.bytes b t) 1=pure ():=by
 unfold reNoCollectionInside;rw [KBy.isInstance_eq]
 rfl
open PySem.Builtin.Re in
theorem pI {b:Array UInt8}{t:Tok}:reLiteralCannotBeTurned (.bytes b t)=pure ():=by
 unfold reLiteralCannotBeTurned;have e:asStr? (.bytes b t)=pure none:=rfl;rw [e,KBy.isInstance_eq]
 rfl
open PySem.Builtin.Re in
theorem kN {x:Array UInt8}{t:Tok}{Q:ReTarget->Shared->Prop}(P:cc s.heap p code 1)(h:Q { pattern:=.ref p,string:=.bytes x t,code:=code,text:=bB x,kind:=1,groups:=0,pos:=0,lim:=(bB x).size } s) :
   wpAny M A (reWholeTarget (.ref p) (.bytes x t)) Q E s:=by
 obtain ⟨fs,osl,c,oc,items,n,h1,h3,h4,h5,h6,h7,h8⟩:=P;unfold reWholeTarget;have e1:fieldsOf (.ref p)=(do match (<-load p).data with | .fields vs=>pure vs | _=>unsupported "internal:no-fields"):=rfl;rw [e1];refine wpAny_bind (wpAny_bind (wpAny_load h1 (wpAny_pure ?_)));rw [uk];refine wpAny_bind (wpAny_pure ?_);simp only [h3,h4,h5,qk]
 show wpAny M A (do
   let items<-reRawItems (.ref c)
   pure { pattern:=.ref p,string:=.bytes x t,code:=items.map (·.toNat),text:=bB x,kind:=1,groups:=0,pos:=0,lim:=(bB x).size }) Q E s
 refine wpAny_bind (wpAny_bind (wpAny_seqItems h6 h7 (wpAny_pure (wpAny_pure ?_))));rw [show (((some items).getD #[]).map reRawOf).map (·.toNat)=code from h8];exact h
end
section
noncomputable def l8 (T:Array Nat)(nx:Nat->Option (Nat×Nat))(rep:Array UInt8):List (Array UInt8):=xr T nx rep (T.size+1) 0
open PySem.Builtin.Re in
set_option tactic.hygienic true in
theorem wj {p:Addr}{code:Array Nat}{x rep:Array UInt8}{nx:Nat->Option (Nat×Nat)}{V:Nat->Prop}(P:cc B.g p code 1)(F:sU code (bB x) nx V)(hsum:((l8 (bB x) nx rep).foldl (λk b=>k+b.size) 0)<=sizeLine)(hlen:(l8 (bB x) nx rep).length<=sizeLine)(hx:x.size<=sizeLine)
   (hr:rep.contains 92=false)(q:Q (.bytes ((l8 (bB x) nx rep).foldl (·++·) #[])) H):aF [] E H B (d+2) (.raw (.builtin "re.Pattern.sub")) [.raw (.ref p),.bytes rep,.bytes x] Q:=aF.at λA s R I vs r fv rf=>by
 obtain ⟨a,b,c,rfl,r1,r2,r3⟩:=r.three;obtain ⟨_,rfl⟩:=rf.inv;obtain ⟨_,rfl⟩:=r1.inv;obtain ⟨_,rfl⟩:=r2.inv;obtain ⟨_,rfl⟩:=r3.inv;rename_i u t;have P':=P.keeps I.keep;have hT:s.TypeIs (.ref p) "re.Pattern":=P'.isType;refine wpAny_call (codeAny_call_builtin fZ.plain oP (fZ.check _ _ _ _ _ _ _ _ hT (sn _ _ _) ?_));unfold Builtin.«re.Pattern.sub» reSubstitute;refine wpAny_bind (wpAny_pure (a:=[some (Value.bytes rep u),some (Value.bytes x t),none]) ?_);refine wpAny_bind (wpAny_pure (a:=(0:Int)) ?_);refine wpAny_bind (wpAny_specialOf (T:="bytes") rfl mV ?_);refine wpAny_bind (wpAny_pure (a:=(none:Option Str)) ?_);refine wpAny_bind (wpAny_of_eq KBy.quiet_eq ?_);refine wpAny_bind (wpAny_pure (a:=!rep.contains 92) ?_);rw [hr];refine wpAny_bind (wpAny_pure (a:=(Value.bytes rep u,(0:Int))) ?_);refine wpAny_bind ?_;show wpAny _ _ (reWholeTarget (.ref p) (.bytes x t)) _ _ _;refine kN P' ?_;refine wpAny_bind (wpAny_newList ?_ (Ab _));refine wpAny_pure ⟨by kernel_rfl,?_⟩;have tr:=Tr.track (vs:=[]) (xs:=[]) I .nil;have hxs:(bB x).size=x.size:=Array.size_map;have hext:∀b e,(dU ((bB x).extract b e)).size<=sizeLine:=λb e=>by rw [Array.size_map,Array.size_extract];exact ntr (Aq _ _) (ntr (AL _ _) (hxs▸hx))
 have ex:dU ((bB x).extract 0 0)=#[]:=by simp
 refine sZ (pc:=λb e=>dU ((bB x).extract b e)) (pv:=PV.bytes) (J:=.bytes ((l8 (bB x) nx rep).foldl (·++·) #[])) (n:=0) (R.le (Am 2 d)) P F kN pI rfl (λ_ _=>.bytes _ _)
   (λb e q=>show wpAny _ _ (mkBytes (dU ((bB x).extract b e))) _ _ _ from wpAny_mkBytes (q _ _ λ_ _=>.bytes _ _) (hext b e)) (λ{A' E' s2 Q2 jv} Ra I2 hne hjv q2=>?_) (λh=>?_) hlen (λs' v T hv=>⟨_,H,T,hv _ _,q⟩) ((bB x).size+1) 0 [] _ F.v0 (An _) (Ab _) rfl tr
 . obtain ⟨_,rfl⟩:=(hjv (λ_=>False) s.heap).inv
   rw [ex];obtain ⟨hg,vs,nn,ho,hv⟩:=I2.objs _ mcs;have hvl:vs.size=(l8 (bB x) nx rep).length:=hv.length.trans (Ba ..);refine CS (bs:=l8 (bB x) nx rep) ho hvl (λi hi=>?_) hne hsum λu' k'=>q2 _ _ (Tr.tok I2 k') λ_ _=>.bytes _ _;obtain ⟨v,h1,h2⟩:=hv.get (i:=i) (p:=.bytes (l8 (bB x) nx rep)[i]) (by rw [List.getElem?_map,List.getElem?_eq_getElem hi];rfl);obtain ⟨_,rfl⟩:=h2.inv;exact ⟨_,by rw [<-Array.getElem?_toList];exact h1⟩
 . rw [h,ex];rfl
end
section
open PySem.Builtin PySem.Builtin._codecs
theorem tw (x:PySem.Str)(t u:Tok):Builtin.«str.encode» ⟨[.str x t,.str (Ω "ascii") u],[]⟩=(do ret (<-encodeRoad "str.encode" (.str x t) x (Ω "ascii") none)):=by kernel_rfl
theorem uQ (id:String)(self:Value)(x:PySem.Str):encodeRoad id self x (Ω "ascii") none=(do mkBytes (<-encodeNarrow id asciiCodec none self x)):=by kernel_rfl
theorem sd {id:String}{b:Array UInt8}:decodeRoad id b (Ω "ascii") none []=(runDecoder id asciiDecoder none true b 0 [] >>= λr=>mkStr ⟨r.1⟩):=by kernel_rfl
end
section
variable {M:Model}
theorem oB (n:Nat):(List.range' [:n].start [:n].size [:n].step).length=n:=by simp [Std.Legacy.Range.size]
inductive Fm (x:Str)(s:Shared):List Nat->Nat×Array UInt8×Builtin._codecs.Faults->Shared->Prop
 | start {rest:List Nat} {st:Builtin._codecs.Faults} (h:rest.length=x.length):Fm x s rest (0,#[],st) s
 | fin {rest:List Nat} {st:Builtin._codecs.Faults}:Fm x s rest (x.length,dU x.cps,st) s
inductive aCy (x:Str)(s:Shared):Nat×Array UInt8×Builtin._codecs.Faults->Shared->Prop
 | mk {i:Nat} {st:Builtin._codecs.Faults}:aCy x s (i,dU x.cps,st) s
open PySem.Builtin._codecs in
theorem uD (l:List Nat):∀acc:Array UInt8,(l.foldl (λacc y=>acc++(asciiCodec.bytesOf y).toArray) acc).toList=acc.toList++l.map (·.toUInt8):=by
 induction l with
 | nil=>exact λacc=>(Bd _).symm
 | cons c r ih=>
   intro acc;rw [By,ih,Array.toList_append,Bc]
   rfl
open PySem.Builtin._codecs in
theorem yS (x:Array Nat):Array.foldl (λacc y=>acc++(asciiCodec.bytesOf y).toArray) #[] x=dU x:=
 Array.ext' (by rw [<-Array.foldl_toList,uD,Array.toList_map];rfl)
open PySem.Builtin._codecs in
theorem lH {x:Array Nat}(hx:∀c∈x.toList,c<128){c:Nat}(e:x[i]?=some c):asciiCodec.bad c=false:=decide_eq_false (Nat.not_le.mpr (hx c (List.mem_of_getElem? ((Array.getElem?_toList ..).trans e))))
open PySem.Builtin._codecs in
theorem mJ {x:Array Nat}(hx:∀c∈x.toList,c<128):Array.findIdx? asciiCodec.bad x=none:=by
 rw [Array.findIdx?_eq_none_iff];intro c hc;obtain ⟨k,hk⟩:=Array.getElem?_of_mem hc;exact lH hx hk
open PySem.Builtin._codecs in
theorem pE {id:String}{self:Value}{x:Str}{Q:Array UInt8->Shared->Prop}(hx:∀c∈x.cps.toList,c<128)(hl:x.length<=sizeLine)(h:Q (dU x.cps) s):wpAny M A (encodeNarrow id asciiCodec none self x) Q E s:=by
 unfold encodeNarrow;refine wpAny_bind ?_;rw [Std.Legacy.Range.forIn_eq_forIn_range'];refine wpAny_mono (wpAny_forIn_list _ (Fm x s) (aCy x s) (λy rest b s' hs=>?_) (λb s' hs=>?_) _ _ (.start (oB _))) (λb s' hs=>?_) λO O y=>y
 . obtain ⟨hr⟩:=hs
   . have hp:0<x.cps.size:=nlt (As _) (Ad hr)
     refine cy (nlr (Ab _)) ?_;show wpAny M A (match x.cps[0]? with | some x_2=>_ | x=>_) _ _ _;rw [Array.getElem?_eq_getElem hp];show wpAny M A (if (!asciiCodec.bad x.cps[0])=true then _ else _) _ _ _;rw [lH hx (Array.getElem?_eq_getElem hp)];refine wpAny_pure ?_;have e0:x.cps.extract 0=x.cps:=Array.extract_size;have e1:0+(Array.findIdx? asciiCodec.bad (x.cps.extract 0)).getD (x.cps.extract 0).size=x.length:=by rw [e0,mJ hx];exact Ak _
     have e2:Array.foldl (λacc y=>acc++(asciiCodec.bytesOf y).toArray) #[] ((x.cps.extract 0).extract 0 ((Array.findIdx? asciiCodec.bad (x.cps.extract 0)).getD (x.cps.extract 0).size))=dU x.cps:=by
       rw [e0,mJ hx];show Array.foldl _ _ (x.cps.extract 0)=_;rw [e0];exact yS _
     show Fm x s rest (0+(Array.findIdx? asciiCodec.bad (x.cps.extract 0)).getD (x.cps.extract 0).size,Array.foldl (λacc y=>acc++(asciiCodec.bytesOf y).toArray) #[] ((x.cps.extract 0).extract 0 ((Array.findIdx? asciiCodec.bad (x.cps.extract 0)).getD (x.cps.extract 0).size)),_) s;rw [e1,e2];exact .fin
   . have hz:(dU x.cps).size=x.length:=Array.size_map
     refine cy (nlr (hz▸hl)) ?_;show wpAny M A (match x.cps[x.length]? with | some x_2=>_ | x=>_) _ _ _;rw [show x.cps[x.length]?=none from Array.getElem?_eq_none (Aa _)];exact wpAny_pure .mk
 . obtain ⟨hr⟩:=hs
   . have e:x.cps=#[]:=Array.eq_empty_of_size_eq_zero (show x.cps.size=0 from hr.symm)
     exact (show dU x.cps=#[] by rw [e];exact Array.map_empty)▸aCy.mk
   . exact .mk
 . obtain ⟨⟩:=hs
   exact wpAny_pure h
inductive aBo (b:Array UInt8)(s:Shared):List Nat->Nat×Array Nat×Builtin._codecs.Faults->Shared->Prop
 | mk {rest:List Nat} {p:Nat} {out:Array Nat} {st:Builtin._codecs.Faults} (h:rest.length+p=b.size) (e:out.toList=(bB b).toList.take p):aBo b s rest (p,out,st) s
inductive aDh (b:Array UInt8)(s:Shared):Nat×Array Nat×Builtin._codecs.Faults->Shared->Prop
 | mk {st:Builtin._codecs.Faults}:aDh b s (b.size,bB b,st) s
theorem rF (b:Array UInt8):(bB b).toList.length=b.size:=Array.length_toList.trans Array.size_map
open PySem.Builtin.Bytes in
theorem uH {id:String}{b:Array UInt8}{Q:Array Nat×Nat->Shared->Prop}(hb:∀c∈b.toList,c.toNat<128)(hl:b.size<=sizeLine)(h:Q (bB b,b.size) s):wpAny M A (Builtin._codecs.runDecoder id Builtin._codecs.asciiDecoder none true b 0 []) Q E s:=by
 unfold Builtin._codecs.runDecoder;refine wpAny_bind ?_;rw [Std.Legacy.Range.forIn_eq_forIn_range'];refine wpAny_mono (wpAny_forIn_list _ (aBo b s) (aDh b s) (λy rest st s' hs=>?_) (λst s' hs=>?_) _ _ (.mk (oB _) rfl)) (λst s' hs=>?_) λO O y=>y
 . obtain @⟨p,out,st,hr,e⟩:=hs
   have hr':rest.length+(p+1)=b.size:=(AV ..).symm.trans hr;have hp:p<b.size:=nlt (An p) (hr'▸Am _ _);have hos:out.size<=p:=by rw [<-Array.length_toList,e];exact List.length_take_le ..
   have hg:b.getD p 0=b[p]:=dif_pos hp;have hc:(b.getD p 0).toNat<128:=hg▸hb _ (Array.getElem_mem_toList hp);refine cy (nlr (ntr hos (ntr (Ac hp) hl))) ?_;refine cy (Nat.not_le.mpr hp) ?_;rw [show Builtin._codecs.asciiDecoder.find true b p=.text [(b.getD p 0).toNat] (p+1) from if_pos hc];refine wpAny_pure (aBo.mk hr' ?_);rw [Array.toList_append,e,hg,BR (rF b▸hp)];exact congrArg (λc=>_++[c]) ((Array.getElem_toList ..).trans (Array.getElem_map ..)).symm
 . obtain @⟨p,out,st,hr,e⟩:=hs
   obtain rfl:p=b.size:=(Ak p).symm.trans hr;obtain rfl:out=bB b:=Array.ext' (e.trans (Bo (Ad (rF b))));exact .mk
 . obtain ⟨⟩:=hs
   exact wpAny_pure h
end
section
theorem rK {x:Str}(hx:∀c∈x.cps.toList,c<128)(hl:x.length<=sizeLine)(q:Q (.bytes (dU x.cps)) H):aF [] E H B d (.raw (.builtin "str.encode")) [.str x,.str (Ω "ascii")] Q:=aF.at λA s R I vs r fv rf=>by
 obtain ⟨a,b,rfl,r1,r2⟩:=r.two;obtain ⟨O,rfl⟩:=rf.inv;obtain ⟨O,rfl⟩:=r1.inv;obtain ⟨O,rfl⟩:=r2.inv;refine wpAny_call_entry PySem.F.slot_str_encode (typeIs_str _ _ _) PySem.F.entry_str_encode ?_ (PySem.F.args_str_encode_2 _ _);rw [tw,uQ];refine wpAny_bind (wpAny_bind (pE hx hl (wpAny_mkBytes ?_ (by simp;exact hl))));exact wpAny_pure ⟨_,rfl,⟨_,H,Tr.tok I _,.bytes _ _,q⟩⟩
theorem sg {b:Array UInt8}:cS B H "decode" "bytes.decode" (.bytes b):=λA E s va I r pl Q q=>by
 obtain ⟨O,rfl⟩:=r.inv;exact KBd.method q
theorem gj (a b:Value):argsOk "bytes.decode" ⟨[a,b],[]⟩:=by
 unfold argsOk;rw [signature?_of (id:="bytes.decode") (n:=['e','d','o','c','e','d']) (o:=['s','e','t','y','b']) (by kernel_rfl) jV];kernel_rfl
theorem xK {c:UInt8}{cs:List UInt8}{t u:Tok}:Builtin.«bytes.decode» ⟨[.bytes (c::cs).toArray t,.str (Ω "ascii") u],[]⟩=(mkStr (Ω "utf-8") >>= λO=>mkStr (Ω "ascii") >>= λe=>mkStr (Ω "bytes.decode") >>= λd=>
   call (.builtin "_codecs.decode.text") [.bytes (c::cs).toArray t,e,.none,d] >>= λv=>ret v):=by kernel_rfl
theorem jb {b:Array UInt8}{t t1 t2:Tok}{d:Str}(hb:∀c∈b.toList,c.toNat<128) :
   Meets (Builtin.«_codecs.decode.text» ⟨[.bytes b t,.str (Ω "ascii") t1,.none,.str d t2],[]⟩) (λO R s=>b.size<=sizeLine/\R (.ok (.ret (.str ⟨bB b⟩ s.toks))) { s with toks:=s.toks+1 }):=by
 refine .of_wp λprog w A R s hS=>?_;obtain ⟨hsz,h⟩:=hS;show wpAny _ _ (Builtin.Bytes.bytesLike _ (.bytes b t) >>= λr=>_) _ _ s;refine wpAny_bind (wpAny_of_eq KBd.like_eq ?_);refine wpAny_bind (wpAny_of_eq KBd.held_eq ?_);show wpAny _ _ (Builtin._codecs.decodeRoad _ b (Ω "ascii") none [] >>= λv=>_) _ _ s;rw [sd];refine wpAny_bind (wpAny_bind (uH hb hsz ?_));exact wpAny_mkStr (wpAny_pure ⟨_,rfl,h⟩) (by show (bB b).size<=_;simpa using hsz)
theorem t0 {b:Array UInt8}(hb:∀c∈b.toList,c.toNat<128)(hne:b≠#[])(hl:b.size<=sizeLine)(q:Q (.str ⟨bB b⟩) H):aF [] E H B d (.raw (.builtin "bytes.decode")) [.bytes b,.str (Ω "ascii")] Q:=aF.at λA s R I vs r fv rf=>by
 obtain ⟨a,e,rfl,r1,r2⟩:=r.two;obtain ⟨O,rfl⟩:=rf.inv;obtain ⟨O,rfl⟩:=r1.inv;obtain ⟨O,rfl⟩:=r2.inv;obtain ⟨l⟩:=b
 cases l with
 | nil=>exact absurd rfl hne
 | cons c cs=>
   refine wpAny_call_entry FB.slot_bytes_decode (typeIs_bytes _ _ _) FB.entry_bytes_decode ?_ (gj _ _);show wpAny _ _ (Builtin.«bytes.decode» ⟨[.bytes (c::cs).toArray _,.str (Ω "ascii") _],[]⟩) _ _ _;rw [xK];refine wpAny_bind (wpAny_mkStr ?_ (by rw [sizeLine_eq];decide));refine wpAny_bind (wpAny_mkStr ?_ (by rw [sizeLine_eq];decide));refine wpAny_bind (wpAny_mkStr ?_ (by rw [sizeLine_eq];decide));refine wpAny_bind (call_function_meets KBd.kind_text KBd.plain_text KBd.entry_text (KBd.args_text _ _ _ _) (jb hb) ⟨hl,wpAny_pure ⟨_,rfl,?_⟩⟩);exact ⟨_,H,Tr.tok I _,.str _ _,q⟩
end
noncomputable def fN:Bool->List Nat->List Nat
 | _,[]=>[]
 | b,c::r=>if c=10 then if b=true then fN false r else 13::10::fN false r else if c=13 then 13::10::fN true r else c::fN false r
noncomputable def bG (l:List Nat):List Nat:=fN false l
noncomputable def dots:Bool->List Nat->List Nat
 | _,[]=>[]
 | b,c::r=>if b=true/\c=46 then 46::46::dots false r else c::dots (c==10) r
theorem xE (l:List Nat):∀b,(fN b l).length<=2*l.length:=by
 induction l with
 | nil=>exact λb=>Aa 0
 | cons c r ih=>
   intro b;show List.length (if c=10 then if b=true then fN false r else 13::10::fN false r else if c=13 then 13::10::fN true r else c::fN false r)<=_;by_cases h1:c=10
   . rw [if_pos h1]
     by_cases h2:b=true
     . rw [if_pos h2];exact Nat.le_add_right_of_le (ih false)
     . rw [if_neg h2];exact Ai (Ai (ih false))
   . rw [if_neg h1]
     by_cases h2:c=13
     . rw [if_pos h2];exact Ai (Ai (ih true))
     . rw [if_neg h2];exact Ai (Aw (ih false))
theorem rI (l:List Nat):(bG l).length<=2*l.length:=xE l false
theorem sX (b:Bool)(l:List Nat):(dots b l).length<=2*l.length:=by
 induction l generalizing b with
 | nil=>exact Aa 0
 | cons c r ih=>
   show List.length (if b=true/\c=46 then 46::46::dots false r else c::dots (c==10) r)<=_;by_cases h:b=true/\c=46
   . rw [if_pos h];exact Ai (Ai (ih false))
   . rw [if_neg h];exact Ai (Aw (ih _))
section
variable {T:Array Nat}
noncomputable abbrev eB (T:Array Nat)(d:Nat):List Nat:=T.toList.drop d
theorem jF (T:Array Nat):T.toList.length=T.size:=Array.length_toList
theorem FW (h:d<T.size):T.toList[d]'(jF T▸h)=T.getD d 0:=(Array.getElem_toList ..).trans (dif_pos h).symm
theorem c8 (h:d<T.size):eB T d=T.getD d 0::eB T (d+1):=(Bv (jF T▸h)).trans (congrArg (·::T.toList.drop (d+1)) (FW h))
theorem ix (h:T.size<=d):eB T d=[]:=BE (jF T▸h)
theorem pD {s e:Nat}:(T.extract s e).toList=(eB T s).take (e-s):=by rw [Array.toList_extract,List.extract_eq_take_drop]
theorem DG {s e:Nat}(h:s<e)(he:e<=T.size):(T.extract s e).toList=T.getD s 0::(T.extract (s+1) e).toList:=by
 obtain ⟨k,rfl⟩:=Nat.exists_eq_add_of_lt h;rw [pD,pD,c8 (nlt h he),show s+k+1-s=k+1 from AR s (k+1),show s+k+1-(s+1)=k by rw [A8,AR]]
 rfl
theorem wB {s:Nat}:(T.extract s s).toList=[]:=by rw [pD,AX];rfl
theorem Et {s:Nat}:(T.extract s T.size).toList=eB T s:=pD.trans (Bo (Ad (List.length_drop.trans (congrArg (· - s) (jF T)))))
theorem eH {c:Nat}(h:¬(c=10\/c=13)):bG (c::r)=c::bG r:=(if_neg λe=>h (.inl e)).trans (if_neg λe=>h (.inr e))
theorem iu :bG (10::r)=13::10::bG r:=rfl
theorem fW {r:List Nat}(h:∀r',r≠10::r'):bG (13::r)=13::10::bG r:=by
 refine congrArg (13::10::·) (?_:fN true r=fN false r)
 cases r with
 | nil=>rfl
 | cons c r=>
   have hc:¬c=10:=λe=>h r (by rw [e]);exact (if_neg hc).trans (if_neg hc).symm
theorem Dy {s:Nat}(hs:s<T.size)(hh:Rx.hit3 T s=true):bG (eB T s)=13::10::bG (eB T (Rx.end3 T s)):=by
 rw [c8 hs];unfold Rx.end3;by_cases hc:Rx.crlfAt T s=true
 . rw [if_pos hc]
   unfold Rx.crlfAt at hc;rw [BX,BX,decide_eq_true_eq,beq_iff_eq,beq_iff_eq] at hc;rw [c8 hc.1.2,hc.1.1,hc.2]
   rfl
 . rw [if_neg hc]
   unfold Rx.hit3 at hh;rw [BY,beq_iff_eq,beq_iff_eq] at hh;rcases hh with h | h
   . rw [h];rfl
   . rw [h]
     refine fW λr' e=>hc ?_;by_cases h2:s+1<T.size
     . have e1:=(List.cons.inj ((c8 h2).symm.trans e)).1
       unfold Rx.crlfAt;rw [h,e1,decide_eq_true h2];rfl
     . cases (ix (Az h2)).symm.trans e
inductive ql (T:Array Nat)(F:Nat->List Nat)(rl:List Nat)(s:Nat):Option (Nat×Nat)->Prop
 | hit {b e:Nat} (h1:s<=b) (h2:b<e) (h3:e<=T.size) (h4:F s=(T.extract s b).toList++(rl++F e)):ql T F rl s (some (b,e))
 | none (h:F s=eB T s):ql T F rl s none
section
variable {hit:Nat->Bool}{en:Nat->Nat}{nx:Nat->Nat->Option (Nat×Nat)}{F:Nat->List Nat}{rl:List Nat}
theorem sS (h0:∀s,nx 0 s=none)(h1:∀k s,nx (k+1) s=if hit s=true then some (s,en s) else nx k (s+1))(he:∀s,s<T.size->s<en s/\en s<=T.size)(hF:∀s,s<T.size->hit s=true->F s=rl++F (en s))
   (nF:∀s,s<T.size->¬hit s=true->F s=T.getD s 0::F (s+1))(zF:F T.size=eB T T.size)(k:Nat):∀{s:Nat},s+k=T.size->ql T F rl s (nx k s):=by
 induction k with
 | zero=>
   intro s h;obtain rfl:s=T.size:=h;rw [h0];exact .none zF
 | succ k ih=>
   intro s h;have hs:s<T.size:=nlt (AG (As k)) (Ad h);rw [h1];by_cases hh:hit s=true
   . rw [if_pos hh]
     exact .hit (Aa _) (he s hs).1 (he s hs).2 (by rw [wB];exact hF s hs hh)
   . rw [if_neg hh]
     have i:=ih ((AV ..).trans h);have n:=nF s hs hh;generalize nx k (s+1)=o at i
     cases i with
     | hit a b c e=>exact .hit (Ao a) b c (by rw [n,e,DG (nlt a (Aa _)) (ntr (Ac b) c)];rfl)
     | none e=>exact .none (by rw [n,e,<-c8 hs])
end
noncomputable def qx (T:Array Nat)(s:Nat):Bool:=s==0 || T.getD (s-1) 0==10
theorem jw (T:Array Nat)(s:Nat):qx T (s+1)=(T.getD s 0==10):=rfl
noncomputable def tE (T:Array Nat)(nx:Nat->Option (Nat×Nat))(rl:List Nat)(F:Nat->List Nat):Prop:=∀d,d<=T.size->ql T F rl d (nx d)
theorem uW:tE T (nxC T) [13,10] λd=>bG (eB T d):=λd hd=>by
 unfold nxC;rw [if_pos hd];refine sS (nx:=Rx.nx3 T) (hit:=Rx.hit3 T) (λO=>rfl) (λO O=>rfl) vj (λs=>Dy) (λs hs hh=>?_) (by rw [ix (Aa _)];rfl) _ (A4 hd);rw [c8 hs,eH λq=>hh ?_];unfold Rx.hit3;rw [BY,beq_iff_eq,beq_iff_eq];exact q
theorem ku:tE T (nxA T) [46,46] λd=>dots (qx T d) (eB T d):=λd hd=>by
 unfold nxA;rw [if_pos hd];refine sS (nx:=Rx.nx1 T) (hit:=Rx.hit1 T) (λO=>rfl) (λO O=>rfl) pM (λs hs hh=>?_) (λs hs hh=>?_) (by rw [ix (Aa _)];rfl) _ (A4 hd)
 . unfold Rx.hit1 at hh
   rw [BX,BX,beq_iff_eq] at hh;rw [c8 hs,jw,hh.2];exact if_pos ⟨hh.1.1,rfl⟩
 . rw [c8 hs,jw]
   refine if_neg λq=>hh ?_;unfold Rx.hit1;rw [show (s==0 || T.getD (s-1) 0==10)=true from q.1,decide_eq_true hs,q.2];rfl
theorem s9 {a x e N:Nat}(ha:a<=x+2)(hx:x+2*e<=N)(he:d<e):a+2*d<=N:=
 ntr (AJ ha _) (ntr (Ad (by rw [AC,Ah 2];rfl)) (ntr (Au (AS 2 he) x) hx))
theorem nu {π β:Type}{pc:Nat->Nat->π}{cod:π->List β}{g:Nat->β}{nx:Nat->Option (Nat×Nat)}{rep:π}{rl:List Nat}{F:Nat->List Nat}(hpc:∀b e,cod (pc b e)=(T.extract b e).toList.map g)(hrep:cod rep=rl.map g)(S:tE T nx rl F)(k:Nat) :
   ∀(d:Nat),T.size<k+d->d<=T.size->((mP pc T.size nx rep k d).map cod).flatten=(F d).map g/\(mP pc T.size nx rep k d).length+2*d<=2*T.size+1:=by
 induction k with
 | zero=>exact λd h hd=>absurd (Ak d▸h) (nlr hd)
 | succ k ih=>
   intro d h hd;have P:=S d hd;generalize hn:nx d=o at P
   cases P with
   | @hit b e h1 h2 h3 h4=>
     have hde:d<e:=Ae h1 h2;obtain ⟨i1,i2⟩:=ih e (nlt h (AV k d▸Au hde k)) h3;have hF:(F d).map g=cod (pc d b)++(cod rep++((mP pc T.size nx rep k e).map cod).flatten):=by rw [h4,Bj,Bj,hpc,hrep,i1]
     rw [mn hn,hF];by_cases hdb:d<b
     . rw [if_pos hdb]
       exact ⟨rfl,s9 (Aa _) i2 hde⟩
     . rw [if_neg hdb,hpc,show (T.extract d b).toList=[] by rw [AF (Az hdb) h1];exact wB]
       exact ⟨rfl,s9 (Aj _) i2 hde⟩
   | none h4=>
     rw [mr hn,h4];by_cases hdb:d<T.size
     . rw [if_pos hdb,<-Et,<-hpc]
       exact ⟨Bd _,Ah 1 (2*d)▸Ai (AS 2 hd)⟩
     . rw [if_neg hdb,ix (Az hdb)]
       exact ⟨rfl,Ak _▸Aw (AS 2 hd)⟩
theorem oY {nx:Nat->Option (Nat×Nat)}{rep:Str}{F:Nat->List Nat}(S:tE T nx rep.cps.toList F)(k d:Nat)(h:T.size<k+d)(hd:d<=T.size):((ph T nx rep k d).map (·.cps.toList)).flatten=F d/\(ph T nx rep k d).length+2*d<=2*T.size+1:=by
 have:=nu (T:=T) (pc:=λb e=>(⟨T.extract b e⟩:Str)) (cod:=λx:Str=>x.cps.toList) (g:=id) (rep:=rep) (λb e=>(List.map_id _).symm) (List.map_id _).symm S k d h hd;rwa [List.map_id] at this
theorem yc {nx:Nat->Option (Nat×Nat)}{rep:Array UInt8}{F:Nat->List Nat}(S:tE T nx (bB rep).toList F)(k d:Nat)(h:T.size<k+d)(hd:d<=T.size):((xr T nx rep k d).map (·.toList)).flatten=(F d).map (·.toUInt8)/\(xr T nx rep k d).length+2*d<=2*T.size+1:=
 nu (T:=T) (pc:=λb e=>dU (T.extract b e)) (cod:=λx:Array UInt8=>x.toList) (g:=λn:Nat=>n.toUInt8) (rep:=rep) (λb e=>Array.toList_map) (by simp [Bi];exact (List.map_id'' (λx=>by simp) _).symm) S k d h hd
end
noncomputable def ofL (l:List Nat):Str:=⟨l.toArray⟩
theorem eX:∀(L:List Str),Txt.join ⟨#[]⟩ L=ofL (L.map (·.cps.toList)).flatten:=by
 intro L;unfold Txt.join;rw [StrLaws.glued_eq_join]
 induction L with
 | nil=>rfl
 | cons a r ih=>
   cases r with
   | nil=>simp [Str.join,ofL]
   | cons b r=>
     show a++⟨#[]⟩++Str.join ⟨#[]⟩ (b::r)=_;rw [ih];show (⟨(a.cps++#[])++_⟩:Str)=_;unfold ofL;congr 1;apply Array.ext';simp
theorem lB:∀(L:List Str),(L.map (·.length)).sum=(L.map (·.cps.toList)).flatten.length
 | []=>rfl
 | a::r=>by
   simp only [Bg,BB,BA,Bb,lB r]
   rfl
theorem xq:∀(L:List (Array UInt8)) (k:Nat),L.foldl (λk b=>k+b.size) k=k+(L.map (·.toList)).flatten.length:=by
 intro L
 induction L with
 | nil=>
   intro k;exact rfl
 | cons a r ih=>
   intro k;simp only [By,Bg,BA,Bb,ih];simp;lia
theorem vE:∀(L:List (Array UInt8)) (acc:Array UInt8),L.foldl (·++·) acc=acc++((L.map (·.toList)).flatten).toArray:=by
 intro L
 induction L with
 | nil=>
   intro acc;simp
 | cons a r ih=>
   intro acc;simp only [By,Bg,BA,ih];apply Array.ext';simp
noncomputable def bI (w:List Nat):List (List Nat)->List Nat
 | []=>[]
 | [r]=>r
 | r::rest=>r++w++bI w rest
theorem bu {w:List Nat}{s:List Nat}{t:List (List Nat)}:bI w (r::s::t)=r++w++bI w (s::t):=rfl
theorem sf {w:List Nat}:∀(rows:List (List Nat)),Txt.join (ofL w) (rows.map ofL)=ofL (bI w rows):=by
 intro rows;unfold Txt.join;rw [StrLaws.glued_eq_join]
 induction rows with
 | nil=>rfl
 | cons r t ih=>
   cases t with
   | nil=>rfl
   | cons s t=>
     show ofL r++ofL w++Str.join (ofL w) (ofL s::t.map ofL)=_;have ih':Str.join (ofL w) (ofL s::t.map ofL)=ofL (bI w (s::t)):=ih;rw [ih',bu];show (⟨(ofL r).cps++(ofL w).cps++(ofL (bI w (s::t))).cps⟩:Str)=_;unfold ofL;congr 1;apply Array.ext';simp
noncomputable def fS (r:List Nat):Prop:=∀c∈r,c≠10/\c≠13
theorem oX {r:List Nat}(t:List Nat)(h:fS r):bG (r++t)=r++bG t:=by
 induction r with
 | nil=>rfl
 | cons c r ih=>exact (eH λq=>q.elim (h c (.head _)).1 (h c (.head _)).2).trans (congrArg (c::·) (ih λx hx=>h x (.tail _ hx)))
noncomputable def ca:List Nat->List Nat
 | c::r=>if c=46 then 46::46::r else c::r
 | []=>[]
theorem eS {b:Bool}{c:Nat}(h10:c≠10)(h:¬(b=true/\c=46)):dots b (c::r)=c::dots false r:=(if_neg h).trans (by rw [show (c==10)=false from beq_false_of_ne h10])
theorem xB {r:List Nat}(t:List Nat)(h:fS r):dots false (r++13::t)=r++13::dots false t:=by
 induction r with
 | nil=>exact eS ∅ λq=>BW q.1
 | cons c r ih=>exact (eS (h c (.head _)).1 λq=>BW q.1).trans (congrArg (c::·) (ih λx hx=>h x (.tail _ hx)))
theorem tn {r:List Nat}(h:fS r):dots false r=r:=by
 induction r with
 | nil=>rfl
 | cons c r ih=>exact (eS (h c (.head _)).1 λq=>BW q.1).trans (congrArg (c::·) (ih λx hx=>h x (.tail _ hx)))
theorem zK {r:List Nat}(t:List Nat)(h:fS r):dots true (r++13::t)=ca r++13::dots false t:=by
 cases r with
 | nil=>exact eS ∅ λq=>by cases q.2
 | cons c r=>
   have hr:=xB t λx hx=>h x (.tail _ hx);by_cases h46:c=46
   . subst h46
     exact congrArg (46::46::·) hr
   . exact (eS (h c (.head _)).1 λq=>h46 q.2).trans ((congrArg (c::·) hr).trans (congrArg (·++13::dots false t) (show c::r=ca (c::r) from (if_neg h46).symm)))
theorem yU {r:List Nat}(h:fS r):dots true r=ca r:=by
 cases r with
 | nil=>rfl
 | cons c r=>
   have hr:=tn λx hx=>h x (.tail _ hx);by_cases h46:c=46
   . subst h46
     exact congrArg (46::46::·) hr
   . exact (eS (h c (.head _)).1 λq=>h46 q.2).trans ((congrArg (c::·) hr).trans (if_neg h46).symm)
theorem xP (rows:List (List Nat))(h:∀r∈rows,fS r):dots true (bI [13,10] rows)=bI [13,10] (rows.map ca):=by
 induction rows with
 | nil=>rfl
 | cons r rows ih=>
   have hr:=h r (.head _);have ih:=ih λx hx=>h x (.tail _ hx)
   cases rows with
   | nil=>exact yU hr
   | cons s t=>
     have e:dots false (10::bI [13,10] (s::t))=10::dots true (bI [13,10] (s::t)):=if_neg λq=>BW q.1;exact (congrArg (dots true) (Bc r [13,10] _)).trans ((zK _ hr).trans ((congrArg (λu=>ca r++13::u) (e.trans (congrArg (10::·) ih))).trans (Bc (ca r) [13,10] _).symm))
theorem nM {r:List Nat}(h:fS r):fS (ca r):=by
 cases r with
 | nil=>exact h
 | cons c r=>
   show ∀x∈(if c=46 then 46::46::r else c::r),x≠10/\x≠13;split
   . exact fmc ⟨⟨by decide,by decide⟩,fmc ⟨⟨by decide,by decide⟩,λx hx=>h x (.tail _ hx)⟩⟩
   . exact h
open StrLaws Builtin.Str in
theorem FM (x:Str)(k:Nat):At x (ofL [13,10]) x.length k↔(x.cps.toList.drop k).take 2=[13,10]:=by
 unfold At;rw [subAt_eq];refine ⟨λh=>eq_of_beq h.2,λh=>⟨?_,beq_iff_eq.mpr h⟩⟩;have h1:=congrArg List.length h;rw [Bt,Bm] at h1;have h2:1<x.length-k:=nlt (nlt Nat.one_lt_two (Ad h1.symm)) (AL ..);show k+1<x.length;rw [Ah];exact Nat.lt_sub_iff_add_lt.mp h2
theorem C4 {r:List Nat}(hr:fS r)(u:List Nat):∀{i:Nat},i<r.length->¬((r++u).drop i).take 2=[13,10]:=by
 induction r with
 | nil=>exact λhi=>(AW _ hi).elim
 | cons c r ih=>
   intro i hi
   cases i with
   | zero=>exact λh=>(hr c (.head _)).2 (List.cons.inj h).1
   | succ i=>exact ih (λx hx=>hr x (.tail _ hx)) (Nat.lt_of_succ_lt_succ hi)
theorem aAj (hr:fS r)(i:Nat):¬(r.drop i).take 2=[13,10]:=λh=>by
 by_cases hi:i<r.length
 . exact C4 hr [] hi ((Bd r).symm▸h)
 . rw [BE (Az hi)] at h
   cases h
open StrLaws Builtin.Str in
theorem DD {p J:List Nat}(hx:x.cps.toList=p++J)(i:Nat):At x (ofL [13,10]) x.length (p.length+i)↔(J.drop i).take 2=[13,10]:=by
 rw [FM,hx,<-Bn,BM]
open StrLaws Builtin.Str in
theorem De {p u:List Nat}(hx:x.cps.toList=p++(r++u))(hb:b=p.length+r.length):strSub x p.length b=ofL r:=by
 apply Str.ext';apply Array.toList_inj.mp;rw [strSub_toList,hx,hb,AR,BM];exact List.take_left
open StrLaws Builtin.Str in
theorem ut (x:Str)(rows:List (List Nat)):∀(r p:List Nat) (f:Nat) (cuts:List Nat),(∀y∈r::rows,fS y)->x.cps.toList=p++bI [13,10] (r::rows)->ChainG x (ofL [13,10]) x.length p.length cuts f->(∀k,f<=k->¬At x (ofL [13,10]) x.length k)->
   partsFrom x 2 p.length cuts=ofL r::rows.map ofL:=by
 induction rows with
 | nil=>
   intro r p f cuts hr hx hG hn
   cases cuts with
   | cons c cr=>
     obtain ⟨i,rfl⟩:=Nat.exists_eq_add_of_le hG.1;exact absurd ((DD hx i).mp hG.2.1) (aAj (hr r (.head _)) i)
   | nil=>
     have hl:x.length=p.length+r.length:=(congrArg List.length hx).trans Bb;exact congrArg (·::[]) (De (u:=[]) (hx.trans (congrArg (p++·) (Bd r).symm)) hl)
 | cons s t ih=>
   intro r p f cuts hr hx hG hn;have hr0:=hr r (.head _);have hx:x.cps.toList=p++(r++([13,10]++bI [13,10] (s::t))):=hx.trans (congrArg (p++·) (Bc r [13,10] _));have hat:At x (ofL [13,10]) x.length (p.length+r.length):=(DD hx _).mpr (by rw [BM];rfl)
   cases cuts with
   | nil=>exact absurd hat (hn _ (ntr (Ad hG) (Af ..)))
   | cons c cr=>
     obtain ⟨g1,g2,g3,g4⟩:=hG;obtain ⟨i,rfl⟩:=Nat.exists_eq_add_of_le g1;rcases A5 i r.length with h | h | h
     . exact absurd ((DD hx i).mp g2) (C4 hr0 _ h)
     . subst h
       have e:(p++(r++[13,10])).length=p.length+r.length+2:=by rw [Bb,Bb];rfl
       have ih:=ih s (p++(r++[13,10])) f cr (λy hy=>hr y (.tail _ hy)) (hx.trans (by rw [Bc,Bc])) (e▸g4) hn;rw [e] at ih;show strSub x p.length (p.length+r.length)::partsFrom x 2 (p.length+r.length+2) cr=_;rw [ih,De hx rfl]
       rfl
     . exact absurd hat (g3 _ (Af ..) (AA h _))
theorem yR:Builtin.Str.strKind (ofL [13,10])=1:=by decide +kernel
theorem z9 (x:Str):¬Builtin.Str.strKind x<1:=by unfold Builtin.Str.strKind;split <;> (try split) <;> decide
open StrLaws Builtin.Str in
set_option tactic.hygienic true in
theorem u8 (rows:List (List Nat))(hne:rows≠[])(hr:∀r∈rows,fS r):Txt.split (ofL (bI [13,10] rows)) (ofL [13,10])=rows.map ofL:=by
 cases rows with
 | nil=>exact absurd rfl hne
 | cons r rows=>
 generalize hx:ofL (bI [13,10] (r::rows))=x;have hxl:x.cps.toList=bI [13,10] (r::rows):=hx▸rfl;obtain ⟨f,hG,hn⟩:=occ_tight x (ofL [13,10]) ∅;have key:=ut x rows r [] f _ hr hxl hG hn;unfold Txt.split;split
 . rename_i hc
   rw [BY,decide_eq_true_eq,decide_eq_true_eq,yR] at hc;have hl:(bI [13,10] (r::rows)).length<2:=(congrArg List.length hxl).symm▸hc.resolve_right (z9 x)
   cases rows with
   | nil=>rw [<-hx];rfl
   | cons s t=>
     rw [bu,Bc,Bb,Bb] at hl;exact absurd hl (nlr (ntr (Af 2 _) (Am ..)))
 . split
   . rename_i he
     have e0:occurrences x (ofL [13,10]) 0 x.length (x.length+1)=[]:=List.isEmpty_iff.mp he;rw [e0] at key;rw [<-sub_whole x];exact key
   . rw [partsBetween_eq]
     exact key
noncomputable def aBa (x:Str):Str:=ofL (bG x.cps.toList)
noncomputable def aD6 (x:Str):Str:=ofL (dots true x.cps.toList)
noncomputable def DM (b:Array UInt8):Array UInt8:=((dots true (bB b).toList).map (·.toUInt8)).toArray
section
set_option genInjectivity false in
set_option genSizeOf false in
structure er (B:aI) where
 p1:Addr
 p2:Addr
 p3:Addr
 h1:cc B.g p1 Rx.code1 0
 h2:cc B.g p2 Rx.code1 1
 h3:cc B.g p3 Rx.code3 0
 g1:aC B "_twin_re_1" (.raw (.ref p1))
 g2:aC B "_twin_re_2" (.raw (.ref p2))
 g3:aC B "_twin_re_3" (.raw (.ref p3))
 gc:aC B "CRLF" (.str (ofL [13,10]))
theorem s8 {p:Addr}(P:cc B.g p Rx.code3 0)(hx:x.length<=1048576)(q:Q (.str (aBa x)) H):aF [] E H B (d+2) (.raw (.builtin "re.Pattern.sub")) [.raw (.ref p),.str (ofL [13,10]),.str x] Q:=by
 have hs:x.cps.size=x.length:=rfl;obtain ⟨f1,f2⟩:=oY (T:=x.cps) (rep:=ofL [13,10]) uW (x.cps.size+1) 0 (by lia) (Ab _);have hl:=rI x.cps.toList;have e0:eB x.cps 0=x.cps.toList:=rfl;refine rL P (aCk x.cps) ?_ ?_ (by rw [sizeLine_eq];lia) (by decide +kernel) ?_
 . rw [lB]
   show ((ph x.cps (nxC x.cps) (ofL [13,10]) (x.cps.size+1) 0).map (·.cps.toList)).flatten.length<=_;rw [f1,e0];have:x.cps.toList.length=x.length:=rfl
   lia
 . show (ph x.cps (nxC x.cps) (ofL [13,10]) (x.cps.size+1) 0).length<=_
   rw [sizeLine_eq];lia
 . rw [eX]
   show Q (.str (ofL ((ph x.cps (nxC x.cps) (ofL [13,10]) (x.cps.size+1) 0).map (·.cps.toList)).flatten)) H;rw [f1,e0];exact q
theorem Cp {p:Addr}(P:cc B.g p Rx.code1 0)(hx:x.length<=4194304)(q:Q (.str (aD6 x)) H):aF [] E H B (d+2) (.raw (.builtin "re.Pattern.sub")) [.raw (.ref p),.str (ofL [46,46]),.str x] Q:=by
 have hs:x.cps.size=x.length:=rfl;obtain ⟨f1,f2⟩:=oY (T:=x.cps) (rep:=ofL [46,46]) ku (x.cps.size+1) 0 (by lia) (Ab _);have hl:=sX true x.cps.toList;have e0:eB x.cps 0=x.cps.toList:=rfl;have e1:qx x.cps 0=true:=rfl;refine rL P (zi x.cps (by lia)) ?_ ?_ (by rw [sizeLine_eq];lia) (by decide +kernel) ?_
 . rw [lB]
   show ((ph x.cps (nxA x.cps) (ofL [46,46]) (x.cps.size+1) 0).map (·.cps.toList)).flatten.length<=_;rw [f1,e0,e1];have:x.cps.toList.length=x.length:=rfl
   lia
 . show (ph x.cps (nxA x.cps) (ofL [46,46]) (x.cps.size+1) 0).length<=_
   rw [sizeLine_eq];lia
 . rw [eX]
   show Q (.str (ofL ((ph x.cps (nxA x.cps) (ofL [46,46]) (x.cps.size+1) 0).map (·.cps.toList)).flatten)) H;rw [f1,e0,e1];exact q
theorem xV {p:Addr}{x:Array UInt8}(P:cc B.g p Rx.code1 1)(hx:x.size<=4194304)(q:Q (.bytes (DM x)) H):aF [] E H B (d+2) (.raw (.builtin "re.Pattern.sub")) [.raw (.ref p),.bytes #[46,46],.bytes x] Q:=by
 have hs:(bB x).size=x.size:=by simp
 obtain ⟨f1,f2⟩:=yc (T:=bB x) (rep:=#[46,46]) (by rw [show (bB #[46,46]).toList=[46,46] from by decide +kernel];exact ku) ((bB x).size+1) 0 (by lia) (Ab _);have hl:=sX true (bB x).toList;have e0:eB (bB x) 0=(bB x).toList:=rfl;have e1:qx (bB x) 0=true:=rfl;refine wj P (zi (bB x) (by lia)) ?_ ?_ (by rw [sizeLine_eq];lia) (by decide +kernel) ?_
 . rw [xq]
   show 0+((xr (bB x) (nxA (bB x)) #[46,46] ((bB x).size+1) 0).map (·.toList)).flatten.length<=_;rw [f1,e0,e1,Ba,sizeLine_eq];have:(bB x).toList.length=x.size:=by simp
   lia
 . show (xr (bB x) (nxA (bB x)) #[46,46] ((bB x).size+1) 0).length<=_
   rw [sizeLine_eq];lia
 . rw [vE]
   show Q (.bytes (#[]++(((xr (bB x) (nxA (bB x)) #[46,46] ((bB x).size+1) 0).map (·.toList)).flatten).toArray)) H;rw [f1,e0,e1,Array.empty_append];exact q
theorem vK {doc pm ct:Value}{v:Value}:b0 S [] (bindArgs (bN "quotedata" j1 .none .none doc pm an cdv ct) ⟨[v],[]⟩)=some ([],[(Ω "data",v)]):=by kernel_rfl
theorem yL:bb [Ω "data"] (aG (aJ j1))=true:=by decide +kernel
theorem xw (F:er B){x:PV}:Ini B [(Ω "data",x)] (aG (aJ j1)).names [(Ω "data",.local,some x),(Ω "_twin_re_1",.globalImplicit,some (.raw (.ref F.p1))),(Ω "_twin_re_3",.globalImplicit,some (.raw (.ref F.p3))),(Ω "CRLF",.globalImplicit,some (.str (ofL [13,10])))]:=by
 refine .arg (by walk_at "mm") (.inl rfl) (.glob F.g1 (.glob F.g3 (.glob F.gc .nil)))
theorem Cr {doc pm ct:Value}{v:Value}:b0 S [] (bindArgs (bN "_fix_eols" nb .none .none doc pm an cdv ct) ⟨[v],[]⟩)=some ([],[(Ω "data",v)]):=by kernel_rfl
theorem F2:bb [Ω "data"] (aG (aJ nb))=true:=by decide +kernel
theorem F9 (F:er B){x:PV}:Ini B [(Ω "data",x)] (aG (aJ nb)).names [(Ω "data",.local,some x),(Ω "_twin_re_3",.globalImplicit,some (.raw (.ref F.p3))),(Ω "CRLF",.globalImplicit,some (.str (ofL [13,10])))]:=by
 refine .arg (by walk_at "mm") (.inl rfl) (.glob F.g3 (.glob F.gc .nil))
theorem zu {doc pm ct:Value}{v:Value}:b0 S [] (bindArgs (bN "_quote_periods" eI .none .none doc pm an cdv ct) ⟨[v],[]⟩)=some ([],[(Ω "bindata",v)]):=by kernel_rfl
theorem Fq:bb [Ω "bindata"] (aG (aJ eI))=true:=by decide +kernel
theorem Ee (F:er B){x:PV}:Ini B [(Ω "bindata",x)] (aG (aJ eI)).names [(Ω "bindata",.local,some x),(Ω "_twin_re_2",.globalImplicit,some (.raw (.ref F.p2)))]:=by
 refine .arg (by walk_at "mm") (.inl rfl) (.glob F.g2 .nil)
theorem zI:Ω ".." = ofL [46,46]:=by decide +kernel
theorem yp (F:er B)(h:af .none .none nb "_fix_eols" f cdv B)(hx:x.length<=1048576)(q:Q (.str (aBa x)) H):aF [] NoE H B (d+3) (.raw (.ref f)) [.str x] Q:=by
 refine h.call (d:=d+2) (λdoc pm an ct=>cO λS v=>Cr) rfl F2 (F9 F) ?_;refine' aH ?_;ext;refine ⟨_,jM F.h3,?_⟩;ext;exact s8 F.h3 hx q
theorem u7 (F:er B)(h:af .none .none j1 "quotedata" f cdv B)(hx:x.length<=1048576)(q:Q (.str (aD6 (aBa x))) H):aF [] NoE H B (d+3) (.raw (.ref f)) [.str x] Q:=by
 refine h.call (d:=d+2) (λdoc pm an ct=>cO λS v=>vK) rfl yL (xw F) ?_;refine' aH ?_;ext;refine ⟨_,jM F.h1,?_⟩;ext;refine ⟨_,jM F.h3,?_⟩;ext;refine s8 F.h3 hx ?_;ext;rw [zI];refine Cp F.h1 ?_ q;have:=rI x.cps.toList;have e:x.cps.toList.length=x.length:=rfl;show (bG x.cps.toList).toArray.size<=_;rw [BO]
 lia
theorem yr (F:er B){x:Array UInt8}(h:af .none .none eI "_quote_periods" f cdv B)(hx:x.size<=4194304)(q:Q (.bytes (DM x)) H):aF [] NoE H B (d+3) (.raw (.ref f)) [.bytes x] Q:=by
 refine h.call (d:=d+2) (λdoc pm an ct=>cO λS v=>zu) rfl Fq (Ee F) ?_;refine' aH ?_;ext;refine ⟨_,jM F.h2,?_⟩;ext;exact xV F.h2 hx q
end
section
variable {α:Type}
theorem lY (xs:List α)(a b:Nat)(ha:a<=xs.length)(hb:b<=xs.length):(sliceRange (a:Int) (b:Int) 1).filterMap (xs[·]?)=(xs.drop a).take (b-a):=by
 rw [sliceRange_one];by_cases h:a<=b
 . exact StrLaws.picks xs (b-a) a (by lia)
 . rw [show b-a=0 by lia];simp
theorem F1 (xs:List α)(b:Nat):pick xs none (some (b:Int)) none=xs.take b:=by
 have e:sliceBounds none (some (b:Int)) none xs.length=(((0:Nat):Int),((min b xs.length:Nat):Int),1):=by
   unfold sliceBounds;simp only [Option.getD_none,show ((1:Int) > 0) from by decide,if_true,show ¬((b:Int)<0) by lia,if_false];congr 2;lia
 unfold pick;rw [e];simp only;rw [lY xs _ _ (Ab _) (AL _ _),List.drop_zero,Nat.sub_zero];by_cases h:b<=xs.length
 . rw [AE h]
 . rw [Nat.min_eq_right (by lia),Bo (Aa _),Bo (by lia)]
end
noncomputable abbrev aP (rows:List (List Nat)):List PV:=rows.map λr=>PV.str (ofL r)
theorem eP (rows:List (List Nat)):aP rows=(rows.map ofL).map PV.str:=by simp [aP]
theorem a8 (l:List Nat):(ofL l).length=l.length:=by show l.toArray.size=_;simp
theorem dQ {a b:List Nat}:ofL a=ofL b↔a=b:=by
 constructor
 . intro h;unfold ofL at h;injection h with h;simpa using congrArg Array.toList h
 . rintro rfl;rfl
theorem oR {w:List Nat}{c:Nat}:∀{rows:List (List Nat)},c∈bI w rows->c∈w\/∃r∈rows,c∈r
 | [r],h=>.inr ⟨r,mcs,h⟩
 | r::s::t,h=>by
   rw [bu] at h;simp only [List.mem_append] at h;rcases h with (h | h) | h
   . exact .inr ⟨r,mcs,h⟩
   . exact .inl h
   . rcases oR h with h | ⟨x,hx,h⟩
     . exact .inl h
     . exact .inr ⟨x,mcm _ hx,h⟩
noncomputable def rO (r:List Nat):Prop:=fS r/\∀c∈r,c<128
theorem ka {r:List Nat}(h:rO r):rO (ca r):=by
 refine ⟨nM h.1,?_⟩
 cases r with
 | nil=>exact h.2
 | cons c r=>
   show ∀x∈(if c=46 then 46::46::r else c::r),x<128;split
   . exact fmc ⟨by decide,fmc ⟨by decide,λx hx=>h.2 x (.tail _ hx)⟩⟩
   . exact h.2
theorem lV {r:List Nat}(h:∀c∈r,c<128):PyData.strOk (ofL r)=true:=by
 unfold PyData.strOk;rw [<-Array.all_toList,BK];intro c hc;have:=h c hc;exact decide_eq_true (by lia)
theorem mv {l:List Nat}(h:∀c∈l,c<256):bB (dU l.toArray)=l.toArray:=by
 apply Array.ext';simp only [Array.toList_map];rw [Bi]
 have:∀c∈l,((λx:UInt8=>x.toNat)∘λx:Nat=>x.toUInt8) c=c:=λc hc=>by
   show (c.toUInt8).toNat=c;have:=h c hc;simp [Nat.toUInt8]
   lia
 conv=>rhs;rw [<-List.map_id l]
 exact List.map_congr_left this
theorem xj {x:PV}{n:Nat}:∀{k:Nat},x∈dG 1 (k:Int) n->∃p:Nat,p<k+n/\x=.int (p:Nat):=by
 induction n with
 | zero=>intro k h;cases h
 | succ n ih=>
   intro k h
   cases h with
   | head=>exact ⟨k,AG (As _),rfl⟩
   | tail _ h=>
     obtain ⟨p,hp,e⟩:=ih (k:=k+1) h;exact ⟨p,AV k n▸hp,e⟩
section
theorem Dm (b:Nat)(hv:aT H v xs)(hz:xs.length<=sizeLine)(h:l9 Q (xs.take b) H):n8 B d E v none (some (b:Int)) none H Q:=k3 hv ∅ hz ((F1 xs b).symm▸h)
theorem vG {w:PV}(hv:aT H v xs)(hm:m<xs.length)(hn:xs.length<2 ^ 60)(e:xs[m]=w)(q:Q w H):V2 H E B d (.int (m:Nat)) v getItem Q:=gO hv hm hn (e▸q)
theorem jS {Q:IQ}(hn:n<=1000000)(h:Q (dG 1 0 n) [] H):hZ B d E tgt (.raw (.type "range")) [.int (n:Nat)] H Q:=qp (by omega) (by omega) h
theorem qa {p:Nat}{Q:IQ}(hn:p+n<=1000000)(h:Q (dG 1 (p:Int) n) [] H):hZ B d E tgt (.raw (.type "range")) [.int (p:Nat),.int ((p+n:Nat):Int)] H Q:=
 pO (by omega) (by omega) (by omega) (by omega) (by rw [show (((p+n:Nat):Int)-(p:Int)).toNat=n by omega];exact h)
end
noncomputable abbrev aI.hide (B:aI)(a:Addr)(o:Obj):aI:=B.hids ((a,o)::B.hid)
noncomputable abbrev cE (a b:Value):Obj:={ cls:=.type "tuple",data:=.seq #[a,b] }
section
variable {TO:Addr}{o':Obj}
theorem Trk.hide :Trk H (B.hide TO o) a↔a=TO\/Trk H B a:=by
 unfold Trk;constructor
 . rintro (h | h | h)
   . exact .inr (.inl h)
   . exact .inr (.inr (.inl h))
   . rcases mcp h with e | h
     . exact .inl e
     . exact .inr (.inr (.inr h))
 . rintro (h | h | h | h)
   . exact .inr (.inr (by rw [h];exact mcs))
   . exact .inl h
   . exact .inr (.inl h)
   . exact .inr (.inr (mcm _ h))
theorem VR.unhide {v:Value}(r:VR h (Trk H (B.hide TO o)) v p):VR h (Trk H B) v p:=r.mono (λO O e O O=>e) λO O t=>Trk.hide.mpr (.inr t)
theorem VRs.unhide {v:List Value}{p:List PV}(r:VRs h (Trk H (B.hide TO o)) v p):VRs h (Trk H B) v p:=r.mono (λO O e O O=>e) λO O t=>Trk.hide.mpr (.inr t)
theorem VRs.hide {v:List Value}{p:List PV}(r:VRs s.heap (Trk H B) v p)(hT:s.heap.objs.size<=TO)(hk:∀a ob,s.heap.get? a=some ob->s'.heap.get? a=some ob):VRs s'.heap (Trk H (B.hide TO o)) v p:=
 r.mono (λa ob e O O=>hk a ob e) λa ha t=>(Trk.hide.mp t).elim (λe=>absurd ha (nlr (by rw [e];exact hT))) id
theorem Inv.unhide (I:Inv (B.hide TO o) H s):Inv B H s:=
 ⟨I.keep,I.size,I.tabs,I.bare,I.os,I.nodup,λq hq=>I.hid q (mcm _ hq),λp hp=>let ⟨a,vs,n,b,c⟩:=I.objs p hp;⟨a,vs,n,b,c.unhide⟩⟩
theorem aA.unhide (F:aA s H σ env (B.hide TO o)):aA s H σ env B:=by
 refine ⟨F.fresh,F.apart,F.keys,F.nodup,?_,λx ov h=>?_,F.glob⟩
 . obtain ⟨m,h1,h2⟩:=F.ns
   exact ⟨m,h1,λx p hx=>let ⟨v,a,b⟩:=h2 x p hx;⟨v,a,b.unhide⟩⟩
 . obtain ⟨c,w,h1,h2,h3⟩:=F.cell x ov h
   refine ⟨c,w,h1,h2,?_⟩
   cases ov with
   | none=>trivial
   | some p=>obtain ⟨v,a,b⟩:=h3;exact ⟨v,a,b.unhide⟩
theorem Inv.hide (I:Inv B H s)(t:Tr noU s' H s H B)(hT:s.heap.objs.size<=TO)(ho:s'.heap.get? TO=some o)(hq:ah o)(hk:∀a ob,s.heap.get? a=some ob->s'.heap.get? a=some ob):Inv (B.hide TO o) H s':=by
 have hn:TO∉H.map (·.1):=λq=>absurd (dN I (.inl q)) (nlr hT);refine ⟨t.inv.keep,t.inv.size,t.inv.tabs,t.inv.bare,t.inv.os,t.inv.nodup,λq hq'=>?_,λp hp=>?_⟩
 . rcases mcp hq' with rfl | hq'
   . exact ⟨ho,hq,Heap.get?_none_of_le (ntr I.size hT),hn⟩
   . exact t.inv.hid q hq'
 . obtain ⟨h1,vs,n,h2,h3⟩:=I.objs p hp
   exact ⟨h1,vs,n,hk _ _ h2,h3.hide hT hk⟩
set_option genInjectivity false in
set_option genSizeOf false in
structure dF (B:aI)(TO:Addr)(P:Addr->Prop)(H:AH)(s s':Shared):Prop where
 inv:Inv B H s'
 heap:∀a ob,s.heap.get? a=some ob->¬P a->a≠TO->s'.heap.get? a=some ob
 size:s.heap.objs.size<=s'.heap.objs.size
 gens:s'.gens=s.gens
theorem dF.seq {P:Addr->Prop}(x:dF B TO P H s s')(hL:∀p,P p->∀ob,s.heap.get? p=some ob->bW ob):∀a ob,s.heap.get? a=some ob->ah ob->¬Trk H (B.hide TO o) a->s'.heap.get? a=some ob:=
 λa ob e q hn=>x.heap a ob e (λp=>(hL a p ob e).1 q) λe'=>hn (Trk.hide.mpr (.inl e'))
theorem dF.make {P:Addr->Prop}(I:Inv (B.hide TO o) H s)(hk:∀a ob,s.heap.get? a=some ob->¬P a->a≠TO->s'.heap.get? a=some ob)(hz:s.heap.objs.size<=s'.heap.objs.size)
   (hP:∀p,P p->B.g.objs.size<=p/\¬Trk H (B.hide TO o) p)(hL:∀p,P p->∀ob,s.heap.get? p=some ob->bW ob)(hnd:∀q∈B.hid,q.1≠TO)(hg:s'.gens=s.gens)(hos:s'.os=s.os):dF B TO P H s s':=by
 obtain ⟨hT1,hT2,hT3,hT4⟩:=I.hid _ mcs;have tT:Trk H (B.hide TO o) TO:=Trk.hide.mpr (.inl rfl);have ns:∀a ob,s.heap.get? a=some ob->ah ob->a≠TO->s'.heap.get? a=some ob:=λa ob e q hne=>hk a ob e (λp=>(hL a p ob e).1 q) hne;have sq:∀a ob,s.heap.get? a=some ob->ah ob->¬Trk H (B.hide TO o) a->s'.heap.get? a=some ob:=λa ob e q hn=>ns a ob e q λe'=>hn (e'▸tT);refine ⟨⟨λa ob e=>hk a ob (I.keep a ob e) (λp=>absurd (Heap.lt_size e) (nlr (hP a p).1)) λq=>?_,ntr I.size hz,λq hq'=>?_,hg▸I.bare,hos.trans I.os,I.nodup,λq hq'=>?_,λp hp=>?_⟩,hk,hz,hg⟩
 . rw [q] at e;rw [hT3] at e;cases e
 . obtain ⟨ps,h1,h2,h3⟩:=I.tabs q hq'
   refine ⟨ps,hk _ _ h1 (λp=>(hP _ p).2 (.inr (.inl (mmr ⟨q,hq',rfl⟩)))) (λe=>?_),h2,λpos cv hc=>?_⟩
   . rw [e,hT1] at h1;cases h1
     obtain ⟨vs,n,e2⟩:=hT2;cases e2
   . obtain ⟨qn,a1,c,oc,vs,t,e1,e2,e3,e4⟩:=h3 pos cv hc
     refine ⟨qn,a1,c,oc,vs,t,e1,hk _ _ e2 (λp=>(hL c p oc e2).2 vs _ _ e3 e4) (λe=>?_),e3,e4⟩;rw [e,hT1] at e2;cases e2;obtain ⟨vs',n,e2⟩:=hT2;rw [e3] at e2;cases e2
 . obtain ⟨h1,h2,h3,h4⟩:=I.hid q (mcm _ hq')
   exact ⟨ns _ _ h1 h2 (hnd q hq'),h2,h3,h4⟩
 . obtain ⟨h1,vs,n,h2,h3⟩:=I.objs p hp
   refine ⟨h1,vs,n,ns _ _ h2 ⟨_,_,rfl⟩ (λe=>hT4 (mmr ⟨p,hp,e⟩)),h3.mono sq λa ha t=>?_⟩;exact Trk.hide.mpr (.inr t)
theorem Inv.rehide {P:Addr->Prop}(I:Inv (B.hide TO o) H s)(x:dF B TO P H s s')(hL:∀p,P p->∀ob,s.heap.get? p=some ob->bW ob)(ho:s'.heap.get? TO=some o')(hq:ah o'):Inv (B.hide TO o') H s':=by
 obtain ⟨hT1,hT2,hT3,hT4⟩:=I.hid _ mcs;refine ⟨x.inv.keep,x.inv.size,x.inv.tabs,x.inv.bare,x.inv.os,x.inv.nodup,λq hq'=>?_,λp hp=>?_⟩
 . rcases mcp hq' with rfl | hq'
   . exact ⟨ho,hq,hT3,hT4⟩
   . exact x.inv.hid q hq'
 . obtain ⟨h1,vs,n,h2,h3⟩:=I.objs p hp
   refine ⟨h1,vs,n,x.heap _ _ h2 (λq=>(hL _ q _ h2).1 ⟨_,_,rfl⟩) (λe=>hT4 (mmr ⟨p,hp,e⟩)),h3.mono (x.seq hL) λa ha t=>?_⟩;exact Trk.hide.mpr (Trk.hide.mp t)
set_option genInjectivity false in
set_option genSizeOf false in
structure iA (B:aI)(o:Obj)(z TI TO i1 i2 l1 l2:Addr)(xs ys:List PV)(deps:AH)(k:Nat)(H:AH)(s:Shared):Prop where
 inv:Inv (B.hide TO o) H s
 pair:∃a b,o=cE a b
 zip:IsZip s.heap z TI TO .none
 ti:IsPair s.heap TI (.ref i1) (.ref i2)
 it1:s.heap.IsListIter i1 l1 k
 it2:s.heap.IsListIter i2 l2 k
 s1:Src (B.hide TO o) deps H s l1 xs
 s2:Src (B.hide TO o) deps H s l2 ys
noncomputable def ZP (z i1 i2:Addr)(p:Addr):Prop:=p=z\/p=i1\/p=i2
theorem wm {z TI TO:Addr}{v:Value}(x:IsZip h z TI TO v):∀ob,h.get? z=some ob->bW ob:=λob e=>by
 rw [x] at e;cases e;exact ⟨(λhh1=>by obtain ⟨vs,n,q⟩:=hh1;exact (by cases q)),λvs q t e=>by cases e;simp⟩
theorem iA.loose {z TI i1 i2 l1 l2:Addr}{deps:AH}(Z:iA B o z TI TO i1 i2 l1 l2 xs ys deps k H s):∀p,ZP z i1 i2 p->∀ob,s.heap.get? p=some ob->bW ob:=λp hp ob e=>by
 rcases hp with rfl | rfl | rfl
 . exact wm Z.zip ob e
 . exact cD Z.it1 ob e
 . exact cD Z.it2 ob e
theorem iA.stable {z TI i1 i2 l1 l2:Addr}{deps:AH}(Z:iA B o z TI TO i1 i2 l1 l2 xs ys deps k H s)(hTI:¬Trk H (B.hide TO o) TI){G:Nat->Prop}(e:Evo (B.hide TO o) (ZP z i1 i2) G deps H s H' s') :
   iA B o z TI TO i1 i2 l1 l2 xs ys deps k H' s':=
 ⟨e.inv,Z.pair,e.own _ _ Z.zip (.inl rfl),e.seq _ _ Z.ti ⟨_,_,rfl⟩ hTI,lT e (.inr (.inl rfl)) Z.it1,lT e (.inr (.inr rfl)) Z.it2,Z.s1.stable e,Z.s2.stable e⟩
noncomputable def cw (xs ys:List PV):List PV:=(xs.zip ys).map λp=>.tup [p.1,p.2]
theorem n5 (h:xs[k]?=none\/ys[k]?=none):cw (xs.drop k) (ys.drop k)=[]:=by
 unfold cw;rcases h with h | h
 . rw [BE (List.getElem?_eq_none_iff.mp h)];rfl
 . rw [BE (List.getElem?_eq_none_iff.mp h),List.zip_nil_right];rfl
theorem uf {x y:PV}(h1:xs[k]?=some x)(h2:ys[k]?=some y):cw (xs.drop k) (ys.drop k)=.tup [x,y]::cw (xs.drop (k+1)) (ys.drop (k+1)):=by
 obtain ⟨a,e1⟩:=List.getElem?_eq_some_iff.mp h1;obtain ⟨b,e2⟩:=List.getElem?_eq_some_iff.mp h2;rw [Bv a,Bv b,e1,e2]
 rfl
theorem C2 {z TI i1 i2 l1 l2:Addr}{deps:AH}{elts:List Expr}{kk:Nat}(D:ZipApart z TI TO i1 i2 l1 l2)(hnd:∀q∈B.hid,q.1≠TO)(Z:iA B o z TI TO i1 i2 l1 l2 xs ys deps k H s)(hA:A.handled=none)
   (hP:∀p,ZP z i1 i2 p->B.g.objs.size<=p/\¬Trk H (B.hide TO o) p) :
   wpAny (model B.prog B.w) A (pyNext (.ref z)) (λr s₁=>(r=none/\cw (xs.drop k) (ys.drop k)=[]/\dF B TO (ZP z i1 i2) H s s₁)\/
     ∃v x y,r=some v/\cw (xs.drop k) (ys.drop k)=.tup [x,y]::cw (xs.drop (k+1)) (ys.drop (k+1))/\
       wpAny (model B.prog B.w) A (letOwnedTupleGo (.Tuple elts kk pos) (.ref z) v) (λO s₂=>∃o',dF B TO (ZP z i1 i2) H s s₂/\VR s₂.heap (Trk H (B.hide TO o')) v (.tup [x,y])/\iA B o' z TI TO i1 i2 l1 l2 xs ys deps (k+1) H s₂) NoE s₁) NoE s:=by
 obtain ⟨a,b,rfl⟩:=Z.pair;obtain ⟨⟨vs,n,hl1,hv1⟩,hd1⟩:=id Z.s1;obtain ⟨⟨ws,m,hl2,hv2⟩,hd2⟩:=id Z.s2;have hTO:IsPair s.heap TO a b:=(Z.inv.hid _ mcs).1;have hz0:=Heap.lt_size Z.zip
 have mk:∀(h':Heap),(∀c ob,c≠z->c≠TO->c≠i1->c≠i2->s.heap.get? c=some ob->h'.get? c=some ob)->s.heap.objs.size<=h'.objs.size->dF B TO (ZP z i1 i2) H s { s with heap:=h' }:=λh' hk hz=>
   dF.make Z.inv (λc ob e hp hne=>hk c ob (λe'=>hp (.inl e')) hne (λe'=>hp (.inr (.inl e'))) (λe'=>hp (.inr (.inr e'))) e) hz hP Z.loose hnd rfl rfl
 have fin:(vs[k]?=none\/ws[k]?=none)->cw (xs.drop k) (ys.drop k)=[]->wpAny (model B.prog B.w) A (pyNext (.ref z)) (λr s₁=>(r=none/\cw (xs.drop k) (ys.drop k)=[]/\dF B TO (ZP z i1 i2) H s s₁)\/
     ∃v x y,r=some v/\cw (xs.drop k) (ys.drop k)=.tup [x,y]::cw (xs.drop (k+1)) (ys.drop (k+1))/\
       wpAny (model B.prog B.w) A (letOwnedTupleGo (.Tuple elts kk pos) (.ref z) v) (λO s₂=>∃o',dF B TO (ZP z i1 i2) H s s₂/\VR s₂.heap (Trk H (B.hide TO o')) v (.tup [x,y])/\iA B o' z TI TO i1 i2 l1 l2 xs ys deps (k+1) H s₂) NoE s₁) NoE s:=λhe hn=>
   aU (wpAny_pyNext_zip_end hA D Z.zip Z.ti hTO Z.it1 Z.it2 (aQ hl1) (aQ hl2) he λh' hk hz=>.inl ⟨rfl,hn,mk h' hk hz⟩)
 rcases hv1.at k with ⟨e1,e2⟩ | ⟨v,p,e1,e2,hr1⟩
 . exact fin (.inl (by rw [<-Array.getElem?_toList];exact e1)) (n5 (.inl e2))
 rcases hv2.at k with ⟨f1,f2⟩ | ⟨w,q,f1,f2,hr2⟩
 . exact fin (.inr (by rw [<-Array.getElem?_toList];exact f1)) (n5 (.inr f2))
 refine wpAny_pyNext_zip_item D Z.zip Z.ti hTO Z.it1 Z.it2 (aQ hl1) (aQ hl2) (by rw [<-Array.getElem?_toList];exact e1) (by rw [<-Array.getElem?_toList];exact f1) λh' a1 a2 a3 a4 a5 a6 a7=>?_;refine .inr ⟨_,p,q,rfl,uf e2 f2,?_⟩;refine wpAny_letOwnedTupleGo_zip a1 λh₂ b1 b2=>?_;have hz2:s.heap.objs.size<=h₂.objs.size:=by rw [b2.1,a6];exact Aj _
 have ox:=mk h₂ (λc ob c1 c2 c3 c4 e=>(b2.2 c c1).trans (a7 c ob c1 c2 c3 c4 e)) hz2;have hTO2:h₂.get? TO=some (cE v w):=(b2.2 TO D.TOz).trans a2;have hI2:Inv (B.hide TO (cE v w)) H { s with heap:=h₂ }:=Z.inv.rehide ox Z.loose hTO2 ⟨_,_,rfl⟩;have up:∀{u:Value} {pp:PV},VR s.heap (Trk H (B.hide TO (cE a b))) u pp->VR h₂ (Trk H (B.hide TO (cE v w))) u pp:=λr=>r.mono (ox.seq Z.loose) λa ha t=>Trk.hide.mpr (Trk.hide.mp t);have ups:∀{u:List Value} {pp:List PV},VRs s.heap (Trk H (B.hide TO (cE a b))) u pp->VRs h₂ (Trk H (B.hide TO (cE v w))) u pp:=λr=>r.mono (ox.seq Z.loose) λa ha t=>Trk.hide.mpr (Trk.hide.mp t)
 have src:∀{l:Addr} {zs:List PV} {us:Array Value} {nn:Nat},s.heap.get? l=some (aO us nn)->l≠TO->VRs s.heap (Trk H (B.hide TO (cE a b))) us.toList zs->(¬Trk H (B.hide TO (cE a b)) l\/((l,zs)∈deps/\(l,zs)∈H))->Src (B.hide TO (cE v w)) deps H { s with heap:=h₂ } l zs:=λe hne hv hd=>
   ⟨⟨_,_,ox.heap _ _ e (λq=>(Z.loose _ q _ e).1 ⟨_,_,rfl⟩) hne,ups hv⟩,hd.imp (λh t=>h (Trk.hide.mpr (Trk.hide.mp t))) id⟩
 refine ⟨_,ox,?_,hI2,⟨_,_,rfl⟩,b1,(b2.2 TI D.TIz).trans (a7 _ _ D.TIz D.TITO D.TIi1 D.TIi2 Z.ti),?_,?_,src hl1 D.l1TO hv1 hd1,src hl2 D.l2TO hv2 hd2⟩
 . refine .tup (vs:=#[v,w]) (n:=0) ((b2.2 _ (Ax hz0)).trans a5) (λt=>?_) (.cons (up hr1) (.cons (up hr2) .nil))
   exact absurd (dN Z.inv (Trk.hide.mpr (Trk.hide.mp t))) (Al _)
 . obtain ⟨oi,x1,x2⟩:=a3;exact ⟨oi,(b2.2 _ D.i1z).trans x1,x2⟩
 . obtain ⟨oi,x1,x2⟩:=a4;exact ⟨oi,(b2.2 _ D.i2z).trans x1,x2⟩
end
section
variable {TO:Addr}{o':Obj}
noncomputable abbrev aAt (B:aI)(TO:Addr)(fi:aN)(d:Nat)(tgt:Expr)(ifs:List Expr)(elt:Expr)(D:Addr)(deps:AH):List PV->List PV->St->AH->(LQ)->Prop:=pY B (λo=>(TO,o)::B.hid) fi d tgt ifs elt D deps
theorem dF.tr {P:Addr->Prop}{H₀:AH}{s₀:Shared}(t:Tr noU s H s₀ H₀ B)(x:dF B TO P H s s')(hP:∀p,P p->s₀.heap.objs.size<=p)(hT:s₀.heap.objs.size<=TO):Tr noU s' H s₀ H₀ B:=
 ⟨x.inv,⟨λa ob e hn=>x.heap a ob (t.step.heap a ob e hn) (λq=>absurd (Heap.lt_size e) (nlr (hP a q))) λq=>absurd (Heap.lt_size e) (nlr (by rw [q];exact hT)),ntr t.step.size x.size,
   λi y e=>by rw [x.gens];exact t.step.gens i y e⟩,t.keys⟩
theorem dF.frame {P:Addr->Prop}(F:aA s H σ env (B.hide TO o))(x:dF B TO P H s s')(hL:∀p,P p->∀ob,s.heap.get? p=some ob->bW ob)(hT:∀ob,s.heap.get? TO=some ob->ah ob)(h1:¬P env.locals)(h2:∀y c,env.cells.lookup y=some c->¬P c):aA s' H σ env (B.hide TO o'):=by
 have sq:∀a ob,s.heap.get? a=some ob->ah ob->¬Trk H (B.hide TO o) a->s'.heap.get? a=some ob:=x.seq hL;have tt:∀a,a<s.heap.objs.size->Trk H (B.hide TO o') a->Trk H (B.hide TO o) a:=λa O t=>Trk.hide.mpr (Trk.hide.mp t);refine ⟨F.fresh,F.apart,F.keys,F.nodup,?_,λy ov h=>?_,F.glob⟩
 . obtain ⟨m,⟨ob,es,ep,ho,hd,r⟩,h2⟩:=F.ns
   refine ⟨m,⟨ob,es,ep,x.heap _ _ ho h1 (λe=>?_),hd,r⟩,λy p hy=>(h2 y p hy).mono sq tt⟩;obtain ⟨vs,n,e2⟩:=hT _ (e▸ho);rw [hd] at e2;cases e2
 . obtain ⟨c,w,hc,⟨ob,ho,hd⟩,hv⟩:=F.cell y ov h
   refine ⟨c,w,hc,⟨ob,x.heap _ _ ho (h2 y c hc) (λe=>?_),hd⟩,hv.mono sq tt⟩;obtain ⟨vs,n,e2⟩:=hT _ (e▸ho);rw [hd] at e2;cases e2
theorem Tr.backZ {H₁:AH}(t₁:Tr noU s₁ H₁ s H B)(t:Tr (bT env) s' H' s₁ H₁ (B.hide TO o))(hf:∀a,bT env a->s.heap.objs.size<=a)(hT:s.heap.objs.size<=TO):Tr noU s' H' s H B:=
 ⟨t.inv.unhide,⟨λa ob e hn=>by
     have ha:=Heap.lt_size e;refine t.step.heap a ob (t₁.step.heap a ob e hn) λq=>?_;rcases q with q | q
     . rcases Trk.hide.mp q with q | q
       . exact absurd ha (nlr (by rw [q];exact hT))
       . exact hn (.inl (Trk.new t₁.keys ha q))
     . exact absurd ha (nlr (hf a q)),
   ntr t₁.step.size t.step.size,λi x e=>t.step.gens i x (t₁.step.gens i x e)⟩,λa ha=>by
   rcases t.keys a ha with q | q
   . exact t₁.keys a q
   . exact .inr (ntr t₁.step.size q)⟩
inductive ZJ (B:aI)(TO z TI i1 i2 l1 l2:Addr)(xs ys:List PV)(deps:AH)(cenv:Env)(s₀:Shared)(items:List PV)(o:Obj)(H:AH)(s':Shared):Prop
 | mk (k:Nat) (e:items=cw (xs.drop k) (ys.drop k)) (Z:iA B o z TI TO i1 i2 l1 l2 xs ys deps k H s') (p:∀p,(ZP z i1 i2 p\/p=TI)->s₀.heap.objs.size<=p/\p<s'.heap.objs.size/\¬Trk H (B.hide TO o) p/\p≠cenv.locals)
theorem y9 {elts:List Expr}{kk:Nat}{tpos:Pos}{cenv:Env}{deps:AH}{z TI i1 i2 l1 l2:Addr}{s₀:Shared}(hA:A.handled=none)(I₀:Inv B H s₀)(ZD:ZipApart z TI TO i1 i2 l1 l2)(hnd:∀q∈B.hid,q.1≠TO)(hT:s₀.heap.objs.size<=TO)
   (hCl:∀y c,cenv.cells.lookup y=some c->c<s₀.heap.objs.size)(hU:∀a,bT cenv a->s₀.heap.objs.size<=a):r9 B (λo=>(TO,o)::B.hid) A deps (.Tuple elts kk tpos) (.ref z) cenv H s₀ (ZJ B TO z TI i1 i2 l1 l2 xs ys deps cenv s₀) where
 self:=λitems o H s E Q j q=>by
   obtain ⟨k,e,Z,O⟩:=j;exact wpAny_pyIter_zip Z.zip q
 next:=λitems o σ H₂ s₂ j T₂ F₂=>by
   obtain ⟨k,e,Z,hP⟩:=j;subst e;have hPa:∀p,ZP z i1 i2 p->s₀.heap.objs.size<=p:=λp hp=>(hP p (.inl hp)).1;have hLW:¬ZP z i1 i2 cenv.locals:=λhp=>(hP _ (.inl hp)).2.2.2 rfl;have hCW:∀y c,cenv.cells.lookup y=some c->¬ZP z i1 i2 c:=λy c hy hp=>absurd (hCl y c hy) (nlr (hPa c hp))
   have fr:∀{o' s₃},dF B TO (ZP z i1 i2) H₂ s₂ s₃->aA s₃ H₂ σ cenv (B.hide TO o'):=λox=>ox.frame F₂ Z.loose (λob e=>by
     have x:=Z.inv.hid _ mcs
     exact Option.some.inj (e.symm.trans x.a)▸x.b) hLW hCW
   refine wpm (C2 (elts:=elts) (kk:=kk) (pos:=tpos) ZD hnd Z hA (λp hp=>⟨ntr I₀.size (hPa p hp),(hP p (.inl hp)).2.2.1⟩)) (λr s₃ hr=>?_);rcases hr with ⟨e,hnil,ox⟩ | ⟨v,x,y,e,hcons,hv⟩
   . exact .done hnil e (ox.tr T₂ hPa hT) (fr (o':=o) ox).unhide
   . refine .one v _ _ hcons e (wpm hv (λO s₄ hh1=>?_))
     obtain ⟨o',ox,hvr,Z₄⟩:=hh1;have hP₄:∀p,(ZP z i1 i2 p\/p=TI)->p<s₄.heap.objs.size/\¬Trk H₂ (B.hide TO o') p:=λp hp=>⟨nlt (hP p hp).2.1 ox.size,λt=>(hP p hp).2.2.1 (Trk.hide.mpr (Trk.hide.mp t))⟩
     exact ⟨o',Z₄.inv,fr ox,hvr,λH' s' t hd=>⟨(ox.tr T₂ hPa hT).backZ t hU hT,k+1,rfl,Z₄.stable (hP₄ _ (.inr rfl)).2 (G:=λO=>False) (Evo.of_tr' (fr ox) t (λp hp=>⟨lX hLW hCW p hp,(hP₄ p (.inl hp)).2⟩) hd),
       λp hp=>⟨(hP p hp).1,nlt (hP₄ p hp).1 t.step.size,λq=>(hP₄ p hp).2 (Trk.new t.keys (hP₄ p hp).1 q),(hP p hp).2.2.2⟩⟩⟩
end
section
inductive nc (B:aI)(H:AH)(s:Shared)(TO:Addr)(H₁:AH)(q:List PV->LQ)(itv:Value)(s₂:Shared):Prop
 | mk (o:Obj) (z TI i1 i2 l1 l2:Addr) (xs ys:List PV) (deps:AH) (e:itv=.ref z) (t:Tr noU s₂ H₁ s H B) (ZD:ZipApart z TI TO i1 i2 l1 l2) (nd:∀q∈B.hid,q.1≠TO) (Z:iA B o z TI TO i1 i2 l1 l2 xs ys deps 0 H₁ s₂)
   (p:∀p,(ZP z i1 i2 p\/p=TI)->s.heap.objs.size<=p/\p<s₂.heap.objs.size/\¬Trk H₁ (B.hide TO o) p) (hT:s.heap.objs.size<=TO/\TO<s₂.heap.objs.size) (dp:∀p∈deps,p∈H₁) (hq:q xs ys deps)
theorem nc.toC {TO:Addr}{H₁:AH}{elts:List Expr}{kk:Nat}{tpos:Pos}{q:(ι:Type)->(ι->List (Addr×Obj))->IQ}{itv:Value}(hA:A.handled=none)(I:Inv B H s)
   (m:nc B H s TO H₁ (λxs ys deps=>q Obj (λo=>(TO,o)::B.hid) (cw xs ys) deps H₁) itv s₂):tY B A (.Tuple elts kk tpos) H s q itv s₂:=by
 obtain ⟨o,z,TI,i1,i2,l1,l2,xs,ys,deps,e,t,ZD,nd,Z,p,hT,dp,hq⟩:=m;subst e
 exact ⟨_,_,o,_,deps,H₁,t,Z.inv,λa ha x=>(Trk.hide.mp x).elim (λe=>absurd ha (nlr (by rw [e];exact hT.1))) (Trk.new t.keys ha),λcenv D s₄ T hL hC hU=>⟨_,y9 hA I ZD nd hT.1 hC hU,0,rfl,
   Z.stable (p TI (.inr rfl)).2.2 (G:=λO=>False) (Evo.of_tr0 T (λa ha=>(p a (.inl ha)).2.2) λx hx=>.tail _ (dp x hx)),
   λa ha=>⟨(p a ha).1,nlt (p a ha).2.1 T.step.size,λq=>(p a ha).2.2 (Trk.new T.keys (p a ha).2.1 q),λe=>absurd (p a ha).2.1 (nlr (e▸hL))⟩⟩,hq⟩
theorem nc.back {s₀:Shared}{TO:Addr}{H₁:AH}{q:List PV->LQ}{itv:Value}(T:Tr noU s H₁ s₀ H B)(m:nc B H₁ s TO H₁ q itv s₂):nc B H s₀ TO H₁ q itv s₂:=by
 obtain ⟨o,z,TI,i1,i2,l1,l2,xs,ys,deps,e,t,ZD,nd,Z,p,hT,dp,hq⟩:=m;exact ⟨o,z,TI,i1,i2,l1,l2,xs,ys,deps,e,T.trans t,ZD,nd,Z,λa ha=>⟨ntr T.step.size (p a ha).1,(p a ha).2⟩,⟨ntr T.step.size hT.1,hT.2⟩,dp,hq⟩
theorem DQ {w:PV}{xs ys:List PV}{q:Addr->List PV->LQ}{vb:Value}(I:Inv B H s)(hv:aT H v xs)(hw:aT H w ys)(r1:VR s.heap (Trk H B) va v)(r2:VR s.heap (Trk H B) vb w)
   (hq:∀TO,q TO xs ys (cI v xs++cI w ys)) :
   wpAny (model B.prog B.w) A (call (.type "zip") [va,vb]) (λx s₁=>wpAny (model B.prog B.w) A (pyIter x) (λitv s₂=>∃TO,nc B H s TO H (q TO) itv s₂) E s₁) E s:=by
 obtain ⟨l1,rfl,hs1,hd1⟩:=Src.of hv I r1;obtain ⟨l2,rfl,hs2,hd2⟩:=Src.of hw I r2;obtain ⟨⟨vs,n,hl1,hv1⟩,ht1⟩:=id hs1;obtain ⟨⟨ws,m,hl2,hv2⟩,ht2⟩:=id hs2;refine call_zip_2 (aQ hl1) (aQ hl2) λh' a1 a2 a3 a4 a5 a6 a7=>?_;refine wpAny_pyIter_zip a1 ?_;have hz:s.heap.objs.size<=h'.objs.size:=by rw [a6];exact Af _ _
 have t:Tr noU { s with heap:=h' } H s H B:=Tr.ext I a7 hz rfl rfl;have lt1:=Heap.lt_size hl1;have lt2:=Heap.lt_size hl2;generalize hN:s.heap.objs.size=N at *;have ne:∀{a b:Addr},@LT.lt Nat _ a b->a≠b:=λh e=>absurd h (by rw [e];exact Al _);have hT3:s.heap.objs.size<=N+3:=by rw [hN];exact Af _ _
 have I3:Inv (B.hide (N+3) (cE .none .none)) H { s with heap:=h' }:=I.hide t hT3 a3 ⟨_,_,rfl⟩ a7
 have notT:∀{p:Addr},N<=p->p≠N+3->¬Trk H (B.hide (N+3) (cE .none .none)) p:=λ{p} h1 h2 t=>by
   rcases Trk.hide.mp t with t | t
   . exact h2 t
   . exact absurd (dN I t) (by rw [hN];exact nlr h1)
 have ap:ZipApart (N+4) (N+2) (N+3) N (N+1) l1 l2:=by
   have e1:@LT.lt Nat _ l1 N:=lt1;have e2:@LT.lt Nat _ l2 N:=lt2;constructor
   . exact ne (AA ∅ N)
   . exact ne (AA ∅ N)
   . exact ne (AG ∅)
   . exact ne (AA ∅ N)
   . exact ne (AA ∅ N)
   . exact (ne (AG (n:=N) (by decide:0<2))).symm
   . exact (ne (AA (by decide:1<2) N)).symm
   . exact (ne (AG (n:=N) (by decide:0<3))).symm
   . exact (ne (AA (by decide:1<3) N)).symm
   . exact ne (An N)
   . exact ne (nlt e1 (Af _ _))
   . exact ne (nlt e1 (Af _ _))
   . exact ne e1
   . exact ne (nlt e1 (Af _ _))
   . exact ne (nlt e2 (Af _ _))
   . exact ne (nlt e2 (Af _ _))
   . exact ne e2
   . exact ne (nlt e2 (Af _ _))
 have src:∀{l:Addr} {zs:List PV} {us:Array Value} {nn:Nat} {dd:AH},s.heap.get? l=some (aO us nn)->l≠N+3->VRs s.heap (Trk H B) us.toList zs->(¬Trk H B l\/((l,zs)∈dd/\(l,zs)∈H))->(∀x∈dd,x∈cI v xs++cI w ys)->Src (B.hide (N+3) (cE .none .none)) (cI v xs++cI w ys) H { s with heap:=h' } l zs:=λe hne hvv hd hsub=>
   ⟨⟨_,_,a7 _ _ e,hvv.hide hT3 a7⟩,hd.imp (λh t=>(Trk.hide.mp t).elim hne h) λh=>⟨hsub _ h.1,h.2⟩⟩
 refine ⟨N+3,_,N+4,N+2,N,N+1,l1,l2,xs,ys,_,rfl,t,ap,λq hq' e=>?_,⟨I3,⟨_,_,rfl⟩,a1,a2,a4,a5,src hl1 ap.l1TO hv1 ht1 (λx hx=>List.mem_append_left _ hx),src hl2 ap.l2TO hv2 ht2 (λx hx=>BD _ hx)⟩,?_,⟨hT3,?_⟩,λp hp=>?_,hq _⟩
 . have:=dN I (.inr (.inr (mmr ⟨q,hq',e⟩)))
   exact absurd this (nlr hT3)
 . show ∀p,(ZP (N+4) N (N+1) p\/p=N+2)->s.heap.objs.size<=p/\p<h'.objs.size/\_
   rw [hN,a6]
   rintro p ((rfl | rfl | rfl) | rfl)
   . exact ⟨Af _ _,AA ∅ N,notT (Af _ _) ap.TOz.symm⟩
   . exact ⟨Aa _,AG ∅,notT (Aa _) ap.TOi1.symm⟩
   . exact ⟨Af _ _,AA ∅ N,notT (Af _ _) ap.TOi2.symm⟩
   . exact ⟨Af _ _,AA ∅ N,notT (Af _ _) ap.TITO⟩
 . show N+3<h'.objs.size
   rw [a6];exact AZ (An _)
 . rcases mpp hp with hp | hp
   . exact hd1 p hp
   . exact hd2 p hp
inductive aGh (H₂:AH)(q:Addr->List PV->LQ)(f:PV)(vs:List PV):Prop
 | mk (v w:PV) (xs ys:List PV) (hf:f=.raw (.type "zip")) (hv:vs=[v,w]) (h1:aT H₂ v xs) (h2:aT H₂ w ys) (h:∀TO,q TO xs ys (cI v xs++cI w ys))
theorem qF {elts:List Expr}{kk:Nat}{tpos:Pos}{func:Expr}{args:List Expr}{ipos:Pos}{elt:Expr}{ifs:List Expr}(σ':St)
   (hc:CSt B σ scope.names σ')
   (hi:Ev NoE B d fi σ H func λf H₁=>bo B f/\EvL B fi d NoE args σ H₁ λvs H₂=>aGh H₂ (λTO xs ys deps=>∀D,aAt B TO (cfi fi scope σ') d (.Tuple elts kk tpos) ifs elt D deps (cw xs ys) [] σ' H₂ λacc H'=>Q (.list acc) H') f vs)
   (hp:autoParam (args.all av=true) nA)(he:autoParam (∀env,eval (.Call func args [] ipos) env=(do callWith ipos (<-eval func env) [] (backTo ipos (starEach args env)) (backToKw ipos (keywordEach [] env)))) nC)
   (hn:autoParam ((scope.names.map λe=>e.1).Nodup) nF)(hk:autoParam (scope.kind=.function) nA)(hco:autoParam (scope.isCoroutine=false) nA)(hs:autoParam (∀env x,foldedSetIterable (.Call func args [] ipos) env x=pure x) nC)
   (hd:autoParam (3<=d) nB)(hifs:autoParam (ifs.length<=1) nB):Ev E B d fi σ H (.ListComp elt [⟨.Tuple elts kk tpos,.Call func args [] ipos,ifs,0⟩] scope pos) Q:=λA s env e R I F=>by
 show wpAny _ A (comprehension (.ListComp elt [⟨.Tuple elts kk tpos,.Call func args [] ipos,ifs,0⟩] scope pos) scope env (firstIterPos [⟨.Tuple elts kk tpos,.Call func args [] ipos,ifs,0⟩] pos) (newList []) (firstAsync [⟨.Tuple elts kk tpos,.Call func args [] ipos,ifs,0⟩]) (firstIter [⟨.Tuple elts kk tpos,.Call func args [] ipos,ifs,0⟩] env)) _ _ s;refine wpAny_mono (ji (K:=aL B H s Q) e R I F hifs (Q:=λacc H'=>Q (.list acc) H') ?_ hc hn hk hco (hs env) ?_) (λO O x=>x) λO O x=>x.elim
 . refine Call_ (wpm (hi A s env e R I F) (λfv s₁ hh=>?_)) (he env)
   obtain ⟨f,H₁,t₁,q₁,hk₁,h₁⟩:=hh;refine ae (au hp (wpL (ao h₁ hp A s₁ env e R t₁.inv (F.tr I t₁)) (λvs s₂ ps H₂ t₂ l₂ q₂ h₂=>?_)));refine ⟨hk₁ A NoE H₂ s₂ fv t₂.inv (q₁.tr t₂),?_⟩;obtain ⟨v,w,xs,ys,hf,hv,h1,h2,hq⟩:=h₂;subst hf;subst hv;obtain ⟨va,vb,rfl,r1,r2⟩:=q₂.two;obtain ⟨O,rfl⟩:=q₁.inv;exact wpm (DQ (q:=λTO xs ys deps=>∀D,aAt B TO (cfi fi scope σ') d (.Tuple elts kk tpos) ifs elt D deps (cw xs ys) [] σ' H₂ λacc H'=>Q (.list acc) H') t₂.inv h1 h2 r1 r2 hq) (λx s₃ h₃=>wpm h₃ (λitv s₄ m=>by obtain ⟨TO,m⟩:=m;exact (m.back (t₁.trans t₂)).toC R.handled I))
 . rintro D acc H' C s' t ⟨m,hns⟩ hC q
   refine ⟨m,hns,λh' hsb=>?_⟩;have t':=t.turnedC I hns hC hsb;exact ⟨.list acc,H',t'.drop_key,t'.inv.freeze,q⟩
end
section
theorem gL {ι:Type}{hf:ι->List (Addr×Obj)}{elt:Expr}{ifs:List Expr}{D:Addr}{deps:AH}{Q:LQ}{σt:Option PV->St}{f:PV->PV}{p:PV->Bool}(hd:∀p∈deps,p∈H)(items:List PV):∀(acc:List PV) (o:Option PV),
   (∀ob,∀x∈items,∀o H (K:SQ),K (σt (some x)) H->Asg (B.hids (hf ob)) fi d NoE tgt x (σt o) H K)->
   (∀ob,∀x∈items,∀acc (K:BQ),K (p x) ((D,acc)::H)->aBm (B.hids (hf ob)) fi d ifs (σt (some x)) ((D,acc)::H) K)->
   (∀ob,∀x∈items,∀acc (K:PQ),K (f x) ((D,acc)::H)->Ev NoE (B.hids (hf ob)) d fi (σt (some x)) ((D,acc)::H) elt K)->acc.length+items.length<=sizeLine->Q (acc++(items.filter p).map f) H->pY B hf fi d tgt ifs elt D deps items acc (σt o) H Q:=by
 induction items with
 | nil=>exact λacc o O O O O q=>Bd acc▸q
 | cons x xs ih=>
   intro acc o hA hT hE hz q ob;refine hA ob x (.head _) o _ _ (hT ob x (.head _) acc _ ?_);have go:=λacc'=>ih acc' (some x) (λob y hy=>hA ob y (.tail _ hy)) (λob y hy=>hT ob y (.tail _ hy)) (λob y hy=>hE ob y (.tail _ hy))
   cases hp:p x with
   | true=>
     rw [List.filter_cons_of_pos hp,Bg,List.append_cons] at q;exact hE ob x (.head _) acc _ ⟨ntr (Af _ _) hz,H,rfl,hd,go _ (by rw [Bb,AC,Ah [f x].length];exact hz) q⟩
   | false=>
     rw [List.filter_cons_of_neg (by rw [hp];exact BW)] at q;exact ⟨H,rfl,hd,go _ (ntr (Aj _) hz) q⟩
theorem yo {TO:Addr}{elt:Expr}{D:Addr}{deps:AH}{Q:LQ}{σt:Option PV->St}{f:PV->PV}(hd:∀p∈deps,p∈H)(items acc:List PV)(o:Option PV)
   (hA:∀ob,∀x∈items,∀o H (K:SQ),K (σt (some x)) H->Asg (B.hide TO ob) fi d NoE tgt x (σt o) H K)
   (hE:∀ob,∀x∈items,∀acc (K:PQ),K (f x) ((D,acc)::H)->Ev NoE (B.hide TO ob) d fi (σt (some x)) ((D,acc)::H) elt K)(hz:acc.length+items.length<=sizeLine)(q:Q (acc++items.map f) H):aAt B TO fi d tgt [] elt D deps items acc (σt o) H Q:=
 gL (p:=λO=>true) hd items acc o hA (λO O O O O k=>k) hE hz (by rw [List.filter_eq_self.mpr λO O=>rfl];exact q)
theorem ln {elt:Expr}{D:Addr}{deps:AH}{Q:LQ}{σt:Option PV->St}{f:PV->PV}
   (hA:∀x o H (K:SQ),K (σt (some x)) H->Asg B fi d NoE tgt x (σt o) H K)(hd:∀p∈deps,p∈H)(items acc:List PV)(o:Option PV)
   (hE:∀x∈items,∀acc (K:PQ),K (f x) ((D,acc)::H)->Ev NoE B d fi (σt (some x)) ((D,acc)::H) elt K)(hz:acc.length+items.length<=sizeLine)(q:Q (acc++items.map f) H):sm B fi d tgt [] elt D deps items acc (σt o) H Q:=
 gL (p:=λO=>true) hd items acc o (λO x O=>hA x) (λO O O O O k=>k) (λO=>hE) hz (by rw [List.filter_eq_self.mpr λO O=>rfl];exact q)
theorem kO {elt c:Expr}{D:Addr}{deps:AH}{Q:LQ}{σt:Option PV->St}{f:PV->PV}{p:PV->Bool}
   (hA:∀x o H (K:SQ),K (σt (some x)) H->Asg B fi d NoE tgt x (σt o) H K)(hd:∀p∈deps,p∈H)(items acc:List PV)(o:Option PV)
   (hT:∀x∈items,∀acc (K:BQ),K (p x) ((D,acc)::H)->Tst B fi d NoE c (σt (some x)) ((D,acc)::H) K)
   (hE:∀x∈items,∀acc (K:PQ),K (f x) ((D,acc)::H)->Ev NoE B d fi (σt (some x)) ((D,acc)::H) elt K)(hz:acc.length+items.length<=sizeLine)(q:Q (acc++(items.filter p).map f) H):sm B fi d tgt [c] elt D deps items acc (σt o) H Q:=
 gL hd items acc o (λO x O=>hA x) (λO=>hT) (λO=>hE) hz q
theorem vq {a b:Int}(hb:0<b)(ha:¬(a==0 || a==1)=true)(ha':¬(a==-1)=true)(hz:((Builtin.Int.intBits a:Nat):Int)*b<=100000000)(h:Q (.int (a ^ b.toNat)) H):V2 H E B d (.int b) (.int a) (binaryOp .Pow) Q:=λA s R I va vb r1 r2=>by
 obtain ⟨O,rfl⟩:=r1.inv;obtain ⟨O,rfl⟩:=r2.inv;refine AutoIntOps.pow_4 (by lia) (by simp;lia) ha ha' (by unfold Builtin.Int.intTooBig bitsLine;simp;lia) ?_;exact ⟨_,_,Tr.tok I _,.int _ _,h⟩
end
section
theorem aEt {P Q:Prop}(h:Q):if false=true then P else Q:=by rw [if_neg BW];exact h
theorem aFs {P Q:Prop}(h:P):if true=true then P else Q:=by rw [if_pos rfl];exact h
theorem aCu {P Q:Prop}(h:Q):if (!true)=true then P else Q:=by rw [if_neg ∅];exact h
theorem aCw {P Q:Prop}(h:Q):if (BoolOp.Or==BoolOp.And)=true then P else Q:=by rw [if_neg ∅];exact h
theorem aBy {P Q:Prop}(h:P):if (BoolOp.And==BoolOp.And)=true then P else Q:=by rw [if_pos ∅];exact h
end
noncomputable def aI.flat (B:aI)(g:Heap)(hk:∀a o,B.g.get? a=some o->g.get? a=some o):aI:=
 { B with g:=g,inK:=B.inK.keeps hk,nsg:=B.nsg.keeps hk,nsb:=B.nsb.keeps hk,nolimit:=B.nolimit.keeps hk,tabs:=[],tabsHidden:=(λO h=>(by cases h)),low:=(λO h=>(by cases h)),hid:=[] }
structure dT (B:aI):Prop where
 tabs:B.tabs=[]
 hid:B.hid=[]
theorem dT.trk (h:dT B):¬Trk [] B a:=λt=>by
 rcases t with t | t | t
 . cases t
 . rw [h.tabs] at t;cases t
 . rw [h.hid] at t;cases t
theorem Tr.keeps (h:dT B)(t:Tr noU s' [] s [] B):∀a o,s.heap.get? a=some o->s'.heap.get? a=some o:=λa o e=>t.step.heap a o e λq=>q.elim h.trk False.elim
noncomputable def nZ:Option Str->List Value->Prop
 | .none,ws=>ws=[]
 | some x,ws=>∃tk,ws=[.str x tk]
structure eF (B:aI)(outer:List Env)(cls:String)(msg:Option Str)(s:Shared)(e:Value)(s':Shared):Prop where
 ex:∃ea t ws,e=.ref ea/\Heap.FlyingW B.g outer ea (.type cls) (.ref t) s'.heap/\s'.heap.TupAt t ws/\nZ msg ws/\B.g.get? t=Option.none
 slots:s.heap.UpToSlots s'.heap
 size:s.heap.objs.size<=s'.heap.objs.size
 bare:AllBare s'.gens
 gens:∀(i:Nat) (x:GenState),s.gens[i]?=some x->s'.gens[i]?=some x
 os:s'.os=s.os
inductive aB9 (msg:Option Str)(cls:String)(s:Shared)(e:Value)(s':Shared):Prop
 | mk (h:Heap) (ws:List Value) (ea:Addr) (k:∀b o,s.heap.get? b=some o->h.get? b=some o) (he:e=.ref ea) (m:Heap.MadeExcOf h s'.heap ea (.type cls) ws) (mi:nZ msg ws) (sz:s.heap.objs.size<=s'.heap.objs.size) (ba:AllBare s'.gens) (gn:∀(i:Nat) (x:GenState),s.gens[i]?=some x->s'.gens[i]?=some x) (ho:s'.os=s.os)
noncomputable def gH (B:aI)(env:Env)(outer:List Env)(cls:String)(msg:Option Str)(s:Shared)(e:Value)(s':Shared):Prop:=eF B (env::outer) cls msg s e s'\/aB9 msg cls s e s'
noncomputable def XsX (B:aI)(fi:aN)(d:Nat)(b:List Stmt)(σ:St)(cls:String)(msg:Option Str):Prop:=
 ∀(E:EP) A s env,a9 B fi env->ai A d->Inv B [] s->aA s [] σ env B->∀outer,A.frames=some (env::outer)->s.heap.FunFrames B.g (env::outer)->
   (∀e s',gH B env outer cls msg s e s'->E e s')->wpAny (model B.prog B.w) A (execs b env) (λO O=>False) E s
noncomputable def XsF (B:aI)(d:Nat)(fi:aN)(H:AH)(σ:St)(b:List Stmt)(Qn:SQ)(Qf:FQ):Prop:=
 ∀A s env,a9 B fi env->ai A d->Inv B H s->aA s H σ env B->A.frames=some [env]->env.frame=some env.locals->
   wpAny (model B.prog B.w) A (execs b env) (fE B env H s Qn Qf) NoE s
section
theorem yZ {oc:Value}{od:Option Addr}{osl:Array (Option Value)}{fd:FuncData}{cp:Option (Addr×Addr)}{args:List PV}{kw:List (Str×PV)}{bs:List (Str×PV)}{σ₀:St}
   (ho:∀s,Inv B H s->s.heap.get? f=some ⟨oc,od,.func fd,osl⟩)(hbody:fd.body=.stmts body)(hcl:fd.closure=[])(hcr:∀s,Inv B H s->s.heap.CodeRec fd.code fd.qualname)
   (hk:fd.scope.kind=.function)(hco:fd.scope.isCoroutine=false)(hge:fd.scope.isGenerator=false)(hgl:fd.globals=mainGlobals)(hbu:fd.builtins=builtinsNs)
   (hcp:∀c P,cp=some (c,P)->fd.code=.ref c)
   (hb:cB B fd args kw H bs)(hbn:(bs.map (λe=>e.1)).Nodup)(hbk:∀e∈bs,∃k,(e.1,k)∈fd.scope.names/\gN k)(hsn:(fd.scope.names.map (λe=>e.1)).Nodup)(hfree:∀e∈fd.scope.names,e.2≠.free)
   (hi:Ini B bs fd.scope.names σ₀)
   (h:XsF B d ⟨fd.scope,cp,fd.qualname++".<locals>.",λO=>false⟩ H σ₀ body (λO H'=>Q .none H') (PX Q)) :
   ∀A s,ai A (d+1)->A.frames=some []->Inv B H s->∀fv vs kvs,VR s.heap (Trk H B) fv (.raw (.ref f))->VRs s.heap (Trk H B) vs args->dE (Trk H B) s.heap kvs kw->
   wpAny (model B.prog B.w) A (call fv vs kvs) (aL B H s Q) NoE s:=λA s R hfr I fv vs kvs h1 h2 h3=>by
 cases h1
 exact ii ho hbody hcl hcr hk hco hge hgl hbu hcp hb hbn hbk hsn hfree hi R I h2 h3 λenv s₁ x=>
   wpAny_mono (h (A.deeper env) s₁ env x.eok (R.deeper env) x.tr.inv x.frm (Around.frames_deeper hfr) x.fr) (λO O p=>vv I x p) λO O x=>x.elim
end
section
variable {cls:String}{msg:Option Str}
theorem gH.back {outer:List Env}{e:Value}(FL:dT B)(I:Inv B [] s)(t:Tr noU s₁ [] s [] B)(r:gH B env outer cls msg s₁ e s'):gH B env outer cls msg s e s':=by
 have hk:=t.keeps FL;rcases r with r | ⟨h,ws,ea,hk₂,rfl,hx,hmsg,hsz,hb,hg,ho⟩
 . exact .inl ⟨r.ex,(Heap.UpToSlots.of_keeps hk).trans r.slots,ntr t.step.size r.size,r.bare,λi x q=>r.gens i x (t.step.gens i x q),r.os.trans (t.inv.os.trans I.os.symm)⟩
 . exact .inr ⟨h,ws,ea,λb o q=>hk₂ b o (hk b o q),rfl,hx,hmsg,ntr t.step.size hsz,hb,λi x q=>hg i x (t.step.gens i x q),ho.trans (t.inv.os.trans I.os.symm)⟩
theorem mH (FL:dT B){t:Expr}{b o:List Stmt}(h:Tst B fi d NoE t σ [] λc H'=>H'=[]/\(if c then XsX B fi d b σ cls msg else XsX B fi d o σ cls msg)):XsX B fi d (.If t b o pos::rest) σ cls msg:=λE A s env e R I F outer hfr hff hE=>by
 refine wpAny_execs_cons (wpAny_mono (Q:=λO O=>False) (E:=E) (wpAny_If (wpAny_mono (h A s env e R I F) (λc s₁ hh1=>?_) λO O x=>x.elim)) (λO O x=>x.elim) λO O x=>x);obtain ⟨H₁,t₁,hH,q⟩:=hh1;subst hH
 have go:∀body,XsX B fi d body σ cls msg->wpAny (model B.prog B.w) A (execs body env) (λO O=>False) E s₁:=λbody hb=>
   hb E A s₁ env e R t₁.inv (F.tr I t₁) outer hfr (hff.of_keeps λb o q O=>⟨o,t₁.keeps FL b o q,rfl⟩) λe s' r=>hE e s' (r.back FL I t₁)
 cases c with
 | true=>exact go b q
 | false=>exact go o q
theorem kf (FL:dT B){newId initId:String}(FC:ExcCallFacts cls newId initId)(FR:ExcRaiseFacts cls){m:Str}{np cpos kp:Pos}(hm:msg=some m)
   (h:Ev NoE B d fi σ [] (.Name x np) λf H₁=>H₁=[]/\f=.raw (.type cls)) :
   XsX B fi d (.Raise (some (.Call (.Name x np) [.Constant (.str m) k kp] [] cpos)) none pos::rest) σ cls msg:=λE A s env e R I F outer hfr hff hE=>by
 subst hm;refine aU (wpAny_mono (Q:=λO O=>False) (E:=λe s'=>s.heap.objs.size<=s'.heap.objs.size->E e s') ?_ (λO O x=>x.elim) λO O x=>x);refine wpAny_execs_cons (wpAny_mono (Q:=λO O=>False) (E:=λe s'=>s.heap.objs.size<=s'.heap.objs.size->E e s') (Raise_madeB FC FR R.handled (wpAny_mono (h A s env e R I F) (λfv s₁ hh1=>?_) λO O x=>x.elim)) (λO O x=>x.elim) λO O x=>x);obtain ⟨f,H₁,t₁,q₁,hH,hf⟩:=hh1;subst hH;subst hf;obtain ⟨O,rfl⟩:=q₁.inv;refine ⟨rfl,?_⟩;have hl:EvL B fi d NoE [.Constant (.str m) k kp] σ [] λvs H₂=>H₂=[]/\vs=[.str m]:=uO ⟨rfl,rfl⟩;refine wpAny_mono (ao hl rfl A s₁ env e R t₁.inv (F.tr I t₁)) (λvs s₂ hh1=>?_) λO O x=>x.elim;obtain ⟨ps,H₂,t₂,l₂,q₂,hH,hps⟩:=hh1;subst hH;subst hps;obtain ⟨v,rfl,r⟩:=q₂.one;obtain ⟨O,rfl⟩:=r.inv;refine ⟨by show 1<=sizeLine;decide,λh' ea hx hz=>hE _ _ (.inr ?_)⟩;have t:=t₁.trans t₂;refine ⟨s₂.heap,_,ea,t.keeps FL,rfl,hx.of,⟨_,rfl⟩,hz,t.inv.bare,t.step.gens,t.inv.os.trans I.os.symm⟩
theorem j7 {v:Value}{np:Pos}{Q:Value->Shared->Prop}(e:a9 B fi env)(I:Inv B H s)(F:aA s H σ env B)(hx:(x,NameKind.globalImplicit,some (PV.raw v))∈σ)(h:Q v s)
   (hd:autoParam ((x==("__debug__" : Str))=false) nB):wpAny (model B.prog B.w) A (eval (.Name x np) env) Q E s:=by
 obtain ⟨w,hv,hr⟩:=F.glob x _ hx;have hgn:s.heap.Ns env.globals B.mg:=by rw [e.globals];exact B.nsg.keeps I.keep
 have hvv:=hr (λO=>True) s.heap;cases hvv;have hk:=F.kindOf hx
 have hb:wpAny (model B.prog B.w) A (loadGlobal env x) Q E s:=by
   rcases hv with hv | ⟨h1,h2,h3⟩
   . exact Calls.loadGlobal_global hgn hv h
   . exact Calls.loadGlobal_builtin hgn h1 (by rw [e.builtins];exact B.nsb.keeps I.keep) ((B.boot x h3).trans h2) h
 refine wpAny_Name ?_ hd;exact (loadName_read e.kindF hk).symm▸hb
theorem sx {X N I:String}(FC:ExcCallFacts X N I)(FR:ExcRaiseFacts X)(hc:ExcClass X N I){prog:Program}{w:World}{s:Shared}{np:Pos}{Q:Flow->Shared->Prop}(hh:A.handled=none)
   (hx:wpAny (model prog w) A (eval (.Name x np) env) (λv s₁=>v=.type X/\s₁=s) E s)
   (h:∀h' e,Heap.MadeExc s.heap h' e X []->E (.ref e) { s with heap:=h' }) :
   wpAny (model prog w) A (exec (.Raise (some (.Name x np)) none pos) env) Q E s:=by
 show wpAny (model prog w) A (do standAt pos;raiseStmt env (some (do let v<-eval (.Name x np) env;standAt pos;pure v)) none) Q E s;refine wpAny_bind (wpAny_standAt ?_);unfold raiseStmt;dsimp only;refine wpAny_bind (wpAny_bind (wpAny_mono hx (λv s₁ h₁=>wpAny_bind (wpAny_standAt (wpAny_pure ?_))) λO O e=>e));obtain ⟨rfl,hs₁⟩:=h₁;subst s₁;refine wpAny_bind (wpAny_pure ?_);dsimp only;refine wpAny_bind (wpAny_holding ?_);unfold excFromValue isExcClass;refine wpAny_bind (wpAny_bind (wpAny_pure ?_));rw [if_pos rfl,FR.isExc];refine wpAny_pure ?_;rw [if_pos rfl];obtain ⟨hp,g,dd,tk,os⟩:=s;refine wpAny_bind (wpAny_call_exc FC (rest:=[]) (hrest:=Ab _) λh' e hn=>?_);obtain ⟨t,he,O⟩:=hn.there;have hT:(⟨h',g,dd,tk,os⟩:Shared).TypeIs (.ref e) X:=(show ∃o,h'.get? e=some o/\o.cls=.type X from ⟨_,he,rfl⟩);refine wpAny_bind (wpAny_isInstance hT FR.isExc ?_);rw [if_neg ∅];refine wpAny_pure ?_
 first | (refine wpAny_bind (m:=isType (.type X)) (wpAny_pure ?_)) | (refine wpAny_bind (wpAny_pure ?_))
 first | (rw [if_pos rfl]) | (simp only [if_true]) | dsimp only
 refine wpAny_bind (wpAny_holding ?_);unfold raisedFor
 first | (rw [if_neg ∅]) | skip
 first | (refine wpAny_bind (wpAny_typeOf hT ?_)) | (refine wpAny_bind ?_;refine wpAny_bind (wpAny_typeOf hT ?_))
 refine wpAny_bind (call_issubclass (issubclass_self hc FC.sub) ?_)
 first | (refine wpAny_bind (wpAny_truthy_bool ?_)) | (refine wpAny_truthy_bool ?_) | (dsimp only [wants];first | (refine wpAny_bind (wpAny_truthy_bool ?_)) | (refine wpAny_truthy_bool ?_))
 first | (rw [if_pos rfl]) | (simp only [if_true]) | skip
 refine wpAny_pure ?_;unfold setFlight raiseNew;refine wpAny_bind (wpAny_bind (wpAny_field (i:=1) (x:=Value.none) he rfl rfl ?_));rw [if_neg ∅];refine wpAny_pure (wpAny_bind (wpAny_handled ?_));rw [hh]
 first
   | exact wpAny_throw (h h' e hn)
   | exact wpAny_bind (wpAny_pure (wpAny_throw (h h' e hn)))
theorem uq (FL:dT B){newId initId:String}(FC:ExcCallFacts cls newId initId)(FR:ExcRaiseFacts cls)(hc:ExcClass cls newId initId){np:Pos}(hm:msg=none)(hx:(x,NameKind.globalImplicit,some (PV.raw (.type cls)))∈σ)(hd:autoParam ((x==("__debug__" : Str))=false) nB) :
   XsX B fi d (.Raise (some (.Name x np)) none pos::rest) σ cls msg:=λE A s env e R I F outer hfr hff hE=>by
 subst hm;refine aU (wpAny_mono (Q:=λO O=>False) (E:=λe s'=>s.heap.objs.size<=s'.heap.objs.size->E e s') ?_ (λO O x=>x.elim) λO O x=>x);refine wpAny_execs_cons (wpAny_mono (Q:=λO O=>False) (E:=λe s'=>s.heap.objs.size<=s'.heap.objs.size->E e s') (sx FC FR hc R.handled ?_ λh' ea hn=>?_) (λO O x=>x.elim) λO O x=>x)
 . exact j7 e I F hx ⟨rfl,rfl⟩ hd
 . exact λhz=>hE _ _ (.inr ⟨s.heap,_,ea,λO O q=>q,rfl,hn.of,rfl,hz,I.bare,λO O q=>q,rfl⟩)
theorem af.flat {name:Str}(h:af dV kV k name f cdv B){g:Heap}{hk:∀a o,B.g.get? a=some o->g.get? a=some o}:af dV kV k name f cdv (B.flat g hk):=by
 obtain ⟨oc,od,osl,doc,pm,an,ct,ho⟩:=h.at_;exact ⟨⟨oc,od,osl,doc,pm,an,ct,hk _ _ ho⟩,h.code.keeps hk⟩
theorem aw.flat (h:aw B dV kV){g:Heap}{hk:∀a o,B.g.get? a=some o->g.get? a=some o}:aw (B.flat g hk) dV kV:=by
 obtain ⟨⟨T,n,t,h1,h2⟩,D,hs,tk,m,h3,h4⟩:=h;exact ⟨⟨T,n,t,h1,hk _ _ h2⟩,D,hs,tk,m,h3,hk _ _ h4⟩
theorem flat_flat {g:Heap}{hk:∀a o,B.g.get? a=some o->g.get? a=some o}:dT (B.flat g hk):=⟨rfl,rfl⟩
end
section
theorem l7 {st:Stmt}(h:X B fi d NoE st σ H (λσ' H'=>XsF B d fi H' σ' rest Qn Qf) Qf) :
   XsF B d fi H σ (st::rest) Qn Qf:=λA s env e R I F hfr hf=>by
 refine wpAny_execs_cons (wpm (h A s env e R I F) (λfl s₁ hh1=>?_));obtain ⟨σ₁,H₁,t₁,F₁,q⟩:=hh1;rcases q with ⟨rfl,q⟩ | ⟨pf,hf',q⟩
 . exact wpm (q A s₁ env e R t₁.inv F₁ hfr hf) (λfl' s₂ hh1=>by obtain ⟨σ₂,H₂,t₂,F₂,q₂⟩:=hh1;exact ⟨σ₂,H₂,t₁.trans t₂,F₂,q₂⟩)
 . cases fl with
   | next=>cases pf <;> exact hf'.elim
   | brk=>exact ⟨σ₁,H₁,t₁,F₁,.inr ⟨pf,hf',q⟩⟩
   | cont=>exact ⟨σ₁,H₁,t₁,F₁,.inr ⟨pf,hf',q⟩⟩
   | ret v=>exact ⟨σ₁,H₁,t₁,F₁,.inr ⟨pf,hf',q⟩⟩
theorem XsF.of {b:List Stmt}(h:Xs NoE B d fi H σ b Qn Qf):XsF B d fi H σ b Qn Qf:=λA s env e R I F O O=>h A s env e R I F
section
variable (I:Inv B H s)(F:aA s H σ env B)
inductive Fz (H:AH):List PV->List PV->Prop
 | nil:Fz H [] []
 | lref {a:Addr} {xs:List PV} {r r':List PV}:(a,xs)∈H->Fz H r r'->Fz H (.lref a::r) (.list xs::r')
 | other {p:PV} {r r':List PV}:Fz H r r'->Fz H (p::r) (p::r')
theorem VR.loose {T':Addr->Prop}(ht:∀a,¬T' a){v:Value}(r:VR h T v p):VR h T' v p:=r.mono (λO O e O O=>e) λa O t=>(ht a t).elim
theorem VRs.loose {T':Addr->Prop}(ht:∀a,¬T' a){v:List Value}{p:List PV}(r:VRs h T v p):VRs h T' v p:=r.mono (λO O e O O=>e) λa O t=>(ht a t).elim
include I in
theorem Fz.rel {T':Addr->Prop}(ht:∀a,¬T' a){ps ps':List PV}(z:Fz H ps ps'):∀{vs:List Value},VRs s.heap (Trk H B) vs ps->VRs s.heap T' vs ps':=by
 induction z with
 | nil=>intro vs r;cases r;exact .nil
 | lref hm _ ih=>
   intro vs r
   cases r with | cons r1 r2=>
   obtain ⟨O,rfl⟩:=r1.inv;obtain ⟨O,ws,n,ho,hr⟩:=I.objs _ hm;exact .cons (.list ho (ht _) (hr.loose ht)) (ih r2)
 | other _ ih=>
   intro vs r;cases r with | cons r1 r2=>exact .cons (r1.loose ht) (ih r2)
include I F in
end
noncomputable def qV:Option Str->Str
 | .none=>Ω ""
 | some x=>x
noncomputable abbrev pC (w n:Str)(wp ap sp np scp acp aep:Pos):Stmt:=.Expr (.Call (.Attribute (.Name w wp) (Ω "append") ap) [.Call (.Name (Ω "str") sp) [.Name n np] [] scp] [] acp) aep
theorem aCb {X nn:String}(FX:ExcStrFacts X nn){w n:Str}{wp ap sp np scp acp aep:Pos}{env:Env}{ea t W:Addr}{ws:List Value}{msg:Option Str}(e:a9 B fi env)(hu:A.units+60<cLine)(I:Inv B H s)(F:aA s H σ env B)
   (hw:(w,NameKind.local,some (PV.lref W))∈σ)(hn:(n,NameKind.local,some (PV.raw (.ref ea)))∈σ)(hs:(Ω "str",NameKind.globalImplicit,some (PV.raw (.type "str")))∈σ)(hx:s.heap.ExcAt ea X (.ref t))(ht:s.heap.TupAt t ws)(hm:nZ msg ws)
   (u:Upd W xs (xs++[.str (qV msg)]) H H')(hz:xs.length<=sizeLine)(hdw:(w==("__debug__" : Str))=false)(hdn:(n==("__debug__" : Str))=false)
   (he:∀env,eval (.Call (.Attribute (.Name w wp) (Ω "append") ap) [.Call (.Name (Ω "str") sp) [.Name n np] [] scp] [] acp) env=(do
     let ov<-eval (.Name w wp) env
     standAt ap.atName
     let (f,first)<-holding [ov] (getMethod ov (Ω "append") (do return (<-importBound (.Name w wp) env).getD true))
     callWith acp f first (backTo acp (starEach [.Call (.Name (Ω "str") sp) [.Name n np] [] scp] env)) [])) :
   wpAny (model B.prog B.w) A (execs [pC w n wp ap sp np scp acp aep] env) (λfl s'=>fl=.next/\Tr noU s' H' s H B) E s:=by
 have hi:interactive env=false:=by unfold interactive;rw [e.kindF];rfl
 refine wpAny_execs_cons ?_;rw [exec_Expr env _ aep hi rfl];refine wpAny_bind (wpAny_standAt (wpAny_bind ?_));refine wpAny_mono (Q:=λr s'=>r=.none/\Tr noU s' H' s H B) ?_ (λr s' ⟨hr,t⟩=>?_) λO O x=>x
 . obtain ⟨m,hns,hmm⟩:=F.ns
   have hW:m w=some (.ref W):=by obtain ⟨v,hv,hr⟩:=hmm w _ hw;obtain ⟨O,rfl⟩:=hr.inv;exact hv
   have hN:m n=some (.ref ea):=by obtain ⟨v,hv,hr⟩:=hmm n _ hn;obtain ⟨O,rfl⟩:=hr.inv;exact hv
   refine MethodCall_ (wpAny_Name (wpAny_loadName_local e.kindF (F.kindOf hw) hns hW ?_) hdw) (he env);refine bA (.lref u.has) A E s (.ref W) I (.lref _) _ _ ?_;refine ae (au rfl ?_);refine args_cons ?_ rfl;refine Call_ (j7 e I F hs ?_ ∅) rfl;refine ae (au rfl ?_);refine args_cons ?_ rfl;refine wpAny_Name (wpAny_loadName_local e.kindF (F.kindOf hn) hns hN ?_) hdn;refine Calls.spliced_nil ⟨bR A E H s _ I (.raw _),?_⟩
   have key:∀(tk:Tok) (s':Shared),Tr noU s' H s H B->wpAny (model B.prog B.w) A (spliced (backTo acp (starEach [] env))) (λvs s₂=>(∀Q':Keeper->Shared->Prop,(∀k,Q' k s₂)->wpAny (model B.prog B.w) A (keeperOf (.builtin "list.append")) Q' E s₂)/\wpAny (model B.prog B.w) A (call (.builtin "list.append") ([.ref W]++(.str (qV msg) tk::vs)) []) (λr s'=>r=.none/\Tr noU s' H' s H B) E s₂) E s':=λtk s' t=>by
     refine Calls.spliced_nil ⟨aB A E H s' _ t.inv (.raw _),?_⟩;exact wpm (j8 u t.inv (.str _ _) hz) (λr s'' hh1=>by obtain ⟨a,b⟩:=hh1;exact ⟨a,t.trans b⟩)
   cases msg with
   | none=>
     obtain rfl:ws=[]:=hm;exact P.str_of_exc_none FX (by lia) hx ht (key _ _ (Tr.tok I _))
   | some x=>
     obtain ⟨tk,rfl⟩:=hm;exact P.str_of_exc_one FX (by lia) hx ht (key _ _ (.refl I))
 . subst hr
   exact wpAny_dropValue (wpAny_execs_nil ⟨rfl,t⟩)
theorem vM {k k':NameKind}{ov ov':Option PV}(hn:(σ.map (λe=>e.1)).Nodup)(h1:(x,k,ov)∈σ)(h2:(x,k',ov')∈σ):ov=ov':=
 congrArg (·.2) (Option.some.inj ((aY hn h1).symm.trans (aY hn h2)))
theorem aAi {k:NameKind}{ov:Option PV}{σ:St}(hm:(x,k,ov)∈σ):∃σ',Rep x p k σ σ'/\(x,k,some p)∈σ'/\∀e∈σ,e.1≠x->e∈σ':=by
 induction σ with
 | nil=>exact (Be hm).elim
 | cons e r ih=>
   rcases mcp hm with rfl | h
   . exact ⟨_,.head,.head _,fmc ⟨λhne=>absurd rfl hne,λe h O=>.tail _ h⟩⟩
   . obtain ⟨σ',h1,h2,h3⟩:=ih h
     exact ⟨_,.tail h1,.tail _ h2,fmc ⟨λO=>.head _,λe h hne=>.tail _ (h3 e h hne)⟩⟩
theorem Fo (e:a9 B fi env)(I:Inv B H s)(F:aA s H σ' env B)(hx:(x,NameKind.local,some p)∈σ')(hk:σ.map (λe=>(e.1,e.2.1))=σ'.map (λe=>(e.1,e.2.1)))
   (hs:∀y k ov,(y,k,ov)∈σ->(y=x/\ov=Option.none)\/(y≠x/\(y,k,ov)∈σ')) :
   wpAny (model B.prog B.w) A (do bindName env x .none;unbindBehindTheSuite env x pos) (λO s'=>Tr (bT env) s' H s H B/\aA s' H σ env B) E s:=by
 have hkx:=F.kindOf hx;obtain ⟨m,hns,hm⟩:=F.ns;refine wpAny_nameGoes_keeps hkx hns (by rw [e.kindF];rfl) λh' v hn' hs'=>⟨Tr.own1 F I hs',F.upd hs' (hk.trans F.keys) hn' (λy q hy=>?_) λe he hk'=>(hs _ _ _ he).elim (λq=>?_) λq=>q.2⟩
 . rcases hs y _ _ hy with q | q
   . exact (by cases (q.2))
   . rw [if_neg q.1]
     exact (hm y _ q.2).mono (F.loc_but hs') λO O t=>t
 . have h1:(e.1,e.2.1)∈env.scope.names:=F.keys▸hk▸Bk (f:=λe:Str×NameKind×Option PV=>(e.1,e.2.1)) he
   exact (hk' (Option.some.inj ((aY F.nodup h1).symm.trans (q.1▸hkx)))).elim
section
variable {ea t:Addr}{cls:String}{ws:List Value}(I:Inv B H s)(F:aA s H σ env B)
include I F in
end
theorem aA.ne (F:aA s H σ env B){y:Str}{k k':NameKind}{o o':Option PV}(h1:(x,k,o)∈σ)(h2:(y,k',o')∈σ)(hk:k≠k'):x≠y:=λq=>
 hk (Option.some.inj ((F.kindOf h1).symm.trans (q▸F.kindOf h2)))
inductive Nx (B:aI)(env:Env)(σ:St)(H:AH)(s:Shared)(H':AH)(fl:Flow)(s':Shared):Prop
 | mk (a:fl=.next) (t:Tr (bT env) s' H' s H B) (f:aA s' H' σ env B)
theorem Nx.up {s₀:Shared}{fl:Flow}(t:Tr noU s₀ H s H B)(x:Nx B env σ H s₀ H' fl s'):Nx B env σ H s H' fl s':=by
 obtain ⟨a,b,c⟩:=x;exact ⟨a,t.up.trans b,c⟩
end
inductive Wk:St->St->Prop
 | nil:Wk [] []
 | same {e:Str×NameKind×Option PV} {r r':St}:Wk r r'->Wk (e::r) (e::r')
 | drop {x:Str} {k:NameKind} {ov:Option PV} {r r':St}:Wk r r'->Wk ((x,k,ov)::r) ((x,k,Option.none)::r')
section
theorem Wk.keys (h:Wk σ σ'):σ'.map (λe=>(e.1,e.2.1))=σ.map (λe=>(e.1,e.2.1)):=by
 induction h with
 | nil=>rfl
 | same _ ih=>simp only [Bg,ih]
 | drop _ ih=>simp only [Bg,ih]
theorem Wk.mem (h:Wk σ σ'){k:NameKind}{ov:Option PV}(hm:(x,k,ov)∈σ'):(x,k,ov)∈σ\/(ov=Option.none/\∃ov',(x,k,ov')∈σ):=by
 induction h with
 | nil=>cases hm
 | same _ ih=>
   rcases mcp hm with e | hm
   . exact .inl (by rw [e];exact mcs)
   . exact (ih hm).imp (λq=>mcm _ q) λ⟨a,o,b⟩=>⟨a,o,mcm _ b⟩
 | drop _ ih=>
   rcases mcp hm with e | hm
   . cases e;exact .inr ⟨rfl,_,mcs⟩
   . exact (ih hm).imp (λq=>mcm _ q) λ⟨a,o,b⟩=>⟨a,o,mcm _ b⟩
theorem aA.wk (F:aA s H σ env B)(h:Wk σ σ'):aA s H σ' env B:=by
 refine ⟨F.fresh,F.apart,h.keys.trans F.keys,F.nodup,?_,λx ov hx=>?_,λx p hx=>?_⟩
 . obtain ⟨m,hns,hm⟩:=F.ns
   refine ⟨m,hns,λx p hx=>?_⟩;rcases h.mem hx with q | ⟨q,_⟩
   . exact hm x p q
   . cases q
 . have:(∃ov',((x,NameKind.cell,ov')∈σ\/(x,NameKind.free,ov')∈σ)/\(ov=ov'\/ov=Option.none)):=by
     rcases hx with hx | hx
     . rcases h.mem hx with q | ⟨q,o,q'⟩
       . exact ⟨ov,.inl q,.inl rfl⟩
       . exact ⟨o,.inl q',.inr q⟩
     . rcases h.mem hx with q | ⟨q,o,q'⟩
       . exact ⟨ov,.inr q,.inl rfl⟩
       . exact ⟨o,.inr q',.inr q⟩
   obtain ⟨ov',hm,ho⟩:=this;obtain ⟨c,w,hc,hcell,hv⟩:=F.cell x ov' hm;refine ⟨c,w,hc,hcell,?_⟩;rcases ho with rfl | rfl
   . exact hv
   . trivial
 . rcases h.mem hx with q | ⟨q,_⟩
   . exact F.glob x p q
   . cases q
theorem XsF.wk {b:List Stmt}(h:XsF B d fi H σ' b Qn Qf)(w:Wk σ σ'):XsF B d fi H σ b Qn Qf:=λA s env e R I F hfr hf=>h A s env e R I (F.wk w) hfr hf
end
section
theorem gJ {vs:Array Value}{n:Nat}(e:h.get? l=some (bf vs n)):h.IsTuple l vs:=⟨_,e,rfl,n,rfl⟩
theorem gh {it:Addr}(x:h.IsTupleIter it l i):∀o,h.get? it=some o->bW o:=by
 obtain ⟨o',ho',hc,hd⟩:=x;intro o ho;rw [ho'] at ho;cases ho;refine ⟨λ⟨vs,n,q⟩=>(by rw [hd] at q;cases q),λvs q t e=>?_⟩;rw [hd] at e;cases e;simp
inductive JU (B:aI)(it l:Addr)(items:List PV)(H:AH)(s:Shared):Prop
 | mk (vs:Array Value) (n i:Nat) (a:s.heap.IsTupleIter it l i) (b:s.heap.get? l=some (bf vs n)) (c:VRs s.heap (Trk H B) (vs.toList.drop i) items) (d:¬Trk H B l) (e:B.g.objs.size<=it) (f:¬Trk H B it)
theorem uG {it:Addr}{vs:Array Value}{items:List PV}{J:List PV->AH->Shared->Prop}(R:ai A 3)(I:Inv B H s)
   (hit:s.heap.IsTupleIter it l i)(hl:s.heap.get? l=some (bf vs n))(hv:VRs s.heap (Trk H B) (vs.toList.drop i) items)(hg:B.g.objs.size<=it)(ht:¬Trk H B it)
   (hJ:∀x xs s',items=x::xs->s'.heap.IsTupleIter it l (i+1)->bt s' (λO=>False) s H B (·=it)->J xs H s') :
   wpAny (model B.prog B.w) A (pyNext (.ref it)) (λr s₁=>match items with
     | []=>r=none/\bt s₁ (λO=>False) s H B (·=it)
     | x::xs=>∃v,r=some v/\wpAny (model B.prog B.w) A (letOwnedTupleGo tgt (.ref it) v) (λO s₂=>bt s₂ (λO=>False) s H B (·=it)/\VR s₂.heap (Trk H B) v x/\J xs H s₂) NoE s₁) NoE s:=by
 have hLo:=gh hit
 have mk:∀(h':Heap),(∀a o,s.heap.get? a=some o->a≠it->h'.get? a=some o)->s.heap.objs.size<=h'.objs.size->bt { s with heap:=h' } (λO=>False) s H B (·=it):=λh' hk hz=>
   bt.make I (λa o e hp=>hk a o e hp) hz (λp hp=>by subst hp;exact ⟨hg,ht⟩) (λp hp o ho=>by subst hp;exact hLo o ho) (λO O e O=>e) (Aa _) I.bare rfl
 cases items with
 | nil=>
   have hnil:=hv.isnil
   have hx:vs[i]?=none:=by
     rw [<-Array.getElem?_toList];exact List.getElem?_eq_none (List.drop_eq_nil_iff.mp hnil)
   exact aU (wpAny_pyNext_tuple_end R.handled hit (gJ hl) hx λh' hx' hz=>⟨rfl,mk h' (λa o e hne=>hx' a o hne e) hz⟩)
 | cons x xs=>
   obtain ⟨v,ws,hd,hr,hrs⟩:=hv.head
   have hx:vs[i]?=some v:=by
     rw [<-Array.getElem?_toList];have:=congrArg (λl=>l[0]?) hd;simpa using this
   refine wpAny_pyNext_tuple_item hit (gJ hl) hx λh' hit' hs'=>⟨v,rfl,?_⟩;have o:=mk h' (λa o e hne=>(hs'.2 a hne).trans e) (by rw [hs'.1];exact Aa _);obtain ⟨ob,ho,hc,O⟩:=id hit';refine c6 ho hc rfl ⟨o,hr.mono (λa ob e q O=>o.heap a ob e λeq=>(hLo ob (eq▸e)).1 q) λO O t=>t,hJ x xs _ rfl hit' o⟩
theorem aBj {P:Addr->Prop}{G:Nat->Prop}{deps:AH}(e:Evo B P G deps H s H' s'){it:Addr}(hp:P it)(x:s.heap.IsTupleIter it l i):s'.heap.IsTupleIter it l i:=by
 obtain ⟨o,ho,r⟩:=x;exact ⟨o,e.own _ _ ho hp,r⟩
theorem aCr {it:Addr}(x:s.heap.IsTupleIter it l i):it<s.heap.objs.size:=by
 obtain ⟨o,ho,O⟩:=x;exact Heap.lt_size ho
theorem FO (tgt:Expr)(it l:Addr):mS B [] tgt (.ref it) (·=it) (λO=>False) (JU B it l) where
 self:=λitems H s A E Q j q=>by
   obtain ⟨vs,n,i,hit,O,O,O,O,O⟩:=j;exact wpAny_pyIter_tupleiter hit q
 notseq:=λitems H s j p hp o ho=>by
   obtain ⟨vs,n,i,hit,O,O,O,O,O⟩:=j;subst hp;exact (gh hit o ho).1
 stable:=λitems H s H' s' ⟨vs,n,i,hit,hl,hv,hn,hg,ht⟩ e=>
   ⟨vs,n,i,aBj e rfl hit,e.seq _ _ hl ⟨_,_,rfl⟩ hn,e.vrs hv,e.trk (Heap.lt_size hl) hn,hg,e.trk (aCr hit) ht⟩
 next:=λitems H s A ⟨vs,n,i,hit,hl,hv,hn,hg,ht⟩ R I=>by
   refine uG R I hit hl hv hg ht λx xs s' hi hit' o=>?_;subst hi;obtain ⟨v,ws,hd,hr,hrs⟩:=hv.head;refine ⟨vs,n,i+1,hit',o.heap _ _ hl λeq=>(gh hit _ (eq▸hl)).1 ⟨_,_,rfl⟩,?_,hn,hg,ht⟩;have:vs.toList.drop (i+1)=ws:=by rw [<-Bn,hd];rfl
   rw [this];exact hrs.mono (λa ob e q O=>o.heap a ob e λeq=>(gh hit ob (eq▸e)).1 q) λO O t=>t
theorem F3 :({ s with heap:=s.heap.push { cls:=.type "tuple_iterator",data:=.fields #[.ref l,.int 0 0] } }:Shared).heap.IsTupleIter s.heap.objs.size l 0:=
 ⟨_,Heap.get?_push_size _ rfl,rfl,rfl⟩
set_option tactic.hygienic true in
theorem dO {Q:IQ}(h:Q xs [] H):r7 B d E tgt (.tup xs) H Q:=λA s R I va r=>by
 cases r with
 | tup ho hn hs=>
   rename_i a vs n;refine wpAny_pyIter_tuple (gJ ho) ?_;have t:=Tr.push I { cls:=.type "tuple_iterator",data:=.fields #[.ref a,.int 0 0] }
   exact i4.made ⟨xs,[],H,_,_,_,t,FO tgt s.heap.objs.size a,⟨vs,n,0,F3,Heap.get?_push_of_some _ ho,hs.tr t,hn,I.size,aS I⟩,
     λp hp=>by subst hp;exact ⟨Aa _,cG,aS I⟩,λ_ f=>f.elim,(λ_ hm=>(by cases hm)),h⟩
end
section
theorem aDa {op:BoolOp}(h:Ev E B d fi σ H e Q):Ev E B d fi σ H (.BoolOp op [e] pos) Q:=λA s env eo R I F=>BoolOp_one (h A s env eo R I F)
theorem aBw {e₁ e₂:Expr}{rest:List Expr}
   (h:Ev E B d fi σ H e₁ λv H₁=>Tru B d E v H₁ λc H₂=>if c=true then Ev E B d fi σ H₂ (.BoolOp .And (e₂::rest) pos) Q else Q v H₂):Ev E B d fi σ H (.BoolOp .And (e₁::e₂::rest) pos) Q:=λA s env eo R I F=>by
 refine BoolOp_and (wpE (h A s env eo R I F) (λva s₁ v H₁ t₁ r₁ h₁=>?_));refine wpT (h₁ A s₁ R t₁.inv va r₁) (λc s₂ H₂ t₂ h₂=>?_)
 cases c with
 | true=>
   rw [if_pos rfl] at h₂ ⊢;exact wpm (h₂ A s₂ env eo R t₂.inv (F.tr I (t₁.trans t₂))) (λO O p=>aL.trans (t₁.trans t₂) p)
 | false=>
   rw [if_neg BW] at h₂ ⊢;exact ⟨v,H₂,t₁.trans t₂,r₁.tr t₂,h₂⟩
end
section
theorem rD {c P:Addr}{qual name:Str}{params:Arguments}{body:Expr}{clos:List (Str×Addr)}{Q:Value->Shared->Prop}(e:a9 B fi env)(I:Inv B H s)(N:ax qual pos P c B)(hfi:fi.code=some (c,P))(hcl:closureFor scope env=pure clos)
   (h:∀f pm cv ctv s',Tr noU s' H s H B->s.heap.objs.size<=f->s'.heap.get? f=some { cls:=.type "function",data:=.func (kla_fn name qual params body scope clos pm cv ctv) }->s'.heap.CodeRec cv qual->Q (.ref f) s') :
   wpAny (model B.prog B.w) A (makeFunction name qual params (.expr body) scope env [] [] [] pos pos.line) Q E s:=by
 obtain ⟨ps,hP,ht,hc⟩:=I.tabs _ N.mem;have C:CodeHd s.heap c P:=N.hd.keeps I.keep
 have ba:s.heap.BuiltinsAt B.mg P:=by
   obtain ⟨bm,o,h1,h2,h3,h4,h5,r⟩:=N.ba;exact ⟨bm,o,h1,h2,h3,h4,I.keep _ _ h5,r⟩
 have hg:=B.nsg.keeps I.keep
 cases hf:codeAmong pos ps.toList with
 | none=>
   refine kla_makeFunction hcl e.globals hg (e.code _ _ hfi) C hP ht hf (B.low _ N.mem) ba λc' ctv h' tk hx hge hlt hr hP'=>?_;have hz:s.heap.objs.size<=h'.objs.size:=ntr hge (Ac hlt);exact h _ _ _ _ _ (Tr.grown I N hP ht hc hx hz hr hP') hz (Heap.get?_push_size _ rfl) (hr.push _)
 | some cv=>
   refine kla_makeFunctionHit hcl e.globals hg (e.code _ _ hfi) C hP ht hf ba λctv h' tk hk hz=>?_;obtain ⟨qn,b1,b2⟩:=hc pos cv hf;cases b1.symm.trans (N.qn pos rfl rfl);exact h _ _ _ _ _ (Tr.ext I (λa o e=>Heap.get?_push_of_some _ (hk a o e)) (by rw [Heap.size_push];exact ntr hz (Aj _)) rfl rfl) hz (Heap.get?_push_size _ rfl) ((b2.keeps hk).push _)
structure eJ (B:aI)(f:Addr)(qual:Str)(params:Arguments)(body:Expr)(scope:Scope):Prop where
 at_:∃pm cv ctv,B.g.get? f=some { cls:=.type "function",data:=.func (kla_fn "<lambda>" qual params body scope [] pm cv ctv) }/\B.g.CodeRec cv qual
theorem fu {scope:Scope}(h:∀e∈scope.names,e.2≠.free):closureFor scope env=pure []:=by
 rw [gw λn hn=>(h _ hn rfl).elim]
 have go:∀(ns:List (Str×NameKind)) (acc:List (Str×Addr)),(∀e∈ns,e.2≠.free)->d7 env ns acc=acc:=by
   intro ns
   induction ns with
   | nil=>exact λO O=>rfl
   | cons x r ih=>
     intro acc hn;obtain ⟨n,k⟩:=x;have hn:=List.forall_mem_cons.mp hn;exact (if_neg λe=>hn.1 (eq_of_beq e)).trans (ih acc hn.2)
 rw [go _ _ h]
theorem eJ.call {qual:Str}{params:Arguments}{body:Expr}{scope:Scope}{σ₀:St}{args:List PV}{bs:List (Str×PV)}(h:eJ B f qual params body scope)
   (hb:∀pm cv ctv,cB B (kla_fn "<lambda>" qual params body scope [] pm cv ctv) args [] H bs)(hbn:(bs.map (λe=>e.1)).Nodup)(hbk:∀e∈bs,(e.1,NameKind.local)∈scope.names)
   (hsn:(scope.names.map (λe=>e.1)).Nodup)(hnc:∀e∈scope.names,e.2≠.cell)(hk:scope.kind=.function)(hco:scope.isCoroutine=false)(hge:scope.isGenerator=false)(hi:dX B bs [] scope.names σ₀)
   (hx:Ev NoE B d ⟨scope,none,qual++".<locals>.",λO=>false⟩ σ₀ H body Q):aF [] NoE H B (d+1) (.raw (.ref f)) args Q:=λA s R I fv vs kvs h1 h2 h3=>by
 obtain ⟨pm,cv,ctv,ho,hcr⟩:=h.at_;obtain ⟨O,rfl⟩:=h1.inv;refine wpAny_call ?_;refine kla_callFunE (by have:=R.depth;lia) (I.keep _ _ ho) rfl hco hge rfl (hcr.keeps I.keep) ?_;refine hb pm cv ctv _ s I vs kvs h2 h3 _ _ λbv hbv=>?_;have hn1:(bv.map (λe=>e.1)).Nodup:=hbv.2.symm▸hbn;refine wpAny_newFunctionEnv hnc (λx hx=>?_) (λh' hns hsb=>?_) hk
 . obtain ⟨e',he',hee⟩:=mmp (hbv.2▸Bk (f:=λe:Str×Value=>e.1) hx:x.1∈bs.map (λe=>e.1))
   exact aY hsn (hee▸hbk e' he')
 have t₁:Tr noU { s with heap:=h',toks:=s.toks+bv.length } H s H B:=Tr.ext I (λa o e=>(hsb.2 a (AD (Heap.lt_size e))).trans (Heap.get?_push_of_some _ e)) (by rw [hsb.1,Heap.size_push];exact Aj _) rfl rfl;refine ⟨B.nolimit.keeps t₁.inv.keep,kla_codeExpr ?_⟩;generalize henv:newEnv scope s.heap.objs.size mainGlobals [] (qual++".<locals>.") (some f) cv none builtinsNs=env;obtain ⟨hlo,hcs,hsc,hgl,hbu,hq⟩:env.locals=s.heap.objs.size/\env.cells=[]/\env.scope=scope/\env.globals=mainGlobals/\env.builtins=builtinsNs/\env.qual=qual++".<locals>.":=henv▸⟨rfl,rfl,rfl,rfl,rfl,rfl⟩;have nocell:∀x,env.kindOf x≠some .cell:=λx hm=>hnc (x,.cell) (mem_of_lookup (by unfold Env.kindOf at hm;rw [hsc] at hm;exact hm)) rfl;have mk:∀{x:Str} {k:NameKind} {ov:Option PV},(x,k,ov)∈σ₀->(x,k)∈scope.names:=λhm=>hi.keys▸Bk (f:=λe:Str×NameKind×Option PV=>(e.1,e.2.1)) hm
 have Fr:aA { s with heap:=h',toks:=s.toks+bv.length } H σ₀ env B:=by
   refine ⟨Heap.get?_none_of_le (hlo▸I.size),(λx y c hx hy=>(by cases ((hcs▸hx:([]:List (Str×Addr)).lookup x=some c)))),hi.keys.trans (hsc▸rfl),hsc▸hsn,⟨_,by rw [hlo];exact hns,λx p hm=>?_⟩,λx ov hm=>?_,λx p hm=>hi.all _ hm p rfl⟩
   . obtain ⟨v,hv,hr⟩:=VRs.zip_mem hbv.1 hbv.2 _ (hi.all _ hm p rfl)
     exact ⟨v,aY (by rw [Bs];exact List.pairwise_reverse.mpr (hn1.imp λh=>Ne.symm h)) (List.mem_reverse.mpr hv),hr.tr t₁⟩
   . rcases hm with hm | hm
     . exact absurd rfl (hnc _ (mk hm))
     . obtain ⟨p,e,q1,O⟩:=hi.all _ hm
       exact absurd q1 Be
 exact wpAny_mono (hx (A.deeper env) _ env ⟨hsc,hk,hco,hgl,hbu,hq,(λc P e=>(by cases e)),(λx O c hx O=>absurd hx (nocell x)),(λx O c hx O=>absurd hx (nocell x))⟩ (R.deeper env) t₁.inv Fr) (λv s' p=>aL.trans t₁ p) λO O x=>x.elim
theorem dK {c P:Addr}{func:Expr}{args:List Expr}{key:Str}{params:Arguments}{lb:Expr}{ls:Scope}{lp kp:Pos}{lq:Str}(N:ax lq lp P c B)(hfi:fi.code=some (c,P))(hq:fi.qual++"<lambda>" = lq)(hdef:∀env,defaultsOf params env=([],[]))(hfr:∀e∈ls.names,e.2≠.free)
   (h:Ev E B d fi σ H func λf H₁=>bo B f/\EvL B fi d E args σ H₁ λvs H₂=>∀g hk ht fl,eJ (B.up g hk ht) fl lq params lb ls->aF [(key,.raw (.ref fl))] E H₂ (B.up g hk ht) d f vs Q)
   (hp:args.all av=true)
   (hne:∃a r,args=a::r/\∀env,starEach (a::r) env=(false,eval a env)::starEach r env)
   (he:∀env,eval (.Call func args [⟨some key,.Lambda params lb ls lp,kp⟩] pos) env=(do callWith pos (<-eval func env) [] (backTo pos (starEach args env)) (backToKw pos (keywordEach [⟨some key,.Lambda params lb ls lp,kp⟩] env)))) :
   Ev E B d fi σ H (.Call func args [⟨some key,.Lambda params lb ls lp,kp⟩] pos) Q:=λA s env e R I F=>by
 rw [he env];refine wps (h A s env e R I F) (λfv s₁ hh1=>?_);obtain ⟨f,H₁,t₁,q₁,hk,h₁⟩:=hh1;obtain ⟨a,r,ea,hse⟩:=hne;subst ea;refine ae (evalArgs_kw2 rfl (wpL (ao h₁ hp A s₁ env e R t₁.inv (F.tr I t₁)) (λvs s₂ ps H₂ t₂ l₂ q₂ h₂=>?_)) (hse env));have t:=t₁.trans t₂;refine kwAll_cons (kla_eval (hdef env) ?_);rw [e.qual,hq];refine rD e t₂.inv N hfi (fu hfr) λfl pm cv ctv s₃ t₃ hf ho hr=>kwAll_nil ⟨hk A E H₂ s₃ fv t₃.inv ((q₁.tr t₂).tr t₃),?_⟩;have I₃:=t₃.inv;have F₃:=F.tr I (t.trans t₃);have pinned:∀{a:Addr} {o:Obj},s₃.heap.get? a=some o->¬Trk H₂ B a->a≠env.locals->(c9 B.g s₃.heap λa=>¬Trk H₂ B a/\a≠env.locals).get? a=some o:=λe h1 h2=>by rw [de ⟨h1,h2⟩];exact e
 have L:eJ (B.up _ (f6 I₃ F₃) (gC I₃)) fl lq params lb ls:=⟨pm,cv,ctv,pinned ho (b9 I₃ ho (λO O=>(by intros;first | contradiction | (intro q;cases q))) (λO=>(by intros;first | contradiction | (intro q;cases q)))) (F₃.nloc ho (λO O=>(by intros;first | contradiction | (intro q;cases q)))),gU I₃ hr λa o vs e d n=>pinned e n (F₃.nloc e λO O=>by rw [d];(intros;first | contradiction | (intro q;cases q)))⟩;refine wpE (h₂ _ _ _ fl L A s₃ R (I₃.pin F₃) fv vs _ ((q₁.tr t₂).tr t₃) (q₂.tr t₃) ⟨.cons (.raw _) .nil,rfl⟩) (λr s' v H' t' r' q'=>?_);exact ⟨v,H',(t.trans t₃).trans (t'.down (by rw [c0];exact I₃.size)),r',q'⟩
theorem oH {func:Expr}{args:List Expr}{key:Str}{x:Expr}{kp:Pos}
   (h:Ev E B d fi σ H func λf H₁=>bo B f/\EvL B fi d E args σ H₁ λvs H₂=>Ev E B d fi σ H₂ x λkv H₃=>aF [(key,kv)] E H₃ B d f vs Q)
   (hp:args.all av=true)(hne:∃a r,args=a::r/\∀env,starEach (a::r) env=(false,eval a env)::starEach r env)
   (he:∀env,eval (.Call func args [⟨some key,x,kp⟩] pos) env=(do callWith pos (<-eval func env) [] (backTo pos (starEach args env)) (backToKw pos (keywordEach [⟨some key,x,kp⟩] env)))) :
   Ev E B d fi σ H (.Call func args [⟨some key,x,kp⟩] pos) Q:=λA s env e R I F=>by
 rw [he env];refine wps (h A s env e R I F) (λfv s₁ hh1=>?_);obtain ⟨f,H₁,t₁,q₁,hk,h₁⟩:=hh1;obtain ⟨a,r,ea,hse⟩:=hne;subst ea;refine ae (evalArgs_kw2 rfl (wpL (ao h₁ hp A s₁ env e R t₁.inv (F.tr I t₁)) (λvs s₂ ps H₂ t₂ l₂ q₂ h₂=>?_)) (hse env));have t:=t₁.trans t₂;refine kwAll_cons (wpE (h₂ A s₂ env e R t₂.inv (F.tr I t)) (λkv s₃ kp H₃ t₃ q₃ h₃=>?_));refine kwAll_nil ⟨hk A E H₃ s₃ fv t₃.inv ((q₁.tr t₂).tr t₃),?_⟩;exact wpm (h₃ A s₃ R t₃.inv fv vs _ ((q₁.tr t₂).tr t₃) (q₂.tr t₃) ⟨.cons q₃ .nil,rfl⟩) (λO O p=>p.trans (t.trans t₃))
end
section
open Lean
noncomputable abbrev ly (a x lo hi ky:PV):List (Str×PV):=[(Ω "a",a),(Ω "x",x),(Ω "lo",lo),(Ω "hi",hi),(Ω "key",ky)]
noncomputable abbrev iV (a x lo hi:PV)(k:Addr)(mid:Option PV):St:=[(Ω "a",.local,some a),(Ω "x",.local,some x),(Ω "lo",.local,some lo),(Ω "hi",.local,some hi),(Ω "key",.local,some (.raw (.ref k))),(Ω "mid",.local,mid),
 (Ω "ValueError",.globalImplicit,some (.raw (.type "ValueError"))),(Ω "len",.globalImplicit,some (.raw (.builtin "len")))]
inductive zU (H:AH)(a x:PV)(k:Addr)(c lo hi n:Nat):Nat->SQ
 | mk {lo' hi':Nat} (mid:Option PV) (h:clp c lo' hi'=clp c lo hi) (hn:hi'<=n):zU H a x k c lo hi n (hi'-lo') (iV a x (.int lo') (.int hi') k mid) H
structure d9 (B:aI)(H:AH)(d:Nat)(k:Addr)(xs:List PV)(f:PV->PV):Prop where
 keep:bo B (.raw (.ref k))
 call:∀y∈xs,∀Q:PQ,Q (f y) H->aF [] NoE H B d (.raw (.ref k)) [y] Q
set_option tactic.hygienic true in
theorem ug {a x hv:PV}{k:Addr}{f:PV->PV}{lo hi c:Nat}(K:d9 B H d k xs f)(ha:aT H a xs)(hh:kY hv hi xs.length)(hn:xs.length<2 ^ 60)
   (hlt:∀(d:Nat) m y,xs[m]?=some y->P2 (compareOp .Lt) (f y) x (.bool (decide (m<c))))(q:Q (.int (clp c lo hi)) H) :
   Xs NoE B d (d8 cZ "bisect_left") H (iV a x (.int lo) hv k none) (aZ (aJ cZ)) (λ_ H'=>Q .none H') (PX Q):=by
 refine' aH ?_;ext;refine' mY (Int.not_lt.mpr (B2 _)) ?_;refine' dB (aH (D7 (S:=iV a x (.int lo) (.int hi) k none) ?_ ?_))
 . ext
   rcases hh with ⟨rfl,rfl⟩ | ⟨rfl,_⟩
   . ext
     refine' ifp rfl ?_;ext;refine ⟨aB,?_⟩;ext;refine ac ha hn ?_;ext;exact ⟨rfl,rfl⟩
   . ext
     refine' ifn BW ?_;ext;exact ⟨rfl,rfl⟩
 ext;refine di ?_;refine' dC ?_;refine' ifn BW ?_;refine' aH (ec (zU H a x k c lo hi xs.length) ⟨none,rfl,hh.le⟩ ?_)
 rintro _ _ _ ⟨mid,hb,hle'⟩
 rename_i lo' hi';ext;by_cases hc:lo'<hi'
 . refine' ifp (decide_eq_true (Int.ofNat_lt.mpr hc)) ?_
   ext;refine' d5 ∅ (ik ∅) ?_;rw [jQ];ext;have hm:(lo'+hi')/2<xs.length:=nlt (fD hc) hle';refine ⟨K.keep,?_⟩;ext;refine ⟨aK ha,?_⟩;refine gO ha hm hn ?_;ext;refine K.call _ (BF hm) _ ?_;ext;refine' rp (hlt d _ _ (List.getElem?_eq_getElem hm)) ?_;ext;by_cases hp:(lo'+hi')/2<c
   . refine' rq hp ?_
     ext;exact ⟨_,lf hc,⟨_,(qo hc hp).trans hb,hle'⟩⟩
   . refine' mY hp ?_
     ext;exact ⟨_,lO hc,⟨_,(qH hc hp).trans hb,Ac hm⟩⟩
 . refine' ifn (λe=>hc (Int.ofNat_lt.mp (of_decide_eq_true e))) ?_
   ext;rw [k2 hc] at hb;rw [<-hb] at q;exact q
set_option tactic.hygienic true in
theorem lS {a x hv:PV}{k:Addr}{f:PV->PV}{lo hi c:Nat}(K:d9 B H d k xs f)(ha:aT H a xs)(hh:kY hv hi xs.length)(hn:xs.length<2 ^ 60)
   (hlt:∀(d:Nat) m y,xs[m]?=some y->P2 (compareOp .Lt) x (f y) (.bool (!decide (m<c))))(q:Q (.int (clp c lo hi)) H) :
   Xs NoE B d (d8 bq "bisect_right") H (iV a x (.int lo) hv k none) (aZ (aJ bq)) (λ_ H'=>Q .none H') (PX Q):=by
 refine' aH ?_;ext;refine' mY (Int.not_lt.mpr (B2 _)) ?_;refine' dB (aH (D7 (S:=iV a x (.int lo) (.int hi) k none) ?_ ?_))
 . ext
   rcases hh with ⟨rfl,rfl⟩ | ⟨rfl,_⟩
   . ext
     refine' ifp rfl ?_;ext;refine ⟨aB,?_⟩;ext;refine ac ha hn ?_;ext;exact ⟨rfl,rfl⟩
   . ext
     refine' ifn BW ?_;ext;exact ⟨rfl,rfl⟩
 ext;refine di ?_;refine' dC ?_;refine' ifn BW ?_;refine' aH (ec (zU H a x k c lo hi xs.length) ⟨none,rfl,hh.le⟩ ?_)
 rintro _ _ _ ⟨mid,hb,hle'⟩
 rename_i lo' hi';ext;by_cases hc:lo'<hi'
 . refine' ifp (decide_eq_true (Int.ofNat_lt.mpr hc)) ?_
   ext;refine' d5 ∅ (ik ∅) ?_;rw [jQ];ext;have hm:(lo'+hi')/2<xs.length:=nlt (fD hc) hle';refine ⟨K.keep,?_⟩;ext;refine ⟨aK ha,?_⟩;refine gO ha hm hn ?_;ext;refine K.call _ (BF hm) _ ?_;ext;refine' rp (hlt d _ _ (List.getElem?_eq_getElem hm)) ?_;ext;by_cases hp:(lo'+hi')/2<c
   . refine' aC4 hp ?_
     ext;exact ⟨_,lf hc,⟨_,(qo hc hp).trans hb,hle'⟩⟩
   . refine' aB5 hp ?_
     ext;exact ⟨_,lO hc,⟨_,(qH hc hp).trans hb,Ac hm⟩⟩
 . refine' ifn (λe=>hc (Int.ofNat_lt.mp (of_decide_eq_true e))) ?_
   ext;rw [k2 hc] at hb;rw [<-hb] at q;exact q
theorem lm {T D:Addr}{t:Tok}{name:Str}{doc pm ct:Value}{v u z ky:Value}:b0 S [bf #[.int 0 t,.none] n] (bindArgs (ko cZ name T D doc pm an cdv ct) ⟨[v,w,u,z],[(Ω "key",ky)]⟩)=some ([T],dn v w u z ky):=by kernel_rfl
theorem lQ {T D:Addr}{t:Tok}{name:Str}{doc pm ct:Value}{v u z ky:Value}:b0 S [bf #[.int 0 t,.none] n] (bindArgs (ko bq name T D doc pm an cdv ct) ⟨[v,w,u,z],[(Ω "key",ky)]⟩)=some ([T],dn v w u z ky):=by kernel_rfl
theorem t9 {T D:Addr}{t:Tok}{name:Str}{doc pm ct:Value}{v ky:Value}:b0 S [bf #[.int 0 t,.none] n] (bindArgs (ko bq name T D doc pm an cdv ct) ⟨[v,w],[(Ω "key",ky)]⟩)=some ([T],dn v w (.int 0 t) .none ky):=by kernel_rfl
theorem jd {fd:Value->Value->FuncData}{kvs:List (Str×Value)}{bv:Tok->List (Str×Value)}(D:aw B dV kV)(I:Inv B H s){Q:List (Str×Value)->Shared->Prop}
   (h:∀T D n t,b0 ⟨B.prog,B.w.params⟩ [bf #[.int 0 t,.none] n] (bindArgs (fd (.ref T) (.ref D)) ⟨vs,kvs⟩)=some ([T],bv t))(q:∀t,Q (bv t) s):wpAny (model B.prog B.w) A (bindArgs (fd dV kV) ⟨vs,kvs⟩) Q E s:=by
 obtain ⟨T,n,t,rfl,e1⟩:=D.d;obtain ⟨D',hs,tk,m,rfl,e2⟩:=D.k;exact bc (os:=[bf #[.int 0 t,.none] n]) (h T D' n t) (λe he=>msp he▸I.keep _ _ e1) (q t)
theorem i6 {a x lo hi ky:PV}{fd:Value->Value->FuncData}(D:aw B dV kV)(hf:∀(S:Setting) T D n t v w u z ky,b0 S [bf #[.int 0 t,.none] n] (bindArgs (fd (.ref T) (.ref D)) ⟨[v,w,u,z],[(Ω "key",ky)]⟩)=some ([T],dn v w u z ky)) :
   cB B (fd dV kV) [a,x,lo,hi] [(Ω "key",ky)] H (ly a x lo hi ky):=λA s I vs kvs h1 h2 E Q hQ=>by
 obtain ⟨v,w,u,z,rfl,r1,r2,r3,r4⟩:=h1.four;obtain ⟨kv,rfl,r5⟩:=h2.one;exact jd D I (bv:=λO=>dn v w u z kv) (λT D n t=>hf _ T D n t v w u z kv) λt=>hQ _ (.cons r1 (.cons r2 (.cons r3 (.cons r4 (.cons r5 .nl)))))
theorem EB {a x ky:PV}{fd:Value->Value->FuncData}(D:aw B dV kV)(hf:∀(S:Setting) T D n t v w ky,b0 S [bf #[.int 0 t,.none] n] (bindArgs (fd (.ref T) (.ref D)) ⟨[v,w],[(Ω "key",ky)]⟩)=some ([T],dn v w (.int 0 t) .none ky)) :
   cB B (fd dV kV) [a,x] [(Ω "key",ky)] H (ly a x (.int 0) .none ky):=λA s I vs kvs h1 h2 E Q hQ=>by
 obtain ⟨v,w,rfl,r1,r2⟩:=h1.two;obtain ⟨kv,rfl,r5⟩:=h2.one;exact jd D I (bv:=λt=>dn v w (.int 0 t) .none kv) (λT D n t=>hf _ T D n t v w kv) λt=>hQ _ (.cons r1 (.cons r2 (.cons (.int _ _) (.cons .none (.cons r5 .nl)))))
theorem mt {a x lo hi:PV}{k:Addr}(gV:aC B "ValueError" (.raw (.type "ValueError")))(gl:aC B "len" (.raw (.builtin "len"))):Ini B (ly a x lo hi (.raw (.ref k))) (aG (aJ cZ)).names (iV a x lo hi k none):=by
 refine .arg (by walk_at "mm") (.inl rfl) (.arg (by walk_at "mm") (.inl rfl) (.arg (by walk_at "mm") (.inl rfl) (.arg (by walk_at "mm") (.inl rfl) (.arg (by walk_at "mm") (.inl rfl) (.unset (.glob gV (.glob gl .nil)))))))
theorem jm {a x lo hi:PV}{k:Addr}(gV:aC B "ValueError" (.raw (.type "ValueError")))(gl:aC B "len" (.raw (.builtin "len"))):Ini B (ly a x lo hi (.raw (.ref k))) (aG (aJ bq)).names (iV a x lo hi k none):=by
 refine .arg (by walk_at "mm") (.inl rfl) (.arg (by walk_at "mm") (.inl rfl) (.arg (by walk_at "mm") (.inl rfl) (.arg (by walk_at "mm") (.inl rfl) (.arg (by walk_at "mm") (.inl rfl) (.unset (.glob gV (.glob gl .nil)))))))
section
variable {a x hv:PV}{k:Addr}{fk:PV->PV}{lo hi c:Nat}(D:aw B dV kV)(gV:aC B "ValueError" (.raw (.type "ValueError")))(gl:aC B "len" (.raw (.builtin "len")))(K:d9 B H d k xs fk)(ha:aT H a xs)(hn:xs.length<2 ^ 60)
include D gV gl K ha hn
theorem kL (h:af dV kV cZ "bisect_left" f cdv B)(hh:kY hv hi xs.length)(hlt:∀(d:Nat) m y,xs[m]?=some y->P2 (compareOp .Lt) (fk y) x (.bool (decide (m<c))))(q:Q (.int (clp c lo hi)) H) :
   aF [(Ω "key",.raw (.ref k))] NoE H B (d+1) (.raw (.ref f)) [a,x,.int lo,hv] Q:=
 h.call (λdoc pm an ct=>i6 (fd:=λdV kV=>bN "bisect_left" cZ dV kV doc pm an cdv ct) D λS T D n t v w u z ky=>lm) rfl ki (mt gV gl) (ug K ha hh hn hlt q)
theorem kK (h:af dV kV bq "bisect_right" f cdv B)(hh:kY hv hi xs.length)(hlt:∀(d:Nat) m y,xs[m]?=some y->P2 (compareOp .Lt) x (fk y) (.bool (!decide (m<c))))(q:Q (.int (clp c lo hi)) H) :
   aF [(Ω "key",.raw (.ref k))] NoE H B (d+1) (.raw (.ref f)) [a,x,.int lo,hv] Q:=
 h.call (λdoc pm an ct=>i6 (fd:=λdV kV=>bN "bisect_right" bq dV kV doc pm an cdv ct) D λS T D n t v w u z ky=>lQ) rfl iy (jm gV gl) (lS K ha hh hn hlt q)
theorem rV (h:af dV kV bq "bisect_right" f cdv B)(hlt:∀(d:Nat) m y,xs[m]?=some y->P2 (compareOp .Lt) x (fk y) (.bool (!decide (m<c))))(q:Q (.int (clp c 0 xs.length)) H) :
   aF [(Ω "key",.raw (.ref k))] NoE H B (d+1) (.raw (.ref f)) [a,x] Q:=
 h.call (λdoc pm an ct=>EB (fd:=λdV kV=>bN "bisect_right" bq dV kV doc pm an cdv ct) D λS T D n t v w ky=>t9) rfl iy (jm gV gl) (lS (lo:=0) (hi:=xs.length) K ha (.inl ⟨rfl,rfl⟩) hn hlt q)
end
end
section
noncomputable def XsT (n:Nat)(B:aI)(d:Nat)(fi:aN)(H:AH)(σ:St)(b:List Stmt)(Qn:SQ)(Qf:FQ):Prop:=
 ∀A s env,a9 B fi env->ai A d->Inv B H s->aA s H σ env B->A.frames=some [env]->env.frame=some env.locals->n<=s.toks->
   wpAny (model B.prog B.w) A (execs b env) (fE B env H s Qn Qf) NoE s
theorem XsT.of {b:List Stmt}(h:XsF B d fi H σ b Qn Qf):XsT n B d fi H σ b Qn Qf:=λA s env e R I F hfr hf O=>h A s env e R I F hfr hf
theorem bK {st:Stmt}(h:X B fi d NoE st σ H (λσ' H'=>XsT n B d fi H' σ' rest Qn Qf) Qf) :
   XsT n B d fi H σ (st::rest) Qn Qf:=λA s env e R I F hfr hf hn=>by
 refine wpAny_execs_cons (wpAny_mono (wpAny_toks_of hn (h A s env e R I F)) (λfl s₁ hh0=>?_) λO O x=>x.2);obtain ⟨hn₁,hh1⟩:=hh0;obtain ⟨σ₁,H₁,t₁,F₁,q⟩:=hh1;rcases q with ⟨rfl,q⟩ | ⟨pf,hf',q⟩
 . exact wpm (q A s₁ env e R t₁.inv F₁ hfr hf hn₁) (λfl' s₂ hh1=>by obtain ⟨σ₂,H₂,t₂,F₂,q₂⟩:=hh1;exact ⟨σ₂,H₂,t₁.trans t₂,F₂,q₂⟩)
 . cases fl with
   | next=>cases pf <;> exact hf'.elim
   | brk=>exact ⟨σ₁,H₁,t₁,F₁,.inr ⟨pf,hf',q⟩⟩
   | cont=>exact ⟨σ₁,H₁,t₁,F₁,.inr ⟨pf,hf',q⟩⟩
   | ret v=>exact ⟨σ₁,H₁,t₁,F₁,.inr ⟨pf,hf',q⟩⟩
noncomputable abbrev CL (cs:List (Str×Nat×Pos)):List Expr:=cs.map λc=>.Constant (.str c.1) c.2.1 c.2.2
noncomputable def m5:Nat->List (Str×Nat×Pos)->List Value
 | _,[]=>[]
 | n,c::cs=>.str c.1 n::m5 (n+1) cs
theorem sL:∀(n:Nat) (cs:List (Str×Nat×Pos)),(m5 n cs).length=cs.length
 | _,[]=>rfl
 | n,_::cs=>congrArg (· + 1) (sL (n+1) cs)
theorem p7 :∀(cs:List (Str×Nat×Pos)) (s:Shared) (Q:List Value->Shared->Prop),Q (m5 s.toks cs) { s with toks:=s.toks+cs.length }->
   wpAny (model B.prog B.w) A (spliced (backTo pos (starEach (CL cs) env))) Q E s:=by
 intro cs
 induction cs with
 | nil=>
   intro s Q h;exact Calls.spliced_nil h
 | cons c cs ih=>
   intro s Q h;refine args_cons (Calls.Constant_str ?_) (bJ rfl);refine ih { s with toks:=s.toks+1 } _ ?_;show Q (m5 s.toks (c::cs)) { s with toks:=s.toks+1+cs.length };rw [A8,AC];exact h
theorem v9 :∀vs:List Value,VRs h T vs (vs.map PV.raw)
 | []=>.nil
 | v::vs=>.cons (.raw v) (v9 vs)
theorem zZ {np lp:Pos}{cs:List (Str×Nat×Pos)}{k:NameKind}{σ':Nat->St}(hl:cs.length<=64)
   (hr:∀m,Rep x (.list ((m5 m cs).map PV.raw)) k σ (σ' m))(hk:bD fi k)
   (hs:∀env,swapsWith (.List (CL cs) lp) (some (.Name x np)) pos.line env=pure false)
   (h:∀m,n<=m->XsT (m+cs.length) B d fi H (σ' m) rest Qn Qf):XsT n B d fi H σ (.Assign [.Name x np] (.List (CL cs) lp) pos::rest) Qn Qf:=λA s env e R I F hfr hf hn=>by
 refine wpAny_execs_cons (wpAny_Assign_Name (List_ (p7 cs s _ ?_)) (hs env));refine wpAny_newList ?_ (pV (by rw [sL];exact hl));have t₁:=(Tr.tok I (s.toks+cs.length)).trans (Tr.push (I.tok _) (aO (m5 s.toks cs).toArray 0));refine wpAny_mono (wpAny_toks_of (Aa _) (dD e t₁.inv (F.tr I t₁) (.list (Heap.get?_push_size _ rfl) (aS (I.tok _)) (v9 _)) (hr s.toks) hk)) (λO s₂ hh1=>?_) λO O x=>x.2;obtain ⟨hn₂,t₂,F₂⟩:=hh1;exact wpm (h s.toks hn A s₂ env e R t₂.inv F₂ hfr hf hn₂) (λfl' s₃ hh1=>by obtain ⟨σ₃,H₃,t₃,F₃,q₃⟩:=hh1;exact ⟨σ₃,H₃,(t₁.up.trans t₂).trans t₃,F₃,q₃⟩)
end
section
theorem b5 {st:Stmt}(h:XN k B fi d E st σ H (λσ' H'=>XsN k B fi d E rest σ' H' Qn Qf) Qf) :
   XsN k B fi d E (st::rest) σ H Qn Qf:=λA s env e R I F hk=>by
 refine wpAny_execs_cons (wpAny_mono (wpAny_toks_of hk (h A s env e R I F hk)) (λfl s₁ hh0=>?_) λO O x=>x.2);obtain ⟨hk₁,hh1⟩:=hh0;obtain ⟨σ₁,H₁,t₁,F₁,q⟩:=hh1;rcases q with ⟨rfl,q⟩ | ⟨pf,hf',q⟩
 . exact wpm (q A s₁ env e R t₁.inv F₁ hk₁) (λfl' s₂ hh1=>by obtain ⟨σ₂,H₂,t₂,F₂,q₂⟩:=hh1;exact ⟨σ₂,H₂,t₁.trans t₂,F₂,q₂⟩)
 . cases fl with
   | next=>cases pf <;> exact hf'.elim
   | brk=>exact ⟨σ₁,H₁,t₁,F₁,.inr ⟨pf,hf',q⟩⟩
   | cont=>exact ⟨σ₁,H₁,t₁,F₁,.inr ⟨pf,hf',q⟩⟩
   | ret v=>exact ⟨σ₁,H₁,t₁,F₁,.inr ⟨pf,hf',q⟩⟩
theorem xH {st:Stmt}(h:XN k B fi d NoE st σ H (λσ' H'=>XsT k B d fi H' σ' rest Qn Qf) Qf) :
   XsT k B d fi H σ (st::rest) Qn Qf:=λA s env e R I F hfr hf hk=>by
 refine wpAny_execs_cons (wpAny_mono (wpAny_toks_of hk (h A s env e R I F hk)) (λfl s₁ hh0=>?_) λO O x=>x.2);obtain ⟨hk₁,hh1⟩:=hh0;obtain ⟨σ₁,H₁,t₁,F₁,q⟩:=hh1;rcases q with ⟨rfl,q⟩ | ⟨pf,hf',q⟩
 . exact wpm (q A s₁ env e R t₁.inv F₁ hfr hf hk₁) (λfl' s₂ hh1=>by obtain ⟨σ₂,H₂,t₂,F₂,q₂⟩:=hh1;exact ⟨σ₂,H₂,t₁.trans t₂,F₂,q₂⟩)
 . cases fl with
   | next=>cases pf <;> exact hf'.elim
   | brk=>exact ⟨σ₁,H₁,t₁,F₁,.inr ⟨pf,hf',q⟩⟩
   | cont=>exact ⟨σ₁,H₁,t₁,F₁,.inr ⟨pf,hf',q⟩⟩
   | ret v=>exact ⟨σ₁,H₁,t₁,F₁,.inr ⟨pf,hf',q⟩⟩
end
section
noncomputable def EvN (k:Nat)(B:aI)(fi:aN)(d:Nat)(E:EP)(e:Expr)(σ:St)(H:AH)(Q:PQ):Prop:=
 ∀A s env,a9 B fi env->ai A d->Inv B H s->aA s H σ env B->k<=s.toks->wpAny (model B.prog B.w) A (eval e env) (aL B H s Q) E s
theorem EvN.of (h:Ev E B d fi σ H e Q):EvN k B fi d E e σ H Q:=λA s env eo R I F O=>h A s env eo R I F
theorem kM {o a:Expr}{z:Str}{kz:Nat}{ap pz:Pos}
   (h:EvN k B fi d E o σ H λov H₁=>∃x,ov=.str x/\Ev E B d fi σ H₁ a λw H₂=>∃y t,w=.raw (.str y t)/\t≠0/\t<k/\(y==z)=false/\x.length+(x.length+1)*z.length<=16777216/\Q (.str (Txt.replace x y z)) H₂)
   (hp:av a=true)
   (he:∀env,eval (.Call (.Attribute o "replace" ap) [a,.Constant (.str z) kz pz] [] pos) env=(do
     let ov<-eval o env
     standAt ap.atName
     let (f,first)<-holding [ov] (getMethod ov "replace" (do return (<-importBound o env).getD true))
     callWith pos f first (backTo pos (starEach [a,.Constant (.str z) kz pz] env)) [])) :
   EvN k B fi d E (.Call (.Attribute o "replace" ap) [a,.Constant (.str z) kz pz] [] pos) σ H Q:=λA s env e R I F hk=>by
 refine MethodCall_ (wpAny_mono (wpAny_toks_of hk (h A s env e R I F hk)) (λov s₁ hh1=>?_) λO O x=>x.2) (he env);obtain ⟨hk₁,p,H₁,t₁,r₁,x,rfl,h₁⟩:=hh1;refine py A E s₁ ov t₁.inv r₁ _ _ ?_;have F₁:=F.tr I t₁;refine ae (au (by show (av a && true)=true;rw [hp];rfl) (args_cons (wpAny_mono (wpAny_toks_of hk₁ (h₁ A s₁ env e R t₁.inv F₁)) (λw s₂ hh1=>?_) λO O x=>x.2) (bJ hp)));obtain ⟨hk₂,p₂,H₂,t₂,r₂,y,t,rfl,ht0,htk,hyz,hb,q⟩:=hh1;refine args_cons (Calls.Constant_str (Calls.spliced_nil ?_)) (bJ rfl);refine ⟨λQ' hQ'=>wpAny_pure (hQ' _),?_⟩;obtain ⟨tx,rfl⟩:=r₁.inv;obtain rfl:=r₂.inv;have hlt:t<s₂.toks:=nlt htk hk₂;exact SC.replace ht0 (Ax (Ae (Ab _) hlt)) (AD hlt) hyz hb λt' k'=>⟨_,_,((t₁.trans t₂).trans (Tr.tok t₂.inv _)).trans (Tr.tok (t₂.inv.tok _) _),.str _ _,q⟩
theorem F4 {v:Value}{t:Nat}(r:VR h T v (.raw (.str x t))):VR h T v (.str x):=by
 obtain rfl:=r.inv;exact .str _ _
theorem CJ (h:Ev E B d fi σ H e λv H₁=>∃x t,v=.raw (.str x t)/\Q (.str x) H₁):Ev E B d fi σ H e Q:=λA s env eo R I F=>
 wpm (h A s env eo R I F) (λv s₁ hh1=>by obtain ⟨p,H₁,t₁,r₁,x,t,rfl,q⟩:=hh1;exact ⟨_,_,t₁,F4 r₁,q⟩)
end
section
theorem xA {c P:Addr}{name:Str}(h:af dV kV k name f (.ref c) B){args:List PV}{kw bs:List (Str×PV)}{nm:List Str}{σ₀:St}
   (hb:∀doc pm an ct,cB B (bN name k dV kV doc pm an (.ref c) ct) args kw H bs)(hnm:bs.map (λe=>e.1)=nm)(hc:bb nm (aG (aJ k))=true)
   (hi:Ini B bs (aG (aJ k)).names σ₀)(hx:XsF B d ⟨aG (aJ k),some (c,P),name++".<locals>.",λO=>false⟩ H σ₀ (aZ (aJ k)) (λO H'=>Q .none H') (PX Q)) :
   ∀A s,ai A (d+1)->A.frames=some []->Inv B H s->∀fv vs kvs,VR s.heap (Trk H B) fv (.raw (.ref f))->VRs s.heap (Trk H B) vs args->dE (Trk H B) s.heap kvs kw->
   wpAny (model B.prog B.w) A (call fv vs kvs) (aL B H s Q) NoE s:=by
 obtain ⟨oc,od,osl,doc,pm,an,ct,ho⟩:=h.at_;exact yZ (fd:=bN name k dV kV doc pm an (.ref c) ct) (cp:=some (c,P)) (λs I=>I.keep _ _ ho) rfl rfl (λs I=>h.code.keeps I.keep) (eZ hc) (ip hc) (f5 hc) rfl rfl (λO O h=>by cases h;rfl) (hb doc pm an ct)
   (by rw [hnm];exact dw hc) (λe he=>f9 hc _ (by rw [<-hnm];exact mmr ⟨e,he,rfl⟩)) (dq hc) (eK hc) hi hx
theorem XsF.floor {b:List Stmt}(h:XsT 0 B d fi H σ b Qn Qf):XsF B d fi H σ b Qn Qf:=λA s env e R I F hfr hf=>h A s env e R I F hfr hf (Ab _)
end
noncomputable def cat (a b:St):St:=a++b
section
variable {k:NameKind}{e:Str×NameKind×Option PV}{a b a' b':St}
theorem Has.inl (h:Has e a):Has e (cat a b):=by
 induction h with
 | head=>exact .head
 | tail _ ih=>exact .tail ih
theorem Has.inr (h:Has e b):Has e (cat a b):=by
 induction a with
 | nil=>exact h
 | cons _ _ ih=>exact .tail ih
theorem Rep.inl (h:Rep x p k a a'):Rep x p k (cat a b) (cat a' b):=by
 induction h with
 | head=>exact .head
 | tail _ ih=>exact .tail ih
theorem Rep.inr (h:Rep x p k b b'):Rep x p k (cat a b) (cat a b'):=by
 induction a with
 | nil=>exact h
 | cons _ _ ih=>exact .tail ih
theorem Wk.refl:∀a:St,Wk a a
 | []=>.nil
 | _::a=>.same (Wk.refl a)
theorem Wk.cat (h:Wk a a')(h':Wk b b'):Wk (cat a b) (cat a' b'):=by
 induction h with
 | nil=>exact h'
 | same _ ih=>exact .same ih
 | drop _ ih=>exact .drop ih
end
noncomputable abbrev kJ (c:Nat):PV:=.str ⟨#[c]⟩
section
theorem oO {it:Addr}{ty:String}{t:Tok}(e:h.IsStrIter it ty x t i):∀o,h.get? it=some o->bW o:=by
 obtain ⟨o',ho',hc,hd⟩:=e;intro o ho;rw [ho'] at ho;cases ho;refine ⟨λ⟨vs,n,q⟩=>(by rw [hd] at q;cases q),λvs q t e=>?_⟩;rw [hd] at e;cases e;simp
inductive JS (B:aI)(it:Addr)(x:Str)(t:Tok)(items:List PV)(H:AH)(s:Shared):Prop
 | mk (i:Nat) (a:s.heap.IsStrIter it "str_ascii_iterator" x t i) (c:items=(x.cps.toList.drop i).map kJ) (e:B.g.objs.size<=it) (f:¬Trk H B it)
theorem aA8 {P:Addr->Prop}{G:Nat->Prop}{deps:AH}(e:Evo B P G deps H s H' s'){it:Addr}{ty:String}{y:Str}{t:Tok}(hp:P it)(x:s.heap.IsStrIter it ty y t i):s'.heap.IsStrIter it ty y t i:=by
 obtain ⟨o,ho,r⟩:=x;exact ⟨o,e.own _ _ ho hp,r⟩
theorem aB6 {it:Addr}{ty:String}{y:Str}{t:Tok}(x:s.heap.IsStrIter it ty y t i):it<s.heap.objs.size:=by
 obtain ⟨o,ho,O⟩:=x;exact Heap.lt_size ho
theorem FA (tgt:Expr)(it:Addr)(x:Str)(t:Tok):mS B [] tgt (.ref it) (·=it) (λO=>False) (JS B it x t) where
 self:=λitems H s A E Q j q=>by
   obtain ⟨i,hit,O,O,O⟩:=j;exact wpAny_pyIter_striter_ascii hit q
 notseq:=λitems H s j p hp o ho=>by
   obtain ⟨i,hit,O,O,O⟩:=j;subst hp;exact (oO hit o ho).1
 stable:=λitems H s H' s' ⟨i,hit,hi,hg,ht⟩ e=>
   ⟨i,aA8 e rfl hit,hi,hg,e.trk (aB6 hit) ht⟩
 next:=λitems H s A ⟨i,hit,hi,hg,ht⟩ R I=>by
   have hLo:=oO hit
   have mk:∀(h':Heap) (tk:Nat),(∀a o,s.heap.get? a=some o->a≠it->h'.get? a=some o)->s.heap.objs.size<=h'.objs.size->bt { s with heap:=h',toks:=tk } (λO=>False) s H B (·=it):=λh' tk hk hz=>
     bt.make I (λa o e hp=>hk a o e hp) hz (λp hp=>by subst hp;exact ⟨hg,ht⟩) (λp hp o ho=>by subst hp;exact hLo o ho) (λO O e O=>e) (Aa _) I.bare rfl
   subst hi
   cases hd:x.cps.toList.drop i with
   | nil=>
     have hx:x.cps[i]?=none:=by
       rw [<-Array.getElem?_toList];exact List.getElem?_eq_none (List.drop_eq_nil_iff.mp hd)
     exact aU (wpAny_pyNext_ascii_end R.handled hit hx λh' hx' hz=>⟨rfl,mk h' _ (λa o e hne=>hx' a o hne e) hz⟩)
   | cons c r=>
     have hx:x.cps[i]?=some c:=by
       rw [<-Array.getElem?_toList];have:=congrArg (λl=>l[0]?) hd;simpa using this
     refine wpAny_pyNext_ascii_item hit hx λh' hit' hs'=>⟨_,rfl,?_⟩;have o:=mk h' (s.toks+1) (λa o e hne=>(hs'.2 a hne).trans e) (by rw [hs'.1];exact Aa _);obtain ⟨ob,ho,hc,O⟩:=id hit';exact c6 ho hc rfl ⟨o,.str _ _,i+1,hit',by rw [<-Bn,hd];rfl,hg,ht⟩
theorem xt {Q:IQ}(hx:x.cps.all (· < 128)=true)(h:Q (x.cps.toList.map kJ) [] H):r7 B d E tgt (.str x) H Q:=λA s R I va r=>by
 obtain ⟨t,rfl⟩:=r.inv;refine wpAny_pyIter_ascii hx ?_;have tr:=Tr.push I { cls:=.type "str_ascii_iterator",data:=.fields #[.str x t,.int 0 0] }
 exact i4.made ⟨x.cps.toList.map kJ,[],H,_,_,_,tr,FA tgt s.heap.objs.size x t,⟨0,⟨_,Heap.get?_push_size _ rfl,rfl,rfl⟩,rfl,I.size,aS I⟩,
   λp hp=>by subst hp;exact ⟨Aa _,cG,aS I⟩,λO f=>f.elim,(λO hm=>(by cases hm)),h⟩
theorem la {c:Nat}(h:Q (.int (c:Nat)) H):aF [] E H B d (.raw (.builtin "ord")) [kJ c] Q:=aF.at λA s R I vs r fv rf=>by
 obtain ⟨x,rfl,r1⟩:=r.one;obtain ⟨O,rfl⟩:=rf.inv;obtain ⟨O,rfl⟩:=r1.inv;exact P.ord_of_char ⟨_,_,Tr.tok I _,.int _ _,h⟩
theorem tQ {c:Nat}(hc:c<1114112)(h:Q (kJ c) H):aF [] E H B d (.raw (.builtin "chr")) [.int (c:Nat)] Q:=aF.at λA s R I vs r fv rf=>by
 obtain ⟨x,rfl,r1⟩:=r.one;obtain ⟨O,rfl⟩:=rf.inv;obtain ⟨O,rfl⟩:=r1.inv;exact P.chr_of_int (by rw [decide_eq_false (by lia),decide_eq_false (by lia)];rfl) ⟨_,_,Tr.tok I _,.str _ _,h⟩
theorem uc {α:Type}(vs:Array α)(n:Nat)(h:vs.size=n+1):(vs.eraseIdxIfInBounds n).toList=vs.toList.take n:=by
 rw [Array.eraseIdxIfInBounds,dif_pos (by lia),Array.toList_eraseIdx,List.eraseIdx_eq_take_drop_succ,BE (by rw [Array.length_toList];lia),Bd]
theorem z6 {k:Int}{H':AH}(u:Upd a (xs++[.int k]) xs H H')(hz:xs.length+1<=sizeLine)(h:Q (.int k) H'):aF [] E H B d (.raw (.builtin "list.pop")) [.lref a] Q:=aF.at λA s R I vs r fv rf=>by
 obtain ⟨v,rfl,r1⟩:=r.one;obtain ⟨O,rfl⟩:=rf.inv;obtain ⟨O,rfl⟩:=r1.inv;obtain ⟨hg,vs,n,ho,hv⟩:=I.objs _ u.has;have hsz:vs.size=xs.length+1:=by rw [hv.asize,Bb];rfl
 obtain ⟨y,hy,ry⟩:=hv.get (i:=xs.length) (p:=.int k) (by rw [List.getElem?_append_right (Aa _),AX];rfl);obtain ⟨t,rfl⟩:=ry.inv;have hv':=hv.take xs.length;rw [List.take_left] at hv';refine call_meets PySem.F.slot_list_pop ⟨_,ho,rfl⟩ PySem.F.entry_list_pop (PySem.F.args_list_pop_1 _) (PySem.MeetsSeq.list_pop_last a vs n _ (by rw [hsz,A9,<-Array.getElem?_toList];exact hy) (by rw [hsz];exact hz)) ⟨ho,?_⟩;refine ⟨.int k,H',Tr.upd u I (Heap.SameBut.update ..) (vs':=vs.eraseIdxIfInBounds (vs.size-1)) (n':=_) (Heap.get?_update_self _ ho rfl) ?_,.int _ _,h⟩;rw [hsz,A9,uc vs _ hsz];exact hv'
theorem w8 {i:Int}(h1:-2 ^ 63<=i)(h2:i<2 ^ 63):Builtin.Range.rangeFitsLong i=true:=Bool.and_eq_true_iff.mpr ⟨decide_eq_true h1,decide_eq_true h2⟩
theorem o6:∀n:Nat,Builtin.Range.rangeSize ((n:Int)-1) (-1) (-1)=n
 | 0=>rfl
 | m+1=>by
   show (if ((m:Int)+1-1:Int) > -1 then ((m:Int)+1-1 - -1-1)/1+1 else 0)=_;rw [Ca,if_pos (Cb ∅ (B2 m)),Int.ediv_one,Int.sub_neg,Ca];rfl
theorem vA (hn:n<=1000000):Builtin.Range.small ((n:Int)-1) (-1) (-1)=true:=by
 have h0:=B2 n;have h1:(n:Int)<2 ^ 63:=Int.lt_of_le_of_lt (Int.ofNat_le.mpr hn) ∅;refine Bool.and_eq_true_iff.mpr ⟨Bool.and_eq_true_iff.mpr ⟨Bool.and_eq_true_iff.mpr ⟨Bool.and_eq_true_iff.mpr ⟨w8 (B6 ∅ (Int.sub_le_sub_right h0 1)) (Int.lt_of_le_of_lt (Int.sub_le_self _ ∅) h1),by decide⟩,by decide⟩,?_⟩,Bool.or_eq_true_iff.mpr (.inr ∅)⟩;rw [o6];exact w8 (B6 ∅ h0) h1
theorem vQ {Q:IQ}(hn:n<=1000000)(h:Q (dG (-1) ((n:Int)-1) n) [] H):hZ B d E tgt (.raw (.type "range")) [.int ((n:Int)-1),.int (-1),.int (-1)] H Q:=λA s R I fv vs r1 r2=>by
 obtain ⟨O,rfl⟩:=r1.inv;obtain ⟨v,w,u,rfl,r,r',r''⟩:=r2.three;obtain ⟨ta,rfl⟩:=r.inv;obtain ⟨tb,rfl⟩:=r'.inv;obtain ⟨tc,rfl⟩:=r''.inv;refine call_range_3 ∅ ?_ (.inl (PyProof.noPylong_of_log2 ∅));have t:=Tr.push I { cls:=.type "range",data:=.fields #[.int ((n:Int)-1) ta,.int (-1) tb,.int (-1) tc] };exact iL t.inv (Heap.get?_push_size _ rfl) (vA hn) (o6 n) h t (Aa _)
theorem vN {ts vs:List Expr}{k':Nat}{p p':Pos}(h:vs.all (foldedForSure 8)=true):swappedStores [.Tuple ts k p] (.Tuple vs k' p') env=pure none:=by
 show (if (!(ts.length==2 || ts.length==3) || vs.length != ts.length || env.blockKind != .function)=true then pure none else _:Sem _)=_;by_cases h1:(!(ts.length==2 || ts.length==3) || vs.length != ts.length || env.blockKind != .function)=true
 . rw [if_pos h1]
 rw [if_neg h1];split
 . rfl
 dsimp only;split
 . rfl
 . rfl
theorem m6 {ts vs:List Expr}{k':Nat}{tpos vpos:Pos}(h:Ev E B d fi σ H (.Tuple vs k' vpos) (qAt B fi d E (.Tuple ts k tpos) σ Qn))(hv:vs.all (foldedForSure 8)=true)
   (hs:∀env,swapsWithSole [.Tuple ts k tpos] (.Tuple vs k' vpos) pos.line env=pure false):X B fi d E (.Assign [.Tuple ts k tpos] (.Tuple vs k' vpos) pos) σ H Qn Qf:=
 eG h hs λO O=>vN hv
theorem mF {a e:Nat}(ha:2<=a)(ha2:a<2 ^ 62)(he:e<=1000)(h:Q (.int (a ^ e:Nat)) H):V2 H E B d (.int (e:Nat)) (.int (a:Nat)) (binaryOp .Pow) Q:=by
 cases e with
 | zero=>
   intro A s R I va vb r1 r2;obtain ⟨O,rfl⟩:=r1.inv;obtain ⟨O,rfl⟩:=r2.inv;exact AutoIntOps.pow_0 ∅ rfl ⟨_,_,Tr.tok I _,.int _ _,h⟩
 | succ e=>
   refine vq (by lia) (by simp only [BY,beq_iff_eq];lia) (by simp only [beq_iff_eq];lia) ?_ ?_
   . have:=intBits_le_64 (k:=(a:Nat)) (by lia) (by lia)
     exact B6 (Int.mul_le_mul (Int.ofNat_le.mpr this) (Int.ofNat_le.mpr he) (by lia) ∅) ∅
   . rw [B3,<-Int.natCast_pow]
     exact h
theorem CB {α:Type}(xs:List α)(x y:α):(xs++[x]).set xs.length y=xs++[y]:=by
 rw [List.set_append_right _ _ (Aa _),AX];rfl
theorem yn {x:PV}{Q:AH->Prop}(u:Upd a (xs++[x]) (xs++[v]) H H')(h:Q H'):Cu B d E (.lref a) (.int (-1)) v H Q:=λA s R I vo vi va r1 r2 r3=>by
 obtain ⟨O,rfl⟩:=r1.inv;obtain ⟨O,rfl⟩:=r2.inv;obtain ⟨hg,vs,n,ho,hv⟩:=I.objs _ u.has;have hsz:vs.size=xs.length+1:=by rw [hv.asize,Bb];rfl
 have e:((-1:Int)+vs.size).toNat=xs.length:=by lia
 refine ki_setBack ho ∅ (by lia) ∅ ?_;rw [e];refine ⟨H',Tr.upd (t:=s.toks) u I (Heap.SameBut.update ..) (vs':=vs.setIfInBounds xs.length va) (n':=if (vs.setIfInBounds xs.length va).size==vs.size then n else n+1) (Heap.get?_update_self _ ho rfl) ?_,h⟩;rw [Array.toList_setIfInBounds,<-CB xs x v];exact VRs.set r3 hv _
theorem FD {x:PV}(hv:aT H v (xs++[x]))(h:Q x H):V2 H E B d (.int (-1)) v getItem Q:=
 qZ hv ∅ (by rw [Bb,Bw];lia) ∅ (by rw [Bb,Bw,show ((-1:Int)+((xs.length+1:Nat):Int)).toNat=xs.length by lia,List.getElem?_append_right (Aa _),AX];rfl) h
end
noncomputable def bp (b:Nat):Nat->Nat->List Nat
 | 0,_=>[]
 | k+1,n=>match n with
   | 0=>[]
   | m+1=>(m+1)%b::bp b k ((m+1)/b)
noncomputable def bj (l:List Nat):Nat->List Nat->List Nat
 | 0,r=>r
 | k+1,r=>l++bj l k r
noncomputable def qU (g:List Nat)(f:Nat)(r:List Nat):List Nat:=match f with
 | 0=>r
 | k+1=>bj (97::g.map Nat.succ) (k+1) r
noncomputable def eR (g:Nat->List Nat):List Nat->Nat->List Nat->List Nat
 | [],_,r=>r
 | f::fs,p,r=>eR g fs (p+1) (qU (g p) f r)
noncomputable def fc (b:Nat):Nat->Nat->List Nat
 | 0,_=>[]
 | k+1,n=>eR (fc b k) (bp b 11 n) 0 []
noncomputable def aDn (x e:Nat):Nat->Nat
 | 0=>0
 | k+1=>(k+1)*x ^ e
noncomputable def qQ (x:Nat)(g:Nat->Nat):List Nat->Nat->Nat
 | [],_=>0
 | f::fs,p=>aDn x (g p) f+qQ x g fs (p+1)
noncomputable def movedF (b x:Nat):Nat->Nat->Nat
 | 0,_=>0
 | k+1,n=>qQ x (movedF b x k) (bp b 11 n) 0
noncomputable abbrev aE (b n:Nat):List Nat:=fc b 4 n
noncomputable abbrev aW (b x n:Nat):Nat:=movedF b x 4 n
noncomputable def fI (x:Nat):Nat->List Nat->Option (List Nat)
 | 0,st=>some st
 | c+1,w::v::r=>if w<=1000 then fI x c ((v+x ^ w)::r) else none
 | _,_=>none
noncomputable def r8 (x:Nat):List Nat->List Nat->Option (List Nat)
 | a::b::l,st=>if a+1=97+st.length/\b<=a+1/\st.length<=20 then (fI x (a+1-b) (0::st)).bind (r8 x (b::l)) else none
 | _,st=>some st
noncomputable def u0 (b n:Nat):Bool:=r8 (b+1) (aE b n++[97]) [0]==some [aW b (b+1) n]
noncomputable def ltL:List Nat->List Nat->Bool
 | [],[]=>false
 | [],_::_=>true
 | _::_,[]=>false
 | a::l,b::m=>match Nat.beq a b with
   | true=>ltL l m
   | false=>Nat.ble (a+1) b
noncomputable def fg (n:Nat):Nat->Bool
 | 0=>true
 | k+1=>match ltL (aE 4 (n-(k+1))) (aE 4 (n-k)) with
   | true=>fg n k
   | false=>false
theorem F6:∀n,n<16->u0 2 n=true:=by decide +kernel
theorem EV:∀n,n<112->u0 3 n=true:=by decide +kernel
theorem aBh:∀n,n<16->aE 2 n=aE 4 (aW 2 4 n):=by decide +kernel
theorem zN:∀n,n<112->aE 3 n=aE 4 (aW 3 4 n):=by decide +kernel
theorem aAr:fg 260 260=true:=by decide +kernel
theorem aAh:fg 520 260=true:=by decide +kernel
theorem aB2:fg 780 260=true:=by decide +kernel
theorem aAq:fg 1040 260=true:=by decide +kernel
theorem aBc:fg 1290 250=true:=by decide +kernel
theorem qe:∀n,n<16->aW 2 4 n<=1285/\aW 2 3 n<=112/\(1<=n->1<=aW 2 3 n):=by decide +kernel
theorem pH:∀n,n<112->aW 3 4 n<=1284/\(1<=n->1<=aW 3 4 n):=by decide +kernel
theorem v5:∀l m:List Nat,ltL l m=true↔l<m
 | [],[]=>⟨λh=>Bool.noConfusion h,λh=>(List.lt_irrefl _ h).elim⟩
 | [],b::m=>⟨λO=>List.nil_lt_cons b m,λO=>rfl⟩
 | a::l,[]=>⟨λh=>Bool.noConfusion h,λh=>(List.not_lt_nil _ h).elim⟩
 | a::l,b::m=>by
   rw [List.cons_lt_cons_iff,<-v5 l m];show (match Nat.beq a b with | true=>ltL l m | false=>Nat.ble (a+1) b)=true↔_
   cases e:Nat.beq a b with
   | true=>
     have e:=Nat.eq_of_beq_eq_true e;exact ⟨λh=>.inr ⟨e,h⟩,λh=>h.elim (λh=>(Al _ (e▸h)).elim) λh=>h.2⟩
   | false=>
     have e:=Nat.ne_of_beq_eq_false e;exact ⟨λh=>.inl (Ap h),λh=>h.elim (λh=>Nat.ble_eq_true_of_le h) λh=>(e h.1).elim⟩
theorem gG :∀{k:Nat},k<=n->fg n k=true->∀j,n-k<=j->j<n->aE 4 j<aE 4 (j+1):=by
 intro k
 induction k with
 | zero=>
   intro _ _ j h1 h2;exact (Al _ (nlt h2 h1)).elim
 | succ k ih=>
   intro hk h j h1 h2;change (match ltL (aE 4 (n-(k+1))) (aE 4 (n-k)) with | true=>fg n k | false=>false)=true at h
   cases e:ltL (aE 4 (n-(k+1))) (aE 4 (n-k)) with
   | false=>rw [e] at h;cases h
   | true=>
     rw [e] at h;rcases Nat.eq_or_lt_of_le h1 with rfl | h1
     . have:=(v5 _ _).mp e
       rwa [show n-k=n-(k+1)+1 by lia] at this
     . exact ih (Ao hk) h j (by lia) h2
theorem mh (h:j<1290):aE 4 j<aE 4 (j+1):=by
 by_cases h1:j<260
 . exact gG ∅ aAr j (Ab _) h1
 by_cases h2:j<520
 . exact gG ∅ aAh j (by lia) h2
 by_cases h3:j<780
 . exact gG ∅ aB2 j (by lia) h3
 by_cases h4:j<1040
 . exact gG ∅ aAq j (by lia) h4
 . exact gG ∅ aBc j (by lia) h
theorem pR :∀{j:Nat},i<j->j<=1290->aE 4 i<aE 4 j
 | j+1,h,h2=>by
   rcases Nat.eq_or_lt_of_le (Ar h) with rfl | h
   . exact mh h2
   . exact List.lt_trans (pR h (Ao h2)) (mh h2)
theorem tO (hi:i<=1290)(hj:j<=1290):aE 4 i<aE 4 j↔i<j:=by
 refine ⟨λh=>?_,λh=>pR h hj⟩;rcases A5 i j with e | rfl | e
 . exact e
 . exact (List.lt_irrefl _ h).elim
 . exact (List.lt_irrefl _ (List.lt_trans h (pR e hi))).elim
theorem g7 (a b:Nat)(hb:0<b):((a:Int)).fmod (b:Int)=((a%b:Nat):Int):=by
 rw [B8 _ (B2 b)];rfl
theorem wZ (a b:Nat):((a:Int)).fdiv (b:Int)=((a/b:Nat):Int):=by
 rw [B7 _ (B2 b)];rfl
theorem wY {a:Nat}(ha:1<=a):∀(m k n:Nat),m<=k->n<2 ^ (a*m)->(∀j,m=j+1->2 ^ (a*j)<=n)->bp (2 ^ a) k n=(List.range m).map (dig a n)
 | 0,0,n,_,h,_=>rfl
 | 0,k+1,n,_,h,_=>by
   rw [AM,Nat.pow_zero] at h;rw [show n=0 by lia];rfl
 | m+1,k+1,n,hk,h,hl=>by
   have h1:=hl m rfl;have h0:0<n:=nlt (AI _) h1;obtain ⟨n',rfl⟩:∃n',n=n'+1:=⟨n-1,by lia⟩;show (n'+1)%2 ^ a::bp (2 ^ a) k ((n'+1)/2 ^ a)=_;rw [wY ha m k _ (Nat.le_of_succ_le_succ hk) ?_ ?_,List.range_succ_eq_map,Bg,Bi]
   . congr 1
     . unfold dig;rw [AM,Nat.pow_zero,Nat.div_one]
     . refine List.map_congr_left λi O=>?_
       show dig a ((n'+1)/2 ^ a) i=dig a (n'+1) (i+1);unfold dig;rw [Nat.div_div_eq_div_mul,<-AB,AQ,Ah a (a*i)]
   . rw [AK (AI _),<-AB,<-AQ];exact h
   . intro j hj
     subst hj;rw [Nat.le_div_iff_mul_le (AI _),<-AB,<-AQ];exact h1
theorem jA (b:Nat):∀k n:Nat,(bp b k n).length<=k
 | 0,_=>Aa _
 | k+1,0=>Ab _
 | k+1,n+1=>Ai (jA b k _)
theorem sY (hb:2<=b):∀(k n:Nat),n<b ^ k->(bp b k n).getLast?≠some 0
 | 0,_,_=>λh=>(by cases h)
 | k+1,0,_=>λh=>(by cases h)
 | k+1,n+1,h=>by
   show ((n+1)%b::bp b k ((n+1)/b)).getLast?≠some 0;have ih:=sY hb k ((n+1)/b) ((AK (by lia)).mpr h)
   cases e:bp b k ((n+1)/b) with
   | nil=>
     intro q;have q:(n+1)%b=0:=Option.some.inj q
     have h0:(n+1)/b=0:=by
       cases k with
       | zero=>rw [Ak,Nat.pow_one] at h;exact Nat.div_eq_of_lt h
       | succ k=>
         cases e2:(n+1)/b with
         | zero=>rfl
         | succ m=>rw [e2] at e;cases e
     have:=Nat.div_add_mod (n+1) b;rw [h0,q,AM] at this
     lia
   | cons x l=>
     rw [e] at ih;rw [List.getLast?_cons_cons];exact ih
theorem Fl {a:Nat}(ha:1<=a)(hn:n≠0)(h:nDig n a=j+1):2 ^ (a*j)<=n:=by
 have h1:=pN (a:=n) (n:=a);rw [h,AQ] at h1;exact ntr (AY ∅ (show a*j<=bits n-1 by have:=(iz hn).1;omega)) (iz hn).2
theorem GW {a:Nat}(ha:1<=a)(hm:nDig n a<=11):(List.range (nDig n a)).map (dig a n)=bp (2 ^ a) 11 n:=by
 by_cases hn:n=0
 . subst hn
   rw [show nDig 0 a=0 from Nat.div_eq_of_lt (by show 0+a-1<a;lia)];rfl
 . exact (wY ha _ 11 n hm (kd ha) λj hj=>Fl ha hn hj).symm
theorem w5 (a b:List Nat):ofL a++ofL b=ofL (a++b):=by
 show (⟨(ofL a).cps++(ofL b).cps⟩:Str)=_;unfold ofL;congr 1;simp
theorem ub (l:List Nat):∀(k:Nat) (acc:Array Nat),(List.replicate k (ofL l).cps).foldl (·++·) acc=acc++(bj l k []).toArray:=by
 intro k
 induction k with
 | zero=>
   intro acc;exact (Array.append_empty (xs:=acc)).symm
 | succ k ih=>
   intro acc;rw [BP,By,ih];show _=acc++(l++bj l k []).toArray;apply Array.ext';simp [ofL]
theorem xp (k:Nat):bj [] k []=[]:=by
 induction k with
 | zero=>rfl
 | succ k ih=>exact ih
theorem nv (l:List Nat)(k:Nat):Txt.mul (ofL l) (k:Nat)=ofL (bj l k []):=by
 unfold Txt.mul;by_cases h:((k:Nat):Int)<1
 . rw [if_pos h,show k=0 by lia];rfl
 . rw [if_neg h]
   by_cases h2:(((k:Nat):Int)==1 || (ofL l).length==0)=true
   . rw [if_pos h2]
     simp only [BY,beq_iff_eq] at h2;rcases h2 with h2 | h2
     . rw [show k=1 by lia]
       show ofL l=ofL (l++[]);rw [Bd]
     . rw [a8] at h2
       rw [BL h2,xp]
   . rw [if_neg h2,B3,ub]
     unfold ofL;congr 1;simp
theorem kP {l:List Nat}(hl:l.length<=1000)(hk:k<=1000):MulOk (ofL l) (k:Nat):=by
 have hm:l.length*k<=1000000:=A3 hl hk;refine ⟨?_,λh O=>?_,λO O=>?_⟩
 . simp only [Bool.or_eq_false_iff,decide_eq_false_iff_not];lia
 . rw [a8]
   have:(l.length:Int)<=(2 ^ 63-1:Int)/(k:Nat):=by
     rw [Int.le_ediv_iff_mul_le (by lia)];exact B6 (Int.ofNat_le.mpr hm) ∅
   lia
 . unfold Builtin.Str.tooLong
   rw [a8,B3,sizeLine_eq];exact decide_eq_false (by lia)
theorem o4:∀l:List Nat,bE (ofL l) none (some 1) none=ofL (l.take 1)
 | []=>by decide +kernel
 | c::l=>by
   refine (StrLaws.sliceText_to (x:=ofL (c::l)) (j:=1) ⟨by decide,?_⟩).trans rfl;show (1:Int)<=((c::l).length:Nat);rw [Bf];lia
theorem xX (l:List Nat):bE (ofL l) (some (-1)) none none=ofL (l.drop (l.length-1)):=by
 cases l with
 | nil=>decide +kernel
 | cons c l=>
   refine (StrLaws.sliceText_from_neg (x:=ofL (c::l)) (i:=-1) ∅ ?_).trans ?_
   . rw [a8,Bf];lia
   . have e:((-1:Int)+((ofL (c::l)).length:Nat)).toNat=l.length:=by rw [a8,Bf];lia
     show ofL _=ofL _;rw [e];congr 1;refine Bo ?_;show ((c::l).drop l.length).length<=_;have h1:(ofL (c::l)).cps.toList.length=l.length+1:=rfl;have h2:(ofL (c::l)).length=l.length+1:=rfl;rw [Bm,h1,h2,Bf];lia
theorem dR (e:m<=n)(h:autoParam (Nat.ble n 16777216=true) nA):m<=sizeLine:=ntr e (Ap h)
theorem bd {a b:List Nat}(ha:a.length<=m)(hb:b.length<=n):(a++b).length<=m+n:=Bb▸Ay ha hb
theorem gX {c:Nat}(h:k<=n):(List.replicate k c).length<=n:=Bq▸h
section
theorem i8 {a b:List Nat}(h:a.length+b.length<=16777216)(q:Q (.str (ofL (a++b))) H):V2 H E B d (.str (ofL b)) (.str (ofL a)) (binaryOp .Add) Q:=
 sC (by rw [a8,a8,sizeLine_eq];exact h) (bZ (congrArg PV.str (w5 a b)) q)
theorem pT {a b:List Nat}(h:a.length+b.length<=16777216)(q:Q (.str (ofL (a++b))) H):V2 H E B d (.str (ofL b)) (.str (ofL a)) (inplaceOp .Add) Q:=
 EZ (by rw [a8,a8,sizeLine_eq];exact h) (bZ (congrArg PV.str (w5 a b)) q)
theorem CR {l:List Nat}(hl:l.length<=1000)(hk:k<=1000)(q:Q (.str (ofL (bj l k []))) H):V2 H E B d (.int (k:Nat)) (.str (ofL l)) (binaryOp .Mult) Q:=
 sT (kP hl hk) (bZ (congrArg PV.str (nv l k)) q)
theorem wC {w:PV}(h:Ev E B d fi σ H e λv H'=>v=w/\H'=H)(q:Q w H):Ev E B d fi σ H e Q:=h.mono λO O e=>by rw [e.1,e.2];exact q
theorem eY {a b:List Nat}(ha:a.length<=m)(hb:b.length<=n)(q:Q (.str (ofL (a++b))) H)(h:autoParam (Nat.ble (m+n) 16777216=true) nA):V2 H E B d (.str (ofL b)) (.str (ofL a)) (binaryOp .Add) Q:=
 i8 (ntr (Ay ha hb) (Ap h)) q
theorem wW {a b:List Nat}(ha:a.length<=m)(hb:b.length<=n)(q:Q (.str (ofL (a++b))) H)(h:autoParam (Nat.ble (m+n) 16777216=true) nA):V2 H E B d (.str (ofL b)) (.str (ofL a)) (inplaceOp .Add) Q:=
 pT (ntr (Ay ha hb) (Ap h)) q
theorem rN {a b:List Nat}(e:x=ofL a)(ha:a.length<=m)(hb:b.length<=n)(q:Q (.str (ofL (a++b))) H)(h:autoParam (Nat.ble (m+n) 16777216=true) nA):V2 H E B d (.str (ofL b)) (.str x) (binaryOp .Add) Q:=by
 subst e;exact eY ha hb q h
theorem gT {l:List Nat}(e:l.length=n)(h:l.length<=1000000)(q:Q (.int (n:Nat)) H):aF [] E H B d (.raw (.builtin "len")) [.str (ofL l)] Q:=
 db (a8 l▸Ae h ∅) (by rw [a8,e];exact q)
end
set_option maxHeartbeats 2000000
section
noncomputable abbrev ff:Nat:=28
noncomputable abbrev qW:Nat:=29
noncomputable abbrev dY:Nat:=30
noncomputable abbrev oq:Nat:=31
noncomputable abbrev iP:Nat:=32
section
set_option genInjectivity false in
set_option genSizeOf false in
structure b8 (B:aI) extends ImFns B where
 f:Addr
 c:Value
 h:af .none .none ff "_law_nest" f c B
 g:aC B "_law_nest" (.raw (.ref f))
 gDm:aC B "divmod" (.raw (.builtin "divmod"))
 gAb:aC B "abs" (.raw (.builtin "abs"))
 gRa:aC B "range" (.raw (.type "range"))
 gCh:aC B "chr" (.raw (.builtin "chr"))
 gOr:aC B "ord" (.raw (.builtin "ord"))
theorem wu {doc pm ct:Value}{u v:Value}:b0 S [] (bindArgs (bN "_law_nest" ff .none .none doc pm an cdv ct) ⟨[u,v,w],[]⟩)=some ([],[(Ω "number",u),(Ω "base",v),(Ω "side",w)]):=by kernel_rfl
theorem zC:bb [Ω "number",Ω "base",Ω "side"] (aG (aJ ff))=true:=by decide +kernel
noncomputable abbrev mX (power:Option PV)(inner:Option PV)(nest:Option PV)(figure:Option PV)(figures:Option PV)(F:b8 B)(side:PV)(number:PV)(base:PV):St:=[(Ω "number",.local,some number),(Ω "base",.local,some base),(Ω "side",.local,some side),(Ω "figures",.local,figures),(Ω "figure",.local,figure),
 (Ω "nest",.local,nest),(Ω "power",.local,power),(Ω "inner",.local,inner),(Ω "_int2digits",.globalImplicit,some (.raw (.ref F.fi))),(Ω "int_divmod",.globalImplicit,some (.raw (.ref F.fm))),
 (Ω "divmod",.globalImplicit,some (.raw (.builtin "divmod"))),(Ω "abs",.globalImplicit,some (.raw (.builtin "abs"))),(Ω "range",.globalImplicit,some (.raw (.type "range"))),(Ω "len",.globalImplicit,some (.raw (.builtin "len"))),(Ω "_law_nest",.globalImplicit,some (.raw (.ref F.f)))]
theorem Dw (F:b8 B){n b s:PV}:Ini B [(Ω "number",n),(Ω "base",b),(Ω "side",s)] (aG (aJ ff)).names (mX none none none none none F s n b):=by
 refine .arg (by walk_at "mm") (.inl rfl) (.arg (by walk_at "mm") (.inl rfl) (.arg (by walk_at "mm") (.inl rfl) (.unset (.unset (.unset (.unset (.unset (.glob F.gi (.glob F.gm (.glob F.gDm (.glob F.gAb (.glob F.gRa (.glob F.gln (.glob F.g .nil))))))))))))))
noncomputable abbrev y0:aN:=d8 ff "_law_nest"
theorem o7 (F:b8 B){a:Nat}{b:Int}{side:PV}(hb:b=2/\a=1\/b=4/\a=2)(hn:n<2000)
   (q:∀A,Xs NoE B (d+64) y0 ((A,(bp (2 ^ a) 11 n).map λi=>PV.int (i:Nat))::H) (mX none none none none (some (.lref A)) F side (.int n) (.int b)) ((aZ (aJ ff)).drop 2) (λO H'=>Q .none H') (PX Q)) :
   Xs NoE B (d+64) y0 H (mX none none none none none F side (.int n) (.int b)) (aZ (aJ ff)) (λO H'=>Q .none H') (PX Q):=by
 have h3:b≠3:=by lia
 have ha:1<=a:=by lia
 have hf:b.fdiv 2=(a:Nat):=by rcases hb with ⟨rfl,rfl⟩ | ⟨rfl,rfl⟩ <;> rfl
 have hbz:bits n<=11:=dP.mpr (nlt hn ∅)
 have hD:nDig n a<=11:=by
   rcases hb with ⟨_,rfl⟩ | ⟨_,rfl⟩
   . exact ntr (Nat.div_le_div_right (show bits n+1-1<=11+1-1 by lia)) ∅
   . exact ntr (Nat.div_le_div_right (show bits n+2-1<=11+2-1 by lia)) ∅
 refine' aH ?_;ext;refine bh ?_;ext;refine' ifn (λe=>h3 (of_decide_eq_true e)) ?_;ext;refine ⟨aD F.hi,?_⟩;ext;refine' d5 ∅ (ik ∅) ?_;rw [hf];ext;refine tK (d:=d+38) F.hi F.ni F.gln ha (by lia) (ntr hbz ∅) λA=>?_;ext;refine ec (λk σ H'=>k=0/\σ=mX none none none none (some (.lref A)) F side (.int n) (.int b)/\H'=(A,(List.range (nDig n a)).map λi=>PV.int (dig a n i:Nat))::H) ⟨rfl,rfl,rfl⟩ ?_
 rintro _ _ _ ⟨rfl,rfl,rfl⟩
 ext;refine' ifn (λe=>h3 (eq_of_beq e)) ?_;refine' ifn BW ?_;refine dB ?_
 have e:(List.range (nDig n a)).map (λi=>PV.int (dig a n i:Nat))=(bp (2 ^ a) 11 n).map λi=>PV.int (i:Nat):=by
   rw [<-GW ha hD,Bi];rfl
 rw [e];exact @q A
set_option genInjectivity false in
set_option genSizeOf false in
structure Sgn (s x c:Int):Prop where
 div:(s*x).fdiv (s*c)=x.fdiv c
 mod:(s*x).fmod (s*c)=s*x.fmod c
 abs:(s*x).natAbs=x.natAbs
 ne:s*c≠0
theorem Gd {s:Int}(hs:s=1\/s=-1)(x:Int){c:Int}(hc:0<c):Sgn s x c:=by
 rcases hs with rfl | rfl
 . exact ⟨by rw [B4,B4],by rw [B4,B4,B4],by rw [B4],by rw [B4];exact Int.ne_of_gt hc⟩
 . have e:=(eC (-x) (-c) (Int.neg_neg_of_pos hc)).2
   rw [Int.neg_neg,Int.neg_neg] at e;refine ⟨?_,?_,?_,?_⟩
   . rw [B5,B5];exact Int.neg_fdiv_neg _ _
   . rw [B5,B5,B5];exact e.symm
   . rw [B5,Int.natAbs_neg]
   . rw [B5];exact Int.neg_ne_zero.mpr (Int.ne_of_gt hc)
theorem aCn {P:AH->Prop}(e:H=H')(h:P H):P H':=e▸h
inductive ThI (F:b8 B)(b s:Int)(H:AH)(A:Addr)(n:Nat):Nat->SQ
 | mk {m j:Nat} {fs:List Nat} {figure:Option PV} (e:fs++bp 3 j m=bp 3 11 n) (hj:m<3 ^ j) (hm:m<=n):ThI F b s H A n m (mX none none none figure (some (.lref A)) F (.int s) (.int (m:Nat)) (.int b)) ((A,fs.map λi=>PV.int (i:Nat))::H)
inductive DvP (m:Nat)(H:AH):PQ
 | mk {u:Int} (h:u.natAbs=(m+1)%3):DvP m H (.tup [.int ((m+1)/3:Nat),.int u]) H
theorem DvP.of {s q r:Int}(h:s.natAbs=1)(hq:q=((m+1:Nat):Int).fdiv 3)(hr:r=s*((m+1:Nat):Int).fmod 3):DvP m H (.tup [.int q,.int r]) H:=by
 rw [hq,hr,show ((m+1:Nat):Int).fdiv 3=((m+1)/3:Nat) from wZ _ 3,show ((m+1:Nat):Int).fmod 3=((m+1)%3:Nat) from g7 _ 3 ∅];exact ⟨by rw [Int.natAbs_mul,h,A0];rfl⟩
set_option tactic.hygienic true in
theorem sh (F:b8 B){b:Int}{s:Int}(hb:b=3)(hs:s=0\/s=1\/s=-1)(hn:n<2000)
   (q:∀A nn figure,Xs NoE B (d+64) y0 ((A,(bp 3 11 n).map λi=>PV.int (i:Nat))::H) (mX none none none figure (some (.lref A)) F (.int s) nn (.int b)) ((aZ (aJ ff)).drop 2) (λ_ H'=>Q .none H') (PX Q)) :
   Xs NoE B (d+64) y0 H (mX none none none none none F (.int s) (.int n) (.int b)) (aZ (aJ ff)) (λ_ H'=>Q .none H') (PX Q):=by
 refine' aH ?_;ext;refine bh ?_;ext;refine' ifp (decide_eq_true hb) ?_;refine cA λA=>?_;ext;refine ec (ThI F b s H A n) (.mk (fs:=[]) (j:=11) (figure:=none) rfl (Ag hn ∅) (Aa _)) ?_;intro m _ _ hI;obtain ⟨hd,hj,hm⟩:=hI;rename_i j fs figure;ext;refine' ifp (beq_iff_eq.mpr hb) ?_;ext
 cases m with
 | zero=>
   refine' ifn (λe=>BW e) ?_;refine' ifn BW ?_;refine dB ?_;rw [show bp 3 j 0=[] by cases j <;> rfl,Bd] at hd;rw [hd];exact @q A _ _
 | succ m=>
   cases j with
   | zero=>exact (nlr (As m) hj).elim
   | succ j=>
   refine' ifp (bne_iff_ne.mpr λe=>absurd (Int.ofNat.inj e) (Nat.succ_ne_zero m)) ?_;ext;rw [show bp 3 (j+1) (m+1)=(m+1)%3::bp 3 j ((m+1)/3) from rfl,List.append_cons] at hd;refine Ev.mono (Q:=DvP m ((A,fs.map λi=>PV.int (i:Nat))::H)) ?_ λv H' hv=>?_
   . refine bh ?_
     ext;rcases hs with rfl | hs
     . refine' ifn (λe=>BW e) ?_
       ext;refine ⟨aB,?_⟩;ext;refine kU ∅ (ik ∅) ?_;exact .of (s:=1) rfl rfl (B4 _).symm
     . have g:=Gd hs ((m+1:Nat):Int) (show (0:Int)<3 by decide)
       have g1:s.natAbs=1:=by rcases hs with rfl | rfl <;> rfl
       have hs64:Builtin.Int.intBits s<=64:=intBits_le_iff.mpr (by rw [g1];decide);refine' ifp (bne_iff_ne.mpr λe=>by rw [e] at g1;cases g1) ?_;ext;refine ⟨aD F.hm,?_⟩;ext;refine fJ (IntMulOk.of_left hs64) ?_;ext;refine fJ (IntMulOk.of_left hs64) ?_;ext;refine vf (d:=d) F.toImFns g.ne ?_ ?_ (.of g1 g.div g.mod)
       . exact ntr (intBits_le_iff.mpr (by rw [Int.natAbs_mul,g1];decide):Builtin.Int.intBits (s*3)<=64) ∅
       . exact ntr (intBits_le_iff.mpr (by rw [g.abs];exact Ae hm (Ag hn ∅)):Builtin.Int.intBits (s*((m+1:Nat):Int))<=64) ∅
   obtain ⟨hu⟩:=hv;ext;refine ⟨_,bA (.lref (.head _)),?_⟩;ext;refine ⟨aB,?_⟩;ext;refine CF ?_;rw [hu];ext;have hl:fs.length<=11:=ntr (ntr (by rw [<-hd,Bb,Bb,AC];exact Af _ _) (Aa (bp 3 11 n).length)) (jA 3 11 n);refine bQ .head (by rw [Ba];exact ntr hl ∅) ?_;ext;refine ⟨(m+1)/3,Nat.div_lt_self (As m) ∅,?_⟩;refine aCn (congrArg (λl=>(A,l)::H) (Bj (l₁:=fs) (l₂:=[(m+1)%3]) (f:=λi:Nat=>PV.int i))) ?_;exact .mk hd ((AK ∅).mpr hj) (ntr (Nat.div_le_self _ _) hm)
theorem y8 {α:Type}(xs:List α):pick xs (some (-1)) none none=xs.drop (xs.length-1):=by
 have e:sliceBounds (some (-1)) none none xs.length=(((xs.length-1:Nat):Int),((xs.length:Nat):Int),1):=by
   unfold sliceBounds;simp only [Option.getD_none,show ((1:Int) > 0) from by decide,if_true,show ((-1:Int)<0) by decide];congr 1;lia
 unfold pick;rw [e];simp only;rw [lY xs _ _ (Aq _ _) (Aa _)];exact Bo (by rw [Bm];exact Aa _)
theorem yf (l:List Nat):∀(k:Nat) (r:List Nat),bj l k r=bj l k []++r:=by
 intro k
 induction k with
 | zero=>
   intro _;exact rfl
 | succ k ih=>
   intro r;show l++bj l k r=(l++bj l k [])++r;rw [ih r,Bc]
theorem zj (g:List Nat)(f:Nat)(r:List Nat):qU g f r=qU g f []++r:=by
 cases f with
 | zero=>rfl
 | succ k=>exact yf _ (k+1) r
theorem Cs (g:List Nat){f:Nat}(h:f≠0)(r:List Nat):qU g f r=bj (97::g.map Nat.succ) f r:=by
 cases f with
 | zero=>exact (h rfl).elim
 | succ k=>rfl
theorem na (l:List Nat):∀k:Nat,(bj l k []).length=k*l.length
 | 0=>(Nat.zero_mul _).symm
 | k+1=>by
   show (l++bj l k []).length=_;rw [Bb,na l k,Nat.succ_mul,Ah]
theorem zg (l:List Nat):((l.map λc=>ofL [c+1]).map (·.length)).sum=l.length:=by
 induction l with
 | nil=>rfl
 | cons c l ih=>rw [Bg,Bg,BB,ih,Bf,Ah];rfl
theorem uU (g:Nat->List Nat)(f:Nat):∀(l:List Nat) (p:Nat) (r:List Nat),eR g (l++[f]) p r=qU (g (p+l.length)) f []++eR g l p r:=by
 intro l
 induction l with
 | nil=>
   intro p r;exact zj _ _ _
 | cons x l ih=>
   intro p r;show eR g (l++[f]) (p+1) (qU (g p) x r)=qU (g (p+(l.length+1))) f []++eR g l (p+1) (qU (g p) x r);rw [ih,AC,Ah 1]
theorem um (g:Nat->List Nat){fs:List Nat}(h:m<fs.length):eR g (fs.take (m+1)) 0 []=qU (g m) fs[m] []++eR g (fs.take m) 0 []:=by
 rw [BR h,uU,Ak,Bt,AE (Ac h)]
noncomputable abbrev aa (l:List Nat):List PV:=l.map λi=>PV.int (i:Nat)
noncomputable abbrev aFp (dep:Option PV):St:=[(Ω ".0",.local,none),(Ω "depth",.local,dep),(Ω "chr",.globalImplicit,some (.raw (.builtin "chr"))),(Ω "ord",.globalImplicit,some (.raw (.builtin "ord")))]
theorem gY:Ω "" = ofL []:=by decide +kernel
theorem Gl:Ω "a" = ofL [97]:=by decide +kernel
noncomputable def upS:PV->PV
 | .str x=>.str (ofL (x.cps.toList.map Nat.succ))
 | v=>v
theorem yj (l:List Nat):Txt.join (ofL []) ((l.map λc=>ofL [c+1]))=ofL (l.map Nat.succ):=by
 show Txt.join ⟨#[]⟩ _=_;rw [eX];congr 1
 induction l with
 | nil=>rfl
 | cons c l ih=>exact congrArg ((c+1)::·) ih
noncomputable abbrev aA0:Stmt:=((aZ (aJ ff))[3]?).getD (.Pass default)
theorem xf (F:b8 B){b s:Int}{fs:List Nat}{g:Nat->List Nat}{A:Addr}{nn:PV}{figure:Option PV}(hl:fs.length<=11)(hf3:∀f∈fs,f<=3)(hg:∀p,p<fs.length->(∀c∈g p,c<120)/\(g p).length<=20)
   (hr:∀(p:Nat) (H:AH) (Q:PQ),p<fs.length->Q (.str (ofL (g p))) H->aF [] NoE H B (d+64) (.raw (.ref F.f)) [.int (p:Nat),.int b,.int (-s)] Q):∀(m:Nat) (acc:List Nat) (power inner:Option PV),m<=fs.length->acc.length+100*m<=1100->
   (∀power inner,Qn (mX power inner (some (.str (ofL (acc++eR g (fs.take m) 0 [])))) figure (some (.lref A)) F (.int s) nn (.int b)) ((A,aa fs)::H))->
   cQ B y0 (d+64) (a0 aA0) (aM aA0) [] (dG (-1) ((m:Int)-1) m) (mX power inner (some (.str (ofL acc))) figure (some (.lref A)) F (.int s) nn (.int b)) ((A,aa fs)::H) Qn Qf:=by
 intro m
 induction m with
 | zero=>exact λacc power inner hm ha q=>b6 (by have:=q power inner;rwa [show eR g (fs.take 0) 0 []=[] from rfl,Bd] at this)
 | succ m ih=>
   intro acc power inner hm ha q;refine bP ?_;show Asg B _ (d+64) NoE (a0 aA0) (.int (((m+1:Nat):Int)-1)) _ _ _;rw [show ((m+1:Nat):Int)-1=(m:Nat) by lia];refine' fP ?_;ext;refine' aH ?_;ext;have hmf:m<fs.length:=hm;have hfl:fs.length<2 ^ 60:=Ae hl ∅;refine ⟨aK (.lref (.head _)),?_⟩;refine vG (.lref (.head _)) (by rw [Ba];exact hmf) (by rw [Ba];exact hfl) (Bu _) ?_;ext;have ih:=λacc power inner=>ih acc power inner (Ac hmf);have ha1:acc.length+100*m+100<=1100:=ha;rw [um g hmf] at q;by_cases h0:fs[m]=0
   . rw [h0] at q
     refine' ifn (λe=>bne_iff_ne.mp e (congrArg Int.ofNat h0)) ?_;ext;refine ⟨λO h=>(by cases h),?_⟩;exact ih acc _ _ (ntr (Af _ 100) ha1) q
   . refine' ifp (bne_iff_ne.mpr λe=>h0 (Int.ofNat.inj e)) ?_
     ext;obtain ⟨hg1,hg2⟩:=hg m hmf;refine ft (aFp none) (.loc (.loc (.glob F.gCh (.glob F.gOr .nil)))) ?_ ⟨inner,by walk_at "mm"⟩ (by rfl) (by decide +kernel) (by decide +kernel) (by rfl) (by rfl) (by intro _ _;rfl) (by lia);refine cJ ?_;ext;refine ⟨aD F.h,?_⟩;ext;refine hr m _ _ hmf ?_;refine xt (show Asc (ofL (g m)) from λc hc=>Ag (hg1 c hc) ∅).all λD=>?_;refine ln (σt:=aFp) (f:=upS) ?_ ?_ _ _ none ?_ ?_ ?_
     . intro x o H K k
       ext;exact k
     . intro p hp;cases hp
     . intro x hx acc K k
       obtain ⟨c,hc,rfl⟩:=mmp hx;ext;refine ⟨aB,?_⟩;ext;refine ⟨aB,?_⟩;ext;refine la ?_;ext;exact tQ (c:=c+1) (by have:=hg1 c hc;lia) k
     . rw [Ba,sizeLine_eq]
       exact ntr (Au hg2 0) ∅
     refine ⟨_,by walk_at "m_rep",?_⟩;rw [show []++((ofL (g m)).cps.toList.map kJ).map upS=((g m).map λc=>ofL [c+1]).map PV.str by rw [Bp,Bi,Bi];rfl];rw [gY,Gl];ext;refine ⟨_,dj,?_⟩;ext;refine dg (.inr .list) (by rw [zg,a8];exact ntr (Ay hg2 (Ad (AM _))) ∅) ?_;rw [yj];ext;refine i8 (by rw [Ba];simp only [Bw];lia) ?_;ext;refine ⟨aK (.lref (.head _)),?_⟩;refine vG (.lref (.head _)) (by rw [Ba];exact hmf) (by rw [Ba];exact hfl) (Bu _) ?_;have hf:=hf3 _ (BF hmf);have hp:(97::(g m).map Nat.succ).length<=21:=by rw [Bf,Ba];lia
     have ht:(bj (97::(g m).map Nat.succ) fs[m] []).length<=63:=by
       rw [na];exact A3 hf hp
     refine CR (l:=97::(g m).map Nat.succ) (ntr hp ∅) (ntr hf ∅) ?_;refine pT (by lia) ?_;ext;refine ⟨λO h=>(by cases h),?_⟩;refine ih (acc++bj (97::(g m).map Nat.succ) fs[m] []) _ _ (by rw [Bb];lia) λpower inner=>?_;have:=q power inner;rw [Cs _ h0,<-Bc] at this;exact this
theorem j6 (F:b8 B){b s:Int}{fs:List Nat}{g:Nat->List Nat}{A:Addr}{nn:PV}{figure:Option PV}{Q:PQ}(ht:fs.getLast?≠some 0)(hl:fs.length<=11)(hf3:∀f∈fs,f<=3)(hg:∀p,p<fs.length->(∀c∈g p,c<120)/\(g p).length<=20)
   (hr:∀(p:Nat) (H:AH) (Q:PQ),p<fs.length->Q (.str (ofL (g p))) H->aF [] NoE H B (d+64) (.raw (.ref F.f)) [.int (p:Nat),.int b,.int (-s)] Q)(q:Q (.str (ofL (eR g fs 0 []))) ((A,aa fs)::H)) :
   Xs NoE B (d+64) y0 ((A,aa fs)::H) (mX none none none figure (some (.lref A)) F (.int s) nn (.int b)) ((aZ (aJ ff)).drop 2) (λO H'=>Q .none H') (PX Q):=by
 refine' aH ?_;ext;refine bh ?_;ext;refine ⟨aK (.lref (.head _)),k3 (.lref (.head _)) ∅ (by rw [Ba,sizeLine_eq];lia) (.inl ?_)⟩;refine cn ?_;ext;rw [show pick (aa fs) (some (-1)) none none=((fs.drop (fs.length-1)).map λi:Nat=>(i:Int)).map PV.int by rw [y8,Bi,Ba,<-List.map_drop];rfl];refine FE (ms:=[0]) .list .list ?_;ext;refine' ifn (λe=>?_) ?_
 . have e:=congrArg (λl=>l[0]?) (of_decide_eq_true e)
   simp only [List.getElem?_map,List.getElem?_drop,Nat.add_zero] at e;rw [List.getLast?_eq_getElem?] at ht
   cases h:fs[fs.length-1]? with
   | none=>rw [h] at e;cases e
   | some x=>
     rw [h] at e ht;exact ht (congrArg some (Int.ofNat.inj (Option.some.inj e)))
 rw [gY];ext;refine ⟨bR,?_⟩;ext;refine ⟨aB,?_⟩;ext;refine ac (.lref (.head _)) (by rw [Ba];lia) ?_;rw [Ba];ext;refine vQ (by lia) ?_;ext;refine xf F hl hf3 hg hr fs.length [] none none (Aa _) (by rw [List.length_nil];lia) λpower inner=>?_;ext;rw [Bp,List.take_length];exact @q
theorem wO {b:Nat}(hb:1<=b):∀(k n:Nat),∀f∈bp b k n,f<b
 | 0,_,_,h=>by cases h
 | _+1,0,_,h=>by cases h
 | k+1,n+1,f,h=>by
   rcases mcp h with rfl | h
   . exact Av _ hb
   . exact wO hb k _ f h
theorem eu (hb:1<=b):∀(k n m:Nat),n<b ^ m->(bp b k n).length<=m
 | 0,_,_,_=>Ab _
 | _+1,0,_,_=>Ab _
 | k+1,n+1,0,h=>absurd (show n+1<1 from h) (by lia)
 | k+1,n+1,m+1,h=>Ai (eu hb k _ m ((AK hb).mpr h))
noncomputable def wz:Nat->Nat
 | 0=>1
 | k+1=>2 ^ wz k
theorem ra:∀k,k<5->∀p,p<11->(∀c∈fc 2 k p,c<120)/\(fc 2 k p).length<=20:=by decide +kernel
theorem sN:∀k,k<5->∀p,p<11->(∀c∈fc 3 k p,c<120)/\(fc 3 k p).length<=20:=by decide +kernel
theorem ri:∀k,k<5->∀p,p<11->(∀c∈fc 4 k p,c<120)/\(fc 4 k p).length<=20:=by decide +kernel
noncomputable abbrev uz (b:Int)(bn:Nat):Prop:=b=2/\bn=2\/b=3/\bn=3\/b=4/\bn=4
noncomputable abbrev C6 (s:Int):Prop:=s=0\/s=1\/s=-1
theorem nw (F:b8 B){b s:Int}{bn:Nat}{g:Nat->List Nat}{Q:PQ}(hb:uz b bn)(hs:C6 s)(hn:n<2000)(hg:∀p,p<(bp bn 11 n).length->(∀c∈g p,c<120)/\(g p).length<=20)
   (hr:∀(p:Nat) (H:AH) (Q:PQ),p<(bp bn 11 n).length->Q (.str (ofL (g p))) H->aF [] NoE H B (d+64) (.raw (.ref F.f)) [.int (p:Nat),.int b,.int (-s)] Q)(q:Q (.str (ofL (eR g (bp bn 11 n) 0 []))) H) :
   aF [] NoE H B (d+65) (.raw (.ref F.f)) [.int (n:Nat),.int b,.int s] Q:=by
 refine dH ?_;refine F.h.call (d:=d+64) (λdoc pm an ct=>rQ λS u v w=>wu) rfl zC (Dw F) ?_;have ht:(bp bn 11 n).getLast?≠some 0:=sY (by rcases hb with h | h | h <;> lia) 11 n (Ag hn (by rcases hb with ⟨_,rfl⟩ | ⟨_,rfl⟩ | ⟨_,rfl⟩ <;> decide))
 have hf3:∀f∈bp bn 11 n,f<=3:=λf hf=>by
   have:=wO (by rcases hb with h | h | h <;> lia) 11 n f hf;rcases hb with h | h | h <;> lia
 have hl:=jA bn 11 n;rcases hb with ⟨rfl,rfl⟩ | ⟨rfl,rfl⟩ | ⟨rfl,rfl⟩
 . refine o7 F (d:=d) (Q:=λv H'=>∃e H'',H'=e::H''/\Q v H'') (a:=1) (.inl ⟨rfl,rfl⟩) hn λA=>?_
   exact j6 F (d:=d) (Q:=λv H'=>∃e H'',H'=e::H''/\Q v H'') ht hl hf3 hg hr ⟨_,_,rfl,q⟩
 . refine sh F (d:=d) (Q:=λv H'=>∃e H'',H'=e::H''/\Q v H'') rfl hs hn λA nn figure=>?_
   exact j6 F (d:=d) (Q:=λv H'=>∃e H'',H'=e::H''/\Q v H'') ht hl hf3 hg hr ⟨_,_,rfl,q⟩
 . refine o7 F (d:=d) (Q:=λv H'=>∃e H'',H'=e::H''/\Q v H'') (a:=2) (.inr ⟨rfl,rfl⟩) hn λA=>?_
   exact j6 F (d:=d) (Q:=λv H'=>∃e H'',H'=e::H''/\Q v H'') ht hl hf3 hg hr ⟨_,_,rfl,q⟩
theorem jp (F:b8 B){b:Int}{bn:Nat}(hb:uz b bn):∀(k d n:Nat) (s:Int) (H:AH) (Q:PQ),k<5->C6 s->n<wz k->n<2000->Q (.str (ofL (fc bn k n))) H->aF [] NoE H B (d+k+65) (.raw (.ref F.f)) [.int (n:Nat),.int b,.int s] Q:=by
 intro k
 induction k with
 | zero=>
   intro d n s H Q hk hs h hn q;obtain rfl:n=0:=Nat.lt_one_iff.mp h;exact nw F (g:=λO=>[]) hb hs ∅ (λp h=>(AW p h).elim) (λp H Q h=>(AW p h).elim) q
 | succ k ih=>
   intro d n s H Q hk hs h hn q;have hl:(bp bn 11 n).length<=wz k:=eu (by rcases hb with h | h | h <;> lia) 11 n _ (nlt h (Nat.pow_le_pow_left (by rcases hb with h | h | h <;> lia) _));have hl2:=jA bn 11 n;refine nw F (d:=d+k+1) (g:=fc bn k) hb hs hn (λp hp=>?_) (λp H Q hp q=>?_) q
   . have h1:k<5:=by lia
     have h2:p<11:=by lia
     rcases hb with ⟨_,rfl⟩ | ⟨_,rfl⟩ | ⟨_,rfl⟩
     . exact ra k h1 p h2
     . exact sN k h1 p h2
     . exact ri k h1 p h2
   . exact ih d p (-s) H Q (by lia) (by rcases hs with rfl | rfl | rfl <;> decide) (nlt hp hl) (by lia) q
end
end
set_option maxHeartbeats 2000000
section
section
set_option genInjectivity false in
set_option genSizeOf false in
structure iE (B:aI) where
 m:Addr
 cm:Value
 hm:af .none .none qW "_law_moved" m cm B
 gm:aC B "_law_moved" (.raw (.ref m))
theorem EC {doc pm ct:Value}{u v:Value}:b0 S [] (bindArgs (bN "_law_moved" qW .none .none doc pm an cdv ct) ⟨[u,v,w],[]⟩)=some ([],[(Ω "number",u),(Ω "base",v),(Ω "new",w)]):=by kernel_rfl
theorem Fd:bb [Ω "number",Ω "base",Ω "new"] (aG (aJ qW))=true:=by decide +kernel
noncomputable abbrev aBe (F:iE B)(number base new:PV)(total power:Option PV):St:=[(Ω "number",.local,some number),(Ω "base",.local,some base),(Ω "new",.local,some new),(Ω "total",.local,total),(Ω "power",.local,power),(Ω "_law_moved",.globalImplicit,some (.raw (.ref F.m)))]
theorem Ff (F:iE B){n b s:PV}:Ini B [(Ω "number",n),(Ω "base",b),(Ω "new",s)] (aG (aJ qW)).names (aBe F n b s none none):=by
 refine .arg (by walk_at "mm") (.inl rfl) (.arg (by walk_at "mm") (.inl rfl) (.arg (by walk_at "mm") (.inl rfl) (.unset (.unset (.glob F.gm .nil)))))
theorem eU {a r:Nat}(hb:0<b)(e:a%b=r)(h:Q (.int (r:Nat)) H):V2 H E B d (.int (b:Nat)) (.int (a:Nat)) (binaryOp .Mod) Q:=b7 (Int.ofNat_ne_zero.mpr (Ax hb)) (g7 a b hb▸e▸h)
theorem lj {a:Nat}(hb:0<b)(h2:b<2 ^ 64)(h:Q (.int (a/b:Nat)) H):V2 H E B d (.int (b:Nat)) (.int (a:Nat)) (binaryOp .FloorDiv) Q:=d5 (Int.ofNat_ne_zero.mpr (Ax hb)) (ik h2) (wZ a b▸h)
theorem aG4 (b j:Nat):bp b j 0=[]:=by cases j <;> rfl
theorem eD :(((m+1:Nat):Int) != 0)=true:=bne_iff_ne.mpr (Int.ofNat_ne_zero.mpr (Nat.succ_ne_zero m))
inductive aFc (F:iE B)(b x T N:Nat)(g:Nat->Nat)(H:AH):Nat->SQ
 | mk {m p t j:Nat} (hd:t+qQ x g (bp b j m) p=T) (hj:m<b ^ j) (hp:p+(bp b j m).length=N):aFc F b x T N g H m (aBe F (.int (m:Nat)) (.int (b:Nat)) (.int (x:Nat)) (some (.int (t:Nat))) (some (.int (p:Nat)))) H
theorem tL (F:iE B){x T N:Nat}{g:Nat->Nat}{Q:PQ}(hb2:2<=b)(hb3:b<=3)(hx2:2<=x)(hx:x<=4)(hn:n<b ^ 11)(hT:0+qQ x g (bp b 11 n) 0=T)(hN:0+(bp b 11 n).length=N)(hg:∀p,p<N->g p<=5)
   (hr:∀(p:Nat) (H:AH) (Q:PQ),p<N->Q (.int (g p:Nat)) H->aF [] NoE H B (d+64) (.raw (.ref F.m)) [.int (p:Nat),.int (b:Nat),.int (x:Nat)] Q)(q:Q (.int (T:Nat)) H) :
   aF [] NoE H B (d+65) (.raw (.ref F.m)) [.int (n:Nat),.int (b:Nat),.int (x:Nat)] Q:=by
 have hb0:0<b:=Nat.lt_of_succ_lt hb2;have hb64:b<2 ^ 64:=Ae hb3 ∅;refine F.hm.call (d:=d+64) (λdoc pm an ct=>rQ λS u v w=>EC) rfl Fd (Ff F) ?_;refine' aH ?_;refine m6 ?_ (by rfl) (by intro _;rfl);ext;refine ec (aFc F b x T N g H) (n:=n) (.mk hT hn hN) ?_;intro m _ _ I;obtain @⟨p,t,j,hd,hj,hp⟩:=I;ext
 cases m with
 | zero=>
   refine' ifn (λe=>BW e) ?_;ext;rw [aG4] at hd;obtain rfl:t=T:=hd;exact @q
 | succ m=>
   refine' ifp eD ?_
   cases j with
   | zero=>exact (nlr (As m) hj).elim
   | succ j=>
   have hp':p+1+(bp b j ((m+1)/b)).length=N:=(AV ..).trans hp;have hpl:p<N:=nlt (An p) (Nat.le.intro hp');obtain ⟨f,hf⟩:∃f,(m+1)%b=f:=⟨_,rfl⟩;refine' aH (D7 (S:=aBe F (.int (m+1:Nat)) (.int (b:Nat)) (.int (x:Nat)) (some (.int (t+aDn x (g p) f:Nat))) (some (.int (p:Nat)))) ?_ ?_)
   . ext
     refine eU hb0 hf ?_;ext
     cases f with
     | zero=>
       refine' ifn (λe=>BW e) ?_;ext;exact ⟨rfl,rfl⟩
     | succ f=>
       refine' ifp eD ?_;ext;refine eU hb0 hf ?_;ext;refine ⟨aD F.hm,?_⟩;ext;refine hr p _ _ hpl ?_;ext;refine mF hx2 (Ae hx ∅) (ntr (hg p hpl) ∅) ?_;ext;refine lg (Ae (Ac (hf▸Av (m+1) hb0)) (Ae hb3 ∅)) ?_;ext;exact ⟨rfl,rfl⟩
   refine' aH ?_;refine qA (Ω "number") (Ω "power") (by kernel_rfl) ?_;ext;refine' lj hb0 hb64 ?_;ext;exact ⟨(m+1)/b,Nat.div_lt_self (As m) hb2,.mk ((AC ..).trans (hf▸hd)) ((AK hb0).mpr hj) hp'⟩
theorem t7:∀k,k<5->∀p,p<4->movedF 2 3 k p<=5:=by decide +kernel
theorem s7:∀k,k<5->∀p,p<4->movedF 2 4 k p<=5:=by decide +kernel
theorem se:∀k,k<5->∀p,p<5->movedF 3 4 k p<=5:=by decide +kernel
noncomputable abbrev Cw (b x n:Nat):Prop:=b=2/\x=3/\n<16\/b=2/\x=4/\n<16\/b=3/\x=4/\n<243
structure aGa (b x len:Nat):Prop where
 b2:2<=b
 b3:b<=3
 x2:2<=x
 x4:x<=4
 pb:len<=b ^ len
 pu:b ^ len<=b ^ 11
 small:∀k,k<5->∀p,p<len->movedF b x k p<=5
theorem jn (F:iE B){x len:Nat}(C:aGa b x len):∀(k d n:Nat) (H:AH) (Q:PQ),k<5->n<b ^ len->n<wz k->Q (.int (movedF b x k n:Nat)) H->aF [] NoE H B (d+k+65) (.raw (.ref F.m)) [.int (n:Nat),.int (b:Nat),.int (x:Nat)] Q:=by
 intro k
 induction k with
 | zero=>
   intro d n H Q hk hm h q;obtain rfl:n=0:=Nat.lt_one_iff.mp h;exact tL F (g:=λO=>0) C.b2 C.b3 C.x2 C.x4 (nlt hm C.pu) rfl rfl (λO O=>Ab _) (λp H Q h=>(AW p h).elim) q
 | succ k ih=>
   intro d n H Q hk hm h q;have hk':k<5:=Nat.lt_of_succ_lt hk;have hl:0+(bp b 11 n).length<=wz k:=Ak _▸eu (Ao C.b2) 11 n _ (nlt h (Nat.pow_le_pow_left C.b2 _));have hl5:0+(bp b 11 n).length<=len:=Ak _▸eu (Ao C.b2) 11 n len hm;exact tL F (d:=d+k+1) (g:=movedF b x k) C.b2 C.b3 C.x2 C.x4 (nlt hm C.pu) (Ak _) rfl (λp hp=>C.small k hk' p (nlt hp hl5)) (λp H Q hp=>ih d p H Q hk' (nlt (nlt hp hl5) C.pb) (nlt hp hl)) q
theorem iq (F:iE B){x:Nat}(k d n:Nat)(H:AH)(Q:PQ)(hk:k<5)(hm:Cw b x n)(h:n<wz k)(q:Q (.int (movedF b x k n:Nat)) H):aF [] NoE H B (d+k+65) (.raw (.ref F.m)) [.int (n:Nat),.int (b:Nat),.int (x:Nat)] Q:=by
 rcases hm with ⟨rfl,rfl,hn⟩ | ⟨rfl,rfl,hn⟩ | ⟨rfl,rfl,hn⟩
 . exact jn F (len:=4) ⟨by decide,by decide,by decide,by decide,by decide,by decide,t7⟩ k d n H Q hk hn h q
 . exact jn F (len:=4) ⟨by decide,by decide,by decide,by decide,by decide,by decide,s7⟩ k d n H Q hk hn h q
 . exact jn F (len:=5) ⟨by decide,by decide,by decide,by decide,by decide,by decide,se⟩ k d n H Q hk hn h q
end
end
set_option maxHeartbeats 2000000
section
set_option genInjectivity false in
set_option genSizeOf false in
structure RdC (fs fb fn:List Nat)(P:List Nat->List Nat->List Nat->List Nat->Nat->Prop):Prop where
 nil:∀{d},P [] fs fb fn d
 lone:∀{d},P [92] fs fb fn d
 pair:∀{c d r su ba ne},r≠[]->P r su ba ne 0->P (92::c::r) su ba ne d
 opn:∀{d r su} {ba:List Nat} {ne},ba.length<=20->su.length<=30->ne.length<=1000->P r (0::su) (d::ba) (ne++[97+ba.length]) 0->P (40::r) su ba ne d
 cls:∀{d x w v r su} {ba:List Nat} {ne},2<=x->x<=1000->w<=1000->ba.length<=30->su.length<=30->P r ((v+x ^ w)::su) ba ne 0->P (41::r) (w::v::su) (x::ba) ne d
 dot:∀{d r su ba ne},P r su ba ne (d+1)->P (46::r) su ba ne d
 other:∀{c d r su ba ne},c≠92->c≠40->c≠41->c≠46->P r su ba ne 0->P (c::r) su ba ne d
noncomputable def Rd (fs fb fn r su ba ne:List Nat)(d:Nat):Prop:=∀P,RdC fs fb fn P->P r su ba ne d
section
variable {fs fb fn su ba ne:List Nat}
theorem Rd.nil:Rd fs fb fn [] fs fb fn d:=λO k=>k.nil
theorem Rd.lone:Rd fs fb fn [92] fs fb fn d:=λO k=>k.lone
theorem Rd.pair {c:Nat}(hr:r≠[])(h:Rd fs fb fn r su ba ne 0):Rd fs fb fn (92::c::r) su ba ne d:=λO k=>k.pair hr (h _ k)
theorem Rd.opn (hb:ba.length<=20)(hs:su.length<=30)(hn:ne.length<=1000)(h:Rd fs fb fn r (0::su) (d::ba) (ne++[97+ba.length]) 0):Rd fs fb fn (40::r) su ba ne d:=λO k=>k.opn hb hs hn (h _ k)
theorem Rd.cls {x w v:Nat}(hx:2<=x)(hx2:x<=1000)(hw:w<=1000)(hb:ba.length<=30)(hs:su.length<=30)(h:Rd fs fb fn r ((v+x ^ w)::su) ba ne 0):Rd fs fb fn (41::r) (w::v::su) (x::ba) ne d:=λO k=>k.cls hx hx2 hw hb hs (h _ k)
theorem Rd.dot (h:Rd fs fb fn r su ba ne (d+1)):Rd fs fb fn (46::r) su ba ne d:=λO k=>k.dot (h _ k)
theorem Rd.other {c:Nat}(h1:c≠92)(h2:c≠40)(h3:c≠41)(h4:c≠46)(h:Rd fs fb fn r su ba ne 0):Rd fs fb fn (c::r) su ba ne d:=λO k=>k.other h1 h2 h3 h4 (h _ k)
end
section
set_option genInjectivity false in
set_option genSizeOf false in
structure ck (B:aI) where
 M:gK B
 r:Addr
 cr:Value
 hr:af .none .none dY "_law_read" r cr B
 gr:aC B "_law_read" (.raw (.ref r))
 gLe:aC B "len" (.raw (.builtin "len"))
 gCh:aC B "chr" (.raw (.builtin "chr"))
theorem yM {doc pm ct:Value}{u v:Value}:b0 S [] (bindArgs (bN "_law_read" dY .none .none doc pm an cdv ct) ⟨[u,v],[]⟩)=some ([],[(Ω "mail",u),(Ω "bare",v)]):=by kernel_rfl
theorem yw:bb [Ω "mail",Ω "bare"] (aG (aJ dY))=true:=by decide +kernel
noncomputable abbrev iQ (F:ck B)(mail bare:PV)(sums bases nest dots whole place sign worth:Option PV):St:=[(Ω "mail",.local,some mail),(Ω "bare",.local,some bare),(Ω "sums",.local,sums),(Ω "bases",.local,bases),(Ω "nest",.local,nest),(Ω "dots",.local,dots),(Ω "whole",.local,whole),(Ω "place",.local,place),(Ω "sign",.local,sign),(Ω "worth",.local,worth),
 (Ω "_iter_escaped_chars",.globalImplicit,some (.raw (.ref F.M.g))),(Ω "_strip_quoted_realnames",.globalImplicit,some (.raw (.ref F.M.f))),(Ω "len",.globalImplicit,some (.raw (.builtin "len"))),(Ω "chr",.globalImplicit,some (.raw (.builtin "chr")))]
theorem zl (F:ck B){m b:PV}:Ini B [(Ω "mail",m),(Ω "bare",b)] (aG (aJ dY)).names (iQ F m b none none none none none none none none):=by
 refine .arg (by walk_at "mm") (.inl rfl) (.arg (by walk_at "mm") (.inl rfl) (.unset (.unset (.unset (.unset (.unset (.unset (.unset (.unset (.glob F.M.gg (.glob F.M.gf (.glob F.gLe (.glob F.gCh .nil)))))))))))))
noncomputable abbrev gu:Stmt:=((aZ (aJ dY))[1]?).getD (.Pass default)
theorem vJ:Ω "\\" = ofL [92]:=by decide +kernel
theorem nV (F:ck B){mail:PV}{bare pre s:List Nat}{c p:Nat}{sums bases nest dots place sign worth:Option PV}(hl:pre.length+s.length<=4000)(hp:p+1=(pre++s).length)(hs:s=[c]/\(c≠92\/pre++s=bare)\/s=[92,c]/\pre++s≠bare)
   (q:Xs NoE B (d+64) (d8 dY "_law_read") H (iQ F mail (.str (ofL bare)) sums bases nest dots (some (.str (ofL (pre++s)))) (some (.int (p:Nat))) (some (.str (ofL s))) worth) ((aM gu).drop 2) Qn Qf) :
   Asg B (d8 dY "_law_read") (d+64) NoE (a0 gu) (.tup [.int (p:Nat),.str (ofL s)]) (iQ F mail (.str (ofL bare)) sums bases nest dots (some (.str (ofL pre))) place sign worth) H λσ₁ H₁=>Xs NoE B (d+64) (d8 dY "_law_read") H₁ σ₁ (aM gu) Qn Qf:=by
 have hs4:s.length<=4000:=ntr (Am _ _) hl;refine' jU (by rfl) (by rfl) ?_;ext;refine' aH ?_;ext;refine pT (ntr hl ∅) ?_;ext;refine ⟨aB,?_⟩;ext;refine gT hp.symm (Bb▸ntr hl ∅) ?_;ext;refine' ifn (λe=>bne_iff_ne.mp e rfl) ?_;ext;refine ⟨aB,?_⟩;ext;refine gT rfl (ntr hs4 ∅) ?_;ext;refine wC (w:=.int (s.length:Nat)) ?_ ?_
 . refine bh ?_
   ext;refine ⟨bH cC,mG ∅ (dR hs4) (bZ (congrArg PV.str (o4 s)) ?_)⟩;ext;rcases hs with ⟨rfl,hc⟩ | ⟨rfl,hc⟩
   . by_cases h92:c=92
     . subst h92
       refine' ifp (decide_eq_true vJ.symm) ?_;ext;refine' aC4 (dQ.mpr (hc.resolve_left λh=>h rfl)) ?_;ext;exact ⟨rfl,rfl⟩
     . refine' ifn (λe=>h92 ?_) ?_
       . exact (List.cons.inj (dQ.mp ((of_decide_eq_true e).trans vJ))).1
       ext;exact ⟨rfl,rfl⟩
   . refine' ifp (decide_eq_true vJ.symm) ?_
     ext;refine' aB5 (λe=>hc (dQ.mp e)) ?_;ext;exact ⟨rfl,rfl⟩
 ext;refine' ifn (λe=>bne_iff_ne.mp e rfl) ?_;walk_at "mw";refine dB ?_;exact @q
theorem eO (x:Nat)(l:List Nat):aa (x::l).reverse=aa l.reverse++[PV.int (x:Nat)]:=by
 show (x::l).reverse.map _=_;rw [List.reverse_cons,Bj];rfl
theorem wE:Ω "." = ofL [46]:=by decide +kernel
theorem px:Ω "(" = ofL [40]:=by decide +kernel
theorem wS:Ω ")" = ofL [41]:=by decide +kernel
theorem ld (F:ck B){mail bare:PV}{s:List Nat}{dots r:Nat}(hr:(if s=[46] then dots+1 else 0)=r){sums bases nest whole place worth:Option PV}
   (q:Qn (iQ F mail bare sums bases nest (some (.int (r:Nat))) whole place (some (.str (ofL s))) worth) H) :
   Xs NoE B (d+64) (d8 dY "_law_read") H (iQ F mail bare sums bases nest (some (.int (dots:Nat))) whole place (some (.str (ofL s))) worth) ((aM gu).drop 3) Qn Qf:=by
 refine' aH ?_;ext;refine wC (w:=.int (r:Nat)) ?_ ?_
 . refine bh ?_
   ext;by_cases h:s=[46]
   . refine' ifp (decide_eq_true ((dQ.mpr h).trans wE.symm)) ?_
     ext;exact ⟨congrArg (λn:Nat=>PV.int n) ((if_pos h).symm.trans hr),rfl⟩
   . refine' ifn (λe=>h (dQ.mp ((of_decide_eq_true e).trans wE))) ?_
     ext;exact ⟨congrArg (λn:Nat=>PV.int n) ((if_neg h).symm.trans hr),rfl⟩
 ext;exact @q
theorem qw {l:List Nat}(h:l.length<=1000):(aa l.reverse).length<=1000:=ntr (Ad ((Ba _).trans Br)) h
section
variable {A:Addr}{l:List Nat}{x:Nat}
theorem wq (hv:aT H v (aa l.reverse))(h:l.length<=1000)(q:Q (.int (l.length:Nat)) H):aF [] E H B d (.raw (.builtin "len")) [v] Q:=
 ac hv (Ae (qw h) ∅) (by rw [Ba,Br];exact q)
theorem jK (u:Upd A (aa l.reverse) (aa (x::l).reverse) H H')(h:l.length<=1000)(q:Q .none H'):aF [] E H B d (.raw (.builtin "list.append")) [.lref A,.int (x:Nat)] Q:=
 bQ (eO x l▸u) (dR (qw h)) q
theorem oy (u:Upd A (aa (x::l).reverse) (aa l.reverse) H H')(h:l.length<=1000)(q:Q (.int (x:Nat)) H'):aF [] E H B d (.raw (.builtin "list.pop")) [.lref A] Q:=
 z6 (eO x l▸u) (dR (Ai (qw h))) q
theorem Cg (hv:aT H v (aa (x::l).reverse))(q:Q (.int (x:Nat)) H):V2 H E B d (.int (-1)) v getItem Q:=FD (eO x l▸hv) q
theorem ye {y:Nat}{Q:AH->Prop}(u:Upd A (aa (x::l).reverse) (aa (y::l).reverse) H H')(q:Q H'):Cu B d E (.lref A) (.int (-1)) (.int (y:Nat)) H Q:=yn (eO x l▸eO y l▸u) q
theorem mM {deps:AH}{items:List PV}{x:PV}(e:items=x::xs)
   (h:Asg B fi d NoE tgt x σ H λσ₁ H₁=>Xs NoE B d fi H₁ σ₁ body (λσ₂ H₂=>(∀p∈deps,p∈H₂)/\cQ B fi d tgt body deps xs σ₂ H₂ Qn Qf)
     (λσ₂ pf H₂=>match pf with
       | .cont=>(∀p∈deps,p∈H₂)/\cQ B fi d tgt body deps xs σ₂ H₂ Qn Qf
       | .brk=>Qn σ₂ H₂
       | .ret v=>Qf σ₂ (.ret v) H₂)):cQ B fi d tgt body deps items σ H Qn Qf:=e▸bP h
end
theorem fB (F:ck B){mail bare:PV}{s:List Nat}{dots r:Nat}(hr:(if s=[46] then dots+1 else 0)=r){sums bases nest whole place worth:Option PV}(h1:s≠[40])(h2:s≠[41])
   (q:Qn (iQ F mail bare sums bases nest (some (.int (r:Nat))) whole place (some (.str (ofL s))) worth) H) :
   Xs NoE B (d+64) (d8 dY "_law_read") H (iQ F mail bare sums bases nest (some (.int (dots:Nat))) whole place (some (.str (ofL s))) worth) ((aM gu).drop 2) Qn Qf:=by
 refine' aH ?_;ext;refine' ifn (λe=>h1 (dQ.mp ((of_decide_eq_true e).trans px))) ?_;ext;refine' ifn (λe=>h2 (dQ.mp ((of_decide_eq_true e).trans wS))) ?_;refine' dB (dB ?_);exact ld F hr q
theorem z8 (F:ck B){mail bare:PV}{S:Addr}{su ba ne:List Nat}{dots:Nat}{whole place worth:Option PV}(hb:ba.length<=20)(hs:su.length<=30)(hn:ne.length<=1000)
   (q:Qn (iQ F mail bare (some (.lref S)) (some (.lref C)) (some (.str (ofL (ne++[97+ba.length])))) (some (.int (0:Nat))) whole place (some (.str (ofL [40]))) worth) ((C,aa (dots::ba).reverse)::(S,aa (0::su).reverse)::H)) :
   Xs NoE B (d+64) (d8 dY "_law_read") ((C,aa ba.reverse)::(S,aa su.reverse)::H) (iQ F mail bare (some (.lref S)) (some (.lref C)) (some (.str (ofL ne))) (some (.int (dots:Nat))) whole place (some (.str (ofL [40]))) worth) ((aM gu).drop 2) Qn Qf:=by
 refine' aH ?_;ext;refine' ifp (decide_eq_true px.symm) ?_;ext;refine ⟨aB,?_⟩;ext;refine ⟨aB,?_⟩;ext;refine wq (.lref (.head _)) (ntr hb ∅) ?_;ext;refine tQ (c:=97+ba.length) (Ae (Au hb 97) ∅) ?_;refine wW (b:=[97+ba.length]) hn (Aa 1) ?_;ext;refine ⟨_,bA (.lref (.head _)),?_⟩;ext;refine jK .head (ntr hb ∅) ?_;ext;refine ⟨_,bA (.lref (.tail _ (.head _))),?_⟩;ext;refine jK (x:=0) (.tail .head) (ntr hs ∅) ?_;refine' dB ?_;exact ld F (if_neg ∅) q
theorem yq (F:ck B){mail bare:PV}{S:Addr}{su ba ne:List Nat}{dots x w v:Nat}{whole place worth:Option PV}(hx:2<=x)(hx2:x<=1000)(hw:w<=1000)(hb:ba.length<=30)(hs:su.length<=30)
   (q:∀worth,Qn (iQ F mail bare (some (.lref S)) (some (.lref C)) (some (.str (ofL ne))) (some (.int (0:Nat))) whole place (some (.str (ofL [41]))) worth) ((C,aa ba.reverse)::(S,aa ((v+x ^ w)::su).reverse)::H)) :
   Xs NoE B (d+64) (d8 dY "_law_read") ((C,aa (x::ba).reverse)::(S,aa (w::v::su).reverse)::H) (iQ F mail bare (some (.lref S)) (some (.lref C)) (some (.str (ofL ne))) (some (.int (dots:Nat))) whole place (some (.str (ofL [41]))) worth) ((aM gu).drop 2) Qn Qf:=by
 refine' aH ?_;ext;refine' ifn (λe=>(by decide:¬([41]:List Nat)=[40]) (dQ.mp ((of_decide_eq_true e).trans px))) ?_;ext;refine' ifp (decide_eq_true wS.symm) ?_;ext;refine ⟨_,rP (.lref (.head _)),?_⟩;ext;refine oy (l:=ba) .head (ntr hb ∅) ?_;ext;refine ⟨_,rP (.lref (.tail _ (.head _))),?_⟩;ext;refine oy (l:=v::su) (.tail .head) (ntr (Ai hs) ∅) ?_;ext;refine mF hx (Ae hx2 ∅) hw ?_;ext;refine fQ ?_;ext;refine Cg (x:=v) (l:=su) (.lref (.tail _ (.head _))) ?_;ext;refine ye (x:=v) (y:=v+x ^ w) (l:=su) (.tail .head) ?_;refine' dB (dB ?_);exact ld F (if_neg ∅) (q (some (.int (x ^ w:Nat))))
noncomputable def aDe (d:Nat)(H:AH)(F:ck B)(mail:PV)(bare:List Nat)(S C:Addr)(Qn:SQ)(Qf:FQ)(r su ba ne:List Nat)(dots:Nat):Prop:=
   ∀(pre:List Nat) (place sign worth:Option PV),pre++r=bare->
   cQ B (d8 dY "_law_read") (d+64) (a0 gu) (aM gu) [] ((aV pre.length false r).map dS) (iQ F mail (.str (ofL bare)) (some (.lref S)) (some (.lref C)) (some (.str (ofL ne))) (some (.int (dots:Nat))) (some (.str (ofL pre))) place sign worth) ((C,aa ba.reverse)::(S,aa su.reverse)::H) Qn Qf
theorem C3 (F:ck B){mail:PV}{bare:List Nat}{S:Addr}{fs fb fn:List Nat}(hl:bare.length<=3000)
   (q:∀dots place sign worth,Qn (iQ F mail (.str (ofL bare)) (some (.lref S)) (some (.lref C)) (some (.str (ofL fn))) dots (some (.str (ofL bare))) place sign worth) ((C,aa fb.reverse)::(S,aa fs.reverse)::H)){su ba ne:List Nat}{dots:Nat}(R:Rd fs fb fn r su ba ne dots):aDe d H F mail bare S C Qn Qf r su ba ne dots:=by
 have one:∀{c:Nat} {r:List Nat} {su ba ne:List Nat} {dots:Nat} (pre:List Nat) (place sign worth:Option PV) (e:pre++c::r=bare) (h:c≠92\/r=[])
     (k:Xs NoE B (d+64) (d8 dY "_law_read") ((C,aa ba.reverse)::(S,aa su.reverse)::H) (iQ F mail (.str (ofL bare)) (some (.lref S)) (some (.lref C)) (some (.str (ofL ne))) (some (.int (dots:Nat))) (some (.str (ofL (pre++[c])))) (some (.int (pre.length:Nat))) (some (.str (ofL [c]))) worth) ((aM gu).drop 2)
       (λσ₂ H₂=>(∀p∈([]:AH),p∈H₂)/\cQ B (d8 dY "_law_read") (d+64) (a0 gu) (aM gu) [] ((aV (pre++[c]).length false r).map dS) σ₂ H₂ Qn Qf)
       (λσ₂ pf H₂=>match pf with
         | .cont=>(∀p∈([]:AH),p∈H₂)/\cQ B (d8 dY "_law_read") (d+64) (a0 gu) (aM gu) [] ((aV (pre++[c]).length false r).map dS) σ₂ H₂ Qn Qf
         | .brk=>Qn σ₂ H₂
         | .ret v=>Qf σ₂ (.ret v) H₂)),
     cQ B (d8 dY "_law_read") (d+64) (a0 gu) (aM gu) [] ((aV pre.length false (c::r)).map dS) (iQ F mail (.str (ofL bare)) (some (.lref S)) (some (.lref C)) (some (.str (ofL ne))) (some (.int (dots:Nat))) (some (.str (ofL pre))) place sign worth) ((C,aa ba.reverse)::(S,aa su.reverse)::H) Qn Qf:=by
   intro c r su ba ne dots pre place sign worth e h k;have hlen:pre.length+(r.length+1)<=3000:=by rw [<-e,Bb] at hl;exact hl
   have ht:aV pre.length false (c::r)=(pre.length,[c])::aV (pre++[c]).length false r:=by
     rw [Bb,Bw];by_cases h92:c=92
     . subst h92
       rw [h.resolve_left λh=>h rfl];rfl
     . exact dv.trans (if_neg h92)
   refine mM (congrArg (List.map dS) ht) ?_;exact nV F (pre:=pre) (s:=[c]) (c:=c) (p:=pre.length) (ntr (Au (Am 1 _) _) (ntr hlen ∅)) (Bb (bs:=[c])).symm (.inl ⟨rfl,h.imp id λh=>by rw [h] at e;exact e⟩) k
 refine R _ ⟨?_,?_,?_,?_,?_,?_,?_⟩
 . intro d pre place sign worth e
   rw [Bd] at e;subst e;exact b6 (q _ _ _ _)
 . intro d pre place sign worth e
   refine one pre place sign worth e (.inr rfl) (fB F (if_neg ∅) ∅ ∅ ⟨λO h=>(by cases h),b6 ?_⟩);rw [e];exact q _ _ _ _
 . intro c dots r su ba ne hr ih pre place sign worth e
   have hlen:pre.length+(r.length+2)<=3000:=by rw [<-e,Bb] at hl;exact hl
   refine mM (x:=dS (pre.length+1,[92,c])) (xs:=(aV (pre.length+1+1) false r).map dS) rfl ?_;refine nV F (pre:=pre) (s:=[92,c]) (c:=c) (p:=pre.length+1) (ntr (Au (Am 2 _) _) (ntr hlen ∅)) (Bb (bs:=[92,c])).symm (.inr ⟨rfl,λh=>hr ?_⟩) (fB F (if_neg λh=>by cases h) (λh=>by cases h) (λh=>by cases h) ⟨λO h=>(by cases h),?_⟩)
   . have:=congrArg List.length (h.trans e.symm)
     rw [Bb,Bb,Bf,Bf,Bf,Bf,List.length_nil] at this;exact BL (by lia)
   have:=ih (pre++[92,c]) (some (.int (pre.length+1:Nat))) (some (.str (ofL [92,c]))) worth (by rw [Bc];exact e);rw [Bb] at this;exact this
 . intro dots r su ba ne hb hs hn ih pre place sign worth e
   exact one pre place sign worth e (.inl ∅) (z8 F hb hs hn ⟨λO h=>(by cases h),ih (pre++[40]) _ _ _ (by rw [Bc];exact e)⟩)
 . intro dots x w v r su ba ne hx hx2 hw hb hs ih pre place sign worth e
   exact one pre place sign worth e (.inl ∅) (yq F hx hx2 hw hb hs λO=>⟨λO h=>(by cases h),ih (pre++[41]) _ _ _ (by rw [Bc];exact e)⟩)
 . intro dots r su ba ne ih pre place sign worth e
   exact one pre place sign worth e (.inl ∅) (fB F (if_pos rfl) ∅ ∅ ⟨λO h=>(by cases h),ih (pre++[46]) _ _ _ (by rw [Bc];exact e)⟩)
 . intro c dots r su ba ne h1 h2 h3 h4 ih pre place sign worth e
   refine one pre place sign worth e (.inl h1) (fB F (if_neg λh=>h4 (List.cons.inj h).1) (λh=>h2 (List.cons.inj h).1) (λh=>h3 (List.cons.inj h).1) ⟨λO h=>(by cases h),?_⟩);exact ih (pre++[c]) _ _ _ (by rw [Bc];exact e)
theorem ww (F:ck B){mail:Str}{bare:List Nat}{w:Nat}{fb fn:List Nat}(ha:mail.cps.all (· < 128)=true)(hm:mail.length<=3000)(hb:d6 mail=ofL bare)(hba:Asc (ofL bare))(hl:bare.length<=3000)(R:Rd [w] fb fn bare [0] [] [] 0)
   (q:Q (.tup [.int (w:Nat),.str (ofL fn)]) H):aF [] NoE H B (d+65) (.raw (.ref F.r)) [.str mail,.str (ofL bare)] Q:=by
 refine dH (dH ?_);refine F.hr.call (d:=d+64) (λdoc pm an ct=>D6 λS u v=>yM) rfl yw (zl F) ?_;refine' aH ?_;ext;refine cA ?_;ext;intro S;ext;refine cA ?_;ext;intro C;ext;rw [gY];ext;refine ⟨aD F.M.hg,?_⟩;ext;refine ⟨aD F.M.hf,?_⟩;ext;refine mN (d:=d+52) F.M.hf F.M.hg F.M.gg F.M.gl F.M.ge ha hm ?_;rw [hb];ext;refine jk (d:=d+57) F.M.hg F.M.ge hba.all ?_;ext;refine C3 F hl (λdots place sign worth=>?_) R [] none none none rfl;ext;refine wC (w:=.int (w:Nat)) ?_ ?_
 . refine bh ?_
   ext;refine' ifp (decide_eq_true rfl) ?_;ext;refine ⟨aK (.lref (.tail _ (.head _))),?_⟩;exact cM (.lref (.tail _ (.head _))) ∅ ∅ (p:=.int (w:Nat)) rfl ⟨rfl,rfl⟩
 ext;exact ⟨_,_,rfl,_,_,rfl,q⟩
end
end
theorem wN {c:Nat}(h:c≠92):aV i false (c::r)=(i,[c])::aV (i+1) false r:=if_neg h
theorem vh {c:Nat}:aV i false (92::c::r)=(i+1,[92,c])::aV (i+1+1) false r:=rfl
theorem ou {a:Nat}(hab:a<=b)(hb:b<=x.length):bE x (some (a:Int)) (some (b:Int)) none=ofL ((x.cps.toList.drop a).take (b-a)):=StrLaws.sliceText_nat x hab hb
theorem C8 {a:Nat}(ha:a<=x.length):bE x (some (a:Int)) none none=ofL (x.cps.toList.drop a):=by
 have:=ou (x:=x) ha (Aa _);unfold bE at this ⊢;rw [Option.getD_none,StrLaws.sliceIdx_none_hi];rw [Option.getD_none] at this;rw [this,Bo (by have:x.cps.toList.length=x.length:=rfl;rw [Bm];lia)]
noncomputable def bg (acc:List Str):List Nat:=(acc.map (·.cps.toList)).flatten
theorem oA (acc:List Str)(x:Str):bg (acc++[x])=bg acc++x.cps.toList:=by
 unfold bg;rw [Bj,List.flatten_append];exact congrArg _ (Bd _)
theorem oD {X:Str}{p pre b x:List Nat}{T:List (Nat×List Nat)}{st:Nat}{acc:List Str}(hp:1<=p.length)(hT:T=[(pre.length+(p.length-1),[34])]\/∃t:Nat×List Nat,t.2≠[34]/\(T=[t,(pre.length+(p.length-1),[34])]\/∃u:Nat×List Nat,u.2≠[34]/\T=[t,u,(pre.length+(p.length-1),[34])]))
   (hX:X.cps.toList=pre++(p++x))(hs:st<=pre.length)(ih:∀st acc,st<=(pre++p).length->bg (ak X (aV (pre++p).length false x) st none acc)=bg acc++(pre++p).drop st++b) :
   bg (ak X ((pre.length,[34])::(T++aV (pre++p).length false x)) st none acc)=bg acc++pre.drop st++b:=by
 have hlen:pre.length+(p.length-1)+1=(pre++p).length:=by rw [Bb];lia
 have hxl:pre.length<=X.length:=by
   show _<=X.cps.size;rw [<-Array.length_toList,hX,Bb];exact Af _ _
 have fin:∀T',bg (ak X ((pre.length+(p.length-1),[34])::T') st (some pre.length) acc)=bg (ak X T' (pre++p).length none (if st≠pre.length then acc++[bE X (some (st:Int)) (some (pre.length:Int)) none] else acc)):=λT'=>by
   rw [<-hlen];exact congrArg bg (if_pos rfl)
 have ih':=ih (pre++p).length (if st≠pre.length then acc++[bE X (some (st:Int)) (some (pre.length:Int)) none] else acc) (Aa _)
 have res:bg (ak X (aV (pre++p).length false x) (pre++p).length none (if st≠pre.length then acc++[bE X (some (st:Int)) (some (pre.length:Int)) none] else acc))=bg acc++pre.drop st++b:=by
   rw [ih',List.drop_length,Bd];by_cases e:st=pre.length
   . rw [if_neg λn=>n e,e,List.drop_length,Bd]
   . rw [if_pos e,oA,ou hs hxl,hX]
     show _++((pre++_).drop st).take _++b=_;rw [BU hs,List.take_append_of_le_length (Ad List.length_drop.symm),Bo (Ad Bm)]
 rw [ew rfl];rcases hT with rfl | ⟨t,ht,rfl | ⟨u,hu,rfl⟩⟩
 . exact (fin _).trans res
 . refine Eq.trans (congrArg bg (bS (p:=t.1) ht)) ((fin _).trans res)
 . refine Eq.trans (congrArg bg ((bS (p:=t.1) ht).trans (bS (p:=u.1) hu))) ((fin _).trans res)
theorem oW:∀(pre:List Nat) (st:Nat) (acc:List Str) (X:Str),X.cps.toList=pre->st<=pre.length->bg (ak X [] st none acc)=bg acc++pre.drop st:=by
 intro pre st acc X hx hs;have hl:X.length=pre.length:=congrArg List.length hx;rw [dz];by_cases h:st<X.length
 . rw [if_pos h,oA,C8 (Ac h),hx];rfl
 . rw [if_neg h,BE (by lia),Bd]
noncomputable def Sp (x b:List Nat):Prop:=(∀(pre:List Nat) (st:Nat) (acc:List Str) (X:Str),X.cps.toList=pre++x->st<=pre.length->bg (ak X (aV pre.length false x) st none acc)=bg acc++pre.drop st++b)/\(34∉x->b=x)
section
variable {x b:List Nat}{c:Nat}
theorem Sp.nil:Sp [] []:=⟨λpre st acc X hx hs=>by
 rw [Bd] at hx ⊢
 exact oW pre st acc X hx hs,λO=>rfl⟩
theorem Sp.lone:Sp [92] [92]:=⟨λpre st acc X hx hs=>by
 refine Eq.trans (congrArg bg (bS (p:=_) (s:=[92]) ∅)) ?_
 rw [oW (pre++[92]) st acc X hx (ntr hs (by rw [Bb];exact Af _ _)),BU hs,Bc],λO=>rfl⟩
theorem Sp.more {p x b:List Nat}(h:Sp x b){pre:List Nat}{st:Nat}{acc:List Str}{X:Str}(hx:X.cps.toList=pre++(p++x))(hs:st<=pre.length):bg (ak X (aV (pre.length+p.length) false x) st none acc)=bg acc++pre.drop st++(p++b):=by
 rw [<-Bb,h.1 (pre++p) st acc X (by rw [Bc];exact hx) (ntr hs (by rw [Bb];exact Af _ _)),BU hs,Bc,Bc,Bc]
theorem Sp.pair (h:Sp x b):Sp (92::c::x) (92::c::b):=⟨λpre st acc X hx hs=>by
 rw [vh,bS (by intro h;cases h)]
 exact h.more (p:=[92,c]) hx hs,λhq=>by rw [h.2 λm=>hq (.tail _ (.tail _ m))]⟩
theorem Sp.sign (h1:c≠92)(h2:c≠34)(h:Sp x b):Sp (c::x) (c::b):=⟨λpre st acc X hx hs=>by
 rw [wN h1,bS (λe=>h2 (List.cons.inj e).1)]
 exact h.more (p:=[c]) hx hs,λhq=>by rw [h.2 λm=>hq (.tail _ m)]⟩
theorem Sp.quo1 (h:Sp x b):Sp (34::41::34::x) b:=⟨λpre st acc X hx hs=>by
 rw [show aV pre.length false (34::41::34::x)=(pre.length,[34])::([(pre.length+1,[41]),(pre.length+(3-1),[34])]++aV (pre++[34,41,34]).length false x) by rw [Bb];rfl]
 exact oD (p:=[34,41,34]) ∅ (.inr ⟨(pre.length+1,[41]),(by decide:([41]:List Nat)≠[34]),.inl rfl⟩) hx hs λst acc h'=>h.1 _ _ _ _ (by rw [Bc];exact hx) h',λhq=>(hq (.head _)).elim⟩
theorem Sp.quo2 (h:Sp x b):Sp (34::40::92::34::34::x) b:=⟨λpre st acc X hx hs=>by
 rw [show aV pre.length false (34::40::92::34::34::x)=(pre.length,[34])::([(pre.length+1,[40]),(pre.length+1+1+1,[92,34]),(pre.length+(5-1),[34])]++aV (pre++[34,40,92,34,34]).length false x) by rw [Bb];rfl]
 exact oD (p:=[34,40,92,34,34]) ∅ (.inr ⟨(pre.length+1,[40]),(by decide:([40]:List Nat)≠[34]),.inr ⟨(pre.length+1+1+1,[92,34]),(by decide:([92,34]:List Nat)≠[34]),rfl⟩⟩) hx hs λst acc h'=>h.1 _ _ _ _ (by rw [Bc];exact hx) h',λhq=>(hq (.head _)).elim⟩
end
theorem Sp.strip {x b:List Nat}(h:Sp x b):d6 (ofL x)=ofL b:=by
 unfold d6;rw [show Txt.contains (ofL x) ⟨#[34]⟩=decide (34∈x) from StrLaws.found_one (ofL x) 34];by_cases hq:34∈x
 . rw [decide_eq_true hq,if_pos rfl,eX]
   exact congrArg ofL (h.1 [] 0 [] (ofL x) rfl (Aa _))
 . rw [decide_eq_false hq,if_neg BW,h.2 hq]
noncomputable def bO:List (List Nat):=[[],[97],[92,40],[92,41],[92,92],[92,46],[34,40,92,34,34],[34,41,34]]
noncomputable def cN:List (List Nat):=[[],[97],[92,40],[92,41],[92,92],[92,46],[],[]]
theorem by8 {P:Nat->Prop}(h0:P 0)(h1:P 1)(h2:P 2)(h3:P 3)(h4:P 4)(h5:P 5)(h6:P 6)(h7:P 7)(h8:∀k,P (k+8)):∀k,P k
 | 0=>h0
 | 1=>h1
 | 2=>h2
 | 3=>h3
 | 4=>h4
 | 5=>h5
 | 6=>h6
 | 7=>h7
 | k+8=>h8 k
noncomputable def cP (P:List (List Nat))(b k c:Nat):List Nat:=List.replicate b 46++40::(P.getD k []++List.replicate c 41)
noncomputable def bC (P:List (List Nat))(b:Nat)(f:Nat->Nat):List Nat->Nat->List (List Nat)
 | a::a'::l,i=>cP P b (f i) (a+1-a')::bC P b f (a'::l) (i+1)
 | _,_=>[]
noncomputable def cX (rows:List (List Nat))(t:List Nat):List Nat:=rows.foldr (λr t=>r++13::10::t) t
theorem iU {c:Nat}(h1:c≠92)(h2:c≠34){x b:List Nat}(h:Sp x b):∀n:Nat,Sp (List.replicate n c++x) (List.replicate n c++b)
 | 0=>h
 | n+1=>.sign h1 h2 (iU h1 h2 h n)
theorem lR {x b:List Nat}(h:Sp x b):∀k:Nat,Sp (bO.getD k []++x) (cN.getD k []++b):=
 by8 (P:=λk=>Sp (bO.getD k []++x) (cN.getD k []++b)) h (.sign ∅ ∅ h) (.pair h) (.pair h) (.pair h) (.pair h) (.quo2 h) (.quo1 h) λO=>h
theorem aC7 {x b:List Nat}(h:Sp x b)(n k c:Nat):Sp (cP bO n k c++13::10::x) (cP cN n k c++13::10::b):=by
 unfold cP;rw [Bc,Bc,Bl,Bl,Bc,Bc];exact iU ∅ ∅ (.sign ∅ ∅ (lR (iU ∅ ∅ (.sign ∅ ∅ (.sign ∅ ∅ h)) c) k)) n
theorem qN {t:List Nat}(h:Sp t t)(b:Nat)(f:Nat->Nat):∀(L:List Nat) (i:Nat),Sp (cX (bC bO b f L i) t) (cX (bC cN b f L i) t)
 | [],_=>h
 | [_],_=>h
 | a::a'::l,i=>aC7 (qN h b f (a'::l) (i+1)) b (f i) (a+1-a')
section
variable {fs fb fn:List Nat}
theorem Gg {su ba ne:List Nat}:∀(n d:Nat),Rd fs fb fn r su ba ne (d+n)->Rd fs fb fn (List.replicate n 46++r) su ba ne d:=by
 intro n
 induction n with
 | zero=>
   intro d h;exact h
 | succ n ih=>
   intro d h;exact .dot (ih (d+1) (by rw [AC,Ah 1];exact h))
theorem aAg {su ba ne:List Nat}(hr:r≠[])(h:Rd fs fb fn r su ba ne 0):∀k:Nat,Rd fs fb fn (cN.getD k []++r) su ba ne 0:=
 by8 (P:=λk=>Rd fs fb fn (cN.getD k []++r) su ba ne 0) h (.other ∅ ∅ ∅ ∅ h) (.pair hr h) (.pair hr h) (.pair hr h) (.pair hr h) h h λO=>h
theorem aAl {x:Nat}(hx:2<=x)(hx2:x<=1000){ne:List Nat}:∀(c:Nat) (st st':List Nat),st.length<=25->fI x c st=some st'->Rd fs fb fn r st' (List.replicate (st'.length-1) x) ne 0->Rd fs fb fn (List.replicate c 41++r) st (List.replicate (st.length-1) x) ne 0:=by
 intro c
 induction c with
 | zero=>intro st st' _ h R;cases h;exact R
 | succ c ih=>
   intro st st' hl h R
   cases st with
   | nil=>cases h
   | cons w q=>
     cases q with
     | nil=>cases h
     | cons v q=>
       change (if w<=1000 then fI x c ((v+x ^ w)::q) else none)=some st' at h;by_cases hw:w<=1000
       . have hq:q.length+1<=25:=Ao hl
         exact .cls (v:=v) (ba:=List.replicate q.length x) hx hx2 hw (by rw [Bq];exact ntr (Ao hq) ∅) (ntr (Ao hq) ∅) (ih ((v+x ^ w)::q) st' hq ((if_pos hw).symm.trans h) R)
       . cases (if_neg hw).symm.trans h
end
theorem uJ (x:Nat):∀(c:Nat) (st st':List Nat),fI x c st=some st'->1<=st.length->1<=st'.length:=by
 intro c
 induction c with
 | zero=>intro st st' h hl;cases h;exact hl
 | succ c ih=>
   intro st st' h hl
   cases st with
   | nil=>cases h
   | cons w q=>
     cases q with
     | nil=>cases h
     | cons v q=>
       change (if w<=1000 then fI x c ((v+x ^ w)::q) else none)=some st' at h;by_cases hw:w<=1000
       . exact ih _ st' ((if_pos hw).symm.trans h) (As _)
       . cases (if_neg hw).symm.trans h
theorem G7 {x w:Nat}(hx:2<=x)(hx2:x<=1000){fn t:List Nat}(T:Rd [w] [] fn t [w] [] fn 0)(hn:fn.length<=900)(f:Nat->Nat):∀(L:List Nat) (i:Nat) (st ne:List Nat),1<=st.length->r8 x L st=some [w]->ne++L.dropLast=fn->
   Rd [w] [] fn (cX (bC cN x f L i) t) st (List.replicate (st.length-1) x) ne 0:=by
 intro L
 induction L with
 | nil=>intro i st ne _ h e;cases h;cases (Bd ne).symm.trans e;exact T
 | cons a L ih=>
   intro i st ne h1 h e
   cases L with
   | nil=>cases h;cases (Bd ne).symm.trans e;exact T
   | cons b l=>
     cases st with
     | nil=>exact absurd h1 (Nat.not_succ_le_zero 0)
     | cons s0 st=>
     change (if a+1=97+(st.length+1)/\b<=a+1/\st.length+1<=20 then (fI x (a+1-b) (0::s0::st)).bind (r8 x (b::l)) else none)=some [w] at h;by_cases hc:a+1=97+(st.length+1)/\b<=a+1/\st.length+1<=20
     . obtain ⟨st',hk,h⟩:=Option.bind_eq_some_iff.mp ((if_pos hc).symm.trans h)
       have ha:a=97+st.length:=Nat.succ.inj hc.1;have hs:=hc.2.2;have e':(ne++[a])++(b::l).dropLast=fn:=by rw [<-e,Bc];rfl
       have ih:=ih (i+1) st' (ne++[a]) (uJ x _ _ _ hk (As _)) h e';have hne:ne.length<=1000:=ntr (Af _ _) (ntr (Ad ((congrArg List.length e).symm.trans Bb).symm) (ntr hn ∅));show Rd [w] [] fn (cP cN x (f i) (a+1-b)++13::10::_) (s0::st) (List.replicate st.length x) ne 0;unfold cP;rw [Bc,Bl,Bc];refine Gg x 0 ?_;rw [Ak];refine .opn (by rw [Bq];exact Ao hs) (ntr hs ∅) hne ?_;rw [Bq,<-ha];refine aAg (λh=>(List.append_ne_nil_of_right_ne_nil _ (by simp) h)) ?_ (f i);exact aAl hx hx2 (a+1-b) (0::s0::st) st' (ntr (Ai hs) ∅) hk (r:=13::10::cX (bC cN x f (b::l) (i+1)) t) (fs:=[w]) (fb:=[]) (fn:=fn) (ne:=ne++[a]) (.other ∅ ∅ ∅ ∅ (.other ∅ ∅ ∅ ∅ ih))
     . cases (if_neg hc).symm.trans h
theorem mQ:∀(a b:List Nat),(a.getLast?=some 13->∀b',b≠10::b')->bG (a++b)=bG a++bG b
 | [],b,_=>rfl
 | [c],b,h=>by
   by_cases h1:c=10
   . subst h1;exact iu
   by_cases h2:c=13
   . subst h2;exact fW (h rfl)
   . show bG (c::b)=bG [c]++bG b
     rw [eH (by lia),eH (by lia)];rfl
 | c::d::r,b,h=>by
   have ih:=mQ (d::r) b (by rw [List.getLast?_cons_cons] at h;exact h);by_cases h1:c=10
   . subst h1
     show bG (10::(d::r++b))=bG (10::d::r)++bG b;rw [iu,iu,ih];rfl
   by_cases h2:c=13
   . subst h2
     by_cases h3:d=10
     . subst h3
       have ih2:=mQ r b (λe=>h (by
         cases r with
         | nil=>cases e
         | cons x l=>rw [List.getLast?_cons_cons,List.getLast?_cons_cons];exact e))
       show 13::10::bG (r++b)=13::10::bG r++bG b;rw [ih2];rfl
     . show bG (13::(d::r++b))=bG (13::d::r)++bG b
       rw [fW (by intro r' e;exact h3 (List.cons.inj e).1),fW (by intro r' e;exact h3 (List.cons.inj e).1),ih];rfl
   . show bG (c::(d::r++b))=bG (c::d::r)++bG b
     rw [eH (by lia),eH (by lia),ih];rfl
noncomputable def kj (m e:List Nat):List Nat:=if e++m.drop (m.length-1)=[10,13] then 13::e else e
noncomputable def kl (e:Nat->List Nat):List (List Nat)->Nat->List Nat->List Nat
 | [],_,m=>m
 | r::rs,p,m=>kl e rs (p+1) (m++(kj m (e p)++r))
theorem yI {m:List Nat}{c:Nat}(h:m.getLast?=some c):m.drop (m.length-1)=[c]:=by
 obtain ⟨l,rfl⟩:=List.getLast?_eq_some_iff.mp h;rw [Bb,Bw,A9,BM]
theorem xl {e:Nat->List Nat}(he:∀p,e p=[10]\/e p=[13]\/e p=[13,10]):∀(rs:List (List Nat)) (p:Nat) (m:List Nat),(∀r∈rs,fS r)->bG (kl e rs p m)=bG m++rs.flatMap λr=>13::10::r:=by
 intro rs
 induction rs with
 | nil=>
   intro _ m _;exact (Bd _).symm
 | cons r rs ih=>
   intro p m h;obtain ⟨hr,h⟩:=List.forall_mem_cons.mp h;show bG (kl e rs (p+1) (m++(kj m (e p)++r)))=_
   have hs:(kj m (e p)=[10]\/kj m (e p)=[13]\/kj m (e p)=[13,10])/\(m.getLast?=some 13->∀b',kj m (e p)++r≠10::b'):=by
     unfold kj;by_cases hm:e p++m.drop (m.length-1)=[10,13]
     . rw [if_pos hm]
       rcases he p with h1 | h1 | h1 <;> rw [h1] at hm ⊢
       . exact ⟨.inr (.inr rfl),λO b' q=>by cases q⟩
       . cases hm
       . cases hm
     . rw [if_neg hm]
       refine ⟨he p,λhl b' q=>?_⟩;rw [yI hl] at hm;rcases he p with h1 | h1 | h1 <;> rw [h1] at hm q
       . exact hm rfl
       . cases q
       . cases q
   have hf:bG (kj m (e p)++r)=13::10::r:=by
     have hr':bG r=r:=by have:=oX (r:=r) [] hr;rwa [Bd,show bG []=[] from rfl,Bd] at this
     rcases hs.1 with h1 | h1 | h1 <;> rw [h1]
     . show bG (10::r)=_
       rw [iu,hr']
     . show bG (13::r)=_
       rw [fW (λr' q=>(hr 10 (by rw [q];exact .head _)).1 rfl),hr']
     . show 13::10::bG r=_
       rw [hr']
   rw [ih (p+1) _ h,List.flatMap_cons,mQ m _ hs.2,hf,Bc]
theorem vR (r:List Nat):∀rs:List (List Nat),bI [13,10] (r::rs)=r++rs.flatMap λr=>13::10::r:=by
 intro rs
 induction rs generalizing r with
 | nil=>exact (Bd r).symm
 | cons s rs ih=>rw [bu,ih s,List.flatMap_cons,Bc];rfl
theorem xm {e:Nat->List Nat}(he:∀p,e p=[10]\/e p=[13]\/e p=[13,10]){r:List Nat}{rs:List (List Nat)}(p:Nat)(h:∀x∈r::rs,fS x):bG (kl e rs p r)=bI [13,10] (r::rs):=by
 obtain ⟨hr,h⟩:=List.forall_mem_cons.mp h;rw [xl he rs p r h,vR];have:=oX (r:=r) [] hr;rw [Bd,show bG []=[] from rfl,Bd] at this;rw [this]
theorem o5 (t:List (List Nat))(ht:t≠[]):∀rows:List (List Nat),bI [13,10] (rows++t)=cX rows (bI [13,10] t)
 | []=>rfl
 | r::rows=>by
   show bI [13,10] (r::(rows++t))=r++13::10::cX rows (bI [13,10] t);rw [<-o5 t ht rows]
   cases h:rows++t with
   | nil=>exact (ht (List.append_eq_nil_iff.mp h).2).elim
   | cons s l=>rw [bu,Bc];rfl
inductive Rem (w:List Nat):List Nat->List Nat->Prop
 | nil:Rem w [] []
 | skip {c:Nat} {l out:List Nat}:(c::l).take w.length≠w->Rem w l out->Rem w (c::l) (c::out)
 | hit {l out:List Nat}:Rem w l out->Rem w (w++l) out
open StrLaws Builtin.Str in
theorem Dc {w:List Nat}(hw:w≠[])(x:Str)(k:Nat):At x (ofL w) x.length k↔(x.cps.toList.drop k).take w.length=w:=by
 unfold At;rw [subAt_eq,a8];have hc:(ofL w).cps.toList=w:=rfl;rw [hc];constructor
 . rintro ⟨_,h⟩;exact eq_of_beq h
 . intro h
   refine ⟨?_,beq_iff_eq.mpr h⟩;have:=congrArg List.length h;rw [Bt,Bm] at this;have e:x.cps.toList.length=x.length:=rfl;have:=List.length_pos_iff.mpr hw
   lia
open StrLaws Builtin.Str in
theorem wv {w:List Nat}(hw:w≠[])(x:Str){l out:List Nat}(h:Rem w l out):∀(a f:Nat) (cuts:List Nat),x.cps.toList.drop a=l->a<=x.length->ChainG x (ofL w) x.length a cuts f->(∀k,f<=k->¬At x (ofL w) x.length k)->bg (partsFrom x w.length a cuts)=out:=by
 have hx:x.cps.toList.length=x.length:=rfl;have hw1:=List.length_pos_iff.mpr hw
 induction h with
 | nil=>
   intro a f cuts hd ha hG hn
   have hl:x.length<=a:=by
     have:=congrArg List.length hd;rw [Bm,hx] at this;simp at this;lia
   cases cuts with
   | nil=>
     show (strSub x a x.length).cps.toList++[]=[];rw [strSub_toList,hd,List.take_nil];rfl
   | cons c r=>
     have:=hG.2.1.1;have:=hG.1;rw [a8] at *
     lia
 | @skip c l out hne h ih=>
   intro a f cuts hd ha hG hn
   have hal:a<x.length:=by
     have:=congrArg List.length hd;rw [Bm,hx,Bf] at this
     lia
   have hd':x.cps.toList.drop (a+1)=l:=by rw [<-Bn,hd];rfl
   have hna:¬At x (ofL w) x.length a:=λe=>hne (hd▸(Dc hw x a).mp e)
   have cut:∀b,a+1<=b->(strSub x a b).cps.toList=c::(strSub x (a+1) b).cps.toList:=λb hb=>by
     rw [strSub_toList,strSub_toList,hd,hd',show b-a=b-(a+1)+1 by lia,List.take_succ_cons]
   cases cuts with
   | nil=>
     have ef:f=a:=hG;have:=ih (a+1) (a+1) [] hd' hal rfl λk hk=>hn k (by lia);show (strSub x a x.length).cps.toList++[]=_;rw [cut _ hal,Bl];exact congrArg _ this
   | cons b r=>
     obtain ⟨g1,g2,g3,g4⟩:=hG;have hb:a+1<=b:=Nat.lt_of_le_of_ne g1 λe=>hna (e▸g2);have:=ih (a+1) f (b::r) hd' hal ⟨hb,g2,λk h1 h2=>g3 k (by lia) h2,g4⟩ hn;show (strSub x a b).cps.toList++bg (partsFrom x w.length (b+w.length) r)=_;rw [cut b hb,Bl];exact congrArg _ this
 | @hit l out h ih=>
   intro a f cuts hd ha hG hn;have hA:At x (ofL w) x.length a:=(Dc hw x a).mpr (by rw [hd,List.take_left]);have hlen:a+w.length<=x.length:=by have:=hA.1;rwa [a8] at this
   have hd':x.cps.toList.drop (a+w.length)=l:=by rw [<-Bn,hd,BM]
   cases cuts with
   | nil=>
     have ef:f=a:=hG;exact absurd hA (hn a (Ad ef))
   | cons b r=>
     obtain ⟨g1,g2,g3,g4⟩:=hG
     have hb:b=a:=by
       rcases AU a b with h | h
       . exact absurd hA (g3 a (Aa _) h)
       . exact AF h g1
     subst hb;rw [a8] at g4;have:=ih (b+w.length) f r hd' hlen g4 hn;show (strSub x b b).cps.toList++bg (partsFrom x w.length (b+w.length) r)=_;rw [strSub_toList,AX,List.take_zero,Bp];exact this
open StrLaws Builtin.Str in
theorem fY {w l out:List Nat}(hw:w≠[])(h:Rem w l out):Txt.replace (ofL l) (ofL w) ⟨#[]⟩=ofL out:=by
 have hl:1<=(ofL w).length:=by rw [a8];exact List.length_pos_iff.mpr hw
 obtain ⟨f,hG,hn⟩:=occ_tight (ofL l) (ofL w) hl;have key:=wv hw (ofL l) h 0 f _ rfl (Ab _) hG hn;have h0:((ofL w).length==0)=false:=beq_eq_false_iff_ne.mpr (Ax hl);unfold Txt.replace;rw [h0,Bool.false_and,Bool.or_false];cases he:(occurrences (ofL l) (ofL w) 0 (ofL l).length ((ofL l).length+1)).isEmpty
 . rw [if_neg BW,partsBetween_eq,a8]
   exact (eX _).trans (congrArg ofL key)
 . rw [if_pos rfl]
   rw [List.isEmpty_iff.mp he] at key;have:bg [strSub (ofL l) 0 (ofL l).length]=out:=key;rw [sub_whole] at this;rw [<-this];exact congrArg ofL (Bd l).symm
theorem xQ {c:Nat}{l w:List Nat}(h:c≠d):(c::l).take (d::w).length≠d::w:=λe=>by
 rw [Bf,List.take_succ_cons] at e;exact h (List.cons.inj e).1
noncomputable def xW:List (List Nat):=[[],[97],[92,40],[92,41],[92,92],[92,46],[],[34,41,34]]
noncomputable abbrev q6:List Nat:=[34,40,92,34,34]
noncomputable abbrev q7:List Nat:=[34,41,34]
theorem ab {c:Nat}{w l o:List Nat}(hc:c≠34)(h:Rem (34::w) l o):Rem (34::w) (c::l) (c::o):=.skip (xQ hc) h
theorem jG {c:Nat}{w l o:List Nat}(hc:c≠34)(h:Rem (34::w) l o):∀n:Nat,Rem (34::w) (List.replicate n c++l) (List.replicate n c++o)
 | 0=>h
 | n+1=>ab hc (jG hc h n)
theorem kr {l o:List Nat}(hd:d≠40)(h:Rem q6 (d::l) o):Rem q6 (34::d::l) (34::o):=
 .skip (λe=>hd (List.cons.inj (List.cons.inj e).2).1) h
theorem zP {x o:List Nat}(h:Rem q6 x o)(b k c:Nat):Rem q6 (cP bO b k c++13::10::x) (cP xW b k c++13::10::o):=by
 unfold cP;rw [Bc,Bc,Bl,Bl,Bc,Bc];refine jG ∅ (ab ∅ ?_) b;have one:Rem q6 (List.replicate c 41++13::10::x) (List.replicate c 41++13::10::o):=jG ∅ (ab ∅ (ab ∅ h)) c
 have two:Rem q6 (34::(List.replicate c 41++13::10::x)) (34::(List.replicate c 41++13::10::o)):=by
   cases c with
   | zero=>exact kr ∅ one
   | succ c=>exact kr ∅ one
 exact by8 (P:=λk=>Rem q6 (bO.getD k []++(List.replicate c 41++13::10::x)) (xW.getD k []++(List.replicate c 41++13::10::o))) one
   (ab ∅ one) (ab ∅ (ab ∅ one)) (ab ∅ (ab ∅ one)) (ab ∅ (ab ∅ one)) (ab ∅ (ab ∅ one))
   (.hit one) (kr ∅ (ab ∅ two)) (λO=>one) k
theorem Ds {x o:List Nat}(h:Rem q7 x o)(b k c:Nat):Rem q7 (cP xW b k c++13::10::x) (cP cN b k c++13::10::o):=by
 unfold cP;rw [Bc,Bc,Bl,Bl,Bc,Bc];refine jG ∅ (ab ∅ ?_) b;have one:Rem q7 (List.replicate c 41++13::10::x) (List.replicate c 41++13::10::o):=jG ∅ (ab ∅ (ab ∅ h)) c;exact by8 (P:=λk=>Rem q7 (xW.getD k []++(List.replicate c 41++13::10::x)) (cN.getD k []++(List.replicate c 41++13::10::o))) one
   (ab ∅ one) (ab ∅ (ab ∅ one)) (ab ∅ (ab ∅ one)) (ab ∅ (ab ∅ one)) (ab ∅ (ab ∅ one))
   one (.hit one) (λO=>one) k
theorem jh {t:List Nat}(h:Rem q6 t t)(b:Nat)(f:Nat->Nat):∀(L:List Nat) (i:Nat),Rem q6 (cX (bC bO b f L i) t) (cX (bC xW b f L i) t)
 | [],_=>h
 | [_],_=>h
 | a::a'::l,i=>zP (jh h b f (a'::l) (i+1)) b (f i) (a+1-a')
theorem oT {t:List Nat}(h:Rem q7 t t)(b:Nat)(f:Nat->Nat):∀(L:List Nat) (i:Nat),Rem q7 (cX (bC xW b f L i) t) (cX (bC cN b f L i) t)
 | [],_=>h
 | [_],_=>h
 | a::a'::l,i=>Ds (oT h b f (a'::l) (i+1)) b (f i) (a+1-a')
theorem ij {w:List Nat}:∀t:List Nat,34∉t->Rem (34::w) t t
 | [],_=>.nil
 | c::t,h=>ab (λe=>h (e▸.head _)) (ij t λm=>h (.tail _ m))
theorem qC {t:List Nat}(h:34∉t)(b:Nat)(f:Nat->Nat)(L:List Nat):Txt.replace (Txt.replace (ofL (cX (bC bO b f L 0) t)) (ofL q6) ⟨#[]⟩) (ofL q7) ⟨#[]⟩=ofL (cX (bC cN b f L 0) t):=by
 rw [fY (List.cons_ne_nil _ _) (jh (ij t h) b f L 0),fY (List.cons_ne_nil _ _) (oT (ij t h) b f L 0)]
theorem xI (b k c:Nat):fS (cP bO b k c):=by
 have hp:∀k,fS (bO.getD k []):=by8 (P:=λk=>∀c∈bO.getD k [],c≠10/\c≠13) ∅ ∅ ∅ ∅ ∅ ∅ ∅ ∅ (λO O h=>by cases h);intro x hx;unfold cP at hx;rcases mpp hx with h | h
 . rw [BV h];decide
 rcases mcp h with rfl | h
 . decide
 rcases mpp h with h | h
 . exact hp k x h
 . rw [BV h];decide
theorem lN (b:Nat)(f:Nat->Nat):∀(L:List Nat) (i:Nat),∀r∈bC bO b f L i,fS r
 | [],_,_,h=>by cases h
 | [_],_,_,h=>by cases h
 | a::a'::l,i,r,h=>by
   rcases mcp h with rfl | h
   . exact xI _ _ _
   . exact lN b f (a'::l) (i+1) r h
theorem e8 (hb:1<=b)(f:Nat->Nat):∀(L:List Nat) (i:Nat),(bC bO b f L i).map ca=bC bO (b+1) f L i
 | [],_=>rfl
 | [_],_=>rfl
 | a::a'::l,i=>by
   show ca (cP bO b (f i) (a+1-a'))::(bC bO b f (a'::l) (i+1)).map ca=_;rw [e8 hb f (a'::l) (i+1)];obtain ⟨b,rfl⟩:∃k,b=k+1:=⟨b-1,by lia⟩
   rfl
noncomputable def lw:List (List Nat):=[[],[45,46],[46,92],[]]
noncomputable def tG:List (List Nat):=[[],[45,46],[46,46,92],[]]
theorem g6 (t:Nat):(lw.take t).map ca=tG.take t:=by
 rw [BG];rfl
section
open Lean
variable {dV' kV' cdv':Value}
theorem kC {T D:Addr}{t:Tok}{name:Str}{doc pm ct:Value}{v u ky:Value}:b0 S [bf #[.int 0 t,.none] n] (bindArgs (ko kB name T D doc pm an cdv ct) ⟨[v,w,u],[(Ω "key",ky)]⟩)=some ([T],dn v w u .none ky):=by kernel_rfl
theorem kS {T D:Addr}{t:Tok}{name:Str}{doc pm ct:Value}{v u ky:Value}:b0 S [bf #[.int 0 t,.none] n] (bindArgs (ko kR name T D doc pm an cdv ct) ⟨[v,w,u],[(Ω "key",ky)]⟩)=some ([T],dn v w u .none ky):=by kernel_rfl
theorem jN {a x lo ky:PV}{fd:Value->Value->FuncData}(D:aw B dV kV)(hf:∀(S:Setting) T D n t v w u ky,b0 S [bf #[.int 0 t,.none] n] (bindArgs (fd (.ref T) (.ref D)) ⟨[v,w,u],[(Ω "key",ky)]⟩)=some ([T],dn v w u .none ky)) :
   cB B (fd dV kV) [a,x,lo] [(Ω "key",ky)] H (ly a x lo .none ky):=λA s I vs kvs h1 h2 E Q hQ=>by
 obtain ⟨v,w,u,rfl,r1,r2,r3⟩:=h1.three;obtain ⟨kv,rfl,r5⟩:=h2.one;exact jd D I (bv:=λO=>dn v w u .none kv) (λT D n t=>hf _ T D n t v w u kv) λt=>hQ _ (.cons r1 (.cons r2 (.cons r3 (.cons .none (.cons r5 .nl)))))
noncomputable abbrev zG (g:Str)(a x lo hi gf:PV)(k:Addr):St:=[(Ω "a",.local,some a),(Ω "x",.local,some x),(Ω "lo",.local,some lo),(Ω "hi",.local,some hi),(Ω "key",.local,some (.raw (.ref k))),(g,.globalImplicit,some gf)]
theorem nk {a x lo hi gf:PV}{k:Addr}(gb:aC B "bisect_left" gf):Ini B (ly a x lo hi (.raw (.ref k))) (aG (aJ kB)).names (zG "bisect_left" a x lo hi gf k):=by
 refine .arg (by walk_at "mm") (.inl rfl) (.arg (by walk_at "mm") (.inl rfl) (.arg (by walk_at "mm") (.inl rfl) (.arg (by walk_at "mm") (.inl rfl) (.arg (by walk_at "mm") (.inl rfl) (.glob gb .nil)))))
theorem mu {a x lo hi gf:PV}{k:Addr}(gb:aC B "bisect_right" gf):Ini B (ly a x lo hi (.raw (.ref k))) (aG (aJ kR)).names (zG "bisect_right" a x lo hi gf k):=by
 refine .arg (by walk_at "mm") (.inl rfl) (.arg (by walk_at "mm") (.inl rfl) (.arg (by walk_at "mm") (.inl rfl) (.arg (by walk_at "mm") (.inl rfl) (.arg (by walk_at "mm") (.inl rfl) (.glob gb .nil)))))
theorem d9.tail {k:Addr}{x:PV}{f:PV->PV}(K:d9 B H d k (x::xs) f):d9 B H d k xs f:=⟨K.keep,λy hy=>K.call y (.tail _ hy)⟩
section
variable {g A k:Addr}{x:PV}{fk:PV->PV}{lo c:Nat}(D:aw B dV kV)(D':aw B dV' kV')(gV:aC B "ValueError" (.raw (.type "ValueError")))(gl:aC B "len" (.raw (.builtin "len")))(hm:(A,xs)∈H)(hlo:lo<=2 ^ 60)(hn:xs.length<=sizeLine)
 (K:d9 B H d k (x::xs) fk)(u:Upd A xs (fO xs (min (clp c lo xs.length) xs.length) x) H H')(q:Q .none H')
include D D' gV gl hm hlo hn K u q
theorem te (h:af dV kV kB "insort_left" f cdv B)(h':af dV' kV' cZ "bisect_left" g cdv' B)(gb:aC B "bisect_left" (.raw (.ref g)))
   (hlt:∀(d:Nat) m y,xs[m]?=some y->P2 (compareOp .Lt) (fk y) (fk x) (.bool (decide (m<c)))) :
   aF [(Ω "key",.raw (.ref k))] NoE H B (d+2) (.raw (.ref f)) [.lref A,x,.int lo] Q:=by
 refine h.call (λdoc pm an ct=>jN (fd:=λdV kV=>bN "insort_left" kB dV kV doc pm an cdv ct) D λS T D n t v w u ky=>kC) rfl tg (nk gb) ?_;have hh:kY .none xs.length xs.length:=.inl ⟨rfl,rfl⟩;have hn':xs.length<2 ^ 60:=Ae hn (by rw [sizeLine_eq];decide);have hb:clp c lo xs.length<2 ^ 63:=Ae (Ce hlo (ntr hh.le (Ac hn'))) ∅;refine' aH ?_;ext;refine di ?_;refine' dC ?_;refine' ifn BW ?_;ext;refine oH ?_ (by rfl) ⟨_,_,rfl,λO=>rfl⟩ (λO=>rfl);ext;refine ⟨aD h',?_⟩;ext;refine ⟨K.keep,?_⟩;ext;refine aF.le (Aj d) (K.call x (.head _) _ ?_);ext;refine kL D' gV gl K.tail (.lref hm) hn' h' hh hlt ?_;ext;refine ⟨_,kH (.lref hm),?_⟩;ext;refine jy (by lia) (by lia) (by rw [B3];exact u) hn ?_;ext;exact q
theorem rZ (h:af dV kV kR "insort_right" f cdv B)(h':af dV' kV' bq "bisect_right" g cdv' B)(gb:aC B "bisect_right" (.raw (.ref g)))
   (hlt:∀(d:Nat) m y,xs[m]?=some y->P2 (compareOp .Lt) (fk x) (fk y) (.bool (!decide (m<c)))) :
   aF [(Ω "key",.raw (.ref k))] NoE H B (d+2) (.raw (.ref f)) [.lref A,x,.int lo] Q:=by
 refine h.call (λdoc pm an ct=>jN (fd:=λdV kV=>bN "insort_right" kR dV kV doc pm an cdv ct) D λS T D n t v w u ky=>kS) rfl rz (mu gb) ?_;have hh:kY .none xs.length xs.length:=.inl ⟨rfl,rfl⟩;have hn':xs.length<2 ^ 60:=Ae hn (by rw [sizeLine_eq];decide);have hb:clp c lo xs.length<2 ^ 63:=Ae (Ce hlo (ntr hh.le (Ac hn'))) ∅;refine' aH ?_;ext;refine di ?_;refine' dC ?_;refine' ifn BW ?_;ext;refine oH ?_ (by rfl) ⟨_,_,rfl,λO=>rfl⟩ (λO=>rfl);ext;refine ⟨aD h',?_⟩;ext;refine ⟨K.keep,?_⟩;ext;refine aF.le (Aj d) (K.call x (.head _) _ ?_);ext;refine kK D' gV gl K.tail (.lref hm) hn' h' hh hlt ?_;ext;refine ⟨_,kH (.lref hm),?_⟩;ext;refine jy (by lia) (by lia) (by rw [B3];exact u) hn ?_;ext;exact q
end
end
set_option maxHeartbeats 2000000
section
noncomputable abbrev It:=Nat×Nat
noncomputable abbrev fR (c:It):PV:=.tup [.str (ofL (aE 4 c.1)),.int (c.1:Nat),.int (c.2:Nat)]
noncomputable abbrev aX (l:List It):List PV:=l.map fR
noncomputable def zS:PV->List PV
 | .tup xs=>xs
 | _=>[]
noncomputable def kx (p:PV):PV:=(zS p).getD 0 .none
noncomputable def sj (p:PV):PV:=(zS p).getD 1 .none
theorem js {α:Type}{R:α->α->Prop}{p:α->Bool}(hp:∀a b,R a b->p b=true->p a=true){xs:List α}(h:xs.Pairwise R):∀(m:Nat) (y:α),xs[m]?=some y->p y=decide (m<xs.countP p):=by
 induction h with
 | nil=>exact λO O e=>(by cases e)
 | @cons a r ha _ ih=>
   intro m y e;by_cases hx:p a=true
   . rw [List.countP_cons_of_pos hx]
     cases m with
     | zero=>cases e;rw [hx];exact (decide_eq_true (As _)).symm
     | succ m=>exact (ih m y e).trans (decide_eq_decide.mpr Nat.succ_lt_succ_iff.symm)
   . have hr:∀b∈r,¬p b=true:=λb hb e=>hx (hp a b (ha b hb) e)
     rw [List.countP_cons_of_neg hx,List.countP_eq_zero.mpr hr];refine Bool.eq_false_iff.mpr λe'=>?_
     cases m with
     | zero=>cases e;exact hx e'
     | succ m=>exact hr y (List.mem_of_getElem? e) e'
noncomputable abbrev fV (a b:It):Prop:=a.1<=b.1
noncomputable def rJ (l:List It)(n:Nat):Nat:=l.countP λy=>decide (y.1<n)
noncomputable def jz (l:List It)(n:Nat):Nat:=l.countP λy=>!decide (n<y.1)
theorem zD {l:List It}(h:l.Pairwise fV)(m:Nat)(y:It)(e:l[m]?=some y):decide (y.1<n)=decide (m<rJ l n):=
 js (R:=fV) (p:=λy=>decide (y.1<n)) (λa b h e=>decide_eq_true (Ae h (of_decide_eq_true e))) h m y e
theorem vV {l:List It}(h:l.Pairwise fV)(m:Nat)(y:It)(e:l[m]?=some y):decide (n<y.1)=!decide (m<jz l n):=by
 have:=js (R:=fV) (p:=λy=>!decide (n<y.1)) (λa b h e=>by
   rw [BZ,decide_eq_false_iff_not] at e ⊢
   exact λq=>e (nlt q h)) h m y e
 exact (Bool.not_not _).symm.trans (congrArg _ this)
theorem iw {xs:List It}{y:PV}(h:(aX xs)[m]?=some y):∃z,y=fR z/\xs[m]?=some z:=by
 rw [List.getElem?_map] at h
 cases e:xs[m]? with
 | none=>rw [e] at h;cases h
 | some z=>rw [e] at h;cases h;exact ⟨z,rfl,rfl⟩
theorem gA (hi:i<=1290)(hj:j<=1290):decide ((ofL (aE 4 i)).cps.toList<(ofL (aE 4 j)).cps.toList)=decide (i<j):=
 decide_eq_decide.mpr (tO hi hj)
section
noncomputable abbrev iR (p:Pos):Arguments:={ posonlyargs:=[],args:=[{ arg:="one",annotation:=none,pos:=p }],vararg:=none,kwonlyargs:=[],kw_defaults:=[],kwarg:=none,defaults:=[] }
noncomputable abbrev qK (k:Int)(p1 p2 p3:Pos):Expr:=.Subscript (.Name "one" p1) (.Constant (.int k) 0 p2) p3
noncomputable abbrev n9:Scope:=⟨.function,[(Ω "one",.local)],false,false,[]⟩
theorem ss {qual:Str}{p:Pos}{body:Expr}{pm cv ctv v:Value}:b0 S [] (bindArgs (kla_fn "<lambda>" qual (iR p) body scope [] pm cv ctv) ⟨[v],[]⟩)=some ([],[(Ω "one",v)]):=by kernel_rfl
theorem vZ {qual:Str}{p:Pos}{body:Expr}{x:PV}(h:eJ B f qual (iR p) body n9)(hx:Ev NoE B d ⟨n9,none,qual++".<locals>.",λO=>false⟩ [(Ω "one",.local,some x)] H body Q):aF [] NoE H B (d+1) (.raw (.ref f)) [x] Q:=
 h.call (bs:=[(Ω "one",x)]) (λpm cv ctv=>cO λS v=>ss) (List.nodup_cons.mpr ⟨Be,.nil⟩) (by intro e he;cases msp he;exact .head _) ∅ ∅ rfl rfl rfl (.arg (.head _) .nil) hx
theorem ei {qual:Str}{params:Arguments}{body:Expr}(h:eJ B f qual params body scope):bo B (.raw (.ref f)):=by
 obtain ⟨pm,cv,ctv,ho,O⟩:=h.at_;exact j3 ho rfl
theorem sF {y:Str}:P2 (compareOp .Lt) (.str x) (.str y) (.bool (decide (x.cps.toList<y.cps.toList))):=λB d E H Q q A s R I va vb r1 r2=>by
 obtain ⟨O,rfl⟩:=r1.inv;obtain ⟨O,rfl⟩:=r2.inv;exact P.lt_str (aL.here I (.bool _) q)
variable {g:Heap}{hk:∀a o,B.g.get? a=some o->g.get? a=some o}{ht:∀q∈B.tabs,g.get? q.2=Option.none}
theorem af.up {name:Str}(h:af dV kV k name f cdv B):af dV kV k name f cdv (B.up g hk ht):=by
 obtain ⟨oc,od,osl,doc,pm,an,ct,ho⟩:=h.at_;exact ⟨⟨oc,od,osl,doc,pm,an,ct,hk _ _ ho⟩,h.code.keeps hk⟩
theorem aw.up (h:aw B dV kV):aw (B.up g hk ht) dV kV:=by
 obtain ⟨T,n,t,e1,e2⟩:=h.d;obtain ⟨D,hs,tk,m,e3,e4⟩:=h.k;exact ⟨⟨T,n,t,e1,hk _ _ e2⟩,⟨D,hs,tk,m,e3,hk _ _ e4⟩⟩
set_option genInjectivity false in
set_option genSizeOf false in
structure j4 (B:aI) where
 fl:Addr
 fr:Addr
 bl:Addr
 br:Addr
 cl:Value
 cr:Value
 dl:Value
 dr:Value
 dV1:Value
 kV1:Value
 dV2:Value
 kV2:Value
 dV3:Value
 kV3:Value
 dV4:Value
 kV4:Value
 hl:af dV1 kV1 kB "insort_left" fl cl B
 hr:af dV2 kV2 kR "insort_right" fr cr B
 hbl:af dV3 kV3 cZ "bisect_left" bl dl B
 hbr:af dV4 kV4 bq "bisect_right" br dr B
 D1:aw B dV1 kV1
 D2:aw B dV2 kV2
 D3:aw B dV3 kV3
 D4:aw B dV4 kV4
 gl:aC B "insort_left" (.raw (.ref fl))
 gr:aC B "insort_right" (.raw (.ref fr))
 gbl:aC B "bisect_left" (.raw (.ref bl))
 gbr:aC B "bisect_right" (.raw (.ref br))
 gV:aC B "ValueError" (.raw (.type "ValueError"))
 gln:aC B "len" (.raw (.builtin "len"))
variable {xs:List It}{qual:Str}{p p1 p2 p3:Pos}
theorem vY (h:eJ B f qual (iR p) (qK 0 p1 p2 p3) n9):d9 B H (d+1) f (aX xs) kx:=⟨ei h,λy hy Q q=>by
 obtain ⟨c,O,rfl⟩:=mmp hy;refine vZ h ?_;ext
 exact ⟨bH dh,gS (j:=0) ∅ ∅ (by rfl) rfl q⟩⟩
theorem zq (h:eJ B f qual (iR p) (qK 1 p1 p2 p3) n9):d9 B H (d+1) f (aX xs) sj:=⟨ei h,λy hy Q q=>by
 obtain ⟨c,O,rfl⟩:=mmp hy;refine vZ h ?_;ext
 exact ⟨bH dh,gS (j:=1) ∅ ∅ (by rfl) rfl q⟩⟩
theorem aG6 {l:List It}{x:It}(hs:l.Pairwise fV)(hb:∀c∈x::l,c.1<=1290)(d:Nat)(m:Nat)(y:PV)(hy:(aX l)[m]?=some y):P2 (compareOp .Lt) (kx y) (kx (fR x)) (.bool (decide (m<rJ l x.1))):=by
 obtain ⟨w,rfl,hw⟩:=iw hy;rw [<-zD hs m w hw,<-gA (hb w (.tail _ (List.mem_of_getElem? hw))) (hb x (.head _))];exact sF
theorem aHk {l:List It}{x:It}(hs:l.Pairwise fV)(hb:∀c∈x::l,c.1<=1290)(d:Nat)(m:Nat)(y:PV)(hy:(aX l)[m]?=some y):P2 (compareOp .Lt) (kx (fR x)) (kx y) (.bool (!decide (m<jz l x.1))):=by
 obtain ⟨w,rfl,hw⟩:=iw hy;rw [<-vV hs m w hw,<-gA (hb x (.head _)) (hb w (.tail _ (List.mem_of_getElem? hw)))];exact sF
theorem ml {doc pm ct:Value}{v u v':Value}:b0 S [] (bindArgs (bN "_law_laid" oq .none .none doc pm an cdv ct) ⟨[v,w,u,v'],[]⟩)=some ([],[(Ω "shelf",v),(Ω "item",w),(Ω "low",u),(Ω "left",v')]):=by kernel_rfl
theorem rY {fd:FuncData}{n1 n2 n3 n4:Str}{a b c a':PV}(hf:∀(S:Setting) v w u v',b0 S [] (bindArgs fd ⟨[v,w,u,v'],[]⟩)=some ([],[(n1,v),(n2,w),(n3,u),(n4,v')])) :
   cB B fd [a,b,c,a'] [] H [(n1,a),(n2,b),(n3,c),(n4,a')]:=λA s I vs kvs h1 h2 E Q hQ=>by
 obtain ⟨v,w,u,z,rfl,r1,r2,r3,r4⟩:=h1.four;rw [h2.nil];exact bc (os:=[]) (hf _ _ _ _ _) (λO h=>by cases h) (hQ _ (.cons r1 (.cons r2 (.cons r3 (.cons r4 .nl)))))
theorem sA:bb [Ω "shelf",Ω "item",Ω "low",Ω "left"] (aG (aJ oq))=true:=by decide +kernel
noncomputable abbrev aHf (F:j4 B)(a b c a':PV):St:=[(Ω "shelf",.local,some a),(Ω "item",.local,some b),(Ω "low",.local,some c),(Ω "left",.local,some a'),(Ω "insort_left",.globalImplicit,some (.raw (.ref F.fl))),(Ω "insort_right",.globalImplicit,some (.raw (.ref F.fr)))]
theorem tC (F:j4 B){a b c a':PV}:Ini B [(Ω "shelf",a),(Ω "item",b),(Ω "low",c),(Ω "left",a')] (aG (aJ oq)).names (aHf F a b c a'):=by
 refine .arg (by walk_at "mm") (.inl rfl) (.arg (by walk_at "mm") (.inl rfl) (.arg (by walk_at "mm") (.inl rfl) (.arg (by walk_at "mm") (.inl rfl) (.glob F.gl (.glob F.gr .nil)))))
structure qc (B:aI)(c P:Addr):Prop where
 nl:ax "_law_laid.<locals>.<lambda>" ⟨227,42,227,60⟩ P c B
 nr:ax "_law_laid.<locals>.<lambda>" ⟨229,43,229,61⟩ P c B
theorem gW:Ω "_law_laid"++Ω ".<locals>."++Ω "<lambda>" = Ω "_law_laid.<locals>.<lambda>":=by decide +kernel
noncomputable def eE (left:Nat)(l:List It)(x:It):Nat:=if left=0 then jz l x.1 else rJ l x.1
theorem yd (F:j4 B){c P A:Addr}(N:qc B c P){l:List It}{x:It}{left:Nat}(h:af .none .none oq "_law_laid" f (.ref c) B)(hm:(A,aX l)∈H)(hs:l.Pairwise fV)(hn:l.length<=1000)(hb:∀c∈x::l,c.1<=1290)
   (u:Upd A (aX l) (fO (aX l) (eE left l x) (fR x)) H H')(q:Q .none H'):aF [] NoE H B (d+4) (.raw (.ref f)) [.lref A,fR x,.int (0:Nat),.int (left:Nat)] Q:=by
 refine h.callC (d:=d+3) (P:=P) (λdoc pm an ct=>rY λS v w u v'=>ml) rfl sA (tC F) ?_;have hz:(aX l).length<=sizeLine:=by rw [Ba,sizeLine_eq];lia
 have hlo':0<=2 ^ 60:=Ab _;have hc1:rJ l x.1<=l.length:=Bz;have hc2:jz l x.1<=l.length:=Bz;refine' aH ?_;ext;by_cases hl:left=0
 . unfold eE at u
   rw [if_pos hl] at u;subst hl;refine' ifn (λe=>BW e) ?_;ext;refine dK N.nr rfl gW (λO=>rfl) ∅ ?_ (by rfl) ⟨_,_,rfl,λO=>rfl⟩ (λO=>rfl);ext;refine ⟨aD F.hr,?_⟩;ext;intro g hk ht fl L;refine rZ (d:=d+1) F.D2.up F.D4.up F.gV F.gln hm hlo' hz (vY (xs:=x::l) L) (H':=H') ?_ ?_ F.hr.up F.hbr.up F.gbr (aHk hs hb)
   . rw [Ba,i0 hc2,AE hc2];exact u
   . ext
     exact q
 . unfold eE at u
   rw [if_neg hl] at u;refine' ifp (bne_iff_ne.mpr λe=>hl (Int.ofNat.inj e)) ?_;ext;refine dK N.nl rfl gW (λO=>rfl) ∅ ?_ (by rfl) ⟨_,_,rfl,λO=>rfl⟩ (λO=>rfl);ext;refine ⟨aD F.hl,?_⟩;ext;intro g hk ht fl L;refine te (d:=d+1) F.D1.up F.D3.up F.gV F.gln hm hlo' hz (vY (xs:=x::l) L) (H':=H') ?_ ?_ F.hl.up F.hbl.up F.gbl (aG6 hs hb)
   . rw [Ba,i0 hc1,AE hc1];exact u
   . ext
     exact q
end
end
section
set_option genInjectivity false in
set_option genSizeOf false in
structure aR (B:aI) where
 Y:j4 B
 R:ck B
 N:b8 B
 V:iE B
 P:er B
 lc:Addr
 lP:Addr
 fd:Addr
 cdc:Addr
 cdP:Addr
 hd:af .none .none oq "_law_laid" fd (.ref cdc) B
 hdn:qc B cdc cdP
 gd:aC B "_law_laid" (.raw (.ref fd))
 fv:Addr
 cv:Value
 hv:af .none .none rb "_pre_parse_validation" fv cv B
 gv:aC B "_pre_parse_validation" (.raw (.ref fv))
 fq:Addr
 cq:Value
 hq:af .none .none j1 "quotedata" fq cq B
 gq:aC B "quotedata" (.raw (.ref fq))
 fp:Addr
 cp:Value
 hp:af .none .none eI "_quote_periods" fp cp B
 gp:aC B "_quote_periods" (.raw (.ref fp))
 fe:Addr
 ce:Value
 he:af .none .none nb "_fix_eols" fe ce B
 ge:aC B "_fix_eols" (.raw (.ref fe))
 gE:aC B "enumerate" (.raw (.type "enumerate"))
 gZ:aC B "zip" (.raw (.type "zip"))
 gSum:aC B "sum" (.raw (.builtin "sum"))
 gMax:aC B "max" (.raw (.builtin "max"))
 gMin:aC B "min" (.raw (.builtin "min"))
 gSrt:aC B "sorted" (.raw (.builtin "sorted"))
 gStr:aC B "str" (.raw (.type "str"))
 gli:aC B "list" (.raw (.type "list"))
 n1:ax "law.<locals>.<lambda>" ⟨273,59,273,77⟩ lP lc B
 n2:ax "law.<locals>.<lambda>" ⟨282,57,282,75⟩ lP lc B
 n3:ax "law.<locals>.<lambda>" ⟨283,58,283,76⟩ lP lc B
 n4:ax "law.<locals>.<lambda>" ⟨286,59,286,91⟩ lP lc B
noncomputable abbrev aGg {B:aI}(F:aR B):St:=cat [(Ω "enumerate",.globalImplicit,some (.raw (.type "enumerate"))),(Ω "sum",.globalImplicit,some (.raw (.builtin "sum"))),(Ω "_law_nest",.globalImplicit,some (.raw (.ref F.N.f))),(Ω "range",.globalImplicit,some (.raw (.type "range"))),(Ω "len",.globalImplicit,some (.raw (.builtin "len"))),(Ω "ord",.globalImplicit,some (.raw (.builtin "ord"))),(Ω "quotedata",.globalImplicit,some (.raw (.ref F.fq))),(Ω "_quote_periods",.globalImplicit,some (.raw (.ref F.fp))),(Ω "_fix_eols",.globalImplicit,some (.raw (.ref F.fe))),(Ω "_law_read",.globalImplicit,some (.raw (.ref F.R.r))),(Ω "_law_moved",.globalImplicit,some (.raw (.ref F.V.m))),(Ω "max",.globalImplicit,some (.raw (.builtin "max")))] [(Ω "zip",.globalImplicit,some (.raw (.type "zip"))),(Ω "_pre_parse_validation",.globalImplicit,some (.raw (.ref F.fv))),(Ω "_check_parenthesis",.globalImplicit,some (.raw (.ref F.R.M.c))),(Ω "int_divmod",.globalImplicit,some (.raw (.ref F.N.fm))),(Ω "_law_laid",.globalImplicit,some (.raw (.ref F.fd))),(Ω "sorted",.globalImplicit,some (.raw (.builtin "sorted"))),(Ω "list",.globalImplicit,some (.raw (.type "list"))),(Ω "bisect_left",.globalImplicit,some (.raw (.ref F.Y.bl))),(Ω "bisect_right",.globalImplicit,some (.raw (.ref F.Y.br))),(Ω "ValueError",.globalImplicit,some (.raw (.type "ValueError"))),(Ω "str",.globalImplicit,some (.raw (.type "str"))),(Ω "ZeroDivisionError",.globalImplicit,some (.raw (.type "ZeroDivisionError")))]
noncomputable abbrev stL (refusal_:Option PV:=none)(name_:Option PV:=none)(tag_:Option PV:=none)(due_:Option PV:=none)(sought_:Option PV:=none)(low_:Option PV:=none)(high_:Option PV:=none)(less_:Option PV:=none)(upto_:Option PV:=none)(found_:Option PV:=none)(alone_:Option PV:=none)(hand_:Option PV:=none)(kept_:Option PV:=none)(told_:Option PV:=none)(part_:Option PV:=none)(figure_:Option PV:=none)(item_:Option PV:=none)(before_:Option PV:=none)(names_:Option PV:=none)(base_:Option PV:=none)(nest_:Option PV:=none)(rows_:Option PV:=none)(depths_:Option PV:=none)(closing_:Option PV:=none)(mail_:Option PV:=none)(end_:Option PV:=none)(bare_:Option PV:=none)(worth_:Option PV:=none)(read_:Option PV:=none)(place_:Option PV:=none)(x_:Option PV:=none)(items_:Option PV:=none)(shelf_:Option PV:=none)(words_:Option PV:=none)(total_:Option PV:=none)(left_:Option PV:=none)(number_:Option PV:=none)(side_:Option PV:=none)(ways_:Option PV:=none)(pieces_:Option PV:=none)(script_:Option PV:=none)(cells_:Option PV:=none){B:aI}(F:aR B):St:=cat (cat [(Ω "script",.local,script_),(Ω "cells",.local,cells_),(Ω "place",.local,place_),(Ω "x",.local,x_),(Ω "number",.cell,number_),(Ω "side",.local,side_),(Ω "ways",.local,ways_),(Ω "pieces",.local,pieces_),(Ω "items",.cell,items_),(Ω "shelf",.local,shelf_),(Ω "words",.local,words_),(Ω "total",.local,total_),(Ω "left",.local,left_)] [(Ω "base",.cell,base_),(Ω "nest",.local,nest_),(Ω "rows",.local,rows_),(Ω "depths",.cell,depths_),(Ω "closing",.local,closing_),(Ω "mail",.local,mail_),(Ω "end",.local,end_),(Ω "bare",.local,bare_),(Ω "worth",.local,worth_),(Ω "read",.local,read_)]) (cat (cat [(Ω "name",.local,name_),(Ω "alone",.local,alone_),(Ω "hand",.local,hand_),(Ω "kept",.local,kept_),(Ω "told",.local,told_),(Ω "part",.local,part_),(Ω "figure",.cell,figure_),(Ω "item",.local,item_),(Ω "before",.local,before_),(Ω "names",.local,names_)] [(Ω "tag",.local,tag_),(Ω "due",.local,due_),(Ω "sought",.cell,sought_),(Ω "low",.cell,low_),(Ω "high",.cell,high_),(Ω "less",.local,less_),(Ω "upto",.local,upto_),(Ω "found",.local,found_),(Ω "refusal",.local,refusal_)]) (aGg F))
theorem Df {doc pm ct:Value}{v:Value}:b0 S [] (bindArgs (bN "law" iP .none .none doc pm an cdv ct) ⟨[v],[]⟩)=some ([],[(Ω "script",v)]):=by kernel_rfl
theorem Gf:bb [Ω "script"] (aG (aJ iP))=true:=by decide +kernel
theorem GR (F:aR B){a:PV}:Ini B [(Ω "script",a)] (aG (aJ iP)).names (stL (F:=F) (script_:=some a)):=by
 exact .arg (by walk_at "mm") (.inl rfl) (.unset (.unset (.unset (.unset (.unset (.unset (.unset (.unset (.unset (.unset (.unset (.unset (.unset (.unset (.unset (.unset (.unset (.unset (.unset (.unset (.unset (.unset (.unset (.unset (.unset (.unset (.unset (.unset (.unset (.unset (.unset (.unset (.unset (.unset (.unset (.unset (.unset (.unset (.unset (.unset (.unset (.glob F.gE (.glob F.gSum (.glob F.N.g (.glob F.N.gRa (.glob F.N.gln (.glob F.N.gOr (.glob F.gq (.glob F.gp (.glob F.ge (.glob F.R.gr (.glob F.V.gm (.glob F.gMax (.glob F.gZ (.glob F.gv (.glob F.R.M.gc (.glob F.N.gm (.glob F.gd (.glob F.gSrt (.glob F.gli (.glob F.Y.gbl (.glob F.Y.gbr (.glob F.Y.gV (.glob F.gStr (.glob F.N.gz (.nil))))))))))))))))))))))))))))))))))))))))))))))))))))))))))))))))))
noncomputable abbrev fiL (F:aR B):aN:=⟨aG (aJ iP),some (F.lc,F.lP),"law"++".<locals>.",λO=>false⟩
noncomputable abbrev aq (k:Nat):List Stmt:=(aZ (aJ iP)).drop k
end
noncomputable abbrev cf (xs:List Int):List PV:=xs.map PV.int
section
theorem aEb (a:Nat):((a:Int)).fmod 2=((a%2:Nat):Int):=g7 a 2 ∅
theorem aGk (a:Nat):((a:Int)).fmod 4=((a%4:Nat):Int):=g7 a 4 ∅
theorem aGl (a:Nat):((a:Int)).fmod 8=((a%8:Nat):Int):=g7 a 8 ∅
theorem aDm (a:Nat):((a:Int)).fmod 15=((a%15:Nat):Int):=g7 a 15 ∅
theorem gx {ts vs:List Expr}{k':Nat}{tpos vpos:Pos}(h:Ev E B d fi σ H (.Tuple vs k' vpos) (qAt B fi d E (.Tuple ts k tpos) σ Qn))(hw:yt fi.scope ts vs=some none)
   (hs:∀env,swapsWithSole [.Tuple ts k tpos] (.Tuple vs k' vpos) pos.line env=pure false):X B fi d E (.Assign [.Tuple ts k tpos] (.Tuple vs k' vpos) pos) σ H Qn Qf:=
 eG h hs λO e=>sQ e hw
theorem eW {l:List Nat}(hv:aT H v (aa l))(hj:j<l.length)(hn:l.length<2 ^ 60)(q:Q (.int (l.getD j 0:Nat)) H):V2 H E B d (.int (j:Nat)) v getItem Q:=
 vG hv (by rw [Ba];exact hj) (by rw [Ba];exact hn) (by rw [Bu,List.getD_eq_getElem?_getD,List.getElem?_eq_getElem hj];rfl) q
noncomputable def qL:List Int->Nat->List Nat->List Nat
 | [],_,cs=>cs
 | x::ns,k,cs=>qL ns (k+1) (cs.set (k%4) (cs.getD (k%4) 0+(x.fmod 1000000).toNat))
noncomputable abbrev g1:Stmt:=((aZ (aJ iP))[1]?).getD (.Pass default)
theorem xZ (F:aR B){script:Option PV}:∀(ns:List Int) (k:Nat) (pl xx:Option PV) (cs:List Nat),cs.length=4->
   (∀pl xx,Qn (stL (F:=F) (script_:=script) (cells_:=some (.lref C)) (place_:=pl) (x_:=xx)) ((C,aa (qL ns k cs))::H))->
   cQ B (fiL F) (d+64) (a0 g1) (aM g1) [] (kh (k:Nat) (cf ns)) (stL (F:=F) (script_:=script) (cells_:=some (.lref C)) (place_:=pl) (x_:=xx)) ((C,aa cs)::H) Qn Qf:=by
 intro ns
 induction ns with
 | nil=>intro k pl xx cs hc q;exact b6 (q pl xx)
 | cons x ns ih=>
   intro k pl xx cs hc q;have ih:=λcs' hc'=>ih (k+1) (some (.int (k:Nat))) (some (.int x)) cs' hc';have hj:k%4<cs.length:=by rw [hc];exact Av _ ∅
   have hc60:cs.length<2 ^ 60:=by rw [hc];decide
   refine bP ?_;show Asg B _ (d+64) NoE (a0 g1) (.tup [.int (k:Nat),.int x]) _ _ _;refine jU rfl rfl ?_;ext;refine' aH ?_;refine fQ ?_;ext;refine b7 ∅ ?_;rw [aGk];refine eW (.lref (.head _)) hj hc60 ?_;ext;refine vq ∅ ∅ ∅ ∅ ?_;refine bZ (w:=.int 1000000) (congrArg PV.int ∅) ?_;refine b7 ∅ ?_;ext;have e:((cs.getD (k%4) 0:Nat):Int)+x.fmod 1000000=((cs.getD (k%4) 0+(x.fmod 1000000).toNat:Nat):Int):=by rw [Int.natCast_add,Int.toNat_of_nonneg (Int.fmod_nonneg_of_pos x ∅)]
   refine rB (xs:=aa cs) (H':=(C,aa (cs.set (k%4) (cs.getD (k%4) 0+(x.fmod 1000000).toNat)))::H) ?_ (B2 _) (by lia) (by rw [Ba];exact Int.ofNat_lt.mpr hj) ?_
   . rw [B3,aa,aa,List.map_set,e];exact .head
   ext;exact ⟨(λp hp=>nomatch hp),ih _ (by rw [List.length_set,hc]) q⟩
noncomputable def ag (sl:List Int):List Nat:=qL (sl.take 60) 0 [5,1,21,30486]
theorem uj:∀(ns:List Int) (k:Nat) (cs:List Nat),(qL ns k cs).length=cs.length:=by
 intro ns
 induction ns with
 | nil=>
   intro _ _;exact rfl
 | cons x ns ih=>
   intro k cs;exact (ih (k+1) _).trans List.length_set
theorem bw (sl:List Int):(ag sl).length=4:=uj _ _ _
theorem aBg (F:aR B){sl:List Int}(hsl:sl.length<=63)
   (h:∀C,XsF B (d+64) (fiL F) ((C,aa (ag sl))::H) (stL (F:=F) (script_:=some (.list (cf sl))) (cells_:=some (.lref C))) (aq 2) (λO H'=>Q .none H') (PX Q)) :
   XsF B (d+64) (fiL F) H (stL (F:=F) (script_:=some (.list (cf sl)))) (aq 0) (λO H'=>Q .none H') (PX Q):=by
 refine l7 ?_;ext;refine cA ?_;ext;intro C;ext;refine l7 ?_;ext;refine ⟨bR,?_⟩;ext;refine ⟨aK .list,?_⟩;refine Dm 60 .list (by rw [Ba,sizeLine_eq];lia) (.inl ?_);rw [<-BG];ext;refine vF .list ?_;refine xZ F (sl.take 60) 0 none none [5,1,21,30486] rfl λpl xx=>?_;exact XsF.wk (h C) (by walk_at "k")
end
section
noncomputable def numberOf (sl:List Int):Nat:=1+(ag sl).getD 0 0%15
noncomputable def bz (sl:List Int):Int:=if (ag sl).getD 1 0%2=0 then 1 else -1
noncomputable def waysOf (sl:List Int):Nat:=(ag sl).getD 2 0+(ag sl).getD 3 0
noncomputable def leftOf (sl:List Int):Nat:=(ag sl).getD 3 0%2
noncomputable def bL (sl:List Int):Int:=259+(sl.take 60).sum
theorem Fn (a:Nat):(1:Int)-2*((a%2:Nat):Int)=if a%2=0 then 1 else -1:=by split <;> lia
theorem gP (sl:List Int):bz sl=1\/bz sl=-1:=by unfold bz;split;exact .inl rfl;exact .inr rfl
theorem dm (sl:List Int):1<=numberOf sl/\numberOf sl<16:=by unfold numberOf;lia
theorem aBf (F:aR B){sl:List Int}
   (h:XsF B (d+64) (fiL F) ((C,aa (ag sl))::H) (stL (F:=F) (script_:=some (.list (cf sl))) (cells_:=some (.lref C)) (number_:=some (.int (numberOf sl:Nat))) (side_:=some (.int (bz sl))) (ways_:=some (.int (waysOf sl:Nat)))) (aq 3) (λO H'=>Q .none H') (PX Q)) :
   XsF B (d+64) (fiL F) ((C,aa (ag sl))::H) (stL (F:=F) (script_:=some (.list (cf sl))) (cells_:=some (.lref C))) (aq 2) (λO H'=>Q .none H') (PX Q):=by
 have hc:=bw sl;have hc60:(ag sl).length<2 ^ 60:=by rw [hc];decide
 have get:∀(j:Nat) {E:EP} {Q:PQ} (_:j<4) (_:Q (.int ((ag sl).getD j 0:Nat)) ((C,aa (ag sl))::H)),V2 ((C,aa (ag sl))::H) E B (d+64) (.int (j:Nat)) (.lref C) getItem Q:=λj O O hj q=>eW (.lref (.head _)) (by rw [hc];exact hj) hc60 q;refine l7 ?_;refine gx ?_ (by kernel_rfl) (by intro _;rfl);ext;refine ⟨aK (.lref (.head _)),get 0 ∅ ?_⟩;ext;refine b7 ∅ ?_;rw [aDm];ext;refine ⟨aK (.lref (.head _)),get 1 ∅ ?_⟩;ext;refine b7 ∅ ?_;rw [aEb];ext;refine fJ (IntMulOk.of_left ∅) ?_;refine k9 ?_;rw [Fn];ext;refine ⟨aK (.lref (.head _)),get 2 ∅ ?_⟩;ext;refine ⟨aK (.lref (.head _)),get 3 ∅ ?_⟩;ext;exact @h
noncomputable def da:List (Str×Nat×Pos):=[(Ω "",0,⟨235,14,235,16⟩),(Ω "a",0,⟨235,18,235,21⟩),(Ω "\\(",0,⟨235,23,235,28⟩),(Ω "\\)",0,⟨235,30,235,35⟩),(Ω "\\\\",0,⟨235,37,235,43⟩),(Ω "\\.",0,⟨235,45,235,50⟩),(Ω "\"(\\\"\"",0,⟨235,52,235,60⟩),(Ω "\")\"",0,⟨235,62,235,67⟩)]
noncomputable abbrev fH (m:Nat):PV:=.list ((m5 m da).map PV.raw)
theorem aFo:aq 3=.Assign [.Name (Ω "pieces") ⟨235,4,235,10⟩] (.List (CL da) ⟨235,13,235,68⟩) ⟨235,4,235,68⟩::aq 4:=by kernel_rfl
theorem aAy (F:aR B){scr cel num sid ways:PV}
   (h:∀m,XsT (m+8) B (d+64) (fiL F) H (stL (F:=F) (script_:=some scr) (cells_:=some cel) (number_:=some num) (side_:=some sid) (ways_:=some ways) (pieces_:=some (fH m))) (aq 4) (λO H'=>Q .none H') (PX Q)) :
   XsF B (d+64) (fiL F) H (stL (F:=F) (script_:=some scr) (cells_:=some cel) (number_:=some num) (side_:=some sid) (ways_:=some ways)) (aq 3) (λO H'=>Q .none H') (PX Q):=by
 refine XsF.floor ?_;rw [aFo];have hs:∀env,swapsWith (.List (CL da) ⟨235,13,235,68⟩) (some (.Name (Ω "pieces") ⟨235,4,235,10⟩)) 235 env=pure false:=λO=>rfl;have hl:da.length<=64:=Ap rfl;generalize hc:da=cs at *;refine zZ (cs:=cs) (k:=.local) (σ':=λm=>stL (F:=F) (script_:=some scr) (cells_:=some cel) (number_:=some num) (side_:=some sid) (ways_:=some ways) (pieces_:=some (.list ((m5 m cs).map PV.raw)))) hl (λm=>?_) (.inl rfl) hs λm O=>?_
 . walk_at "m_rep"
 . subst hc
   exact @h m
theorem aB0 (F:aR B){sl:List Int}(hsl:sl.length<=63){num sid ways:PV}
   (h:∀I S W,XsT (m+8) B (d+64) (fiL F) ((W,[])::(S,[])::(I,[])::(C,aa (ag sl))::H) (stL (F:=F) (script_:=some (.list (cf sl))) (cells_:=some (.lref C)) (number_:=some num) (side_:=some sid) (ways_:=some ways) (pieces_:=some (fH m)) (items_:=some (.lref I)) (shelf_:=some (.lref S)) (words_:=some (.lref W)) (total_:=some (.int (bL sl))) (left_:=some (.int (leftOf sl:Nat)))) (aq 5) (λO H'=>Q .none H') (PX Q)) :
   XsT (m+8) B (d+64) (fiL F) ((C,aa (ag sl))::H) (stL (F:=F) (script_:=some (.list (cf sl))) (cells_:=some (.lref C)) (number_:=some num) (side_:=some sid) (ways_:=some ways) (pieces_:=some (fH m))) (aq 4) (λO H'=>Q .none H') (PX Q):=by
 refine bK ?_;ext;refine cA ?_;ext;intro I;ext;refine cA ?_;ext;intro S;ext;refine cA ?_;ext;intro W;ext;refine ⟨aB,?_⟩;ext;refine ⟨aK .list,?_⟩;refine Dm 60 .list (by rw [Ba,sizeLine_eq];lia) (.inl ?_);rw [<-BG];refine D8 (ns:=sl.take 60) .list ?_;ext;refine ⟨aK (.lref (.tail _ (.tail _ (.tail _ (.head _))))),?_⟩;refine eW (l:=ag sl) (j:=3) (.lref (.tail _ (.tail _ (.tail _ (.head _))))) (by rw [bw];decide) (by rw [bw];decide) ?_;ext;refine b7 ∅ ?_;rw [aEb];ext;exact h I S W
end
set_option maxHeartbeats 2000000
section
structure Kn where
 sl:List Int
 m:Nat
 C:Addr
 I:Addr
 S:Addr
 W:Addr
theorem FH (c:Nat)(n:Int):Txt.mul (ofL [c]) n=ofL (List.replicate n.toNat c):=by
 by_cases h:n<1
 . have:n.toNat=0:=by lia
   unfold Txt.mul;rw [if_pos h,this];rfl
 . obtain ⟨k,rfl⟩:∃k:Nat,n=k:=⟨n.toNat,by lia⟩
   rw [nv,B3];congr 1
   have:∀k,bj [c] k []=List.replicate k c:=λk=>by
     induction k with
     | zero=>rfl
     | succ k ih=>exact congrArg (c::·) ih
   exact this k
theorem xz {c:Nat}{n:Int}(hn:n<=1000)(hn2:-16000000<=n):MulOk (ofL [c]) n:=by
 by_cases h:n<1
 . refine ⟨?_,λh'=>(h' h).elim,λh'=>(h' h).elim⟩
   simp only [Bool.or_eq_false_iff,decide_eq_false_iff_not];lia
 . obtain ⟨k,rfl⟩:∃k:Nat,n=k:=⟨n.toNat,by lia⟩
   exact kP (Ai (Ab _)) (by lia)
section
theorem sB {c:Nat}{n:Int}(hn:n<=1000)(hn2:-16000000<=n)(q:Q (.str (ofL (List.replicate n.toNat c))) H):V2 H E B d (.int n) (.str (ofL [c])) (binaryOp .Mult) Q:=
 sT (xz hn hn2) (bZ (congrArg PV.str (FH c n)) q)
theorem lM {l:List Nat}(hi:i<l.length)(hl:l.length<2 ^ 60)(q:Q (kJ (l.getD i 0)) H):V2 H E B d (.int (i:Nat)) (.str (ofL l)) getItem Q:=by
 refine Er (c:=l.getD i 0) ?_ ?_ q
 . rw [decide_eq_false (by lia),decide_eq_false (by lia)];rfl
 . have e:seqIndex? (i:Nat) (ofL l).length=some i:=by
     rw [a8];unfold seqIndex?;simp only [show ¬((i:Nat):Int)<0 by lia,if_false];rw [if_pos (by simp only [BX,decide_eq_true_eq];lia),B3]
   rw [e];show (ofL l).cps[i]?=_;rw [<-Array.getElem?_toList];show l[i]?=some (l.getD i 0);rw [List.getD_eq_getElem?_getD,List.getElem?_eq_getElem hi];rfl
noncomputable abbrev stB (F:aR B)(K:Kn)(num base nest rows depths closing mail end' bare worth read place:Option PV):St:=stL (F:=F) (script_:=some (.list (cf K.sl))) (cells_:=some (.lref K.C)) (place_:=place) (number_:=num) (side_:=some (.int (bz K.sl))) (ways_:=some (.int (waysOf K.sl:Nat))) (pieces_:=some (fH K.m)) (items_:=some (.lref K.I)) (shelf_:=some (.lref K.S)) (words_:=some (.lref K.W)) (total_:=some (.int (bL K.sl))) (left_:=some (.int (leftOf K.sl:Nat)))
 (base_:=base) (nest_:=nest) (rows_:=rows) (depths_:=depths) (closing_:=closing) (mail_:=mail) (end_:=end') (bare_:=bare) (worth_:=worth) (read_:=read)
noncomputable abbrev g5:Stmt:=((aZ (aJ iP))[5]?).getD (.Pass default)
theorem aDc (F:aR B)(K:Kn){e:Nat}{bi:Int}(hd:d=e+6)(hb:uz bi b)(hn:n<1290)(hl:(aE b n).length<=60){nest rows depths closing mail end' bare worth read place:Option PV}
   (q:∀R,XsN (K.m+8) B (fiL F) (d+64) NoE ((aM g5).drop 2) (stB F K (some (.int (n:Nat))) (some (.int bi)) (some (.str (ofL (aE b n)))) (some (.lref R)) (some (.str (ofL (aE b n++[97])))) closing mail end' bare worth read place) ((R,[])::H) Qn Qf) :
   XsN (K.m+8) B (fiL F) (d+64) NoE (aM g5) (stB F K (some (.int (n:Nat))) (some (.int bi)) nest rows depths closing mail end' bare worth read place) H Qn Qf:=by
 subst hd;refine b5 (XN.of ?_);ext;refine ⟨aD F.N.h,?_⟩;ext;refine aF.le (Aj _) (jp F.N hb 4 e n (bz K.sl) H _ ∅ (.inr (gP K.sl)) (Ag hn ∅) (Ag hn ∅) ?_);ext;refine b5 (XN.of ?_);refine gx ?_ (by kernel_rfl) (by intro _;rfl);ext;refine cA ?_;ext;intro R;ext;rw [Gl];refine i8 (by show (aE b n).length+1<=_;lia) ?_;ext;exact @q R
end
end
set_option maxHeartbeats 2000000
section
theorem w4:∀(cs:List (Str×Nat×Pos)) (n i:Nat) (h:i<cs.length),(m5 n cs)[i]?=some (.str cs[i].1 (n+i))
 | c::cs,n,0,_=>rfl
 | c::cs,n,i+1,h=>by
   rw [show n+(i+1)=n+1+i by lia];exact w4 cs (n+1) i (Nat.lt_of_succ_lt_succ h)
theorem vL:da.map (·.1)=bO.map ofL:=by decide +kernel
theorem uI (m:Nat)(h:i<8):((m5 m da).map PV.raw)[i]?=some (.raw (.str (ofL (bO.getD i [])) (m+i))):=by
 have hl:i<da.length:=h;have hl8:i<bO.length:=h;have e:=congrArg (·[i]?) vL;simp only [List.getElem?_map,List.getElem?_eq_getElem hl,List.getElem?_eq_getElem hl8,Option.map_some] at e;rw [List.getElem?_map,w4 da m i hl,Option.some.inj e,List.getD_eq_getElem?_getD,List.getElem?_eq_getElem hl8]
 rfl
theorem aDg:Ω "(" = ofL [40]:=by decide +kernel
theorem aDd:Ω ")" = ofL [41]:=by decide +kernel
theorem w1:Ω "." = ofL [46]:=by decide +kernel
theorem du (k:Nat):(bO.getD k []).length<=5:=
 by8 (P:=λk=>(bO.getD k []).length<=5) ∅ ∅ ∅ ∅ ∅ ∅ ∅ ∅ (λO=>Ab _) k
theorem eV (P:List (List Nat))(b:Nat)(f:Nat->Nat):∀(l:List Nat) (i:Nat),(bC P b f l i).length=l.length-1
 | [],_=>rfl
 | [_],_=>rfl
 | a::a'::l,i=>by
   show (bC P b f (a'::l) (i+1)).length+1=_;rw [eV P b f (a'::l) (i+1)];rfl
section
theorem uT (h:k<8)(q:Q (.str (ofL (bO.getD k []))) H):V2 H E B d (.int (k:Nat)) (fH m) getItem λv H₁=>∃x t,v=.raw (.str x t)/\Q (.str x) H₁:=
 cM .list (B2 k) (by lia) (by rw [B3];exact uI m h) ⟨_,_,rfl,q⟩
noncomputable abbrev f52:Stmt:=((aM g5)[2]?).getD (.Pass default)
theorem v2 {l:List Nat}{a:Nat}(g:l[i]?=some a)(hl:l.length<=1000)(q:Q (kJ a) H):V2 H E B d (.int (i:Nat)) (.str (ofL l)) getItem Q:=
 lM (List.getElem?_eq_some_iff.mp g).1 (Ae hl ∅) (by rw [List.getD_eq_getElem?_getD,g];exact q)
theorem ze {c:Nat}(e:x=ofL [c])(hn:n<=1000)(q:Q (.str (ofL (List.replicate n c))) H):V2 H E B d (.int (n:Nat)) (.str x) (binaryOp .Mult) Q:=by
 subst e;exact sB (Int.ofNat_le.mpr hn) (B6 ∅ (B2 n)) q
theorem ur {c a a':Nat}(e:x=ofL [c])(ha:a<130)(ha':a'<130)(q:Q (.str (ofL (List.replicate (a+1-a') c))) H):V2 H E B d (.int ((a:Int)+1-(a':Nat))) (.str x) (binaryOp .Mult) Q:=by
 subst e;exact sB (n:=((a+1:Nat):Int)-(a':Nat)) (B6 (Int.sub_le_self _ (B2 a')) (Int.ofNat_le.mpr (ntr ha ∅))) (by lia) ((Int.toNat_sub (a+1) a').symm▸q)
theorem DI {a:Nat}(q:Q (.int (a%8:Nat)) H):V2 H E B d (.int 8) (.int (a:Nat)) (binaryOp .Mod) Q:=b7 ∅ (aGl a▸q)
theorem pJ {A:Addr}{rs:List (List Nat)}{x y:List Nat}(e:x=y)(h:rs.length<=1000)(q:Q .none ((A,aP (rs++[y]))::H)):aF [] E ((A,aP rs)::H) B d (.raw (.builtin "list.append")) [.lref A,.str (ofL x)] Q:=
 bQ .head (dR ((Ba _).symm▸h)) (by rw [show aP rs++[PV.str (ofL x)]=aP (rs++[y]) by rw [aP,aP,Bj,e];rfl];exact q)
theorem qb (P:List (List Nat))(b k c:Nat):List.replicate b 46++[40]++P.getD k []++List.replicate c 41=cP P b k c:=by
 rw [Bc,Bc];rfl
theorem wH {L l:List Nat}{a:Nat}(h:L.drop i=a::l):L[i]?=some a:=by
 have:=congrArg (·[0]?) h;rwa [List.getElem?_drop] at this
noncomputable abbrev gk (K:Kn)(i:Nat):Nat:=waysOf K.sl/2 ^ i%8
theorem sD (F:aR B)(K:Kn)(hb:b<=4){L:List Nat}{num nest mail end' bare worth read:Option PV}{R:Addr}(hL:∀c∈L,c<130)(hl:L.length<=100):∀(l:List Nat) (a i:Nat) (acc:List (List Nat)) (place closing:Option PV),L.drop i=a::l->acc.length<=i->
   (∀place closing,Qn (stB F K num (some (.int (b:Nat))) nest (some (.lref R)) (some (.str (ofL L))) closing mail end' bare worth read place) ((R,aP (acc++bC bO b (gk K) (a::l) i))::H))->
   cQ B (fiL F) (d+64) (a0 f52) (aM f52) [] (dG 1 (i:Nat) l.length) (stB F K num (some (.int (b:Nat))) nest (some (.lref R)) (some (.str (ofL L))) closing mail end' bare worth read place) ((R,aP acc)::H) Qn Qf:=by
 intro l
 induction l with
 | nil=>exact λa i acc place closing hd ha q=>b6 (by have:=q place closing;rwa [show bC bO b (gk K) [a] i=[] from rfl,Bd] at this)
 | cons a' l ih=>
   intro a i acc place closing hd ha q;have hd1:L.drop (i+1)=a'::l:=by rw [<-Bn,hd];rfl
   have g0:=wH hd;have g1:=wH hd1;have l0:i<L.length:=(List.getElem?_eq_some_iff.mp g0).1;have ha0:a<130:=hL a (List.mem_of_getElem? g0);have ha1:a'<130:=hL a' (List.mem_of_getElem? g1);refine bP ?_;refine' fP ?_;ext;refine' aH ?_;ext;refine ⟨aB,?_⟩;ext;refine ⟨bH cC,v2 g0 (ntr hl ∅) ?_⟩;refine la ?_;ext;refine ⟨aB,?_⟩;ext;refine ⟨bH cC,?_⟩;refine v2 (i:=i+1) g1 (ntr hl ∅) ?_;refine la ?_;ext;refine ur aDd ha0 ha1 ?_;ext;refine ⟨_,bA (.lref (.head _)),?_⟩;ext;refine ze w1 (ntr hb ∅) ?_;ext;refine bZ (congrArg PV.str aDg) ?_;refine eY (gX hb) (Aa 1) ?_;refine CJ ?_;ext;refine sP ?_;ext;refine DI ?_;refine ⟨aK .list,uT (Av _ ∅) ?_⟩;refine eY (bd (gX hb) (Aa 1)) (du _) ?_;ext;refine eY (bd (bd (gX hb) (Aa 1)) (du _)) (gX (n:=140) (ntr (Aq ..) (ntr ha0 ∅))) ?_;refine pJ (qb ..) (ntr (Ac (Ae ha l0)) (ntr hl ∅)) ?_;ext;refine ⟨(λO h=>by cases h),?_⟩;refine ih a' (i+1) _ _ _ hd1 (Bb▸Ai ha) λplace closing=>?_;rw [Bc];exact q place closing
end
end
set_option maxHeartbeats 2000000
section
noncomputable def i5 (K:Kn)(b:Nat):Nat:=4-(waysOf K.sl+b)%2
noncomputable def rowsOf (K:Kn)(b n:Nat):List (List Nat):=bC bO b (gk K) (aE b n++[97]) 0++lw.take (i5 K b)
theorem t5 (P:List (List Nat))(hP:∀k,(P.getD k []).length<=5)(b N:Nat)(f:Nat->Nat)(l:List Nat):(∀a∈l,∀a'∈l,a+1-a'<=N)->∀i,∀r∈bC P b f l i,r.length<=b+1+5+N:=by
 induction l with
 | nil=>exact λO O r h=>(Be h).elim
 | cons a l ih=>
   intro hl i r h
   cases l with
   | nil=>exact (Be h).elim
   | cons a' l=>
     rcases mcp h with rfl | h
     . exact qb P b (f i) _▸bd (bd (bd (gX (Aa b)) (Aa 1)) (hP _)) (gX (hl a (.head _) a' (.tail _ (.head _))))
     . exact ih (λx hx y hy=>hl x (.tail _ hx) y (.tail _ hy)) (i+1) r h
theorem Dd:∀r∈lw,r.length<=200:=by decide
theorem dx {K:Kn}{b n:Nat}(hb:b<=4)(hc:∀c∈aE b n++[97],c<130):∀r∈rowsOf K b n,r.length<=200:=λr h=>
 (mpp h).elim (λh=>ntr (t5 bO du b 130 _ _ (λa m a' O=>ntr (Aq ..) (hc a m)) _ r h) (AJ (AJ (AJ hb 1) 5) 190 |> ntr (Au ∅ _)))
   λh=>Dd r (Bx h)
noncomputable def n6:List (List Nat):=[[10],[13],[13,10]]
noncomputable abbrev iB (K:Kn)(p:Nat):List Nat:=n6.getD ((waysOf K.sl/3 ^ (p%9)+p)%3) []
theorem E2:[PV.str (Ω "\n"),PV.str (Ω "\r"),PV.str (Ω "\r\n")]=aP n6:=by kernel_rfl
theorem Em:[PV.str (Ω ""),PV.str (Ω "-."),PV.str (Ω ".\\"),PV.str (Ω "")]=aP lw:=by kernel_rfl
theorem Ed:∀k,k<3->n6.getD k []=[10]\/n6.getD k []=[13]\/n6.getD k []=[13,10]:=by decide
theorem Dg:∀k,k<3->(n6.getD k []).length<=2:=by decide
theorem DU (K:Kn)(p:Nat):iB K p=[10]\/iB K p=[13]\/iB K p=[13,10]:=Ed _ (Av _ ∅)
theorem j5 (K:Kn)(p:Nat):(iB K p).length<=2:=Dg _ (Av _ ∅)
theorem qh (K:Kn)(p:Nat)(m:List Nat):(kj m (iB K p)).length<=3:=by
 unfold kj;split
 . exact Ai (j5 K p)
 . exact Aw (j5 K p)
theorem rt:Ω "\n\r" = ofL [10,13]:=by decide +kernel
theorem aAm:Ω "\r" = ofL [13]:=by decide +kernel
theorem oS {l:List (List Nat)}(h:k<l.length):l[k]?=some (l.getD k []):=by
 rw [List.getD_eq_getElem?_getD,List.getElem?_eq_getElem h];rfl
theorem z0 (m:List Nat):(m.drop (m.length-1)).length<=1:=by
 rw [Bm]
 cases m with
 | nil=>exact Ab 1
 | cons c m=>exact Ad (AR _ 1)
theorem nh {l:List (List Nat)}(h:0<l.length):l.length=1+(l.drop 1).length:=by
 cases l with
 | nil=>exact (Al 0 h).elim
 | cons c l=>exact Ah _ 1
theorem z3 {l:List (List Nat)}(h:0<l.length):l.getD 0 []∈l:=by
 cases l with
 | nil=>exact (Al 0 h).elim
 | cons c l=>exact .head _
theorem DY {a b:List (List Nat)}(ha:a.length<=m)(hb:b.length<=n):(a++b).length<=m+n:=Bb▸Ay ha hb
noncomputable def mE (K:Kn)(b n:Nat):List Nat:=kl (iB K) ((rowsOf K b n).drop 1) 1 ((rowsOf K b n).getD 0 [])
section
theorem lD {rs:List (List Nat)}(hv:aT H v xs)(e:xs=aP rs)(g:rs[m]?=some r)(hn:rs.length<=1000)(q:Q (.str (ofL r)) H):V2 H E B d (.int (m:Nat)) v getItem Q:=by
 subst e;have hm:=(List.getElem?_eq_some_iff.mp g).1;exact cM hv (B2 m) (Int.ofNat_lt.mpr (nlt hm (ntr hn ∅))) ((List.getElem?_map ..).trans (congrArg (Option.map _) g)) q
theorem my {rs:List (List Nat)}(hv:aT H v (aP rs))(hm:m<rs.length)(hn:rs.length<=1000)(q:Q (.str (ofL (rs.getD m []))) H):V2 H E B d (.int (m:Nat)) v getItem Q:=
 lD hv rfl (oS hm) hn q
theorem Dt {a:Nat}(h:b<=a)(q:Q (.int (a-b:Nat)) H):V2 H E B d (.int (b:Nat)) (.int (a:Nat)) (binaryOp .Sub) Q:=k9 (Int.ofNat_sub h▸q)
theorem yb {rs:List (List Nat)}(hv:aT H v (aP rs))(e:rs.length=n)(h:rs.length<=1000)(q:Q (.int (n:Nat)) H):aF [] E H B d (.raw (.builtin "len")) [v] Q:=by
 subst e;have hl:(aP rs).length=rs.length:=Ba _;exact ac hv (hl▸Ae h ∅) (hl.symm▸q)
theorem GF (q:Q (.list (aP (lw.take k))) H):n8 B d E (.list [PV.str (Ω ""),PV.str (Ω "-."),PV.str (Ω ".\\"),PV.str (Ω "")]) none (some (k:Nat)) none H Q:=
 Dm k .list ∅ (.inl (by rw [Em,aP,<-BG];exact q))
theorem pK {A:Addr}{rs ts us:List (List Nat)}(e:rs++ts=us)(h:us.length<=1000)(q:Q .none ((A,aP us)::H)):aF [] E ((A,aP rs)::H) B d (.raw (.builtin "list.extend")) [.lref A,.list (aP ts)] Q:=by
 subst e;have ha:aP rs++aP ts=aP (rs++ts):=List.map_append.symm;have hl:(aP rs).length+(aP ts).length=(rs++ts).length:=by rw [<-Bb,ha];exact Ba _
 exact kW (.inr .list) .head (hl▸ntr h ∅) (ha▸q)
noncomputable abbrev f55:Stmt:=((aM g5)[5]?).getD (.Pass default)
theorem zJ (F:aR B)(K:Kn){rows:List (List Nat)}{num nest depths closing bare worth read:Option PV}{R:Addr}(hr:rows.length<=60)(hr2:∀r∈rows,r.length<=200)(l:List (List Nat)):∀(p:Nat) (m:List Nat) (place end':Option PV),rows.drop p=l->m.length<=210*p->
   (∀place end',Qn (stB F K num (some (.int (b:Nat))) nest (some (.lref R)) depths closing (some (.str (ofL (kl (iB K) l p m)))) end' bare worth read place) ((R,aP rows)::H))->
   cQ B (fiL F) (d+64) (a0 f55) (aM f55) [] (dG 1 (p:Nat) l.length) (stB F K num (some (.int (b:Nat))) nest (some (.lref R)) depths closing (some (.str (ofL m))) end' bare worth read place) ((R,aP rows)::H) Qn Qf:=by
 induction l with
 | nil=>exact λp m place end' hd ha q=>b6 (q place end')
 | cons r l ih=>
   intro p m place end' hd ha q;have hd1:rows.drop (p+1)=l:=by rw [<-Bn,hd];rfl
   have g0:rows[p]?=some r:=by have:=congrArg (·[0]?) hd;rwa [List.getElem?_drop] at this
   have l0:p<rows.length:=(List.getElem?_eq_some_iff.mp g0).1;have h3':3 ^ (p%9)<=3 ^ 8:=AY ∅ (Ar (Av _ ∅));have he:=j5 K p;have hsr:=bd (qh K p m) (hr2 r (List.mem_of_getElem? g0));have hm:m.length<=12600:=ntr ha (AS 210 (ntr (Ac l0) hr));refine bP ?_;refine' fP ?_;ext;refine' aH ?_;ext;refine cn ?_;ext;refine eU (b:=9) ∅ rfl ?_;refine mF (a:=3) ∅ ∅ (ntr (Ac (Av _ ∅)) ∅) ?_;refine lj (Nat.pow_pos ∅) (Ae h3' ∅) ?_;ext;refine eU (a:=waysOf K.sl/3 ^ (p%9)+p) (b:=3) ∅ rfl ?_;refine ⟨aK .list,lD .list E2 (oS (Av _ ∅)) ∅ ?_⟩;ext;refine wC (w:=.str (ofL (kj m (iB K p)))) ?_ ?_
   . refine bh ?_
     ext;refine ⟨bH cC,mG ∅ (dR hm) (bZ (congrArg PV.str (xX m)) ?_)⟩;refine eY he (z0 m) ?_;ext;by_cases hs:iB K p++m.drop (m.length-1)=[10,13]
     . refine' rq ((congrArg ofL hs).trans rt.symm) ?_
       ext;refine rN aAm (Aa 1) he ?_;exact ⟨congrArg (λl=>PV.str (ofL l)) (if_pos hs).symm,rfl⟩
     . refine' ifn (λh=>hs (dQ.mp ((of_decide_eq_true h).trans rt))) ?_
       ext;exact ⟨congrArg (λl=>PV.str (ofL l)) (if_neg hs).symm,rfl⟩
   . ext
     refine ⟨aK (.lref (.head _)),lD (.lref (.head _)) rfl g0 (ntr hr ∅) ?_⟩;refine eY (qh K p m) (hr2 r (List.mem_of_getElem? g0)) ?_;refine wW hm hsr ?_;ext;refine ⟨(λO h=>by cases h),?_⟩;exact ih (p+1) _ _ _ hd1 (ntr (bd ha hsr) (Au ∅ _)) q
theorem D0 (F:aR B)(K:Kn)(hb:b<=4){s:List Nat}{num nest mail end' bare worth read place closing:Option PV}{R:Addr}(hL:∀c∈s++[97],c<130)(hl:s.length<=40)
   (q:∀place closing,Qn (stB F K num (some (.int (b:Nat))) nest (some (.lref R)) (some (.str (ofL (s++[97])))) closing mail end' bare worth read place) ((R,aP (bC bO b (gk K) (s++[97]) 0))::H)) :
   cQ B (fiL F) (d+64) (a0 f52) (aM f52) [] (dG 1 0 s.length) (stB F K num (some (.int (b:Nat))) nest (some (.lref R)) (some (.str (ofL (s++[97])))) closing mail end' bare worth read place) ((R,[])::H) Qn Qf:=by
 have hz:(s++[97]).length<=100:=ntr (bd hl (Aa 1)) ∅
 cases s with
 | nil=>exact sD F K hb hL hz [] 97 0 [] place closing rfl (Aa 0) q
 | cons a s=>exact Eq.subst (motive:=λn=>cQ B (fiL F) (d+64) (a0 f52) (aM f52) [] (dG 1 0 n) _ _ Qn Qf) Bb (sD F K hb hL hz (s++[97]) a 0 [] place closing rfl (Aa 0) λplace closing=>by rw [Bp];exact q place closing)
theorem aG9 (K:Kn)(b:Nat):3<=i5 K b:=Nat.le_sub_of_add_le (Au (Ar (Av _ ∅)) 3)
theorem dM {K:Kn}(hl:(aE b n).length<=40):(rowsOf K b n).length<=44:=
 DY (by rw [eV,Bb];exact hl) (Bt▸AL _ _)
theorem iM (K:Kn)(b n:Nat):0<(rowsOf K b n).length:=by
 unfold rowsOf;rw [Bb,Bt];exact nlt (Nat.lt_min.mpr ⟨nlt ∅ (aG9 K b),by decide⟩) (Am _ _)
theorem aFw (F:aR B)(K:Kn){b n:Nat}(hb:b<=4)(hl:(aE b n).length<=40)(hc:∀c∈aE b n++[97],c<130){R:Addr}{place closing mail end' bare worth read:Option PV}
   (q:∀place closing end',XsN (K.m+8) B (fiL F) (d+64) NoE ((aM g5).drop 6) (stB F K (some (.int (n:Nat))) (some (.int (b:Nat))) (some (.str (ofL (aE b n)))) (some (.lref R)) (some (.str (ofL (aE b n++[97])))) closing (some (.str (ofL (mE K b n)))) end' bare worth read place) ((R,aP (rowsOf K b n))::H) Qn Qf) :
   XsN (K.m+8) B (fiL F) (d+64) NoE ((aM g5).drop 2) (stB F K (some (.int (n:Nat))) (some (.int (b:Nat))) (some (.str (ofL (aE b n)))) (some (.lref R)) (some (.str (ofL (aE b n++[97])))) closing mail end' bare worth read place) ((R,[])::H) Qn Qf:=by
 have hrl:(rowsOf K b n).length<=44:=dM hl;have hne:=iM K b n;have hmx:=dx (K:=K) hb hc;refine b5 (XN.of ?_);ext;refine ⟨bR,?_⟩;ext;refine ⟨aB,?_⟩;ext;refine gT rfl (ntr hl ∅) ?_;ext;refine jS (ntr hl ∅) ?_;refine D0 F K hb hc hl λplace closing=>?_;refine b5 (XN.of ?_);ext;refine ⟨_,ju (.lref (.head _)),?_⟩;ext;refine cn ?_;ext;refine eU (a:=waysOf K.sl+b) (b:=2) ∅ rfl ?_;refine Dt (a:=4) (ntr (Ac (Av _ ∅)) ∅) ?_;ext;refine ⟨aK .list,GF (k:=i5 K b) ?_⟩;ext;refine pK (us:=rowsOf K b n) rfl (ntr hrl ∅) ?_;refine b5 (XN.of ?_);ext;refine ⟨aK (.lref (.head _)),?_⟩;refine my (m:=0) (.lref (.head _)) hne (ntr hrl ∅) ?_;ext;refine b5 (XN.of ?_);ext;refine ⟨bR,?_⟩;ext;refine ⟨aB,?_⟩;ext;refine yb (.lref (.head _)) (nh hne) (ntr hrl ∅) ?_;ext;refine qa (p:=1) (n:=((rowsOf K b n).drop 1).length) (nh hne▸ntr hrl ∅) ?_;refine zJ F K (ntr hrl ∅) hmx _ 1 _ _ _ rfl ?_ λplace end'=>q place closing end';exact ntr (hmx _ (z3 hne)) ∅
end
end
set_option maxHeartbeats 2000000
section
theorem iO (l:List Nat):(dU l.toArray).size=l.length:=Array.size_map
theorem wt {w:List Nat}{rows:List (List Nat)}(h:r∈rows)(hr:r≠[]):bI w rows≠[]:=by
 induction rows with
 | nil=>cases h
 | cons x l ih=>
   cases l with
   | nil=>rcases mcp h with rfl | h;exact hr;cases h
   | cons y l=>
     rw [bu];intro e;obtain ⟨e1,e2⟩:=List.append_eq_nil_iff.mp e;rcases mcp h with rfl | h
     . exact hr (List.append_eq_nil_iff.mp e1).1
     . exact ih h e2
theorem zt:∀k,∀c∈bO.getD k [],c<128:=by8 (P:=λk=>∀c∈bO.getD k [],c<128) ∅ ∅ ∅ ∅ ∅ ∅ ∅ ∅ (λO O h=>(Be h).elim)
theorem im {a b:List Nat}(ha:∀x∈a,x<128)(hb:∀x∈b,x<128):∀x∈a++b,x<128:=λx h=>(mpp h).elim (ha x) (hb x)
theorem vd {c n:Nat}(h:c<128):∀x∈List.replicate n c,x<128:=λx hx=>BV hx▸h
section
variable {P:List (List Nat)}(hP:∀k,∀c∈P.getD k [],c<128)
include hP
theorem xS (b k c:Nat):∀x∈cP P b k c,x<128:=qb P b k c▸im (im (im (vd ∅) ∅) (hP k)) (vd ∅)
theorem mC (b:Nat)(f:Nat->Nat)(l:List Nat):∀i,∀r∈bC P b f l i,∀x∈r,x<128:=by
 induction l with
 | nil=>exact λO r h=>(Be h).elim
 | cons a l ih=>
   cases l with
   | nil=>exact λO r h=>(Be h).elim
   | cons a' l=>exact λi=>fmc ⟨xS hP _ _ _,ih (i+1)⟩
end
theorem oV (b:Nat)(f:Nat->Nat)(l:List Nat):∀i,∀r∈bC bO b f l i,∀x∈r,x<128:=mC zt b f l
theorem FF:∀r∈lw,(∀c∈r,c≠10/\c≠13)/\∀c∈r,c<128:=by decide
theorem c7 {K:Kn}{b n:Nat}:∀r∈rowsOf K b n,rO r:=λr h=>(mpp h).elim (λh=>⟨lN _ _ _ _ r h,oV _ _ _ _ r h⟩) λh=>FF r (Bx h)
theorem Gh:∀k,k<2->4-k=3\/4-k=4:=by decide
theorem bY (K:Kn)(b:Nat):i5 K b=3\/i5 K b=4:=Gh _ (Av _ ∅)
theorem jX (K:Kn)(b n:Nat):rowsOf K b n=(rowsOf K b n).getD 0 []::(rowsOf K b n).drop 1:=by
 have h:=iM K b n;generalize rowsOf K b n=l at h ⊢
 cases l with
 | nil=>exact (Al 0 h).elim
 | cons c l=>rfl
theorem lU (K:Kn)(b n:Nat):(rowsOf K b n).length=(aE b n).length+i5 K b:=by
 unfold rowsOf;rw [Bb,eV,Bb,Bt];show _+1-1+min _ 4=_;rcases bY K b with h | h <;> rw [h] <;> rfl
theorem wn (K:Kn)(rows:List (List Nat)):∀(p:Nat) (m:List Nat),(∀r∈rows,r.length<=200)->(kl (iB K) rows p m).length<=m.length+203*rows.length:=by
 induction rows with
 | nil=>exact λO O O=>Aa _
 | cons r rows ih=>
   intro p m h;refine ntr (ih (p+1) _ λx hx=>h x (.tail _ hx)) ?_;rw [Bb,AC,Ah _ (203*rows.length)];exact Au (Au (bd (qh K p m) (h r (.head _))) _) _
theorem nJ {rows:List (List Nat)}{N:Nat}(h:∀r∈rows,r.length<=N):(bI [13,10] rows).length<=rows.length*(N+2):=by
 induction rows with
 | nil=>exact Ab _
 | cons r rows ih=>
   have hr:r.length<=N:=h r (.head _);have ih:=ih λx hx=>h x (.tail _ hx)
   cases rows with
   | nil=>exact ntr (ntr hr (Af N 2)) (Ad (A0 _).symm)
   | cons x rows=>
     rw [bu,Bf,Nat.succ_mul,Ah ((x::rows).length*(N+2))];exact bd (bd hr (Aa 2)) ih
theorem jt {rows:List (List Nat)}(h:∀r∈rows,rO r):∀c∈bI [13,10] rows,c<128:=λc hc=>(oR hc).elim ((by decide:∀c∈[13,10],c<128) c) λ⟨r,h1,h2⟩=>(h r h1).2 c h2
noncomputable def bU (K:Kn)(b n:Nat):List Nat:=bI [13,10] ((rowsOf K b n).map ca)
noncomputable abbrev GN (K:Kn)(b n:Nat):List Nat:=bI [13,10] (rowsOf K b n)
theorem o9 (K:Kn)(b n:Nat):bG (mE K b n)=GN K b n:=
 (xm (DU K) (r:=(rowsOf K b n).getD 0 []) (rs:=(rowsOf K b n).drop 1) 1 (jX K b n▸λr h=>(c7 r h).1)).trans (congrArg _ (jX K b n).symm)
theorem rx (K:Kn)(b n:Nat):dots true (GN K b n)=bU K b n:=xP _ λr h=>(c7 r h).1
theorem yB (K:Kn)(b n:Nat):dots true (bG (mE K b n))=bU K b n:=by rw [o9];exact rx K b n
theorem iW {K:Kn}{b n:Nat}:∀r∈(rowsOf K b n).map ca,rO r:=λr h=>by
 obtain ⟨x,hx,rfl⟩:=mmp h;exact ka (c7 x hx)
theorem E8 (K:Kn)(b n:Nat):bU K b n≠[]:=
 wt (r:=[45,46]) (mmr ⟨[45,46],BD _ (by rcases bY K b with h | h <;> rw [h] <;> decide),rfl⟩) ∅
theorem zY {K:Kn}{b n:Nat}(hb:b<=4)(hl:(aE b n).length<=40)(hc:∀c∈aE b n++[97],c<130):(mE K b n).length<=20000:=by
 have hm:=dx (K:=K) hb hc;have h1:((rowsOf K b n).drop 1).length<=44:=ntr (Bm▸Aq _ _) (dM hl);exact ntr (wn K _ 1 _ λr h=>hm r (List.mem_of_mem_drop h)) (ntr (Ay (hm _ (z3 (iM K b n))) (AS 203 h1)) ∅)
theorem aAe {K:Kn}{b n:Nat}(hb:b<=4)(hl:(aE b n).length<=40)(hc:∀c∈aE b n++[97],c<130):(GN K b n).length<=20000:=
 ntr (nJ (dx (K:=K) hb hc)) (ntr (A1 202 (dM hl)) ∅)
theorem sa {r:List Nat}{N:Nat}(h:r.length<=N):(ca r).length<=N+1:=by
 cases r with
 | nil=>exact Ab _
 | cons c r=>
   show (if c=46 then 46::46::r else c::r).length<=N+1;split
   . exact Ai h
   . exact Aw h
theorem kn {K:Kn}{b n:Nat}(hb:b<=4)(hc:∀c∈aE b n++[97],c<130):∀r∈(rowsOf K b n).map ca,r.length<=201:=λr h=>by
 obtain ⟨x,hx,rfl⟩:=mmp h;exact sa (dx (K:=K) hb hc x hx)
theorem tf (K:Kn){b n:Nat}(hb:b<=4)(hl:(aE b n).length<=40)(hc:∀c∈aE b n++[97],c<130):(bU K b n).length<=20000:=
 ntr (nJ (kn (K:=K) hb hc)) (ntr (A1 203 (ntr (Ad (Ba _)) (dM hl))) ∅)
theorem CX {l:List Nat}(h:∀c∈l,c<128):DM (dU (ofL l).cps)=dU (dots true l).toArray:=by
 have hb1:bB (dU l.toArray)=l.toArray:=mv λc hc=>Ag (h c hc) ∅;show DM (dU l.toArray)=_;unfold DM;rw [hb1];apply Array.ext';simp [dU]
section
theorem yJ {l:List Nat}(h:∀c∈l,c<128)(hn:l≠[])(hz:l.length<=1000000)(q:Q (.str (ofL l)) H):aF [] E H B d (.raw (.builtin "bytes.decode")) [.bytes (dU l.toArray),.str (Ω "ascii")] Q:=by
 have hb3:bB (dU l.toArray)=l.toArray:=mv λc hc=>Ag (h c hc) ∅;refine t0 (λc hc=>h _ ?_) (λe=>hn (BL ((iO _).symm.trans (congrArg Array.size e)))) ((iO l).symm▸dR hz) (by rw [hb3];exact q);have:c.toNat∈(bB (dU l.toArray)).toList:=by rw [Array.toList_map];exact mmr ⟨c,hc,rfl⟩
 rw [hb3] at this;exact this
section
variable {m l:List Nat}(P:er B)
include P
theorem wo (hf:af .none .none nb (Ω "_fix_eols") f cdv B)(hz:m.length<=20000)(e:bG m=l)(q:Q (.str (ofL l)) H):aF [] NoE H B (d+3) (.raw (.ref f)) [.str (ofL m)] Q:=
 yp P hf ((a8 m).symm▸ntr hz ∅) (by subst e;exact q)
theorem rS (hf:af .none .none j1 (Ω "quotedata") f cdv B)(hz:m.length<=20000)(e:dots true (bG m)=l)(q:Q (.str (ofL l)) H):aF [] NoE H B (d+3) (.raw (.ref f)) [.str (ofL m)] Q:=
 u7 P hf ((a8 m).symm▸ntr hz ∅) (by subst e;exact q)
theorem yX (hf:af .none .none eI (Ω "_quote_periods") f cdv B)(hz:m.length<=20000)(h:∀c∈m,c<128)(e:dots true m=l)(q:Q (.bytes (dU l.toArray)) H):aF [] NoE H B (d+3) (.raw (.ref f)) [.bytes (dU (ofL m).cps)] Q:=
 yr P hf ((iO m).symm▸ntr hz ∅) (by subst e;exact (CX h).symm▸q)
end
theorem aEp (F:aR B)(K:Kn){b n:Nat}(hb:b<=4)(hl:(aE b n).length<=40)(hc:∀c∈aE b n++[97],c<130){R:Addr}{num nest depths place closing end' bare worth read:Option PV}(hC:(K.C,aa (ag K.sl))∈H)
   (q:XsN (K.m+8) B (fiL F) (d+64) NoE ((aM g5).drop 7) (stB F K num (some (.int (b:Nat))) nest (some (.lref R)) depths closing (some (.str (ofL (bU K b n)))) end' bare worth read place) H Qn Qf) :
   XsN (K.m+8) B (fiL F) (d+64) NoE ((aM g5).drop 6) (stB F K num (some (.int (b:Nat))) nest (some (.lref R)) depths closing (some (.str (ofL (mE K b n)))) end' bare worth read place) H Qn Qf:=by
 have hl8:=zY (K:=K) hb hl hc;have hel:=aAe (K:=K) hb hl hc;have asc0:=jt (c7 (K:=K) (b:=b) (n:=n));obtain ⟨f,hf⟩:∃f,((ag K.sl).getD 1 0/2+b)%2=f:=⟨_,rfl⟩;refine b5 (XN.of ?_);ext;refine ⟨aK (.lref hC),?_⟩;refine eW (j:=1) (.lref hC) (by rw [bw];decide) (by rw [bw];decide) ?_;ext;refine lj (b:=2) ∅ ∅ ?_;ext;refine eU (a:=(ag K.sl).getD 1 0/2+b) (b:=2) ∅ hf ?_;ext
 cases f with
 | zero=>
   refine' ifn BW ?_;ext;refine ⟨aD F.hp,?_⟩;ext;refine ⟨aD F.he,?_⟩;ext;refine wo (d:=d+61) F.P F.he hl8 (o9 K b n) ?_;refine ⟨_,tN,?_⟩;ext;refine rK (x:=ofL (GN K b n)) asc0 ((a8 _).symm▸dR hel) ?_;ext;refine yX (d:=d+61) F.P F.hp hel asc0 (rx K b n) ?_;refine ⟨_,sg,?_⟩;ext;refine yJ (jt iW) (E8 K b n) (ntr (tf K hb hl hc) ∅) ?_;ext;exact @q
 | succ f=>
   refine' ifp eD ?_;ext;refine ⟨aD F.hq,?_⟩;ext;refine rS (d:=d+61) F.P F.hq hl8 (yB K b n) ?_;ext;exact @q
end
end
set_option maxHeartbeats 2000000
section
noncomputable def tlB (K:Kn)(b:Nat):List Nat:=bI [13,10] (tG.take (i5 K b))
noncomputable def e9 (K:Kn)(b n:Nat):List Nat:=cX (bC cN (b+1) (gk K) (aE b n++[97]) 0) (tlB K b)
theorem Fc (K:Kn)(b:Nat):tG.take (i5 K b)≠[]:=by rcases bY K b with h | h <;> rw [h] <;> decide
theorem cY (K:Kn)(n:Nat)(hb:1<=b):bU K b n=cX (bC bO (b+1) (gk K) (aE b n++[97]) 0) (tlB K b):=by
 unfold bU rowsOf;rw [Bj,e8 hb,g6,o5 _ (Fc K b)];rfl
theorem EA (K:Kn)(b:Nat):34∉tlB K b:=by unfold tlB;rcases bY K b with h | h <;> rw [h] <;> decide
theorem pZ (K:Kn)(n:Nat)(hb:1<=b):Txt.replace (Txt.replace (ofL (bU K b n)) (ofL q6) ⟨#[]⟩) (ofL q7) ⟨#[]⟩=ofL (e9 K b n):=by
 rw [cY K n hb];exact qC (EA K b) _ _ _
theorem GB {rows:List (List Nat)}{N:Nat}(h:∀r∈rows,r.length<=N):(rows.map List.length).sum<=rows.length*N:=by
 induction rows with
 | nil=>exact Ab _
 | cons r rows ih=>
   rw [Bg,BB,Bf,Nat.succ_mul,Ah];exact Ay (ih λx m=>h x (.tail _ m)) (h r (.head _))
theorem G1 {w l o:List Nat}(h:Rem w l o):o.length<=l.length:=by
 induction h with
 | nil=>exact Aa _
 | skip _ _ ih=>exact Ai ih
 | hit _ ih=>exact Bb▸ntr ih (Am _ _)
theorem CZ (K:Kn)(hb1:1<=b):(Txt.replace (ofL (bU K b n)) (ofL (bO.getD 6 [])) (Ω "")).length<=(bU K b n).length:=by
 have h6:=jh (ij _ (EA K b)) (b+1) (gk K) (aE b n++[97]) 0;rw [cY K n hb1];exact (congrArg Str.length (fY (w:=q6) (List.cons_ne_nil _ _) h6)).symm▸G1 h6
theorem DP {r:List Nat}(h:r.take 1=[46]):ca r=[46]++r:=by
 cases r with
 | nil=>cases h
 | cons c r=>obtain rfl:=(List.cons.inj h).1;rfl
theorem Fe {r:List Nat}(h:¬r.take 1=[46]):ca r=r:=by
 cases r with
 | nil=>rfl
 | cons c r=>exact if_neg λe=>h (congrArg (λc=>[c]) e)
theorem Rep.cast {w:PV}{k:NameKind}(h:v=w)(r:Rep x w k σ σ'):Rep x v k σ σ':=h▸r
theorem ud:Ω "\r\n" = ofL [13,10]:=by decide +kernel
noncomputable def CV:PV->PV
 | .str x=>.str (ofL (ca x.cps.toList))
 | v=>v
section
theorem m7 {k:Nat}{pos':Pos}{value:Expr}
   (h:EvN k B fi d E value σ H λv H₁=>∃k σ',Rep x v k σ σ'/\bD fi k/\Qn σ' H₁)
   (hs:∀env,a9 B fi env->swapsWith value (some (.Name x pos')) pos.line env=pure false):XN k B fi d E (.Assign [.Name x pos'] value pos) σ H Qn Qf:=λA s env e R I F hk=>by
 refine wpAny_Assign_Name (wpm (h A s env e R I F hk) (λv s₁ hh1=>?_)) (hs env e);obtain ⟨p,H₁,t₁,r₁,k,σ',hr,hk,q⟩:=hh1;exact wpm (dD e t₁.inv (F.tr I t₁) r₁ hr hk) (λO s₂ hh1=>by obtain ⟨t₂,F₂⟩:=hh1;exact ⟨σ',H₁,t₁.up.trans t₂,F₂,.inl ⟨rfl,q⟩⟩)
noncomputable abbrev aDv (row:Option PV):St:=[(Ω ".0",.local,none),(Ω "row",.local,row)]
theorem yz (rows:List (List Nat)):PV.list ([]++(aP rows).map CV)=.list (aP (rows.map ca)):=by rw [Bp,aP,aP,Bi,Bi];rfl
theorem lr {w:List Nat}{rows:List (List Nat)}(e:x=ofL w)(hw:w.length<=10)(h:∀r∈rows,r.length<=300)(hn:rows.length<=1000)(q:Q (.str (ofL (bI w rows))) H):aF [] E H B d (.raw (.builtin "str.join")) [.str x,.list (aP rows)] Q:=by
 subst e;refine dg (ys:=rows.map ofL) (.inr (eP rows▸.list)) ?_ (sf (w:=w) rows▸q);rw [Bi,Ba,a8,show (λx:Str=>x.length)∘ofL=List.length from funext a8];exact ntr (Ay (ntr (GB h) (A1 300 hn)) (A3 hn hw)) ∅
theorem aEi (F:aR B)(K:Kn){b n:Nat}(hb1:1<=b)(hb:b<=4)(hl:(aE b n).length<=40)(hc:∀c∈aE b n++[97],c<130){R:Addr}{num nest depths place closing mail end' bare worth read:Option PV}(hR:(R,aP (rowsOf K b n))∈H)
   (q:XsN (K.m+8) B (fiL F) (d+64) NoE ((aM g5).drop 9) (stB F K num (some (.int (b:Nat))) nest (some (.list (aP ((rowsOf K b n).map ca)))) depths closing mail end' (some (.str (ofL (e9 K b n)))) worth read place) H Qn Qf) :
   XsN (K.m+8) B (fiL F) (d+64) NoE ((aM g5).drop 7) (stB F K num (some (.int (b:Nat))) nest (some (.lref R)) depths closing mail end' bare worth read place) H Qn Qf:=by
 have hrl:((rowsOf K b n).map ca).length<=44:=ntr (Ad (Ba _)) (dM hl);have hsl:=tf K hb hl hc;have hmid:=ntr (CZ K (n:=n) hb1) hsl;refine b5 (XN.of ?_);refine ft (aDv none) (.loc (.loc .nil)) ?_ ⟨_,by walk_at "mm"⟩ (by rfl) (by decide +kernel) (by decide +kernel) (by rfl) (by rfl) (by intro _ _;rfl) (Am 3 _);refine cJ ?_;ext;refine cV hR λD=>?_;refine ln (σt:=aDv) (f:=CV) ?_ (List.forall_mem_singleton.mpr hR) _ _ none ?_ ?_ ?_
 . intro x o H K k
   ext;exact k
 . intro x hx acc K' k
   obtain ⟨r,hr,rfl⟩:=mmp hx;have hr2:=dx (K:=K) hb hc r hr;refine bh ?_;ext;refine ⟨bH cC,mG ∅ (dR hr2) (bZ (congrArg PV.str (o4 r)) ?_)⟩;ext;by_cases h1:r.take 1=[46]
   . refine' rq ((congrArg ofL h1).trans w1.symm) ?_
     ext;exact rN w1 (Aa 1) hr2 (bZ (congrArg (λl=>PV.str (ofL l)) (DP h1).symm) k)
   . refine' ifn (λh=>h1 (dQ.mp ((of_decide_eq_true h).trans w1))) ?_
     ext;exact bZ (congrArg (λl=>PV.str (ofL l)) (Fe h1).symm) k
 . exact dR (ntr (Ad ((Ak _).trans (Ba _))) (dM hl))
 refine ⟨_,Rep.cast (yz _) (by walk_at "m_rep"),?_⟩;refine b5 ?_;refine m7 ?_ (by intro _ _;rfl);refine kM ?_ (by rfl) (λO=>rfl);refine kM ?_ (by rfl) (λO=>rfl);refine EvN.of ?_;ext;refine ⟨_,dj,?_⟩;ext;refine lr ud ∅ (λr h=>ntr (kn (K:=K) hb hc r h) ∅) (ntr hrl ∅) ?_;refine ⟨ofL (bU K b n),rfl,?_⟩;ext;refine ⟨aK .list,?_⟩;refine cM (k:=6) .list ∅ ∅ (uI K.m (i:=6) ∅) ⟨_,_,rfl,Nat.succ_ne_zero _,AA ∅ _,by decide +kernel,ntr hsl ∅,?_⟩;refine ⟨_,rfl,?_⟩;ext;refine ⟨aK .list,?_⟩;refine cM (k:=7) .list ∅ ∅ (uI K.m (i:=7) ∅) ⟨_,_,rfl,Nat.succ_ne_zero _,AA ∅ _,by decide +kernel,ntr hmid ∅,?_⟩;refine ⟨.local,_,Rep.cast (congrArg PV.str (pZ K n hb1)) (by walk_at "m_rep"),.inl rfl,?_⟩;exact @q
end
end
set_option maxHeartbeats 2000000
section
noncomputable def okN (b n:Nat):Bool:=decide ((aE b n).length<=20) && (aE b n++[97]).all λc=>decide (97<=c) && decide (c<=105)
theorem ok2:∀n,n<16->okN 2 n=true:=by decide +kernel
theorem ok3:∀n,n<112->okN 3 n=true:=by decide +kernel
structure Run (b n:Nat):Prop where
 hb:b=2/\n<16\/b=3/\n<112
theorem Run.b1 (h:Run b n):1<=b:=h.hb.elim (λe=>e.1.symm▸(by decide:(1:Nat)<=2)) λe=>e.1.symm▸(by decide:(1:Nat)<=3)
theorem Run.b4 (h:Run b n):b<=3:=h.hb.elim (λe=>e.1.symm▸(by decide:(2:Nat)<=3)) λe=>Ad e.1
theorem Run.mov3 (h:Run b n):Cw b (b+1) n:=h.hb.elim (λe=>.inl ⟨e.1,e.1▸rfl,e.2⟩) λe=>.inr (.inr ⟨e.1,e.1▸rfl,Ag e.2 ∅⟩)
theorem Run.mov4 (h:Run b n):Cw b 4 n:=h.hb.elim (λe=>.inr (.inl ⟨e.1,rfl,e.2⟩)) λe=>.inr (.inr ⟨e.1,rfl,Ag e.2 ∅⟩)
theorem Run.ok {b n:Nat}(h:Run b n):(aE b n).length<=20/\∀c∈aE b n++[97],97<=c/\c<=105:=by
 have:okN b n=true:=by
   rcases h.hb with ⟨rfl,h'⟩ | ⟨rfl,h'⟩
   . exact ok2 n h'
   . exact ok3 n h'
 unfold okN at this;rw [BX,decide_eq_true_eq,BK] at this;refine ⟨this.1,λc hc=>?_⟩;have:=this.2 c hc;rwa [BX,decide_eq_true_eq,decide_eq_true_eq] at this
theorem Run.len (h:Run b n):(aE b n).length<=40:=ntr h.ok.1 ∅
theorem Run.lt {b n:Nat}(h:Run b n):∀c∈aE b n++[97],c<130:=λc hc=>Ae (h.ok.2 c hc).2 ∅
theorem Run.n_lt (h:Run b n):n<112:=h.hb.elim (λe=>Ag e.2 ∅) λe=>e.2
theorem Run.read (h:Run b n):r8 (b+1) (aE b n++[97]) [0]=some [aW b (b+1) n]:=by
 have:u0 b n=true:=by
   rcases h.hb with ⟨rfl,h'⟩ | ⟨rfl,h'⟩
   . exact F6 n h'
   . exact EV n h'
 exact eq_of_beq this
theorem l4 (P:List (List Nat))(hP:∀k,(P.getD k []).length<=5)(b:Nat)(f:Nat->Nat)(l:List Nat)(i:Nat)(h:∀c∈l,97<=c/\c<=105):∀r∈bC P b f l i,r.length<=b+15:=
 t5 P hP b 9 f l (λa m a' m'=>ntr (Nat.sub_le_sub_right (Ai (h a m).2) a') (Nat.sub_le_sub_left (h a' m').1 106)) i
theorem yH (t:List Nat)(rows:List (List Nat))(h:∀r∈rows,r.length<=m):(cX rows t).length<=(m+2)*rows.length+t.length:=by
 induction rows with
 | nil=>exact Am _ _
 | cons r rows ih=>
   have ih:=ih λx hx=>h x (.tail _ hx);have e:(m+2)*(rows.length+1)+t.length=m+2+((m+2)*rows.length+t.length):=by rw [AQ,Ah ((m+2)*rows.length),AC]
   show (r++([13,10]++cX rows t)).length<=(m+2)*(rows.length+1)+t.length;rw [<-Bc,e];exact bd (bd (h r (.head _)) (Aa 2)) ih
theorem Fg (K:Kn)(b:Nat):(tlB K b).length<=20:=by unfold tlB;rcases bY K b with h | h <;> rw [h] <;> decide
theorem DX (k:Nat):(cN.getD k []).length<=5:=
 by8 (P:=λk=>(cN.getD k []).length<=5) ∅ ∅ ∅ ∅ ∅ ∅ ∅ ∅ (λO=>Ab _) k
theorem Run.text_len (h:Run b n)(P:List (List Nat))(hP:∀k,(P.getD k []).length<=5)(K:Kn):(cX (bC P (b+1) (gk K) (aE b n++[97]) 0) (tlB K b)).length<=3000:=by
 have h1:=yH (tlB K b) _ (l4 P hP (b+1) (gk K) (aE b n++[97]) 0 h.ok.2);rw [eV,Bb] at h1;exact ntr h1 (ntr (Ay (A3 (AJ (AJ (AJ h.b4 1) 15) 2) h.ok.1) (Fg K b)) ∅)
theorem oK {t:List Nat}(ht:∀c∈t,c<128){rows:List (List Nat)}(h:∀r∈rows,∀c∈r,c<128):∀c∈cX rows t,c<128:=by
 induction rows with
 | nil=>exact ht
 | cons r rows ih=>exact im (h r (.head _)) (im (a:=[13,10]) ∅ (ih λx hx=>h x (.tail _ hx)))
theorem w7 (K:Kn)(b:Nat):∀c∈tlB K b,c<128:=by unfold tlB;rcases bY K b with h | h <;> rw [h] <;> decide
theorem Ci:∀k,∀c∈cN.getD k [],c<128:=by8 (P:=λk=>∀c∈cN.getD k [],c<128) ∅ ∅ ∅ ∅ ∅ ∅ ∅ ∅ (λO O h=>(Be h).elim)
theorem Gv (K:Kn)(b:Nat):Sp (tlB K b) (tlB K b):=by
 unfold tlB;rcases bY K b with h | h <;> rw [h]
 . exact .sign ∅ ∅ (.sign ∅ ∅ (.sign ∅ ∅ (.sign ∅ ∅ (.sign ∅ ∅ (.sign ∅ ∅ (.sign ∅ ∅ (.sign ∅ ∅ .lone)))))))
 . exact .sign ∅ ∅ (.sign ∅ ∅ (.sign ∅ ∅ (.sign ∅ ∅ (.sign ∅ ∅ (.sign ∅ ∅ (.sign ∅ ∅ (.sign ∅ ∅ (.pair (.sign ∅ ∅ .nil)))))))))
theorem aEu (K:Kn)(b:Nat){w:Nat}{fn:List Nat}:Rd [w] [] fn (tlB K b) [w] [] fn 0:=by
 unfold tlB;rcases bY K b with h | h <;> rw [h]
 . exact .other ∅ ∅ ∅ ∅ (.other ∅ ∅ ∅ ∅ (.other ∅ ∅ ∅ ∅ (.dot (.other ∅ ∅ ∅ ∅ (.other ∅ ∅ ∅ ∅ (.dot (.dot .lone)))))))
 . exact .other ∅ ∅ ∅ ∅ (.other ∅ ∅ ∅ ∅ (.other ∅ ∅ ∅ ∅ (.dot (.other ∅ ∅ ∅ ∅ (.other ∅ ∅ ∅ ∅ (.dot (.dot (.pair (List.cons_ne_nil _ _) (.other ∅ ∅ ∅ ∅ .nil)))))))))
theorem Run.strip (h:Run b n)(K:Kn):d6 (ofL (bU K b n))=ofL (e9 K b n):=by
 rw [cY K n h.b1];exact (qN (Gv K b) (b+1) (gk K) (aE b n++[97]) 0).strip
theorem Run.rd (h:Run b n)(K:Kn):Rd [aW b (b+1) n] [] (aE b n) (e9 K b n) [0] [] [] 0:=by
 have h4:=h.ok.1;have h3:=h.b4;have h1:=h.b1;exact G7 (x:=b+1) (by lia) (by lia) (aEu K b) (by lia) (gk K) (aE b n++[97]) 0 [0] [] (Aa _) h.read (by rw [Bp,List.dropLast_concat])
section
theorem CT {α:Type}[DecidableEq α](a:α):¬(!decide (a=a))=true:=by rw [decide_eq_true rfl];exact BW
theorem aE2 (F:aR B)(K:Kn)(hr:Run b n){e:Nat}(hd:d=e+6){R:Addr}{place depths closing end' worth read:Option PV}
   (q:XsN (K.m+8) B (fiL F) (d+64) NoE ((aM g5).drop 11) (stB F K (some (.int (n:Nat))) (some (.int (b:Nat))) (some (.str (ofL (aE b n)))) (some (.list (aP ((rowsOf K b n).map ca)))) depths closing (some (.str (ofL (bU K b n)))) end' (some (.str (ofL (e9 K b n)))) (some (.int (aW b (b+1) n:Nat))) (some (.str (ofL (aE b n)))) place) H Qn Qf) :
   XsN (K.m+8) B (fiL F) (d+64) NoE ((aM g5).drop 9) (stB F K (some (.int (n:Nat))) (some (.int (b:Nat))) (some (.str (ofL (aE b n)))) (some (.list (aP ((rowsOf K b n).map ca)))) depths closing (some (.str (ofL (bU K b n)))) end' (some (.str (ofL (e9 K b n)))) worth read place) H Qn Qf:=by
 subst hd;have hs:=hr.text_len bO du K;rw [<-cY K n hr.b1] at hs;have ha:=jt (iW (K:=K) (b:=b) (n:=n));refine b5 (XN.of ?_);ext;refine ⟨aD F.R.hr,?_⟩;ext;refine aF.le (Aa _) (ww (d:=e+5) F.R (show Asc (ofL (bU K b n)) from ha).all ((a8 _).symm▸hs) (hr.strip K) (oK (w7 K b) (mC Ci _ _ _ _)) (hr.text_len cN DX K) (hr.rd K) ?_);refine jU rfl rfl ?_;ext;refine b5 (XN.of ?_);ext;refine ⟨_,dj,?_⟩;ext;refine lr ud ∅ (λr h=>ntr (kn (K:=K) (Aw hr.b4) hr.lt r h) ∅) (ntr (Ad (Ba _)) (ntr (dM hr.len) ∅)) ?_;ext;refine' ifn (CT _) ?_;ext;refine' ifn (CT _) ?_;ext;refine ⟨aD F.V.hm,?_⟩;ext;refine iq F.V (b:=b) (x:=b+1) 4 (e+1) n _ _ ∅ hr.mov3 (Ag hr.n_lt ∅) ?_;ext;refine' ifn (CT _) ?_;ext;exact @q
end
end
set_option maxHeartbeats 2000000
section
noncomputable def aF1 (l:Nat):PV->PV
 | .int k=>.int ((l:Int)+k)
 | v=>v
noncomputable def itF (m4 l:Nat)(x:PV):PV:=.tup [sj x,.int (m4:Nat),aF1 l (kx x)]
section
theorem j9 {elt:Expr}{D:Addr}{deps:AH}{Q:LQ}{σt:Option PV->St}{f:PV->PV}(hd:∀p∈deps,p∈H)(items acc:List PV)(o:Option PV)
   (hA:∀x∈items,∀o H (K:SQ),K (σt (some x)) H->Asg B fi d NoE tgt x (σt o) H K)
   (hE:∀x∈items,∀acc (K:PQ),K (f x) ((D,acc)::H)->Ev NoE B d fi (σt (some x)) ((D,acc)::H) elt K)(hz:acc.length+items.length<=sizeLine)(q:Q (acc++items.map f) H):sm B fi d tgt [] elt D deps items acc (σt o) H Q:=
 gL (p:=λO=>true) hd items acc o (λO=>hA) (λO O O O O k=>k) (λO=>hE) hz (by rw [List.filter_eq_self.mpr λO O=>rfl];exact q)
noncomputable abbrev aFl (F:aR B)(b n:Nat)(I:Addr)(o:Option PV):St:=[(Ω ".0",.local,none),(Ω "more",.local,o.map kx),(Ω "name",.local,o.map sj),(Ω "_law_moved",.globalImplicit,some (.raw (.ref F.V.m))),(Ω "len",.globalImplicit,some (.raw (.builtin "len"))),(Ω "base",.cell,some (.int (b:Nat))),(Ω "items",.cell,some (.lref I)),(Ω "number",.cell,some (.int (n:Nat)))]
theorem Dz {x:PV}(hx:x∈[PV.tup [PV.int 0,v],PV.tup [PV.int 1,v]]):∃j:Nat,x=.tup [.int (j:Nat),v]:=
 (mcp hx).elim (λe=>⟨0,e⟩) λh=>⟨1,msp h⟩
theorem yl (n:Nat):max ((n:Int)-1) 0=((n-1:Nat):Int):=by
 cases n with
 | zero=>rfl
 | succ n=>rw [Int.natCast_succ,Ca];exact Int.max_eq_left (B2 n)
theorem aD1 (F:aR B)(K:Kn)(hr:Run b n){e:Nat}(hd:d=e+6){its its':List PV}(hu:Upd K.I its its' H H')(hi:its'=its++[.tup [.str (ofL (aE b n)),.int (aW b 4 n:Nat),.int (its.length:Nat)],.tup [.str (ofL (aE b n)),.int (aW b 4 n:Nat),.int (its.length+1:Nat)]])(hil:its.length<=10){rows place depths closing mail end' bare:Option PV}
   (q:Qn (stB F K (some (.int (aW b (b+1) n-1:Nat))) (some (.int (b:Nat))) (some (.str (ofL (aE b n)))) rows depths closing mail end' bare (some (.int (aW b (b+1) n:Nat))) (some (.str (ofL (aE b n)))) place) H') :
   XsN (K.m+8) B (fiL F) (d+64) NoE ((aM g5).drop 11) (stB F K (some (.int (n:Nat))) (some (.int (b:Nat))) (some (.str (ofL (aE b n)))) rows depths closing mail end' bare (some (.int (aW b (b+1) n:Nat))) (some (.str (ofL (aE b n)))) place) H Qn Qf:=by
 subst hd;have hI:=hu.has;refine b5 (XN.of ?_);ext;refine ⟨_,ju (.lref hI),?_⟩;ext;refine cF (aFl F b n K.I none) ?_ ?_ (by decide +kernel) (by rfl) (by rfl) (by intro _ _;rfl) (Am _ _)
 . exact .loc (.loc (.loc (.glob F.V.gm (.glob F.N.gln (.capC (by walk_at "mm") (.capC (by walk_at "mm") (.capC (by walk_at "mm") .nil)))))))
 refine cJ ?_;ext;refine dO λD=>?_;refine j9 (σt:=aFl F b n K.I) (f:=itF (aW b 4 n) its.length) ?_ _ _ none ?_ ?_ ?_ ?_
 . exact λp hp=>(Be hp).elim
 . intro x hx o H K k
   obtain ⟨j,rfl⟩:=Dz hx;refine jU rfl rfl ?_;ext;exact k
 . intro x hx acc K' k
   obtain ⟨j,rfl⟩:=Dz hx;show Ev _ B _ _ [(Ω ".0",.local,none),(Ω "more",.local,some (.int (j:Nat))),(Ω "name",.local,some (.str (ofL (aE b n)))),(Ω "_law_moved",.globalImplicit,some (.raw (.ref F.V.m))),(Ω "len",.globalImplicit,some (.raw (.builtin "len"))),(Ω "base",.cell,some (.int (b:Nat))),(Ω "items",.cell,some (.lref K.I)),(Ω "number",.cell,some (.int (n:Nat)))] _ _ _;ext;refine ⟨aD F.V.hm,?_⟩;ext;refine iq F.V (b:=b) (x:=4) 4 (e+1) n _ _ ∅ hr.mov4 (Ag hr.n_lt ∅) ?_;ext;refine ⟨aB,?_⟩;ext;refine ac (.lref (.tail _ hI)) (Ae hil ∅) ?_;ext;exact k
 . exact dR (Aa 2)
 ext;refine kW (.inr .list) (hi▸hu) (ntr (AJ hil 2) ∅) ?_;refine b5 (XN.of ?_);ext;refine ⟨aB,?_⟩;ext;refine jf ?_;refine bZ (congrArg PV.int (yl _)) ?_;ext;refine XsN.of (dB ?_);exact @q
end
end
set_option maxHeartbeats 2000000
section
noncomputable abbrev s5 (b n l:Nat):List PV:=[.tup [.str (ofL (aE b n)),.int (aW b 4 n:Nat),.int (l:Nat)],.tup [.str (ofL (aE b n)),.int (aW b 4 n:Nat),.int (l+1:Nat)]]
section
theorem w3 (F:aR B)(K:Kn)(hr:Run b n){e:Nat}(hd:d=e+6){its:List PV}(hC:(K.C,aa (ag K.sl))∈H)(hu:Upd K.I its (its++s5 b n its.length) H H')(hil:its.length<=10){nest rows place depths closing mail end' bare worth read:Option PV}
   (q:∀R place closing end',Qn (stB F K (some (.int (aW b (b+1) n-1:Nat))) (some (.int (b:Nat))) (some (.str (ofL (aE b n)))) (some (.list (aP ((rowsOf K b n).map ca)))) (some (.str (ofL (aE b n++[97])))) closing (some (.str (ofL (bU K b n)))) end' (some (.str (ofL (e9 K b n)))) (some (.int (aW b (b+1) n:Nat))) (some (.str (ofL (aE b n)))) place) ((R,aP (rowsOf K b n))::H')) :
   XsN (K.m+8) B (fiL F) (d+64) NoE (aM g5) (stB F K (some (.int (n:Nat))) (some (.int (b:Nat))) nest rows depths closing mail end' bare worth read place) H Qn Qf:=by
 have hb:=hr.hb;have hb4:=Aw hr.b4;refine aDc F K hd (by lia) (Ag hr.n_lt ∅) (ntr hr.len ∅) λR=>?_;refine aFw F K hb4 hr.len hr.lt λplace closing end'=>?_;refine aEp F K hb4 hr.len hr.lt (.tail _ hC) ?_;refine aEi F K hr.b1 hb4 hr.len hr.lt (.head _) ?_;refine aE2 F K hr hd (R:=R) ?_;exact aD1 F K hr hd (.tail hu) rfl hil (q R place closing end')
noncomputable def ay (sl:List Int):Nat:=aW 2 3 (numberOf sl)-1
noncomputable def num4 (sl:List Int):Nat:=aW 3 4 (ay sl)-1
noncomputable def tJ (sl:List Int):List PV:=s5 2 (numberOf sl) 0++s5 3 (ay sl) 2
theorem aGb (sl:List Int):Run 2 (numberOf sl):=⟨.inl ⟨rfl,(dm sl).2⟩⟩
theorem iY (sl:List Int):Run 3 (ay sl):=⟨.inr ⟨rfl,by
 have:=(qe _ (dm sl).2).2.1;have h:=(qe _ (dm sl).2).2.2 (dm sl).1
 unfold ay;omega⟩⟩
theorem aCj (F:aR B)(K:Kn){e:Nat}(hd:d=e+6)
   (h:∀R2 R3 place closing end',XsT (K.m+8) B (d+64) (fiL F) ((R3,aP (rowsOf K 3 (ay K.sl)))::(R2,aP (rowsOf K 2 (numberOf K.sl)))::(K.W,[])::(K.S,[])::(K.I,tJ K.sl)::(K.C,aa (ag K.sl))::H) (stB F K (some (.int (num4 K.sl:Nat))) (some (.int (3:Nat))) (some (.str (ofL (aE 3 (ay K.sl))))) (some (.list (aP ((rowsOf K 3 (ay K.sl)).map ca)))) (some (.str (ofL (aE 3 (ay K.sl)++[97])))) closing (some (.str (ofL (bU K 3 (ay K.sl))))) end' (some (.str (ofL (e9 K 3 (ay K.sl))))) (some (.int (aW 3 4 (ay K.sl):Nat))) (some (.str (ofL (aE 3 (ay K.sl))))) place) (aq 6) (λO H'=>Q .none H') (PX Q)) :
   XsT (K.m+8) B (d+64) (fiL F) ((K.W,[])::(K.S,[])::(K.I,[])::(K.C,aa (ag K.sl))::H) (stL (F:=F) (script_:=some (.list (cf K.sl))) (cells_:=some (.lref K.C)) (number_:=some (.int (numberOf K.sl:Nat))) (side_:=some (.int (bz K.sl))) (ways_:=some (.int (waysOf K.sl:Nat))) (pieces_:=some (fH K.m)) (items_:=some (.lref K.I)) (shelf_:=some (.lref K.S)) (words_:=some (.lref K.W)) (total_:=some (.int (bL K.sl))) (left_:=some (.int (leftOf K.sl:Nat)))) (aq 5) (λO H'=>Q .none H') (PX Q):=by
 refine xH ?_;refine CY ?_ (by lia) (by intro _ _;rfl);refine cJ ?_;ext;refine dO ?_;show Asg B _ (d+64) NoE (a0 g5) (.int (2:Nat)) _ _ _;refine' fP ?_;ext;refine w3 F K (aGb K.sl) hd (H':=(K.W,[])::(K.S,[])::(K.I,[]++s5 2 (numberOf K.sl) 0)::(K.C,aa (ag K.sl))::H) (.tail _ (.tail _ (.tail _ (.head _)))) (.tail (.tail .head)) (Ab _) λR2 place closing end'=>?_;refine ⟨λO h=>(by cases h),?_⟩;show Asg B _ (d+64) NoE (a0 g5) (.int (3:Nat)) _ _ _;refine' fP ?_;ext;refine w3 F K (iY K.sl) hd (H':=(R2,aP (rowsOf K 2 (numberOf K.sl)))::(K.W,[])::(K.S,[])::(K.I,tJ K.sl)::(K.C,aa (ag K.sl))::H) (.tail _ (.tail _ (.tail _ (.tail _ (.head _))))) (.tail (.tail (.tail .head))) (Am 2 8) λR3 place closing end'=>?_;refine ⟨λO h=>(by cases h),?_⟩;exact @h R2 R3 place closing end'
end
end
noncomputable def chM:Bool->List Nat->Nat->Bool
 | _,[],o=>o==0
 | true,_::r,o=>chM false r o
 | false,c::r,o=>if c=92 then chM true r o else if c=40 then chM false r (o+1) else if c=41 then (if o=0 then false else chM false r (o-1)) else chM false r o
noncomputable abbrev chL (x:List Nat)(o:Nat):Bool:=chM false x o
theorem dW {c:Nat}{o:Nat}(h1:c≠92)(h2:c≠40)(h3:c≠41):chL (c::r) o=chL r o:=(if_neg h1).trans ((if_neg h2).trans (if_neg h3))
theorem sb {o:Nat}:chL (40::r) o=chL r (o+1):=rfl
theorem sV {o:Nat}:chL (41::r) (o+1)=chL r o:=rfl
theorem wb :chL (41::r) 0=false:=rfl
theorem eM {c:Nat}{o:Nat}:chL (92::c::r) o=chL r o:=rfl
theorem z4 {o:Nat}:chL [92] o=(o==0):=rfl
theorem jJ:∀(n:Nat) (x:List Nat) (i o:Nat),x.length<=n->eA (aV i false x) (o:Int)=chL x o
 | _,[],i,o,_=>by
   show decide ((o:Int)=0)=(o==0)
   cases o with
   | zero=>rfl
   | succ o=>rfl
 | n+1,c::r,i,o,h=>by
   have hr:r.length<=n:=Nat.le_of_succ_le_succ h;by_cases h1:c=92
   . subst h1
     cases r with
     | nil=>
       rw [z4];show decide ((o:Int)=0)=(o==0)
       cases o with
       | zero=>rfl
       | succ o=>rfl
     | cons c' r=>
       rw [vh,eM];refine (fC (by intro e;cases e) (by intro e;cases e)).trans (jJ n r _ o (Ao hr))
   . rw [wN h1]
     by_cases h2:c=40
     . subst h2
       rw [sb];exact (iJ rfl).trans (jJ n r _ (o+1) hr)
     . by_cases h3:c=41
       . subst h3
         cases o with
         | zero=>rw [wb];exact oF rfl ∅
         | succ o=>
           rw [sV];refine (fX rfl (by lia)).trans ?_;rw [show ((o+1:Nat):Int)-1=(o:Nat) by lia];exact jJ n r _ o hr
       . rw [dW h1 h2 h3]
         exact (fC (λe=>h2 (List.cons.inj e).1) (λe=>h3 (List.cons.inj e).1)).trans (jJ n r _ o hr)
theorem pB {x b:List Nat}(h:Sp x b):fU (ofL x)=chL b 0:=by
 unfold fU;rw [h.strip];exact jJ _ b 0 0 (Aa _)
theorem rj {o:Nat}:∀n:Nat,chL (List.replicate n 46++r) o=chL r o
 | 0=>rfl
 | n+1=>(dW ∅ ∅ ∅).trans (rj n)
theorem GZ {o:Nat}:∀k:Nat,chL (cN.getD k []++r) o=chL r o:=
 by8 (P:=λk=>chL (cN.getD k []++r) o=chL r o) rfl (dW ∅ ∅ ∅) eM eM eM eM rfl rfl λO=>rfl
theorem mj :∀c o:Nat,chL (List.replicate c 41++r) o=if c<=o then chL r (o-c) else false
 | 0,o=>rfl
 | c+1,0=>wb
 | c+1,o+1=>by
   refine sV.trans ((mj c o).trans ?_);by_cases h:c<=o
   . rw [if_pos h,if_pos (Ai h),Nat.succ_sub_succ]
   . rw [if_neg h,if_neg (λh'=>h (Nat.le_of_succ_le_succ h'))]
theorem qJ {o:Nat}(b k c:Nat):chL (cP cN b k c++r) o=if c<=o+1 then chL r (o+1-c) else false:=by
 unfold cP;rw [Bc,Bl,Bc,rj,sb,GZ,mj]
noncomputable def ig:List Nat->List Nat
 | a::a'::l=>(a+1-a')::ig (a'::l)
 | _=>[]
noncomputable def bal:List Nat->Nat->Bool
 | [],o=>o==0
 | c::cs,o=>if c<=o+1 then bal cs (o+1-c) else false
theorem rT {t:List Nat}(ht:∀o,chL t o=(o==0))(b:Nat)(f:Nat->Nat):∀(L:List Nat) (i o:Nat),chL (cX (bC cN b f L i) t) o=bal (ig L) o
 | [],_,o=>ht o
 | [_],_,o=>ht o
 | a::a'::l,i,o=>by
   show chL (cP cN b (f i) (a+1-a')++13::10::cX (bC cN b f (a'::l) (i+1)) t) o=if a+1-a'<=o+1 then bal (ig (a'::l)) (o+1-(a+1-a')) else false;rw [qJ,dW ∅ ∅ ∅,dW ∅ ∅ ∅,rT ht b f (a'::l)]
theorem aC0 (K:Kn)(b o:Nat):chL (tlB K b) o=(o==0):=by
 unfold tlB;rcases bY K b with h | h <;> rw [h] <;> rfl
theorem aAd (b k c:Nat):Sp (cP bO b k c) (cP cN b k c):=by
 unfold cP;have:=iU (c:=41) ∅ ∅ Sp.nil c;rw [Bd] at this;exact iU ∅ ∅ (.sign ∅ ∅ (lR this k)) b
theorem EM (b k c:Nat):fU (ofL (cP bO b k c))=(c==1):=by
 rw [pB (aAd b k c)];have:=qJ (r:=[]) (o:=0) b k c;rw [Bd] at this;rw [this]
 match c with
 | 0=>rfl
 | 1=>rfl
 | c+2=>exact if_neg (by lia)
noncomputable def io (P:List (List Nat))(b:Nat):List (Nat×Nat)->List Nat
 | []=>[]
 | (k,c)::l=>cP P b k c++io P b l
theorem vz (b:Nat):∀l:List (Nat×Nat),Sp (io bO b l) (io cN b l)
 | []=>.nil
 | (k,c)::l=>by
   show Sp (cP bO b k c++io bO b l) (cP cN b k c++io cN b l);unfold cP;rw [Bc,Bc,Bl,Bl,Bc,Bc];exact iU ∅ ∅ (.sign ∅ ∅ (lR (iU ∅ ∅ (vz b l) c) k)) b
theorem rc (b:Nat):∀(l:List (Nat×Nat)) (o:Nat),chL (io cN b l) o=bal (l.map (·.2)) o
 | [],o=>rfl
 | (k,c)::l,o=>by
   show chL (cP cN b k c++io cN b l) o=if c<=o+1 then bal (l.map (·.2)) (o+1-c) else false;rw [qJ,rc b l]
noncomputable def kcs (f:Nat->Nat):List Nat->Nat->List (Nat×Nat)
 | a::a'::l,i=>(f i,a+1-a')::kcs f (a'::l) (i+1)
 | _,_=>[]
theorem sH (P:List (List Nat))(b:Nat)(f:Nat->Nat):∀(L:List Nat) (i:Nat),bC P b f L i=(kcs f L i).map λp=>cP P b p.1 p.2
 | [],_=>rfl
 | [_],_=>rfl
 | a::a'::l,i=>congrArg _ (sH P b f (a'::l) (i+1))
theorem Dl (f:Nat->Nat):∀(L:List Nat) (i:Nat),(kcs f L i).map (·.2)=ig L
 | [],_=>rfl
 | [_],_=>rfl
 | a::a'::l,i=>congrArg _ (Dl f (a'::l) (i+1))
theorem so (P:List (List Nat))(b:Nat):∀l:List (Nat×Nat),(l.map λp=>cP P b p.1 p.2).flatten=io P b l
 | []=>rfl
 | _::l=>congrArg _ (so P b l)
noncomputable def aE0 (n:Nat):Bool:=bal (ig (aE 3 n++[97])) 0 && (bal (ig (aE 3 n++[97])).reverse 0==(ig (aE 3 n++[97])).all (·==1))
theorem Cy:∀n,n<112->aE0 n=true:=by decide +kernel
theorem Fi (h:n<112):bal (ig (aE 3 n++[97])) 0=true:=(BX _ _▸Cy n h:_/\_).1
theorem EU (h:n<112):bal (ig (aE 3 n++[97])).reverse 0=(ig (aE 3 n++[97])).all (·==1):=eq_of_beq (BX _ _▸Cy n h:_/\_).2
theorem EJ (K:Kn)(h:n<112):fU (ofL (bU K 3 n))=true:=by
 rw [cY K n ∅,pB (qN (Gv K 3) (3+1) (gk K) (aE 3 n++[97]) 0),rT (aC0 K 3),Fi h]
theorem zc (K:Kn)(h:n<112):fU (ofL (((rowsOf K 3 n).map ca).reverse.flatten))=(ig (aE 3 n++[97])).all (·==1):=by
 have e:((rowsOf K 3 n).map ca).reverse.flatten=46::46::92::45::46::io bO 4 (kcs (gk K) (aE 3 n++[97]) 0).reverse:=by
   unfold rowsOf;rw [Bj,e8 ∅,g6,List.reverse_append,List.flatten_append,sH,<-Bs,so];rcases bY K 3 with h | h <;> rw [h] <;> rfl
 rw [e,pB (.sign ∅ ∅ (.sign ∅ ∅ (.pair (.sign ∅ ∅ (vz 4 _))))),dW ∅ ∅ ∅,dW ∅ ∅ ∅,eM,dW ∅ ∅ ∅,rc,Bs,Dl,EU h]
theorem Da:fU (ofL ([45,46]++[34,41]))=false:=by decide +kernel
theorem pW:∀n,n<30->sliceRange (sliceBounds none none (some (-1)) n).1 (sliceBounds none none (some (-1)) n).2.1 (sliceBounds none none (some (-1)) n).2.2=(List.range n).reverse:=by decide +kernel
theorem uA {α:Type}:∀(xs ys:List α),(List.range' ys.length xs.length).filterMap ((ys++xs)[·]?)=xs:=by
 intro xs
 induction xs with
 | nil=>
   intro _;exact rfl
 | cons x xs ih=>
   intro ys;have h:(ys++x::xs)[ys.length]?=some x:=by rw [List.getElem?_append_right (Aa _),AX];rfl
   have ih:=ih (ys++[x]);rw [Bb,Bc] at ih;show (ys.length::List.range' (ys.length+1) xs.length).filterMap _=_;rw [BT h];exact congrArg (x::·) ih
theorem sJ {α:Type}(xs:List α)(h:xs.length<30):pick xs none none (some (-1))=xs.reverse:=by
 unfold pick;rw [pW xs.length h,List.filterMap_reverse,List.range_eq_range'];exact congrArg _ (uA xs [])
set_option maxHeartbeats 2000000
section
noncomputable def lx (L:List Nat):List Bool:=(ig L).map (·==1)
noncomputable def lE (L:List Nat):PV->PV
 | .int i=>.bool (decide ((⟨#[L.getD i.toNat 0]⟩:Str)=⟨#[L.getD (i.toNat+1) 0]⟩))
 | v=>v
theorem aAx (a b:Nat):decide ((⟨#[a]⟩:Str)=⟨#[b]⟩)=(a+1-b==1):=by
 by_cases h:a=b
 . subst h
   rw [decide_eq_true rfl,AR];rfl
 . rw [decide_eq_false (λe=>h (by injection e with e;injection e with e;exact (List.cons.inj e).1))]
   symm
   rw [beq_eq_false_iff_ne];omega
theorem mq (L:List Nat):∀(l:List Nat) (i:Nat),L.drop i=l->(dG 1 (i:Nat) (l.length-1)).map (lE L)=(lx l).map PV.bool
 | [],_,_=>rfl
 | [_],_,_=>rfl
 | a::a'::l,i,hd=>by
   have hd1:L.drop (i+1)=a'::l:=by rw [<-Bn,hd];rfl
   have g0:L[i]?=some a:=by have:=congrArg (·[0]?) hd;rwa [List.getElem?_drop] at this
   have g1:L[i+1]?=some a':=by have:=congrArg (·[0]?) hd1;rwa [List.getElem?_drop] at this
   have ih:=mq L (a'::l) (i+1) hd1;show lE L (.int (i:Nat))::(dG 1 ((i:Int)+1) (a'::l).length.pred).map (lE L)=PV.bool (a+1-a'==1)::(lx (a'::l)).map PV.bool;rw [<-aAx];refine congr (congrArg List.cons ?_) ih;show PV.bool (decide ((⟨#[L.getD (i:Int).toNat 0]⟩:Str)=⟨#[L.getD ((i:Int).toNat+1) 0]⟩))=_;rw [B3,List.getD_eq_getElem?_getD,List.getD_eq_getElem?_getD,g0,g1];rfl
theorem mB (s:Int):∀(n:Nat) (a:Int),(dG s a n).length=n:=by
 intro n
 induction n with
 | zero=>
   intro _;exact rfl
 | succ n ih=>
   intro a;exact congrArg Nat.succ (ih (a+s))
noncomputable def aloneL (K:Kn):List Bool:=lx (aE 3 (ay K.sl)++[97])++List.replicate (i5 K 3) true
structure Kx where
 place:Option PV
 closing:Option PV
 ends:Option PV
section
theorem tz {x:PV}(hk:k<=1000)(q:l9 Q (List.replicate k x) H):V2 H E B d (.int (k:Nat)) (.list [x]) (binaryOp .Mult) Q:=
 rH .list (by lia) (by lia) (by rw [Bw,A0,B3];exact ntr hk ∅) (by rw [B3,show (List.replicate k [x]).flatten=List.replicate k x from List.flatten_replicate_singleton];exact q)
noncomputable abbrev stE (before:Option PV)(names:Option PV)(item:Option PV)(told:Option PV)(figure:Option PV)(part:Option PV)(hand:Option PV)(kept:Option PV)(alone:Option PV)(F:aR B)(K:Kn)(X:Kx):St:=stL (F:=F) (script_:=some (.list (cf K.sl))) (cells_:=some (.lref K.C)) (place_:=X.place) (number_:=some (.int (num4 K.sl:Nat))) (side_:=some (.int (bz K.sl))) (ways_:=some (.int (waysOf K.sl:Nat))) (pieces_:=some (fH K.m)) (items_:=some (.lref K.I)) (shelf_:=some (.lref K.S)) (words_:=some (.lref K.W)) (total_:=some (.int (bL K.sl))) (left_:=some (.int (leftOf K.sl:Nat)))
 (base_:=some (.int (3:Nat))) (nest_:=some (.str (ofL (aE 3 (ay K.sl))))) (rows_:=some (.list (aP ((rowsOf K 3 (ay K.sl)).map ca)))) (depths_:=some (.str (ofL (aE 3 (ay K.sl)++[97])))) (closing_:=X.closing) (mail_:=some (.str (ofL (bU K 3 (ay K.sl))))) (end_:=X.ends) (bare_:=some (.str (ofL (e9 K 3 (ay K.sl))))) (worth_:=some (.int (aW 3 4 (ay K.sl):Nat))) (read_:=some (.str (ofL (aE 3 (ay K.sl)))))
 (alone_:=alone) (hand_:=hand) (kept_:=kept) (told_:=told) (part_:=part) (figure_:=figure) (item_:=item) (before_:=before) (names_:=names)
noncomputable abbrev aDs (L:List Nat)(o:Option PV):St:=[(Ω ".0",.local,none),(Ω "place",.local,o),(Ω "depths",.cell,some (.str (ofL L)))]
theorem aCd (F:aR B)(K:Kn)(X:Kx)
   (h:XsT (K.m+8) B (d+64) (fiL F) H (stE none none none none none none none none (some (.list ((aloneL K).map PV.bool))) F K X) (aq 7) (λO H'=>Q .none H') (PX Q)) :
   XsT (K.m+8) B (d+64) (fiL F) H (stE none none none none none none none none none F K X) (aq 6) (λO H'=>Q .none H') (PX Q):=by
 have hr:=iY K.sl;have hl:=hr.ok.1;have hlt:=hr.lt;have hrl:=lU K 3 (ay K.sl);have ht:=bY K 3;have hal:aloneL K=lx (aE 3 (ay K.sl)++[97])++List.replicate (i5 K 3) true:=rfl;generalize aloneL K=al at *;refine bK ?_;ext;refine cF (aDs (aE 3 (ay K.sl)++[97]) none) (.loc (.loc (.capC (by walk_at "mm") .nil))) ?_ (by decide +kernel) (by rfl) (by rfl) (by intro _ _;rfl) (by lia);ext;refine ⟨bR,?_⟩;ext;refine ⟨aB,?_⟩;ext;refine db (by rw [a8];lia) ?_;rw [a8];ext;refine jS (by lia) λD=>?_;refine ln (σt:=aDs (aE 3 (ay K.sl)++[97])) (f:=lE (aE 3 (ay K.sl)++[97])) ?_ ?_ _ _ none ?_ ?_ ?_
 . intro x o H K' k
   ext;exact k
 . intro p hp;cases hp
 . intro x hx acc K' k
   obtain ⟨p,hp,rfl⟩:=xj (k:=0) (n:=(aE 3 (ay K.sl)).length) hx;have hp':p+1<(aE 3 (ay K.sl)++[97]).length:=by rw [Bb];show p+1<_+1;lia
   have hsz:(aE 3 (ay K.sl)++[97]).length<2 ^ 60:=by rw [Bb];show _+1<_;lia
   ext;refine ⟨bH cC,lM (Nat.lt_of_succ_lt hp') hsz ?_⟩;ext;refine ⟨bH cC,?_⟩;rw [show ((p:Nat):Int)+1=((p+1:Nat):Int) from rfl];refine lM hp' hsz ?_;ext;exact k
 . rw [mB,sizeLine_eq];exact ntr (Ad (Ak _)) (by lia)
 have hL:(aE 3 (ay K.sl)++[97]).length-1=(aE 3 (ay K.sl)).length:=by rw [Bb];rfl
 have e:(dG 1 0 (aE 3 (ay K.sl)).length).map (lE (aE 3 (ay K.sl)++[97]))=(lx (aE 3 (ay K.sl)++[97])).map PV.bool:=by
   have e:=mq (aE 3 (ay K.sl)++[97]) (aE 3 (ay K.sl)++[97]) 0 rfl;rwa [hL] at e
 rw [Bp,e];ext;refine cn ?_;ext;refine ⟨aB,?_⟩;ext;refine ac .list (by rw [Ba,Ba];lia) ?_;rw [Ba,Ba,hrl];ext;refine ⟨aB,?_⟩;ext;refine db (by rw [a8];lia) ?_;rw [a8];ext;rw [show (((aE 3 (ay K.sl)).length+i5 K 3:Nat):Int)-((aE 3 (ay K.sl)).length:Nat)=(i5 K 3:Nat) by lia];refine tz (by lia) (.inl ?_);have hgl:((lx (aE 3 (ay K.sl)++[97])).map PV.bool).length<=100:=by rw [<-e,Ba,mB];lia
 refine CI .list .list (by rw [Bq,sizeLine_eq];lia) (.inl ?_);rw [hal,Bj,List.map_replicate] at h;ext;exact @h
end
end
set_option maxHeartbeats 2000000
section
noncomputable abbrev bX (K:Kn):List (List Nat):=(rowsOf K 3 (ay K.sl)).map ca
noncomputable def jE (K:Kn):List Str:=(bX K).map λr=>dy (ofL r)
noncomputable def tI (x:PV):PV:=match sj x with
 | .bool true=>kx x
 | _=>.str aEe
theorem zV {rs:List (List Nat)}{gs:List Bool}(hn:rs.length=gs.length)(h:∀i,(hi:i<rs.length)->fU (ofL rs[i])=gs[i]'(hn▸hi)):(cw (aP rs) (gs.map PV.bool)).map tI=(rs.map λr=>dy (ofL r)).map PV.str:=by
 induction rs generalizing gs with
 | nil=>rfl
 | cons r rs ih=>
   cases gs with
   | nil=>cases hn
   | cons g gs=>
     have h0:fU (ofL r)=g:=h 0 (Nat.zero_lt_succ _);have ih:=ih (Nat.succ.inj hn) λi hi=>h (i+1) (Nat.succ_lt_succ hi);show tI (.tup [.str (ofL r),.bool g])::(cw (aP rs) (gs.map PV.bool)).map tI=.str (dy (ofL r))::_;rw [ih];congr 1;unfold dy;rw [h0];cases g <;> rfl
theorem oE (b:Nat)(f:Nat->Nat):∀(L:List Nat) (i:Nat),(bC bO b f L i).map (λr=>fU (ofL r))=lx L
 | [],_=>rfl
 | [_],_=>rfl
 | a::a'::l,i=>congr (congrArg List.cons (EM b (f i) _)) (oE b f (a'::l) (i+1))
theorem xU:tG.map (λr=>fU (ofL r))=List.replicate 4 true:=by decide +kernel
theorem nU (K:Kn):(bX K).map (λr=>fU (ofL r))=aloneL K:=by
 unfold bX aloneL rowsOf;rw [Bj,e8 ∅,g6,Bj,oE,BG,xU];rcases bY K 3 with h | h <;> rw [h] <;> rfl
theorem mR (K:Kn):(bX K).length<=24:=by
 have h1:=lU K 3 (ay K.sl);have h2:=bY K 3;have h3:=(iY K.sl).ok.1;rw [Ba];lia
theorem FT (K:Kn):(cw (aP (bX K)) ((aloneL K).map PV.bool)).map tI=(jE K).map PV.str:=by
 have e:=nU K;refine zV (by rw [<-e];exact (Ba _).symm) λi hi=>?_;have:(aloneL K)[i]?=some (fU (ofL (bX K)[i])):=by rw [<-e,List.getElem?_map,List.getElem?_eq_getElem hi];rfl
 exact (List.getElem_eq_iff _).mpr this |>.symm
theorem u9 (K:Kn):Txt.split (ofL (bU K 3 (ay K.sl))) (ofL [13,10])=(bX K).map ofL:=by
 refine u8 _ ?_ ?_
 . intro e
   have:=jX K 3 (ay K.sl);rw [List.map_eq_nil_iff.mp e] at this;cases this
 . intro r h
   obtain ⟨x,hx,rfl⟩:=mmp h;exact nM (c7 x hx).1
noncomputable abbrev aEq (o:Option PV):St:=[(Ω ".0",.local,none),(Ω "row",.local,o.map kx),(Ω "good",.local,o.map sj)]
section
theorem aC2 (F:aR B)(K:Kn)(X:Kx){alone:Option PV}(ha:alone=some (.list ((aloneL K).map PV.bool)))
   (h:∀Hd,XsT (K.m+8) B (d+64) (fiL F) ((Hd,aP (bX K))::H) (stE none none none none none none (some (.lref Hd)) (some (.list ((jE K).map PV.str))) alone F K X) (aq 8) (λO H'=>Q .none H') (PX Q)) :
   XsT (K.m+8) B (d+64) (fiL F) H (stE none none none none none none none none alone F K X) (aq 7) (λO H'=>Q .none H') (PX Q):=by
 subst ha;have hlen:(aloneL K).length<=24:=by rw [<-nU K,Ba];exact mR K
 have hs:=(iY K.sl).text_len bO du K;rw [<-cY K (ay K.sl) ∅] at hs;refine bK ?_;refine qA (Ω "hand") (Ω "kept") (by kernel_rfl) ?_;ext;refine ⟨_,tu,?_⟩;ext;rw [ud];refine vC (by decide +kernel) (by rw [a8];exact ntr hs ∅) (.inr λHd=>?_);rw [u9,<-eP];ext;refine qF (aEq none) (.loc (.loc (.loc .nil))) ?_ (by rfl) (by intro _;rfl) (by decide +kernel) (by rfl) (by rfl) (by intro _ _;rfl) (by lia);ext;refine ⟨bR,?_⟩;ext;refine ⟨_,_,_,_,rfl,rfl,.list,.list,λTO D=>?_⟩;refine yo (σt:=aEq) (f:=tI) ?_ _ _ none ?_ ?_ ?_ ?_
 . intro p hp;cases (show p∈([]:AH) from hp)
 . intro ob x hx o H K' k
   obtain ⟨⟨a,b⟩,O,rfl⟩:=mmp hx;ext;exact k
 . intro ob x hx acc K' k
   obtain ⟨⟨p,q⟩,hp,rfl⟩:=mmp hx;obtain ⟨h1,h2⟩:=List.of_mem_zip hp;obtain ⟨a,O,rfl⟩:=mmp h1;obtain ⟨b,O,rfl⟩:=mmp h2;show Ev _ _ _ _ [(Ω ".0",.local,none),(Ω "row",.local,some (.str (ofL a))),(Ω "good",.local,some (.bool b))] _ _ _;refine bh ?_;ext
   cases b with
   | true=>
     refine' ifp rfl ?_;ext;exact k
   | false=>
     refine' ifn BW ?_;ext;exact k
 . unfold cw;rw [Ba,List.length_zip,Ba (as:=aloneL K),sizeLine_eq];exact ntr (Ad (Ak _)) (ntr (AL _ _) (ntr hlen ∅))
 rw [Bp,FT];ext;exact @h Hd
end
end
set_option maxHeartbeats 2000000
section
theorem oM (b:Bool):∀bs:List Bool,((pds (bs.map PV.bool)).any λy=>PyData.eqv y (.bool b))=bs.any (·==b)
 | []=>rfl
 | c::bs=>congrArg ((c==b) || ·) (oM b bs)
theorem w6 (K:Kn):∀x∈jE K,PyData.strOk x=true:=λx hx=>by
 obtain ⟨r,hr,rfl⟩:=mmp hx;obtain ⟨y,hy,rfl⟩:=mmp hr;unfold dy;split
 . exact lV (ka (c7 y hy)).2
 . decide +kernel
theorem we (K:Kn):∀x∈(bX K).map ofL,PyData.strOk x=true:=λx hx=>by
 obtain ⟨r,hr,rfl⟩:=mmp hx;obtain ⟨y,hy,rfl⟩:=mmp hr;exact lV (ka (c7 y hy)).2
theorem sr (K:Kn):(!(aloneL K).any (·==false))=(ig (aE 3 (ay K.sl)++[97])).all (·==1):=by
 have h1:∀cs:List Nat,(!(cs.map (·==1)++List.replicate (i5 K 3) true).any (·==false))=cs.all (·==1):=λcs=>by
   induction cs with
   | nil=>rcases bY K 3 with h | h <;> rw [h] <;> rfl
   | cons c cs ih=>
     rw [BI,<-ih,Bg,Bl,List.any_cons];cases c==1 <;> rfl
 exact h1 _
theorem CA (rows:List (List Nat))(h:∀r∈rows,r.length<=m):rows.flatten.length<=m*rows.length:=by
 induction rows with
 | nil=>exact Aa _
 | cons r rows ih=>
   rw [Bf,AQ,Ah];exact bd (h r (.head _)) (ih λx hx=>h x (.tail _ hx))
theorem Ew:∀r∈lw,r.length<=10:=by decide
theorem sG (K:Kn):∀r∈bX K,r.length<=30:=λr h=>by
 obtain ⟨x,hx,rfl⟩:=mmp h;refine sa (N:=29) ((mpp hx).elim (λhx=>?_) λhx=>ntr (Ew x (Bx hx)) ∅);exact ntr (l4 bO du 3 (gk K) _ 0 (iY K.sl).ok.2 x hx) ∅
theorem r6 (K:Kn):∀r∈bX K,∀c∈r,c<128:=λr h=>by
 obtain ⟨x,hx,rfl⟩:=mmp h;exact (ka (c7 x hx)).2
theorem yQ (K:Kn):(bX K).getD ((aE 3 (ay K.sl)).length+1) []=[45,46]/\(aE 3 (ay K.sl)).length+1<(bX K).length:=by
 have e:bX K=bC bO 4 (gk K) (aE 3 (ay K.sl)++[97]) 0++tG.take (i5 K 3):=by
   unfold bX rowsOf;rw [Bj,e8 ∅,g6]
 have hl:(bC bO 4 (gk K) (aE 3 (ay K.sl)++[97]) 0).length=(aE 3 (ay K.sl)).length:=by
   rw [eV,Bb];rfl
 rw [e,<-hl];refine ⟨?_,?_⟩
 . rw [List.getD_eq_getElem?_getD,List.getElem?_append_right (Af _ _),AR]
   rcases bY K 3 with h | h <;> rw [h] <;> rfl
 . rw [Bb]
   refine AA ?_ _;rcases bY K 3 with h | h <;> rw [h] <;> decide
section
theorem CK {b:Bool}{bs:List Bool}(hv:aT H v (bs.map PV.bool))(h:Q (.bool (!bs.any (·==b))) H):V2 H E B d v (.bool b) (compareOp .NotIn) Q:=λA s R I va vb r1 r2=>by
 have hc:okD (.list (bs.map PV.bool))=true:=y6 bs;have hl:=SeqAt.canLay_of_shaped hc;obtain ⟨as,q2⟩:=(IsD.items hv).reads I r2 hl;obtain ⟨O,q1⟩:=r1.reads rfl;refine SeqAt.notIn_list_reads (xs:=pds (bs.map PV.bool)) q2 q1 hl rfl ?_ (by rw [show pd (.bool b)=PyData.bool b from rfl,oM];exact aL.here I (.bool _) h);have:=tp R;have h2:min (PyData.depthAll (pds (bs.map PV.bool))) (pd (.bool b)).depth<=0:=AL _ _
 lia
theorem aCt (F:aR B)(K:Kn)(X:Kx){Hd:Addr}{alone:Option PV}
   (h:∀b,XsT (K.m+8) B (d+64) (fiL F) ((b,(jE K).map PV.str)::(Hd,aP (bX K))::H) (stE none none none none none none (some (.lref Hd)) (some (.list ((jE K).map PV.str))) alone F K X) (aq 9) (λO H'=>Q .none H') (PX Q)) :
   XsT (K.m+8) B (d+64) (fiL F) ((Hd,aP (bX K))::H) (stE none none none none none none (some (.lref Hd)) (some (.list ((jE K).map PV.str))) alone F K X) (aq 8) (λO H'=>Q .none H') (PX Q):=by
 have hs:=(iY K.sl).text_len bO du K;rw [<-cY K (ay K.sl) ∅] at hs
 have hsa:∀c∈bU K 3 (ay K.sl),c<128:=by
   rw [cY K (ay K.sl) ∅];exact oK (w7 K 3) (oV _ _ _ _)
 have hH:(Hd,((bX K).map ofL).map PV.str)∈(Hd,aP (bX K))::H:=by rw [<-eP];exact .head _
 refine bK ?_;ext;refine ⟨aD F.hv,?_⟩;ext;refine Dp (d:=d+49) F.R.M F.hv hH (λx hx=>?_) (by rw [Ba];exact ntr (mR K) ∅) λb=>?_
 . obtain ⟨r,hr,rfl⟩:=mmp hx
   exact ⟨r6 K r hr,by rw [a8];exact ntr (sG K r hr) ∅⟩
 rw [show ((bX K).map ofL).map dy=jE K from Bi];ext;refine sM (ns:=jE K) (ms:=jE K) (.lref (.head _)) .list (w6 K) (w6 K) ?_;rw [decide_eq_true rfl];ext;refine sM (ns:=(bX K).map ofL) (ms:=(bX K).map ofL) (by rw [<-eP];exact .lref (.tail _ (.head _))) (by rw [<-eP];exact .list) (we K) (we K) ?_;rw [decide_eq_true rfl];ext;refine ⟨aD F.R.M.hc,?_⟩;ext;refine iG (d:=d+51) F.R.M hsa (by rw [a8];exact hs) ?_;rw [EJ K (iY K.sl).n_lt];ext;rw [show il (.bool true) (.bool true)=true from rfl];ext;exact @h b
theorem Dh:Ω "\")" = ofL [34,41]:=by decide +kernel
theorem Fs (K:Kn):∀c∈(bX K).reverse.flatten,c<128:=λc hc=>by
 obtain ⟨r,hr,h⟩:=List.mem_flatten.mp hc;exact r6 K r (List.mem_reverse.mp hr) c h
theorem tU:∀rows:List (List Nat),bI [] rows=rows.flatten
 | []=>rfl
 | [r]=>(Bd r).symm
 | r::s::t=>by rw [bu,tU (s::t),Bd];rfl
theorem aC6 (F:aR B)(K:Kn)(X:Kx){Hd:Addr}{kept:Option PV}(hm:(Hd,aP (bX K))∈H)
   (h:∀told,XsT (K.m+8) B (d+64) (fiL F) H (stE none none none told none none (some (.lref Hd)) kept (some (.list ((aloneL K).map PV.bool))) F K X) (aq 11) (λO H'=>Q .none H') (PX Q)) :
   XsT (K.m+8) B (d+64) (fiL F) H (stE none none none none none none (some (.lref Hd)) kept (some (.list ((aloneL K).map PV.bool))) F K X) (aq 9) (λO H'=>Q .none H') (PX Q):=by
 have hl:=mR K;have hfl:(bX K).reverse.flatten.length<=30*24:=ntr (CA (m:=30) _ λr hr=>sG K r (List.mem_reverse.mp hr)) (AS 30 (by rw [Br];exact hl));obtain ⟨h2a,h2b⟩:=yQ K;have hz:(aP (bX K)).length<=24:=by rw [Ba];exact hl
 have h3:=(iY K.sl).ok.1;refine bK ?_;ext;refine cn ?_;ext;refine ⟨aD F.R.M.hc,?_⟩;ext;refine ⟨_,dj,?_⟩;ext;refine ⟨aK (.lref hm),?_⟩;ext;refine k3 (.lref hm) ∅ (ntr hz ∅) (.inl ?_);rw [sJ _ (by lia)];rw [gY];have e:(aP (bX K)).reverse=((bX K).reverse.map ofL).map PV.str:=by rw [Bi,<-Bs];rfl
 rw [e];refine dg (.inr .list) ?_ ?_
 . rw [Bi,show (λx:Str=>x.length)∘ofL=List.length from funext a8,<-List.length_flatten,show (ofL []).length=0 from rfl,AM]
   exact ntr hfl ∅
 rw [sf,tU];refine kQ (d:=d+51) F.R.M (Fs K) (by rw [a8];exact ntr hfl ∅) (zc K (iY K.sl).n_lt) ?_;ext;refine ⟨aD F.R.M.hc,?_⟩;ext;refine ⟨aB,?_⟩;ext;refine gT rfl (ntr h3 ∅) ?_;ext;refine ⟨aK (.lref hm),my (m:=(aE 3 (ay K.sl)).length+1) (.lref hm) h2b (ntr hl ∅) (bZ (congrArg (λr=>PV.str (ofL r)) h2a) ?_)⟩;ext;refine GS (congrArg PV.str Dh) (i8 ∅ ?_);refine kQ (d:=d+51) F.R.M (show Asc (ofL ([45,46]++[34,41])) from λc hc=>(by decide:∀c∈[45,46,34,41],c<128) c hc) ∅ Da ?_;ext;refine bK ?_;ext;refine ⟨aK .list,cM (k:=0) .list ∅ ∅ rfl ?_⟩;ext;refine CK .list ?_;rw [sr];generalize (ig (aE 3 (ay K.sl)++[97])).all (·==1)=g at *;ext;refine' ifn (by rw [show il (.bool g) (.bool g)=(g==g) from rfl,beq_self_eq_true];exact BW) ?_;ext;refine ⟨aK .list,cM (k:=1) .list ∅ ∅ rfl ?_⟩;ext;rw [show il (.bool false) (.bool false)=true from rfl];ext;exact @h _
end
end
set_option maxHeartbeats 2000000
section
theorem EK (sl:List Int)(x:Int):(bz sl*x).natAbs=x.natAbs:=by
 rcases gP sl with h | h <;> rw [h]
 . rw [B4]
 . rw [B5,Int.natAbs_neg]
theorem nP (sl:List Int){x:Int}(hx:Builtin.Int.intBits x<=n):Builtin.Int.intBits (bz sl*x)<=n:=by
 rw [intBits_le_iff] at hx ⊢;rwa [EK]
theorem yg {x:Int}(hx:Builtin.Int.intBits x<=n):Builtin.Int.intBits (-x)<=n:=by
 rw [intBits_le_iff] at hx ⊢;rwa [Int.natAbs_neg]
theorem CC (sl:List Int)(p:Int):(bz sl*p).fdiv (bz sl*1024)=p.fdiv 1024/\(bz sl*p).fmod (bz sl*1024)=bz sl*p.fmod 1024:=by
 rcases gP sl with h | h <;> rw [h]
 . rw [B4,B4,B4];exact ⟨rfl,rfl⟩
 . obtain ⟨e1,e2⟩:=eC (-p) (-1024) ∅
   rw [B5,B5,B5];rw [Int.neg_neg,Int.neg_neg] at e1 e2;refine ⟨e1.symm,?_⟩;exact e2.symm
section
theorem pj (a b:Int):okD (.tup [.int a,.int b])=true:=by rfl
theorem Ft {a b:Int}(q:Q (.bool false) H):V2 H E B d (.tup [.int a,.int b]) (.tup [.int a,.int b]) (compareOp .NotEq) Q:=
 k7 IsD.self IsD.self (pj _ _) (pj _ _) (by rw [SeqAt.eqv_refl _ (SeqAt.canLay_of_shaped (pj a b))];exact q)
noncomputable abbrev g11:Stmt:=((aZ (aJ iP))[11]?).getD (.Pass default)
theorem r0 (F:aR B)(K:Kn)(X:Kx){p:Int}(hp:Builtin.Int.intBits p<=1100001){alone hand kept told:Option PV}
   (q:Qn (stE none none none told none (some (.int p)) hand kept alone F K X) H) :
   Xs NoE B (d+64) (fiL F) H (stE none none none told none (some (.int p)) hand kept alone F K X) (aM g11) Qn Qf:=by
 obtain ⟨e1,e2⟩:=CC K.sl p;have hs64:Builtin.Int.intBits (bz K.sl)<=64:=by rcases gP K.sl with h | h <;> rw [h] <;> decide
 refine' aH ?_;ext;refine ⟨aD F.N.hm,?_⟩;ext;refine fJ (IntMulOk.of_left hs64) ?_;ext;refine fJ (IntMulOk.of_left hs64) ?_;ext;refine vf F.N.toImFns ?_ (ntr (nP K.sl (n:=11) ∅) ∅) (ntr (nP K.sl hp) ∅) ?_
 . rcases gP K.sl with h | h <;> rw [h] <;> decide
 rw [e1,e2];ext;refine d5 ∅ (ik ∅) ?_;ext;refine b7 ∅ ?_;ext;refine fJ (IntMulOk.of_left hs64) ?_;ext;refine Ft ?_;ext;exact q
theorem aCl (F:aR B)(K:Kn)(X:Kx)(hS:Builtin.Int.intBits (bL K.sl)<=1100001){alone hand kept told:Option PV}
   (h:∀part,XsT (K.m+8) B (d+64) (fiL F) H (stE none none none told none part hand kept alone F K X) (aq 12) (λO H'=>Q .none H') (PX Q)) :
   XsT (K.m+8) B (d+64) (fiL F) H (stE none none none told none none hand kept alone F K X) (aq 11) (λO H'=>Q .none H') (PX Q):=by
 refine bK ?_;refine jc (tgt:=a0 g11) (body:=aM g11) ?_ (by lia) (by intro _ _;rfl);refine cJ ?_;ext;refine dO ?_;show Asg B _ (d+64) NoE (a0 g11) (.int (bL K.sl)) _ _ _;refine' fP ?_;ext;refine r0 F K X hS ?_;refine ⟨λO h=>(by cases h),?_⟩;show Asg B _ (d+64) NoE (a0 g11) (.int (-bL K.sl)) _ _ _;refine' fP ?_;ext;refine r0 F K X (yg hS) ?_;refine ⟨λO h=>(by cases h),?_⟩;exact @h _
noncomputable def restOf (sl:List Int):Nat:=((bL sl).fmod 1024).toNat
theorem pA (sl:List Int):(bL sl).fmod 1024=(restOf sl:Nat):=(Int.toNat_of_nonneg (Int.fmod_nonneg_of_pos _ ∅)).symm
theorem p0 (sl:List Int):restOf sl<1024:=by
 have h:=Int.fmod_lt_of_pos (bL sl) (show (0:Int)<1024 by decide);rw [pA] at h;exact Int.ofNat_lt.mp h
theorem wg (sl:List Int):num4 sl<1290:=by
 have:=(pH _ (iY sl).n_lt).1;unfold num4;omega
noncomputable abbrev g12:Stmt:=((aZ (aJ iP))[12]?).getD (.Pass default)
theorem Upd.split {zs:List PV}(ys:List PV)(u:Upd a xs zs H H'):∃H₁,Upd a xs ys H H₁/\Upd a ys zs H₁ H':=by
 induction u with
 | head=>exact ⟨_,.head,.head⟩
 | tail _ ih=>exact ih.elim λO h=>⟨_,.tail h.1,.tail h.2⟩
theorem wd (F:aR B)(K:Kn)(X:Kx){e:Nat}(hd:d=e+6)(hn:n<1290){its:List PV}(hl:its.length<=10)(hu:Upd K.I its (its++[.tup [.str (ofL (aE 4 n)),.int (n:Nat),.int (its.length:Nat)]]) H H'){part alone hand kept told:Option PV}
   (q:Qn (stE none none none told (some (.int (n:Nat))) part hand kept alone F K X) H') :
   Xs NoE B (d+64) (fiL F) H (stE none none none told (some (.int (n:Nat))) part hand kept alone F K X) (aM g12) Qn Qf:=by
 subst hd;have hI:=hu.has;refine' aH ?_;ext;refine ⟨_,bA (.lref hI),?_⟩;ext;refine ⟨aD F.N.h,?_⟩;ext;refine aF.le (Aj _) (jp F.N (b:=4) (bn:=4) (.inr (.inr ⟨rfl,rfl⟩)) 4 e n (bz K.sl) H _ ∅ (.inr (gP K.sl)) (Ag hn ∅) (Ag hn ∅) ?_);ext;refine ⟨aB,?_⟩;ext;refine ac (.lref hI) (by lia) ?_;ext;refine bQ hu (by rw [sizeLine_eq];lia) ?_;ext;exact q
theorem FJ (F:aR B)(K:Kn)(X:Kx){e:Nat}(hd:d=e+6){its its':List PV}{H':AH}(hl:its.length<=8)(hu:Upd K.I its its' H H')
   (hi:its'=its++[.tup [.str (ofL (aE 4 (num4 K.sl))),.int (num4 K.sl:Nat),.int (its.length:Nat)]]++[.tup [.str (ofL (aE 4 (restOf K.sl))),.int (restOf K.sl:Nat),.int (its.length+1:Nat)]]){part alone hand kept told:Option PV}
   (h:XsT (K.m+8) B (d+64) (fiL F) H' (stE none none none told (some (.int (restOf K.sl:Nat))) part hand kept alone F K X) (aq 13) (λO H'=>Q .none H') (PX Q)) :
   XsT (K.m+8) B (d+64) (fiL F) H (stE none none none told none part hand kept alone F K X) (aq 12) (λO H'=>Q .none H') (PX Q):=by
 subst hi;refine bK ?_;refine jc (tgt:=a0 g12) (body:=aM g12) ?_ (by lia) (by intro _ _;rfl);refine cJ ?_;ext;refine b7 ∅ ?_;rw [pA];ext;refine dO ?_;obtain ⟨H₁,u1,u2⟩:=hu.split (its++[.tup [.str (ofL (aE 4 (num4 K.sl))),.int (num4 K.sl:Nat),.int (its.length:Nat)]]);show Asg B _ (d+64) NoE (a0 g12) (.int (num4 K.sl:Nat)) _ _ _;refine' fP ?_;ext;refine wd F K X hd (wg K.sl) (by lia) u1 ?_;refine ⟨λO h=>(by cases h),?_⟩;show Asg B _ (d+64) NoE (a0 g12) (.int (restOf K.sl:Nat)) _ _ _;refine' fP ?_;ext;have hl1:(its++[PV.tup [.str (ofL (aE 4 (num4 K.sl))),.int (num4 K.sl:Nat),.int (its.length:Nat)]]).length=its.length+1:=by rw [Bb];rfl
 refine wd F K X hd (Ag (p0 K.sl) ∅) (by rw [hl1];lia) (by rw [hl1];exact u2) ?_;refine ⟨λO h=>(by cases h),?_⟩;exact @h
end
end
set_option maxHeartbeats 2000000
section
open PySem PyProof.Rows
section
variable (rk:Keyed->Nat)
noncomputable def Rk (xs:Array Keyed)(i:Nat):Int:=match xs[i]? with
 | some p=>(rk p:Int)
 | none=>0
theorem DL {xs ys:Array Keyed}(h:xs[i]?=ys[j]?):Rk rk xs i=Rk rk ys j:=by unfold Rk;rw [h]
theorem FP {xs ys:Array Keyed}(h:xs[i]?=ys[j]?):K xs i=K ys j:=by unfold K;rw [h]
theorem ue (xs:Array Keyed)(i:Nat):0<=Rk rk xs i:=by
 unfold Rk;split
 . exact B2 _
 . exact Int.le_refl _
noncomputable def Dk (xs:Array Keyed)(i:Nat):Int:=64*K xs i+Rk rk xs i
structure kX (ys:Array Keyed)(i:Nat)(xs:Array Keyed)(j:Nat):Prop where
 k:K ys i=K xs j
 r:Rk rk ys i=Rk rk xs j
variable {rk} in
theorem kX.dd {ys xs:Array Keyed}(h:kX rk ys i xs j):Dk rk ys i=Dk rk xs j:=by unfold Dk;rw [h.k,h.r]
theorem kX.of {ys xs:Array Keyed}(h:ys[i]?=xs[j]?):kX rk ys i xs j:=⟨FP h,DL rk h⟩
structure cz (xs ys:Array Keyed)(i j:Nat):Prop where
 inn:∀k,i<=k->k<j->kX rk ys k xs (i+j-1-k)
 out:∀k,¬(i<=k/\k<j)->kX rk ys k xs k
theorem cz.mirror {xs:Array Keyed}(hj:j<=xs.size):cz rk xs (mirror xs i j ((j-i)/2)) i j:=
 ⟨λk h1 h2=>.of rk ((getElem?_mirror_all (i:=i) hj k).trans (if_pos ⟨h1,h2⟩)),λk h=>.of rk ((getElem?_mirror_all (i:=i) hj k).trans (if_neg h))⟩
theorem cz.one {xs:Array Keyed}:cz rk xs xs i (i+1):=⟨λk h1 h2=>.of rk (by rw [AF (Ar h2) h1,show i+(i+1)-1=i+i from rfl,A9]),λk O=>⟨rfl,rfl⟩⟩
structure jL (N k:Nat)(xs:Array Keyed):Prop where
 front:∀i,i<k->Rk rk xs i<k
 tail:∀i,k<=i->i<N->Rk rk xs i=i
noncomputable def UpT (xs:Array Keyed)(k:Nat):Prop:=∀i j,i<j->j<k->Dk rk xs i<Dk rk xs j
noncomputable def vy (xs:Array Keyed)(k:Nat):Prop:=∀i j,i<j->j<k->Dk rk xs j<Dk rk xs i
variable {rk}
theorem jL.r64 {N:Nat}{xs:Array Keyed}(h:jL rk N k xs)(hk:k<=64)(hi:i<k):Rk rk xs i<64:=Cb (h.front i hi) (Int.ofNat_le.mpr hk)
theorem jL.succ {N:Nat}{xs:Array Keyed}(h:jL rk N k xs)(hk:k<N):jL rk N (k+1) xs:=by
 refine ⟨λi hi=>?_,λi h1 h2=>h.tail i (Ao h1) h2⟩;rcases A6 (Ar hi) with e | e
 . exact Int.lt_trans (h.front i e) (Int.ofNat_lt.mpr (An k))
 . subst e
   rw [h.tail i (Aa _) hk];exact Int.ofNat_lt.mpr (An i)
theorem jL.turned {N:Nat}{xs ys:Array Keyed}(h:jL rk N k xs)(t:cz rk xs ys i j)(hj:j<=k):jL rk N k ys:=by
 refine ⟨λx hx=>?_,λx h1 h2=>?_⟩
 . by_cases e:i<=x/\x<j
   . rw [(t.inn x e.1 e.2).r];exact h.front _ (nlt (em e.1 e.2) hj)
   . rw [(t.out x e).r];exact h.front _ hx
 . rw [(t.out x λe=>absurd (nlt e.2 hj) (nlr h1)).r]
   exact h.tail x h1 h2
theorem UpT.le {N:Nat}{xs:Array Keyed}(h:UpT rk xs k)(p:jL rk N k xs)(hk:k<=64)(hij:i<=j)(hj:j<k):K xs i<=K xs j:=by
 rcases A6 hij with e | e
 . exact Int.not_lt.mp λq=>absurd (dlt q (p.r64 hk hj) (ue rk xs i)) (Int.not_lt.mpr (Int.le_of_lt (h i j e hj)))
 . rw [e];exact Int.le_refl _
theorem UpT.turn {xs ys:Array Keyed}(h:vy rk xs k)(t:cz rk xs ys 0 k):UpT rk ys k:=λi j hij hj=>by
 rw [(t.inn i (Ab _) (Ag hij hj)).dd,(t.inn j (Ab _) hj).dd];exact h _ _ (pS hij hj) (em (Ab _) (Ag hij hj))
structure j2 (rk:Keyed->Nat)(N:Nat)(xs:Array Keyed)(x s:Nat):Prop where
 kept:jL rk N x xs
 lt:s<x
 down:vy rk xs s
 same:∀i,s<=i->i<x->K xs i=K xs (x-1)
 rise:∀i j,s<=i->i<j->j<x->Rk rk xs i<Rk rk xs j
 less:∀i,i<s->K xs (x-1)<K xs i
structure aHj (rk:Keyed->Nat)(N:Nat)(xs ys:Array Keyed)(x:Nat):Prop where
 kept:jL rk N x ys
 down:vy rk ys x
 le:∀i,i<x->K xs (x-1)<=K ys i
theorem j2.shut {N x s:Nat}{xs ys:Array Keyed}(f:j2 rk N xs x s)(hx:x<=64)(t:cz rk xs ys s x):aHj rk N xs ys x:=by
 have inn:∀{i},s<=i->i<x->kX rk ys i xs (s+x-1-i)/\K xs (s+x-1-i)=K xs (x-1):=λ{i} h1 h2=>⟨t.inn i h1 h2,f.same _ (vm h2) (em h1 h2)⟩;have out:∀{i},¬s<=i->kX rk ys i xs i:=λ{i} h=>t.out i λe=>h e.1;refine ⟨f.kept.turned t (Aa _),λi j hij hj=>?_,λi hi=>?_⟩
 . by_cases h1:s<=i
   . obtain ⟨a,a'⟩:=inn h1 (Ag hij hj)
     obtain ⟨b,b'⟩:=inn (ntr h1 (Ac hij)) hj;unfold Dk;rw [a.k,a.r,b.k,b.r,a',b'];exact Int.add_lt_add_left (f.rise _ _ (vm hj) (pS hij hj) (em h1 (Ag hij hj))) _
   . by_cases h2:s<=j
     . obtain ⟨b,b'⟩:=inn h2 hj
       rw [b.dd,(out h1).dd];exact dlt (b'▸f.less i (A7 h1)) (f.kept.r64 hx (em h2 hj)) (ue rk xs i)
     . rw [(out h1).dd,(out h2).dd]
       exact f.down i j hij (A7 h2)
 . by_cases h1:s<=i
   . obtain ⟨a,a'⟩:=inn h1 hi
     rw [a.k,a'];exact Int.le_refl _
   . rw [(out h1).k];exact Int.le_of_lt (f.less i (A7 h1))
theorem j2.next {N x s:Nat}{xs ys:Array Keyed}(f:j2 rk N xs x s)(hx:x<64)(hN:x<N)(t:cz rk xs ys s x)(hl:K xs x<K xs (x-1)):j2 rk N ys (x+1) x:=by
 have q:=f.shut (Ac hx) t;refine ⟨q.kept.succ hN,An _,q.down,λi h1 h2=>?_,λi j h1 h2 h3=>absurd (Ae h1 h2) (nlr (Ar h3)),λi hi=>?_⟩
 . rw [AF (Ar h2) h1];rfl
 . show K ys x<K ys i
   rw [(t.out x λe=>absurd e.2 (Al _)).k];exact Cb hl (q.le i hi)
theorem j2.like {N x s:Nat}{xs:Array Keyed}(f:j2 rk N xs x s)(hN:x<N)(hl:K xs x=K xs (x-1)):j2 rk N xs (x+1) s:=by
 refine ⟨f.kept.succ hN,AZ f.lt,f.down,λi h1 h2=>?_,λi j h1 h2 h3=>?_,λi hi=>?_⟩
 . show K xs i=K xs x
   rcases A6 (Ar h2) with e | e
   . rw [hl];exact f.same i h1 e
   . rw [e]
 . rcases A6 (Ar h3) with e | e
   . exact f.rise i j h1 h2 e
   . subst e
     rw [f.kept.tail j (Aa _) hN];exact f.kept.front i h2
 . show K xs x<K xs i
   rw [hl];exact f.less i hi
end
end
set_option maxHeartbeats 2000000
section
open PySem PyProof.Rows
section
variable {prog:Program}{w:World}{E:Value->Shared->Prop}{a₀:Array Keyed}{rk:Keyed->Nat}
structure az (rk:Keyed->Nat)(a₀:Array Keyed)(st:SortSt)(k:Nat):Prop where
 base:SBase a₀ st
 kept:jL rk a₀.size k (arrOf st)
 up:UpT rk (arrOf st) k
theorem az.less {st:SortSt}{Q:Option Bool->SortSt->Prop}(h:SBase a₀ st)(h0:IntKeys a₀)(hi:i<a₀.size)(hj:j<a₀.size)
   (q1:K (arrOf st) i<K (arrOf st) j->Q (some true) st)(q2:K (arrOf st) j<=K (arrOf st) i->Q (some false) st):wpS (model prog w) A E s (ltAt' i j) Q st:=by
 refine wpS_ltK h h0 hi hj ?_;by_cases e:K (arrOf st) i<K (arrOf st) j
 . rw [decide_eq_true e];exact q1 e
 . rw [decide_eq_false e];exact q2 (Int.not_lt.mp e)
theorem pG {β:Type}{a:Nat}{f:Nat->β->StateT SortSt Sem (ForInStep β)}(hab:a<=b)(I:Nat->β->SortSt->Prop){Q:β->SortSt->Prop}
   (hs:∀i c st,a<=i->i<b->I i c st->wpS (model prog w) A E s (f i c) (λr st'=>match r with | .done c'=>Q c' st' | .yield c'=>I (i+1) c' st') st)
   (he:∀c st,I b c st->Q c st){c:β}{st:SortSt}(h:I a c st):wpS (model prog w) A E s (forIn [a:b] c f) Q st:=
 wpS_forRange I hs (λc st hI=>he c st (by rwa [AP hab] at hI)) h
theorem jT {st:SortSt}(h:SBase a₀ st)(hj:j<=a₀.size):cz rk (arrOf st) (mirror (arrOf st) i j ((j-i)/2)) i j/\SBase a₀ (setArr st (mirror (arrOf st) i j ((j-i)/2))):=
 ⟨.mirror rk (h.size▸hj),h.setArr (mirror_perm _ _ _ _)⟩
theorem v8 {α:Type}{x y:StateT SortSt Sem α}{Q:α->SortSt->Prop}{st:SortSt}(h1:0<n->wpS (model prog w) A E s x Q st)(h2:n=0->wpS (model prog w) A E s y Q st):wpS (model prog w) A E s (if n > 0 then x else y) Q st:=by
 by_cases h:n > 0
 . rw [if_pos h];exact h1 h
 . rw [if_neg h];exact h2 (Nat.eq_zero_of_not_pos h)
inductive aEh (rk:Keyed->Nat)(a₀:Array Keyed):Nat->AscSt->SortSt->Prop
 | mk {x:Nat} {st:SortSt} (q:az rk a₀ st x):aEh rk a₀ x (none,x) st
theorem Dx {st:SortSt}{a nrem:Nat}{Q:AscSt->SortSt->Prop}(h0:IntKeys a₀)(h64:a₀.size<64)(hn:nrem<=a₀.size)(ha:1<=a)(han:a<=nrem)(hs:az rk a₀ st a)
   (h:∀n st',a<=n->n<=nrem->az rk a₀ st' n->(n=nrem\/K (arrOf st') n<K (arrOf st') (n-1))->Q (none,n) st'):wpS (model prog w) A E s (ascLoop a nrem) Q st:=by
 unfold ascLoop;refine pG han (aEh rk a₀) (λx c st' hax hxn hI=>?_) (λc st' hI=>?_) ⟨hs⟩
 . obtain ⟨q⟩:=hI
   have hx:=nlt hxn hn;refine wpS_bind (az.less q.base h0 hx (Ae (Aq x 1) hx) (λe=>?_) λe=>?_)
   . exact wpS_pure (h x _ hax (Ac hxn) q (.inr e))
   . refine wpS_pure ⟨q.base,q.kept.succ hx,λi j hij hj=>?_⟩
     rcases A6 (Ar hj) with ej | ej
     . exact q.up i j hij ej
     . subst ej
       have e2:=q.up.le q.kept (Ac (Ag hx h64)) (AT hij) (Nat.sub_lt (nlt ha hax) Nat.one_pos);unfold Dk;rw [q.kept.tail j (Aa _) hx];exact Int.add_lt_add_of_le_of_lt (Int.mul_le_mul_of_nonneg_left (B6 e2 e) ∅) (q.kept.front i hij)
 . obtain ⟨q⟩:=hI
   exact h nrem _ han (Aa _) q (.inl rfl)
theorem v7 {st:SortSt}{nrem:Nat}{Q:Option Nat->SortSt->Prop}(h0:IntKeys a₀)(h64:a₀.size<64)(hn:nrem<=a₀.size)(h1:1<=n)(hnn:n<=nrem)(hB:SBase a₀ st)(hk:jL rk a₀.size n (arrOf st))(hd:vy rk (arrOf st) n)
   (h:∀m st',1<=m->m<=nrem->az rk a₀ st' m->Q (some m) st'):wpS (model prog w) A E s (tail3 n nrem) Q st:=by
 unfold tail3;obtain ⟨t,b⟩:=jT (rk:=rk) (i:=0) hB (ntr hnn hn);exact wpS_bind (wpS_reverse (wpS_bind (Dx h0 h64 hn h1 hnn ⟨b,hk.turned t (Aa _),UpT.turn hd t⟩ λm O m1 m2 q O=>wpS_pure (h m _ (ntr h1 m1) m2 q))))
inductive Gn (rk:Keyed->Nat)(a₀:Array Keyed):Nat->DescSt->SortSt->Prop
 | mk {x neq:Nat} {st:SortSt} (hq:neq+1<=x) (b:SBase a₀ st) (g:j2 rk a₀.size (arrOf st) x (x-(neq+1))):Gn rk a₀ x (none,x,neq) st
theorem nG {st:SortSt}{y:Nat}(h:1<=y):cz rk (arrOf st) (arrOf st) (y-(0+1)) y:=by
 have t:=cz.one rk (xs:=arrOf st) (i:=y-(0+1));rwa [Ak,Nat.sub_add_cancel h] at t
theorem Eh {st:SortSt}{x nrem:Nat}{Q:DescSt->SortSt->Prop}(h0:IntKeys a₀)(h64:a₀.size<64)(hn:nrem<=a₀.size)(hnn:x<=nrem)(hx:1<=x)(hB:SBase a₀ st)(f:j2 rk a₀.size (arrOf st) x (x-1))
   (h:∀m neq st',m<=nrem->neq+1<=m->SBase a₀ st'->j2 rk a₀.size (arrOf st') m (m-(neq+1))->Q (none,m,neq) st'):wpS (model prog w) A E s (descLoop x nrem) Q st:=by
 unfold descLoop;refine pG hnn (Gn rk a₀) (λy c st' hay hyn hI=>?_) (λc st' hI=>?_) ⟨hx,hB,f⟩
 . obtain ⟨hq,b,g⟩:=hI
   have hy:=nlt hyn hn;have hy1:=Ae (Aq y 1) hy;have nx:∀{ys:Array Keyed},cz rk (arrOf st') ys _ y->_->j2 rk a₀.size ys (y+1) (y+1-(0+1)):=λt e=>g.next (Ag hy h64) hy t e;refine wpS_bind (az.less b h0 hy hy1 (λe=>?_) λe=>?_)
   . refine v8 (λhz=>?_) λhz=>?_
     . obtain ⟨t,b'⟩:=jT (rk:=rk) b (Ac hy)
       exact wpS_bind (wpS_reverse (wpS_pure ⟨Ai (Ab _),b',nx t e⟩))
     . subst hz
       exact wpS_pure ⟨Ai (Ab _),b,nx (nG (ntr hx hay)) e⟩
   . refine wpS_bind (az.less b h0 hy1 hy (λe'=>?_) λe'=>?_)
     . exact wpS_pure (h y _ st' (Ac hyn) hq b g)
     . refine wpS_pure ⟨Ai hq,b,?_⟩
       rw [Nat.add_sub_add_right];exact g.like hy (Int.le_antisymm e' e)
 . obtain ⟨hq,b,g⟩:=hI
   exact h nrem _ _ (Aa _) hq b g
theorem Fx {st:SortSt}{nrem:Nat}{Q:Option Nat->SortSt->Prop}(h0:IntKeys a₀)(h64:a₀.size<64)(hn:nrem<=a₀.size)(hnn:n+1<=nrem)(hB:SBase a₀ st)(f:j2 rk a₀.size (arrOf st) (n+1) n)
   (h:∀m st',1<=m->m<=nrem->az rk a₀ st' m->Q (some m) st'):wpS (model prog w) A E s (descPart n nrem) Q st:=by
 unfold descPart;refine wpS_bind (wpS_lift (wpAny_rule ⟨rfl,?_⟩));refine wpS_bind (Eh h0 h64 hn hnn (As _) hB f λm neq st' hm hq b g=>?_);have hm':=ntr hm hn;have m1:1<=m:=ntr (Ai (Ab _)) hq;have h6:m<=64:=Ac (Ae hm' h64);refine v8 (λhz=>?_) λhz=>?_
 . obtain ⟨t,b'⟩:=jT (rk:=rk) b hm'
   have q:=g.shut h6 t;exact wpS_bind (wpS_reverse (v7 h0 h64 hn m1 hm b' q.kept q.down h))
 . subst hz
   have q:=g.shut h6 (nG m1);exact v7 h0 h64 hn m1 hm b q.kept q.down h
theorem yy {st:SortSt}{nrem:Nat}{Q:Option Nat->SortSt->Prop}(h0:IntKeys a₀)(h64:a₀.size<64)(hn:nrem<=a₀.size)(h1:1<=nrem)(hB:SBase a₀ st)(hr:∀i,i<a₀.size->Rk rk (arrOf st) i=i)
   (h:∀m st',1<=m->m<=nrem->az rk a₀ st' m->Q (some m) st'):wpS (model prog w) A E s (countRun' 0 nrem) Q st:=by
 rw [countRun0_eq];have k1:jL rk a₀.size 1 (arrOf st):=⟨λi hi=>by rw [Nat.lt_one_iff.mp hi,hr 0 (nlt h1 hn)];decide,λi O h2=>hr i h2⟩;refine wpS_bind (Dx h0 h64 hn (Aa 1) h1 ⟨hB,k1,λi j hij hj=>absurd (Nat.lt_one_iff.mp hj▸hij) (AW i)⟩ λn st n1 n2 q hor=>?_);show wpS _ _ _ _ (if (n==nrem)=true then _ else _) _ _;by_cases e:n=nrem
 . rw [if_pos (beq_iff_eq.mpr e)]
   exact wpS_pure (h n st n1 n2 q)
 . rw [if_neg (λe'=>e (beq_iff_eq.mp e'))]
   have hlt:=hor.resolve_left e;have hN:=Nat.lt_of_le_of_ne n2 e;have hn':=nlt hN hn;have h6:n<=64:=Ac (Ag hn' h64)
   have part:∀{ys:Array Keyed},SBase a₀ (setArr st ys)->cz rk (arrOf st) ys 0 n->(∀i,i<n->K (arrOf st) i=K (arrOf st) (n-1))->wpS (model prog w) A E s (descPart n nrem) Q (setArr st ys):=λ{ys} b t all=>by
     refine Fx h0 h64 hn hN b ⟨(q.kept.turned t (Aa _)).succ hn',An _,λi j hij hj=>?_,λi i1 i2=>?_,λi j i1 i2 i3=>absurd (Ae i1 i2) (nlr (Ar i3)),λi hi=>?_⟩ h
     . have hi:=Ag hij hj
       have d:=q.up _ _ (pS hij hj) (em (Ab i) hi);rw [<-(t.inn j (Ab _) hj).dd,<-(t.inn i (Ab _) hi).dd] at d;exact d
     . rw [AF (Ar i2) i1];rfl
     . show K ys n<K ys i
       rw [(t.out n λe=>absurd e.2 (Al _)).k,(t.inn i (Ab _) hi).k,all _ (em (Ab i) hi)];exact hlt
   by_cases hgt:n > 1
   . rw [if_pos hgt]
     refine wpS_bind (az.less q.base h0 (Ae (Ab n) hn') (Ae (Aq n 1) hn') (λe1=>?_) λe1=>?_)
     . exact wpS_pure (h n st n1 n2 q)
     . have hn1:n-1<n:=Nat.sub_lt n1 Nat.one_pos
       obtain ⟨t,b⟩:=jT (rk:=rk) (i:=0) q.base (Ac hn');exact wpS_bind (wpS_reverse (part b t λi hi=>Int.le_antisymm (q.up.le q.kept h6 (AT hi) hn1) (B6 e1 (q.up.le q.kept h6 (Ab i) hi))))
   . rw [if_neg hgt]
     have hn1:n=1:=AF (Az hgt) n1;subst hn1;exact part (ys:=arrOf st) q.base (cz.one rk) λi hi=>by rw [Nat.lt_one_iff.mp hi]
theorem az.laid {st:SortSt}{l:Nat}(h64:a₀.size<64)(q:az rk a₀ st k)(hk:k<a₀.size)(hl:l<=k)(lo:∀i,i<l->K (arrOf st) i<=K (arrOf st) k)(hi:∀i,l<=i->i<k->K (arrOf st) k<K (arrOf st) i) :
   az rk a₀ (setArr st (bubble (arrOf st) k (k-l))) (k+1):=by
 have hs:k<(arrOf st).size:=by rw [q.base.size];exact hk
 have at_:∀j,(bubble (arrOf st) k (k-l))[j]?=if j=l then (arrOf st)[k]? else if l<j/\j<=k then (arrOf st)[j-1]? else (arrOf st)[j]?:=λj=>by
   rw [getElem?_bubble hs _ (Aq k l),Nat.sub_sub_self hl]
 have d1:kX rk (bubble (arrOf st) k (k-l)) l (arrOf st) k:=.of rk ((at_ l).trans (if_pos rfl));have d2:∀{j},l<j->j<=k->kX rk (bubble (arrOf st) k (k-l)) j (arrOf st) (j-1):=λ{j} h1 h2=>.of rk ((at_ j).trans ((if_neg (Ax h1)).trans (if_pos ⟨h1,h2⟩)));have d3:∀{j},j<l->kX rk (bubble (arrOf st) k (k-l)) j (arrOf st) j:=λ{j} h1=>.of rk ((at_ j).trans ((if_neg (AD h1)).trans (if_neg λe=>absurd e.1 (nlr (Ac h1)))));have d4:∀{j},k<j->kX rk (bubble (arrOf st) k (k-l)) j (arrOf st) j:=λ{j} h1=>.of rk ((at_ j).trans ((if_neg (Ax (Ae hl h1))).trans (if_neg λe=>absurd e.2 (Nat.not_le.mpr h1))));have rtk:=q.kept.tail k (Aa _) hk;have hk64:(k:Int)<64:=Int.ofNat_lt.mpr (Ag hk h64);have pr:∀{j},l<j->j<k+1->j-1<k:=λh1 h2=>nlt (Nat.sub_lt (Ae (Ab l) h1) Nat.one_pos) (Ar h2);refine ⟨q.base.setArr (bubble_perm _ _ _),⟨λj hj=>?_,λj h1 h2=>?_⟩,λi j hij hj=>?_⟩
 . show Rk rk (bubble (arrOf st) k (k-l)) j<_
   have up:∀{x:Int},x<k->x<((k+1:Nat):Int):=λh=>Int.lt_trans h (Int.ofNat_lt.mpr (An k));rcases A5 j l with h | h | h
   . rw [(d3 h).r];exact up (q.kept.front j (nlt h hl))
   . rw [h,d1.r,rtk];exact Int.ofNat_lt.mpr (An k)
   . rw [(d2 h (Ar hj)).r];exact up (q.kept.front _ (pr h hj))
 . show Rk rk (bubble (arrOf st) k (k-l)) j=_
   rw [(d4 h1).r];exact q.kept.tail j (Ao h1) h2
 . show Dk rk (bubble (arrOf st) k (k-l)) i<Dk rk (bubble (arrOf st) k (k-l)) j
   rcases A5 j l with h2 | h2 | h2
   . rw [(d3 h2).dd,(d3 (Ag hij h2)).dd]
     exact q.up i j hij (nlt h2 hl)
   . subst h2
     rw [d1.dd,(d3 hij).dd];unfold Dk;rw [rtk];exact Int.add_lt_add_of_le_of_lt (Int.mul_le_mul_of_nonneg_left (lo i hij) ∅) (q.kept.front i (nlt hij hl))
   . have hj1:=pr h2 hj
     rw [(d2 h2 (Ar hj)).dd];rcases A5 i l with h1 | h1 | h1
     . rw [(d3 h1).dd]
       exact q.up i (j-1) (nlt h1 (AT h2)) hj1
     . rw [h1,d1.dd]
       exact dlt (hi _ (AT h2) hj1) (rtk▸hk64) (ue rk _ _)
     . rw [(d2 h1 (ntr (Ac hij) (Ar hj))).dd]
       exact q.up (i-1) (j-1) (Nat.sub_lt_sub_right (Nat.succ_le_of_lt (Ae (Ab l) h1)) hij) hj1
inductive aCa (rk:Keyed->Nat)(a₀:Array Keyed):Nat->Option Bool×Unit->SortSt->Prop
 | mk {k:Nat} {st:SortSt} (q:az rk a₀ st k):aCa rk a₀ k (none,()) st
inductive aD2 (st:SortSt)(k:Nat):Nat->Option Bool×Nat×Nat->SortSt->Prop
 | mk {x l r:Nat} (h1:l<=r) (h2:r<=k) (h3:r-l<=k-x) (lo:∀i,i<l->K (arrOf st) i<=K (arrOf st) k) (hi:∀i,r<=i->i<k->K (arrOf st) k<K (arrOf st) i):aD2 st k x (none,l,r) st
inductive aD9 (st:SortSt)(k:Nat):Option Bool×Nat×Nat->SortSt->Prop
 | mk {l r:Nat} (h:l<=k) (lo:∀i,i<l->K (arrOf st) i<=K (arrOf st) k) (hi:∀i,l<=i->i<k->K (arrOf st) k<K (arrOf st) i):aD9 st k (none,l,r) st
set_option tactic.hygienic true in
theorem xu {st:SortSt}{ok:Nat}{Q:Bool->SortSt->Prop}(h0:IntKeys a₀)(h64:a₀.size<64)(hn:n<=a₀.size)(ok1:1<=ok)(hok:ok<=n)(hs:az rk a₀ st ok)
   (h:∀st',az rk a₀ st' n->Q true st'):wpS (model prog w) A E s (binarySort' 0 n ok) Q st:=by
 rw [binarySort'_eq,A2 ok1];refine wpS_bind (wpS_mono (pG hok (aCa rk a₀) (Q:=aCa rk a₀ n) (λk c st' hak hkn hI=>?_) (λc st' hI=>hI) ⟨hs⟩) λc st' hI=>?_)
 . obtain ⟨q⟩:=hI
   have hk:=nlt hkn hn;have h6:k<=64:=Ac (Ag hk h64);refine wpS_bind (wpS_mono (pG (Ab k) (aD2 st' k) (Q:=aD9 st' k) (λx c st2 _ hxk hI=>?_) (λc st2 hI=>?_) ⟨Ab _,Aa _,Aa _,λi hi=>absurd hi (AW i),λi h1 h2=>absurd h2 (nlr h1)⟩) λc st2 hI=>?_)
   . obtain ⟨h1,h2,h3,lo,hi⟩:=hI
     rename_i l r;show wpS _ _ _ _ (if l ≥ r then _ else _) _ _;by_cases hge:l ≥ r
     . rw [if_pos hge]
       exact wpS_pure ⟨ntr h1 h2,lo,λi i1=>hi i (ntr hge i1)⟩
     . rw [if_neg hge]
       have hlr:=A7 hge;have hm:=nlt (fD hlr) h2;rw [Ak];show wpS _ _ _ _ (ltAt' k (0+(l+r)/2) >>= _) _ _;rw [Ak];refine wpS_bind (az.less q.base h0 hk (Ag hm hk) (λe=>?_) λe=>?_)
       . exact wpS_pure ⟨qr hlr,Ac hm,Nat.le_pred_of_lt (nlt (lO hlr) h3),lo,λi i1 i2=>Cb e (q.up.le q.kept h6 i1 i2)⟩
       . exact wpS_pure ⟨fD hlr,h2,Nat.le_pred_of_lt (nlt (lf hlr) h3),λi i1=>B6 (q.up.le q.kept h6 (Ar i1) hm) e,hi⟩
   . obtain ⟨h1,h2,h3,lo,hi⟩:=hI
     rw [AX] at h3;exact ⟨ntr h1 h2,lo,λi i1=>hi i (ntr (Nat.le_of_sub_eq_zero (Nat.le_zero.mp h3)) i1)⟩
   . obtain ⟨hlk,lo,hi⟩:=hI
     rename_i l r;show wpS _ _ _ _ (do moveDown' (0+k) (0+l);pure (ForInStep.yield (none,()))) _ _;rw [Ak,Ak,moveDown'_eq];exact wpS_bind (wpS_modify (wpS_pure ⟨q.laid h64 hk hlk lo hi⟩))
 . obtain ⟨q⟩:=hI
   exact wpS_pure (h st' q)
end
end
set_option maxHeartbeats 2000000
section
open PySem PyProof.Rows
section
variable {prog:Program}{w:World}{E:Value->Shared->Prop}{a₀:Array Keyed}{rk:Keyed->Nat}
structure mO (rk:Keyed->Nat)(a₀:Array Keyed)(st:SortSt):Prop where
 perm:(arrOf st).Perm a₀
 ok:failedOf st=none
 pend:(pendingOf st).size<=1
 up:UpT rk (arrOf st) a₀.size
theorem az.done {st:SortSt}(q:az rk a₀ st a₀.size)(x:Nat×Nat×Nat):mO rk a₀ (setPending st ((pendingOf st).push x)):=
 ⟨q.base.perm,q.base.failed,(q.base.pend.symm▸Aa 1:((pendingOf st).push x).size<=1),q.up⟩
inductive aBi (rk:Keyed->Nat)(a₀:Array Keyed)(st:SortSt):Nat->Option Unit×Nat->SortSt->Prop
 | go:aBi rk a₀ st 0 (none,0) st
 | off {x lo:Nat} {st':SortSt} (h:a₀.size<=lo) (D:mO rk a₀ st'):aBi rk a₀ st (x+1) (none,lo) st'
inductive aEx (rk:Keyed->Nat)(a₀:Array Keyed):Option Unit×Nat->SortSt->Prop
 | mk {st':SortSt} {lo:Nat} (D:mO rk a₀ st'):aEx rk a₀ (none,lo) st'
inductive At {β:Type}(c:β)(st:SortSt):β->SortSt->Prop
 | mk:At c st c st
theorem pg {α:Type}{c:Prop}[Decidable c]{x y:StateT SortSt Sem α}{Q:α->SortSt->Prop}{st:SortSt}(h:c)(hx:wpS (model prog w) A E s x Q st):wpS (model prog w) A E s (if c then x else y) Q st:=by rw [if_pos h];exact hx
theorem uZ {α:Type}{c:Prop}[Decidable c]{x y:StateT SortSt Sem α}{Q:α->SortSt->Prop}{st:SortSt}(h:¬c)(hx:wpS (model prog w) A E s y Q st):wpS (model prog w) A E s (if c then x else y) Q st:=by rw [if_neg h];exact hx
theorem vD {n:Nat}(h:n<64):minRun' n n 0=n:=by
 cases n with
 | zero=>rfl
 | succ f=>exact (minRun'_succ f _ 0).trans (if_pos h)
theorem G0 {st:SortSt}{Q:Unit->SortSt->Prop}(h0:IntKeys a₀)(hB:SBase a₀ st)(h1:1<=a₀.size)(h64:a₀.size<64)(hr:∀i,i<a₀.size->Rk rk (arrOf st) i=i)
   (h:∀st',mO rk a₀ st'->Q () st'):wpS (model prog w) A E s sortRuns' Q st:=by
 have hz:=hB.size;have hmr:=vD (hz▸h64);have hn:=Ad hz;have hf:min ((arrOf st).size-0) (minRun' (arrOf st).size (arrOf st).size 0)=a₀.size:=by rw [hmr];exact (Nat.min_self _).trans hz
 rw [sortRuns'_eq];refine wpS_bind (wpS_get ?_);refine wpS_bind (wpS_mono (wpS_forRange (aBi rk a₀ st) (Q:=aEx rk a₀) (λx c st' O hx hI=>?_) (λc st' hI=>?_) .go) λc st' hI=>?_)
 . cases hI with
   | go=>
     refine uZ (Nat.not_le.mpr (hz▸h1)) ?_;refine wpS_bind (yy (nrem:=(arrOf st).size) h0 h64 hn (hz▸h1) hB hr λm st2 hm1 hm2 q2=>?_);have back:∀{st3:SortSt},az rk a₀ st3 a₀.size->(pendingOf st3).back?=none:=λq=>q.base.pend▸rfl;by_cases hlt:m<minRun' (arrOf st).size (arrOf st).size 0
     . refine pg hlt ?_
       refine wpS_bind (wpS_lift (wpAny_rule ⟨rfl,?_⟩));refine wpS_bind (xu h0 h64 (Ad hf) hm1 (hf▸hz▸hm2) q2 λst3 q3=>?_);rw [hf] at q3;refine uZ BW ?_;refine wpS_bind (wpS_get ?_);rw [back q3];exact wpS_bind (wpS_modify (wpS_pure (.off (hf▸Am _ _) (q3.done _))))
     . refine uZ hlt ?_
       have hm:m=a₀.size:=(AF hm2 (hmr▸Az hlt)).trans hz;subst hm;refine wpS_bind (wpS_get ?_);rw [back q2];exact wpS_bind (wpS_modify (wpS_pure (.off (Am _ _) (q2.done _))))
   | off hl D=>exact pg (hz▸hl) (wpS_pure ⟨D⟩)
 . generalize hx:max 0 (arrOf st).size=x at hI
   cases hI with
   | go=>exact absurd hx (by rw [AP (Ab _),hz];exact Ax h1)
   | off hl D=>exact ⟨D⟩
 . obtain ⟨D⟩:=hI
   refine wpS_bind (wpS_mono (wpS_forRange (λO=>At (none,()) st') (Q:=At (none,()) st') (λx c st'' O O hI=>?_) (λO O hh=>hh) .mk) λc st'' hI=>?_)
   . cases hI
     exact wpS_bind (wpS_get (pg D.pend (wpS_pure .mk)))
   . cases hI
     exact wpS_pure (h _ D)
end
end
theorem wx {α β:Type}{f:α->β}{l m:List β}(p:l.Perm m):∀T:List α,T.map f=m->∃T':List α,T'.Perm T/\T'.map f=l:=by
 induction p with
 | nil=>exact λT e=>⟨T,.refl _,e⟩
 | cons x _ ih=>
   intro T e;obtain ⟨t,T₁,rfl,rfl,e2⟩:=List.map_eq_cons_iff.mp e;obtain ⟨T',p',e'⟩:=ih T₁ e2;exact ⟨t::T',p'.cons t,by rw [Bg,e']⟩
 | swap x y l=>
   intro T e;obtain ⟨t,T₁,rfl,rfl,e2⟩:=List.map_eq_cons_iff.mp e;obtain ⟨u,T₂,rfl,rfl,rfl⟩:=List.map_eq_cons_iff.mp e2;exact ⟨u::t::T₂,.swap ..,rfl⟩
 | trans _ _ ih1 ih2=>
   intro T e;obtain ⟨T₁,p1,e1⟩:=ih2 T e;obtain ⟨T₂,p2,e2⟩:=ih1 T₁ e1;exact ⟨T₂,p2.trans p1,e2⟩
section
variable {TO:Addr}
theorem Tr.unhide {H₁:AH}(t₁:Tr noU s₁ H₁ s H B)(t:Tr noU s' H' s₁ H₁ (B.hide TO o))(hT:s.heap.objs.size<=TO):Tr noU s' H' s H B:=
 ⟨t.inv.unhide,⟨λa ob e hn=>by
     have ha:=Heap.lt_size e;refine t.step.heap a ob (t₁.step.heap a ob e hn) λq=>?_;rcases q with q | q
     . rcases Trk.hide.mp q with q | q
       . exact absurd ha (nlr (by rw [q];exact hT))
       . exact hn (.inl (Trk.new t₁.keys ha q))
     . exact q.elim,
   ntr t₁.step.size t.step.size,λi x e=>t.step.gens i x (t₁.step.gens i x e)⟩,λa ha=>by
   rcases t.keys a ha with q | q
   . exact t₁.keys a q
   . exact .inr (ntr t₁.step.size q)⟩
theorem El {ky:PV->Int}{xs:List PV}:∀{ks vs:List Value},IntsAre ks (xs.map ky)->VRs h T vs xs->∃L:List (Keyed×PV),L.map Prod.fst=ks.zip vs/\L.map Prod.snd=xs/\∀t∈L,VR h T t.1.2 t.2/\numOf t.1.1=ky t.2:=by
 induction xs with
 | nil=>
   intro ks vs hk hv;obtain rfl:=hv.isnil;exact ⟨[],List.zip_nil_right.symm,rfl,λO ht=>(Be ht).elim⟩
 | cons x xs ih=>
   intro ks vs hk hv;obtain ⟨v,ws,rfl,a,b⟩:=hv.head
   cases hk with
   | @cons _ _ _ t hk'=>
     obtain ⟨L,e1,e2,e3⟩:=ih hk' b;exact ⟨((.int (ky x) t,v),x)::L,congrArg (_::·) e1,congrArg (_::·) e2,fmc ⟨⟨a,rfl⟩,e3⟩⟩
theorem aE9 {rk:Keyed->Nat}{a:Array Keyed}(h:i<a.size):Rk rk a i=(rk a[i]:Int):=by
 unfold Rk;rw [Array.getElem?_eq_getElem h]
theorem aBp {ky:PV->Int}{rkP:PV->Nat}{rkV:Value->Nat}{keys:Array Value}{ar:Array Keyed}(hk:IntsAre keys.toList (xs.map ky))(hv:VRs h T vs xs)
   (hr:∀u x,x∈xs->VR h T u x->rkV u=rkP x)(hp:ar.Perm (keys.zip vs.toArray))(hu:UpT (λp=>rkV p.2) ar ar.size) :
   ∃ys:List PV,ys.Perm xs/\VRs h T (ar.map (·.2)).toList ys/\ys.Pairwise λp q=>64*ky p+rkP p<64*ky q+rkP q:=by
 obtain ⟨L,e1,e2,e3⟩:=El hk hv;obtain ⟨L',p',e'⟩:=wx (Array.perm_iff_toList_perm.mp hp) L (e1.trans (ksk_zip keys vs).symm);have e3':∀t∈L',(VR h T t.1.2 t.2/\numOf t.1.1=ky t.2)/\t.2∈xs:=λt ht=>⟨e3 t (p'.mem_iff.mp ht),e2▸Bk (p'.mem_iff.mp ht)⟩;refine ⟨L'.map Prod.snd,e2▸p'.map _,?_,?_⟩
 . rw [Array.toList_map,<-e',Bi]
   clear hu e' p'
   induction L' with
   | nil=>exact .nil
   | cons t r ih=>exact .cons (e3' t (.head _)).1.1 (ih λu hu=>e3' u (.tail _ hu))
 . rw [List.pairwise_iff_getElem]
   intro i j hi hj hij;rw [Ba] at hi hj;rw [Bu,Bu];have hl:L'.length=ar.size:=by rw [<-Ba (f:=Prod.fst),e',Array.length_toList]
   have at_:∀{i:Nat} (h1:i<L'.length) (h2:i<ar.size),L'[i].1=ar[i]:=λ{i} h1 h2=>by
     have:=Bu (f:=Prod.fst) (l:=L') (i:=i) (h:=by rw [Ba];exact h1);rw [<-this];simp only [e',Array.getElem_toList]
   have q:=hu i j hij (hl▸hj)
   have one:∀{i:Nat} (h1:i<L'.length),K ar i=ky L'[i].2/\Rk (λp=>rkV p.2) ar i=rkP L'[i].2:=λ{i} h1=>by
     have m:=e3' _ (BF h1);have a:=at_ h1 (hl▸h1);refine ⟨by rw [K_eq (hl▸h1),<-a];exact m.1.2,?_⟩;unfold Rk;rw [Array.getElem?_eq_getElem (hl▸h1),<-a];exact congrArg Int.ofNat (hr _ _ m.2 m.1.1)
   unfold Dk at q;rw [(one hi).1,(one hi).2,(one hj).1,(one hj).2] at q;exact q
theorem jD (h:n<64)(e:m<=n):m<=sizeLine:=ntr (ntr e (Ac h)) (by rw [sizeLine_eq];decide)
noncomputable abbrev kyl (ky:PV->Int)(xs:List PV):List PV:=xs.map λp=>.int (ky p)
noncomputable def cp1 (h:Heap)(a:Array Value):Heap:=((h.push (seqObj "list" #[] 0)).update h.objs.size (Obj.mapSeq (·++a))).push (seqObj "list" a 0)
noncomputable def cp2 (h:Heap)(a:Array Value):Heap:=((cp1 h a).update (h.objs.size+1) (Obj.mapSeq λO=>#[])).push (seqObj "tuple" a 0)
section
variable {a:Array Value}
theorem kg:((h.push (seqObj "list" #[] 0)).update h.objs.size (Obj.mapSeq (·++a))).objs.size=h.objs.size+1:=(Heap.size_update ..).trans (size_push' ..)
theorem zm:(cp1 h a).objs.size=h.objs.size+2:=(size_push' ..).trans (congrArg Nat.succ kg)
theorem ia:(cp1 h a).get? (h.objs.size+1)=some (seqObj "list" a 0):=Eq.subst (motive:=λn=>(cp1 h a).get? n=_) kg (Heap.get?_push_size _ rfl)
theorem z5 {b:Addr}(q:h.get? b=some o):(cp1 h a).get? b=some o:=
 Heap.get?_push_of_some _ ((Heap.get?_update_ne _ _ _ _ (AD (Heap.lt_size q))).trans (Heap.get?_push_of_some _ q))
theorem zM:(cp2 h a).objs.size=h.objs.size+3:=(size_push' ..).trans (congrArg Nat.succ ((Heap.size_update ..).trans zm))
theorem Ey:(cp2 h a).get? (h.objs.size+1)=some (seqObj "list" #[] (if (#[]:Array Value).size==a.size then 0 else 0+1)):=Heap.get?_push_of_some _ (get?_update_seq ia λO=>#[])
theorem lC {b:Addr}(q:h.get? b=some o):(cp2 h a).get? b=some o:=
 Heap.get?_push_of_some _ (((Heap.SameBut.update (cp1 h a) (h.objs.size+1) (Obj.mapSeq λO=>(#[]:Array Value))).2 b (AD (AZ (Heap.lt_size q)))).trans (z5 q))
end
variable {Bh:aI}{K:Addr}{e1:Nat}{f:Value}{ws:List Value}{ky:PV->Int}{rkP:PV->Nat}{s1:Shared}{P:PySem.Fin->Shared->Prop}
inductive aFd (Bh:aI)(H:AH)(K:Addr)(ky:PV->Int)(s:Shared)(xs:List PV)(n:Int):Value->Shared->Prop
 | mk {s':Shared} (tk:Tok) (t:Tr noU s' ((K,kyl ky xs)::H) s H Bh):aFd Bh H K ky s xs n (.int n tk) s'
theorem CO {x:PV}(t:Tr noU s' ((K,kyl ky xs)::H) s H Bh){kA:Array Value}(ho:s'.heap.get? K=some (aO kA n))(hv:VRs s'.heap (Trk ((K,kyl ky xs)::H) Bh) kA.toList (kyl ky xs))(tk:Tok) :
   Tr noU { s' with heap:=s'.heap.update K (Obj.mapSeq (·.push (.int (ky x) tk))) } ((K,kyl ky (xs++[x]))::H) s H Bh:=
 t.trans (Tr.upd (t:=s'.toks) .head t.inv (Heap.SameBut.update ..) (get?_update_seq ho _) (by rw [Array.toList_push,show kyl ky (xs++[x])=kyl ky xs++[.int (ky x)] from Bj];exact hv.append (.cons (.int _ _) .nil)))
theorem GX {g:Addr}{x:PV}{u:Value}(hk:∀H',d9 Bh H' d g xs λp=>.int (ky p))(R:ai A d)(hx:x∈xs)(t:Tr noU s' ((K,kyl ky ys)::H) s H Bh)(ru:VR s'.heap (Trk ((K,kyl ky ys)::H) Bh) u x) :
   wpAny (model Bh.prog Bh.w) A (call (.ref g) [u]) (aFd Bh H K ky s ys (ky x)) NoE s':=
 wpm ((hk _).call x hx (λv H'=>v=.int (ky x)/\H'=(K,kyl ky ys)::H) ⟨rfl,rfl⟩ A s' R t.inv (.ref g) [u] [] (.raw _) (.cons ru .nil) ⟨.nil,rfl⟩) (λw s3 pp=>by
   obtain ⟨O,O,t3,r3,rfl,rfl⟩:=pp;obtain ⟨tk,rfl⟩:=r3.inv
   exact ⟨tk,t.trans t3⟩)
theorem zx {st:SortSt}(I:Inv B H s)(t1:Tr noU s1 H s H B)(hT:s.heap.objs.size<=TO)(hn:∀q∈B.hid,q.1≠TO)(t:Tr noU s' ((K,kyl ky xs)::H) s1 H (B.hide TO (aO #[] e1)))(h64:xs.length<64)
   (hs:(arrOf st).size=xs.length)(hf:failedOf st=none)(hy:VRs s.heap (Trk H B) ((arrOf st).map (·.2)).toList ys)
   (q:∀s'' n,Tr noU s'' H s H B->s''.heap.get? TO=some (aO ((arrOf st).map (·.2)) n)->VRs s''.heap (Trk H B) ((arrOf st).map (·.2)).toList ys->P (.done (.ret .none)) s'') :
   wpAny (model B.prog B.w) A (ksk_tail TO false e1 (.ref K) st) P E s':=by
 obtain ⟨O,kA,n,ho,hv⟩:=t.inv.objs _ (.head _);have hk:kA.size<=xs.length:=Ad (hv.asize.trans (Ba _));have t4:=t.trans (Tr.upd (t:=s'.toks) .head t.inv (Heap.SameBut.update s'.heap K (Obj.mapSeq λO=>#[])) (get?_update_seq ho λO=>#[]) (xs':=[]) .nil);have ha:=(t4.inv.hid _ (.head _)).a;unfold ksk_tail;refine wpAny_bind (listUpdate_at ho rfl ?_ (jD h64 hk) (Ab _));refine wpAny_bind (wpAny_letGo ?_);refine wpAny_bind (seqEpoch_at ha rfl ?_);refine wpAny_bind (listUpdate_at ha rfl ?_ (Ab _) (Aw (jD h64 (Ad ((Array.size_map ..).trans hs)))));rw [hf];have ox:=dF.make (P:=λO=>False) (s':={ s' with heap:=(s'.heap.update K (Obj.mapSeq λO=>#[])).update TO (Obj.mapSeq λO=>(arrOf st).map (·.2)) }) t4.inv (λa ob e O hne=>((Heap.SameBut.update ..).2 a hne).trans e) (Ad (Heap.size_update ..).symm) (λO hh=>hh.elim) (λO hh=>hh.elim) hn rfl rfl;have t6:=(dF.tr (t1.unhide t4 hT) ox (λO hh=>hh.elim) hT).drop_key;exact cy (λhh=>BW ((bne_self_eq_false e1).symm.trans hh)) (wpAny_pure (q _ _ t6 (get?_update_seq ha _) (hy.tr t6)))
theorem EN {kA:Array Value}(hk:IntsAre kA.toList (xs.map ky))(hv:VRs s.heap (Trk H B) ws xs)(h2:2<=xs.length)(h64:xs.length<64)(hrk:∀i x,xs[i]?=some x->rkP x=i){rkV:Value->Nat}(hrv:∀u x,x∈xs->VR s.heap (Trk H B) u x->rkV u=rkP x)
   (q:∀st ys,(arrOf st).size=xs.length->failedOf st=none->ys.Perm xs->VRs s.heap (Trk H B) ((arrOf st).map (·.2)).toList ys->(ys.Pairwise λp q=>64*ky p+rkP p<64*ky q+rkP q)->wpAny (model B.prog B.w) A (ksk_tail TO false e1 (.ref K) st) P E s') :
   wpAny (model B.prog B.w) A (ksk_end TO false ws.toArray e1 (.ref K) kA) P E s':=by
 have hl:ws.toArray.size=xs.length:=(BO ..).trans hv.length;have hkz:kA.size=xs.length:=hk.length.trans (Ba _);have hz:(kA.zip ws.toArray).size=xs.length:=by rw [Array.size_zip,hkz,hl,Nat.min_self]
 have h2':¬ws.toArray.size<2:=nlr (hl▸h2)
 show wpAny _ _ (do
     let kind<-if ws.toArray.size<2 then pure general' else keyKind' kA
     let ((),st)<-(if ws.toArray.size<2 then pure () else sortRuns').run (SortSt.mk' kind (kA.zip ws.toArray) #[] 7 none)
     ksk_tail TO false e1 (.ref K) st) _ _ _
 rw [if_neg h2',if_neg h2',ksk_kind hk (hkz▸h2)];refine wpAny_bind (wpAny_pure ?_)
 refine wps (G0 (a₀:=kA.zip ws.toArray) (rk:=λp=>rkV p.2) (st:=SortSt.mk' oneType' (kA.zip ws.toArray) #[] 7 none) (Q:=λO st'=>mO (λp=>rkV p.2) (kA.zip ws.toArray) st')
   (ksk_intKeys hk) ⟨Array.Perm.refl _,rfl,rfl,rfl⟩ (hz▸Ao h2) (hz▸h64) (λi hi=>?_) λst' h'=>h') (λrr s4 hh1=>?_)
 . have hi':i<xs.length:=hz▸hi
   obtain ⟨u,hu,ru⟩:=hv.get (List.getElem?_eq_getElem hi');refine (aE9 hi).trans (congrArg Int.ofNat ?_);have e:(kA.zip ws.toArray)[i].2=u:=by rw [Array.getElem_zip];exact (List.getElem?_eq_some_iff.mp hu).2
   exact (congrArg rkV e).trans ((hrv _ _ (BF hi') ru).trans (hrk i _ (List.getElem?_eq_getElem hi')))
 . obtain ⟨⟨⟩,st⟩:=rr
   obtain ⟨rfl,D⟩:=hh1;obtain ⟨ys,y1,y2,y3⟩:=aBp (rkP:=rkP) hk hv hrv D.perm (D.perm.size_eq.symm▸D.up);exact q st ys (D.perm.size_eq.trans hz) D.ok y1 y2 y3
theorem Du {g:Addr}{rkV:Value->Nat}(R:ai A d)(I:Inv B H s)(t1:Tr noU s1 H s H B)(I1:Inv (B.hide TO (aO #[] e1)) H s1)(hr1:VRs s1.heap (Trk H (B.hide TO (aO #[] e1))) ws xs)(hT:s.heap.objs.size<=TO)(hn:∀q∈B.hid,q.1≠TO)
   (hv:VRs s.heap (Trk H B) ws xs)(h2:2<=xs.length)(h64:xs.length<64)(hk:∀H',d9 (B.hide TO (aO #[] e1)) H' d g xs λp=>.int (ky p))(hrk:∀i x,xs[i]?=some x->rkP x=i)(hrv:∀u x,x∈xs->VR s.heap (Trk H B) u x->rkV u=rkP x)
   (q:∀ys,ys.Perm xs->(ys.Pairwise λp q=>64*ky p+rkP p<64*ky q+rkP q)->∀r s'' n,Tr noU s'' H s H B->s''.heap.get? TO=some (aO r n)->VRs s''.heap (Trk H B) r.toList ys->P (.done (.ret .none)) s'') :
   wpAny (model B.prog B.w) A (ksk_rest TO (.ref g) false ws.toArray e1 (.ref s1.heap.objs.size)) P E { s1 with heap:=s1.heap.push (seqObj "list" #[] 0) }:=by
 unfold ksk_rest;refine wpAny_bind (wpAny_rule ?_);rw [List.forIn_toArray];refine wpAny_bind (ksk_fold (λi s'=>Tr noU s' ((s1.heap.objs.size,kyl ky (xs.take i))::H) s1 H (B.hide TO (aO #[] e1))) ws 0 _ (Tr.track I1 .nil) ?step ?done)
 case step=>
   intro j u s' hu t;rw [Ak] at t ⊢;have hj:j<xs.length:=hv.length▸(List.getElem?_eq_some_iff.mp hu).1;obtain ⟨u',hu',ru⟩:=(hr1.tr t).get (List.getElem?_eq_getElem hj);obtain rfl:=Option.some.inj (hu.symm.trans hu');refine wpAny_bind (wpAny_attempt (wpAny_mono (GX (Bh:=B.hide TO (aO #[] e1)) hk R (BF hj) t ru) (λw s3 pp=>?_) λO O x=>x.elim));obtain ⟨tk,t3⟩:=pp;obtain ⟨O,kA,n,ho,hv3⟩:=t3.inv.objs _ (.head _);have hz:kA.size<=xs.length:=ntr (Ad (hv3.asize.trans (Ba _))) (List.length_take_le' ..);refine wpAny_bind (listUpdate_at ho rfl ?_ (jD h64 hz) (ntr (Ad (Array.size_push ..)) (Ai (jD h64 hz))));refine wpAny_pure ⟨rfl,?_⟩;rw [List.take_add_one,List.getElem?_eq_getElem hj];exact CO t3 ho hv3 tk
 case done=>
   intro s' t;rw [Ak,hv.length,List.take_length] at t;obtain ⟨O,kA,n,ho,hvK⟩:=t.inv.objs _ (.head _);refine wpAny_bind (listItems_at ho rfl ?_);refine EN (lh (by rw [Bi];exact hvK)) hv h2 h64 hrk hrv λst ys a b y1 y2 y3=>?_;exact zx I t1 hT hn t h64 a b y2 λs'' n=>q ys y1 y3 _ s'' n
theorem pX {k:Addr}{ky:PV->Int}{rkP:PV->Nat}(hv:aT H v xs)(h2:2<=xs.length)(h64:xs.length<64)
   (hk:∀a o H',d9 (B.hide a o) H' d k xs λp=>.int (ky p))(hrk:∀i x,xs[i]?=some x->rkP x=i)
   (hrv:∀s,Inv B H s->∃rkV:Value->Nat,∀u x,x∈xs->VR s.heap (Trk H B) u x->rkV u=rkP x)
   (h:∀ys:List PV,ys.Perm xs->(ys.Pairwise λp q=>64*ky p+rkP p<64*ky q+rkP q)->Q (.list ys) H) :
   aF [(Ω "key",.raw (.ref k))] E H B (d+2) (.raw (.builtin "sorted")) [v] Q:=λA s R I fv vs kvs h1 hh2 hh3=>by
 obtain ⟨x,rfl,r1⟩:=hh2.one;obtain ⟨O,rfl⟩:=h1.inv;obtain ⟨l,ws,m,rfl,ho,hr⟩:=hv.at I r1;obtain ⟨kv,rfl,rk⟩:=hh3.one;obtain rfl:=rk.inv;obtain ⟨ws⟩:=ws;obtain ⟨rkV,hrk'⟩:=hrv s I;have hl:ws.length<=sizeLine:=jD h64 (Ad hr.length);refine call_function_entry_kw kind_sorted plain_sorted entry_sorted (ksk_s1 _ _) ?_;unfold Builtin.«sorted»;refine wpAny_bind (m:=checkCount "sorted" 1 1 _) (wpAny_pure ?_);refine wpAny_bind (collect_list (aQ ho) ?_ hl);refine wpAny_bind (wpAny_newList ?_ hl);show wpAny _ _ _ _ _ { s with heap:=cp1 s.heap ws.toArray };rw [kg];refine wpAny_bind (wpAny_holding (wpAny_call_entry_kw slot_list_sort ⟨_,ia,rfl⟩ entry_list_sort ?_ (ksk_l1 _ _)));show wpAny (model B.prog B.w) A.in1.in1 (ksk_tree (s.heap.objs.size+1) (.ref k) false) _ _ _;unfold ksk_tree;refine wpAny_bind (listItems_at ia rfl ?_);refine wpAny_bind (listUpdate_at ia rfl ?_ hl (Ab _));refine wpAny_bind (seqEpoch_at (get?_update_seq ia λO=>#[]) rfl ?_);refine wpAny_bind (wpAny_newTuple ?_ hl);have t1:Tr noU { s with heap:=cp2 s.heap ws.toArray } H s H B:=Tr.ext I (λO O=>lC) (ntr (Af _ 3) (Ad zM.symm)) rfl rfl;refine wpAny_bind (wpAny_newList ?_ (Ab _));refine wpAny_holding ?_;refine Du (s1:={ s with heap:=cp2 s.heap ws.toArray }) R.in1.in1 I t1 (I.hide t1 (Aj _) Ey ⟨_,_,rfl⟩ λO O=>lC) (hr.hide (Aj _) λO O=>lC) (Aj _) (λq hq=>AD (AZ (Heap.lt_size (I.hid q hq).1)))
   hr h2 h64 (hk _ _) hrk hrk' λys y1 y3 r s'' n t6 a b=>?_
 exact ⟨_,rfl,wpAny_pure ⟨_,rfl,.mk (.list ys) H t6 (.list a (λq=>absurd (dN I q) (nlr (Aj _))) b) (h ys y1 y3)⟩⟩
end
noncomputable def rkI (left t:Nat):Nat:=if left=0 then t else 5-t
noncomputable abbrev jo (left:Nat)(a b:It):Prop:=64*a.1+rkI left a.2<64*b.1+rkI left b.2
theorem qM {left t:Nat}(h:t<=5):rkI left t<=5:=by unfold rkI;split <;> omega
theorem jo.le {left:Nat}{a b:It}(h:jo left a b)(ha:a.2<=5)(hb:b.2<=5):fV a b:=by
 have:=qM (left:=left) ha;have:=qM (left:=left) hb;show a.1<=b.1;unfold jo at h;lia
theorem wF {p:It->Bool}(hp:∀a b:It,fV a b->p b=true->p a=true){xs:List It}(h:xs.Pairwise fV):(∀y∈xs.take (xs.countP p),p y=true)/\∀y∈xs.drop (xs.countP p),p y=false:=by
 refine ⟨λy hy=>?_,λy hy=>?_⟩
 . obtain ⟨m,hm,rfl⟩:=List.mem_iff_getElem.mp hy
   rw [Bt] at hm;rw [List.getElem_take,js hp h m _ (List.getElem?_eq_getElem _)];exact decide_eq_true (nlt hm (Nat.min_le_left _ _))
 . obtain ⟨m,hm,rfl⟩:=List.mem_iff_getElem.mp hy
   rw [List.getElem_drop,js hp h _ _ (List.getElem?_eq_getElem _)];exact decide_eq_false (nlr (Af _ _))
theorem lz {α:Type}(s:List α)(k:Nat)(x:α):(fO s k x).Perm (x::s):=by
 unfold fO;refine List.perm_middle.trans (.cons x ?_);rw [List.take_append_drop]
theorem zO {left:Nat}{s:List It}{x:It}(hs:s.Pairwise (jo left))(ht:∀y∈s,y.2<x.2)(hx:x.2<=5):(fO s (eE left s x) x).Pairwise (jo left):=by
 have hle:s.Pairwise fV:=hs.imp_of_mem λha hb h=>h.le (Ac (nlt (ht _ ha) hx)) (Ac (nlt (ht _ hb) hx))
 have key:(∀y∈s.take (eE left s x),jo left y x)/\∀y∈s.drop (eE left s x),jo left x y:=by
   unfold eE;have b1:=qM (left:=left) hx;by_cases hl:left=0
   . rw [if_pos hl]
     obtain ⟨c1,c2⟩:=wF (p:=λy=>!decide (x.1<y.1)) (λa b h e=>by
       rw [BZ,decide_eq_false_iff_not] at e ⊢
       exact λq=>e (nlt q h)) hle
     refine ⟨λy hy=>?_,λy hy=>?_⟩
     . have h1:=c1 y hy
       rw [BZ,decide_eq_false_iff_not] at h1;have h2:=ht y (Bx hy);unfold jo rkI;rw [if_pos hl,if_pos hl];lia
     . have h1:=c2 y hy
       rw [Bool.not_eq_false',decide_eq_true_iff] at h1;unfold jo
       lia
   . rw [if_neg hl]
     obtain ⟨c1,c2⟩:=wF (p:=λy=>decide (y.1<x.1)) (λa b h e=>decide_eq_true (Ae h (of_decide_eq_true e))) hle;refine ⟨λy hy=>?_,λy hy=>?_⟩
     . have h1:=of_decide_eq_true (c1 y hy)
       have h3:=qM (left:=left) (ntr (Ac (ht y (Bx hy))) hx);unfold jo;lia
     . have h1:=of_decide_eq_false (c2 y hy)
       have h2:=ht y (List.mem_of_mem_drop hy);unfold jo rkI;rw [if_neg hl,if_neg hl];lia
 unfold fO;refine List.pairwise_append.mpr ⟨hs.sublist (List.take_sublist _ _),List.pairwise_cons.mpr ⟨key.2,hs.sublist (List.drop_sublist _ _)⟩,λa ha b hb=>?_⟩;rcases mcp hb with rfl | hb
 . exact key.1 a ha
 . exact Ag (key.1 a ha) (key.2 b hb)
noncomputable def lF (left:Nat)(s:List It):List It->List It
 | []=>s
 | x::r=>lF left (fO s (eE left s x) x) r
structure iD (n:Nat)(l:List It):Prop where
 num:∀c∈l,c.1<=1290
 tag:∀i c,l[i]?=some c->c.2=n+i
 len:n+l.length<=6
theorem iD.tail {x:It}{l:List It}(h:iD n (x::l)):iD (n+1) l:=⟨λc hc=>h.num c (.tail _ hc),λi c hc=>by have:=h.tag (i+1) c hc;lia,by have:=h.len;rw [Bf] at this;lia⟩
structure kZ (left n:Nat)(s:List It):Prop where
 pair:s.Pairwise (jo left)
 tag:∀y∈s,y.2<n
 num:∀y∈s,y.1<=1290
 len:s.length=n
theorem kZ.le {left:Nat}{s:List It}(h:kZ left n s)(hn:n<=6):s.Pairwise fV:=h.pair.imp_of_mem λha hb q=>q.le (by have:=h.tag _ ha;lia) (by have:=h.tag _ hb;lia)
theorem kZ.next {left:Nat}{s l:List It}{x:It}(h:kZ left n s)(t:iD n (x::l)):kZ left (n+1) (fO s (eE left s x) x):=by
 have tx:x.2=n:=t.tag 0 x rfl;have hl:=t.len;rw [Bf] at hl;have p:=lz s (eE left s x) x;refine ⟨zO h.pair (λy hy=>by rw [tx];exact h.tag y hy) (by lia),λy hy=>?_,λy hy=>?_,by rw [p.length_eq,Bf,h.len]⟩
 . rcases mcp (p.mem_iff.mp hy) with rfl | hy
   . lia
   . have:=h.tag y hy;lia
 . rcases mcp (p.mem_iff.mp hy) with rfl | hy
   . exact t.num _ (.head _)
   . exact h.num y hy
theorem vB (left:Nat):∀(l s:List It),(lF left s l).Perm (l++s):=by
 intro l
 induction l with
 | nil=>
   intro s;exact .refl _
 | cons x r ih=>
   intro s;exact ((ih _).trans ((lz s _ x).append_left r)).trans List.perm_middle
theorem ua {left:Nat}:∀{l s:List It} {n:Nat},iD n l->kZ left n s->kZ left (n+l.length) (lF left s l):=by
 intro l
 induction l with
 | nil=>
   intro s n _ h;exact h
 | cons x r ih=>
   intro s n t h;have:=ih t.tail (h.next t);rwa [show n+1+r.length=n+(x::r).length by rw [Bf];lia] at this
theorem kZ.nil {left:Nat}:kZ left 0 []:=⟨.nil,λO h=>(by cases h),λO h=>(by cases h),rfl⟩
noncomputable def rm (p:PV):Int:=match sj p with
 | .int i=>i
 | _=>0
noncomputable def aGu (p:PV):Nat:=match (zS p).getD 2 .none with
 | .int i=>i.toNat
 | _=>0
noncomputable def rkP (left:Nat)(p:PV):Nat:=rkI left (aGu p)
theorem ve (c:It):rm (fR c)=(c.1:Nat):=rfl
theorem uy (left:Nat)(c:It):rkP left (fR c)=rkI left c.2:=rfl
theorem xn {left:Nat}{s l:List It}(h:kZ left n s)(hp:s.Perm l)(hx:xs.Perm (aX l))(hy:ys.Perm xs)(ho:ys.Pairwise λp q=>64*rm p+rkP left p<64*rm q+rkP left q):ys=aX s:=by
 refine List.Perm.eq_of_pairwise (le:=λp q=>64*rm p+rkP left p<64*rm q+rkP left q) (λa b O O h1 h2=>absurd h1 (Int.not_lt.mpr (Int.le_of_lt h2))) ho ?_ ((hy.trans hx).trans (hp.map fR).symm);refine List.pairwise_map.mpr (h.pair.imp λ{a b} h=>?_);rw [ve,ve,uy,uy];unfold jo at h;lia
noncomputable def Fk (h:Heap):Value->Nat
 | .ref a=>match h.get? a with
   | some o=>match o.data with
     | .seq vs _=>match (vs.toList[2]?:Option Value) with
       | some (.int i _)=>i.toNat
       | _=>0
     | _=>0
   | none=>0
 | _=>0
theorem FY {u:Value}{c:It}(r:VR h T u (fR c)):Fk h u=c.2:=by
 obtain ⟨a,vs,n,rfl,ho,O,hv⟩:=r.inv;obtain ⟨w,hw,rw'⟩:=hv.get (i:=2) rfl;obtain ⟨t,rfl⟩:=rw'.inv;unfold Fk;simp only [ho,hw]
 rfl
noncomputable def am (sl:List Int):List It:=[(aW 2 4 (numberOf sl),0),(aW 2 4 (numberOf sl),1),(aW 3 4 (ay sl),2),(aW 3 4 (ay sl),3),(num4 sl,4),(restOf sl,5)]
theorem cL (sl:List Int):iD 0 (am sl):=by
 have h2:=(qe _ (dm sl).2).1;have h3:=(pH _ (iY sl).n_lt).1;have h4:=wg sl;have h5:=p0 sl;refine ⟨λc hc=>?_,λi c hc=>?_,Aa _⟩
 . unfold am at hc
   simp only [List.mem_cons,Be,or_false] at hc;rcases hc with rfl | rfl | rfl | rfl | rfl | rfl <;> lia
 . match i,hc with
   | 0,hc=>cases hc;rfl
   | 1,hc=>cases hc;rfl
   | 2,hc=>cases hc;rfl
   | 3,hc=>cases hc;rfl
   | 4,hc=>cases hc;rfl
   | 5,hc=>cases hc;rfl
   | i+6,hc=>cases hc
theorem wl (sl:List Int):tJ sl++[.tup [.str (ofL (aE 4 (num4 sl))),.int (num4 sl:Nat),.int ((tJ sl).length:Nat)]]++[.tup [.str (ofL (aE 4 (restOf sl))),.int (restOf sl:Nat),.int ((tJ sl).length+1:Nat)]]=aX (am sl):=by
 unfold tJ s5 am;rw [aBh _ (dm sl).2,zN _ (iY sl).n_lt]
 rfl
set_option maxHeartbeats 2000000
section
theorem xv (s:List It)(k:Nat)(x:It):fO (aX s) k (fR x)=aX (fO s k x):=by
 unfold fO;show _=(s.take k++x::s.drop k).map fR;rw [Bj,Bg,BG,List.map_drop]
theorem iZ:Ω "law"++Ω ".<locals>."++Ω "<lambda>" = Ω "law.<locals>.<lambda>":=by decide +kernel
theorem Upd.app {x y:List PV}{r:AH}:∀pre:AH,Upd a x y (pre++(a,x)::r) (pre++(a,y)::r)
 | []=>.head
 | _::p=>.tail (Upd.app p)
section
noncomputable abbrev g13:Stmt:=((aZ (aJ iP))[13]?).getD (.Pass default)
noncomputable abbrev hpS (K:Kn)(pre post:AH)(s:List It):AH:=pre++(K.S,aX s)::(K.I,aX (am K.sl))::post
theorem Fv (F:aR B)(K:Kn)(X:Kx){pre post:AH}{alone hand kept told part figure:Option PV}:∀(l s:List It) (n:Nat) (item:Option PV),iD n l->kZ (leftOf K.sl) n s->
   (∀item,Qn (stE none none item told figure part hand kept alone F K X) (hpS K pre post (lF (leftOf K.sl) s l)))->
   cQ B (fiL F) (d+64) (a0 g13) (aM g13) [(K.I,aX (am K.sl))] (aX l) (stE none none item told figure part hand kept alone F K X) (hpS K pre post s) Qn Qf:=by
 intro l
 induction l with
 | nil=>
   intro s n item t h q;exact b6 (q item)
 | cons x l ih=>
   intro s n item t h q;have hn:=t.len;rw [Bf] at hn;refine bP ?_;show Asg B _ (d+64) NoE (a0 g13) (fR x) _ _ _;refine' fP ?_;ext;refine' aH ?_;ext;refine ⟨aD F.hd,?_⟩;ext;refine yd (d:=d+60) F.Y F.hdn (l:=s) (x:=x) (left:=leftOf K.sl) F.hd (BD _ (.head _)) (h.le (by lia)) (by rw [h.len];lia) (fmc ⟨t.num _ (.head _),h.num⟩) (by rw [xv];exact Upd.app pre) ?_;ext;refine ⟨λp hp=>?_,ih _ (n+1) _ t.tail (h.next t) q⟩;cases msp hp;exact BD _ (.tail _ (.head _))
noncomputable def aj (sl:List Int):List It:=lF (leftOf sl) [] (am sl)
theorem mL (sl:List Int):kZ (leftOf sl) 6 (aj sl):=ua (n:=0) (cL sl) .nil
theorem fy (sl:List Int):(aj sl).Perm (am sl):=by
 have:=vB (leftOf sl) (am sl) [];rwa [Bd] at this
theorem F5 (F:aR B)(K:Kn)(X:Kx){pre post:AH}{alone hand kept told part figure:Option PV}
   (h:∀item,XsT (K.m+8) B (d+64) (fiL F) (hpS K pre post (aj K.sl)) (stE none none item told figure part hand kept alone F K X) (aq 14) (λO H'=>Q .none H') (PX Q)) :
   XsT (K.m+8) B (d+64) (fiL F) (hpS K pre post []) (stE none none none told figure part hand kept alone F K X) (aq 13) (λO H'=>Q .none H') (PX Q):=by
 refine bK ?_;refine jc (tgt:=a0 g13) (body:=aM g13) ?_ (by lia) (by intro _ _;rfl);refine cJ ?_;ext;refine cV (BD _ (.tail _ (.head _))) ?_;exact Fv F K X (am K.sl) [] 0 none (cL K.sl) .nil λitem=>@h item
end
end
set_option maxHeartbeats 2000000
section
theorem nj {M:Nat}{l r:List Nat}(h1:∀c∈l,c<M)(h2:∀c∈r,c<M):∀k,∀c∈bj l k r,c<M
 | 0=>h2
 | k+1=>λc hc=>(mpp hc).elim (h1 c) (nj h1 h2 k c)
theorem zR {M:Nat}{g:Nat->List Nat}(hM:97<M)(hg:∀p,∀c∈g p,c+1<M):∀(fs:List Nat) (p:Nat) (r:List Nat),(∀c∈r,c<M)->∀c∈eR g fs p r,c<M:=by
 intro fs
 induction fs with
 | nil=>
   intro _ _ h;exact h
 | cons f fs ih=>
   intro p r h
   exact ih (p+1) _ (by
   cases f with
   | zero=>exact h
   | succ k=>exact nj (λc hc=>by
     rcases mcp hc with rfl | hc
     . exact hM
     . obtain ⟨a,ha,rfl⟩:=mmp hc
       exact hg p a ha) h _)
theorem tW (b:Nat):∀k n,∀c∈fc b k n,c<97+k
 | 0,_=>λO h=>by cases h
 | k+1,n=>zR (by lia) (λp c hc=>by have:=tW b k p c hc;lia) _ _ _ λO h=>by cases h
theorem aCv {c:It}:(pd (fR c)).canLay0=true:=by
 have:PyData.strOk (ofL (aE 4 c.1))=true:=lV λx hx=>by have:=tW 4 4 c.1 x hx;lia
 exact Bool.and_eq_true_iff.mpr ⟨this,rfl⟩
theorem DV (c:It):(pd (fR c)).depth<=1:=by
 exact Aa 1
theorem g9 (l:List It):okD (.list (aX l))=true:=i9 1 ∅ (λc O=>aCv) λc O=>DV c
section
theorem sw {a b:PV}{l:List It}(ha:aT H a (aX l))(hb:aT H b (aX l))(h:Q (.bool false) H):V2 H E B d b a (compareOp .NotEq) Q:=
 k7 (.items ha) (.items hb) (g9 l) (g9 l) (by rw [SeqAt.eqv_refl _ (SeqAt.canLay_of_shaped (g9 l))];exact h)
theorem yx {a b:PV}{l:List It}(ha:aT H a (aX l))(hb:aT H b (aX l))(h:Q (.bool true) H):V2 H E B d b a (compareOp .Eq) Q:=
 qm (.items ha) (.items hb) (g9 l) (g9 l) (by rw [SeqAt.eqv_refl _ (SeqAt.canLay_of_shaped (g9 l))];exact h)
theorem aFh {xs:List It}{qual:Str}{p p1 p2 p3:Pos}(h:eJ B f qual (iR p) (qK 1 p1 p2 p3) n9):d9 B H (d+1) f (aX xs) λp=>.int (rm p):=⟨ei h,λy hy Q q=>by
 obtain ⟨c,hc,rfl⟩:=mmp hy
 exact (zq (xs:=xs) h).call _ (Bk hc) Q q⟩
theorem hY {sl:List Int}{xs:List It}{qual:Str}{p p1 p2 p3:Pos}(L:eJ B f qual (iR p) (qK 1 p1 p2 p3) n9)(hv:aT H v (aX xs))(hx:xs=if leftOf sl=0 then am sl else (am sl).reverse)(q:Q (.list (aX (aj sl))) H) :
   aF [(Ω "key",.raw (.ref f))] E H B (d+3) (.raw (.builtin "sorted")) [v] Q:=by
 have hp:xs.Perm (am sl):=by
   subst hx;split
   . exact .refl _
   . exact List.reverse_perm _
 have hl:(aX xs).length=6:=by rw [Ba,hp.length_eq];rfl
 refine pX (d:=d+1) (ky:=rm) (rkP:=rkP (leftOf sl)) hv (by lia) (by lia) (λa o H'=>aFh ⟨L.at_⟩) (λi x hx'=>?_) (λs I=>⟨λu=>rkI (leftOf sl) (Fk s.heap u),λu x hx r=>?_⟩) λys y1 y2=>?_
 . obtain ⟨c,rfl,hc⟩:=iw hx'
   rw [uy];unfold rkI;by_cases h0:leftOf sl=0
   . rw [if_pos h0] at hx ⊢
     subst hx;have:=(cL sl).tag i c hc
     lia
   . rw [if_neg h0] at hx ⊢
     subst hx;have hi:=(List.getElem?_eq_some_iff.mp hc).1;rw [List.getElem?_reverse (by rwa [Br] at hi)] at hc;have:=(cL sl).tag _ c hc;rw [show (am sl).length=6 from rfl] at this;rw [Br,show (am sl).length=6 from rfl] at hi
     lia
 . obtain ⟨c,O,rfl⟩:=mmp hx
   show rkI _ (Fk s.heap u)=_;rw [FY r];rfl
 . rw [xn (mL sl) ((fy sl).trans hp.symm) (.refl _) y1 y2]
   exact q
theorem Ea (F:aR B)(K:Kn)(X:Kx)(hS:(K.S,aX (aj K.sl))∈H)(hI:(K.I,aX (am K.sl))∈H){alone hand kept told part figure item:Option PV}
   (h:XsT (K.m+8) B (d+64) (fiL F) H (stE none none item told figure part hand kept alone F K X) (aq 15) (λO H'=>Q .none H') (PX Q)) :
   XsT (K.m+8) B (d+64) (fiL F) H (stE none none item told figure part hand kept alone F K X) (aq 14) (λO H'=>Q .none H') (PX Q):=by
 refine bK ?_;ext;have hl6:(aX (am K.sl)).length=6:=rfl;refine dK F.n1 rfl iZ (λO=>rfl) ∅ ?_ (by rfl) ⟨_,_,rfl,λO=>rfl⟩ (λO=>rfl);ext;refine ⟨aB,?_⟩;ext;refine bh ?_;ext;by_cases h0:leftOf K.sl=0
 . refine' ifn (λe=>bne_iff_ne.mp e (congrArg Nat.cast h0:((leftOf K.sl:Nat):Int)=0)) ?_
   ext;intro g hk ht fl L;refine hY (d:=d+61) L (.lref hI) (by rw [if_pos h0]) ?_;ext;refine sw (.lref hS) .list ?_;ext;exact @h
 . refine' ifp (bne_iff_ne.mpr λe=>h0 (Int.ofNat.inj e)) ?_
   ext;refine ⟨aK (.lref hI),?_⟩;ext;refine k3 (.lref hI) ∅ (by rw [hl6];decide) (.inl ?_);rw [sJ _ (by rw [hl6];decide),<-Bs];ext;intro g hk ht fl L;refine hY (d:=d+61) L .list (by rw [if_neg h0]) ?_;ext;refine sw (.lref hS) .list ?_;ext;exact @h
end
end
section
theorem XsT.wk {b:List Stmt}(h:XsT n B d fi H σ' b Qn Qf)(w:Wk σ σ'):XsT n B d fi H σ b Qn Qf:=λA s env e R I F hfr hf hn=>h A s env e R I (F.wk w) hfr hf hn
end
set_option maxHeartbeats 2000000
section
noncomputable abbrev ga (l:List It):List PV:=l.map λc=>PV.str (ofL (aE 4 c.1))
section
noncomputable abbrev stV (found:Option PV)(less:Option PV)(upto:Option PV)(sought:Option PV)(low:Option PV)(high:Option PV)(due:Option PV)(name:Option PV)(figure:Option PV)(tag:Option PV)(F:aR B)(K:Kn):St:=stL (F:=F) (cells_:=some (.lref K.C)) (items_:=some (.lref K.I)) (shelf_:=some (.lref K.S)) (words_:=some (.lref K.W)) (total_:=some (.int (bL K.sl))) (left_:=some (.int (leftOf K.sl:Nat)))
 (before_:=some (.list (aX (aj K.sl)))) (names_:=some (.list (ga (aj K.sl)))) (name_:=name) (figure_:=figure) (tag_:=tag) (due_:=due) (sought_:=sought) (low_:=low) (high_:=high) (less_:=less) (upto_:=upto) (found_:=found)
noncomputable abbrev Gy:Option PV->St:=λo=>[(Ω ".0",.local,none),(Ω "one",.local,o)]
theorem Eu (F:aR B)(K:Kn)(X:Kx)(hS:(K.S,aX (aj K.sl))∈H){alone hand kept told part figure item:Option PV}
   (h:XsT (K.m+8) B (d+64) (fiL F) H (stV none none none none none none none none none none F K) (aq 16) (λO H'=>Q .none H') (PX Q)) :
   XsT (K.m+8) B (d+64) (fiL F) H (stE none none item told figure part hand kept alone F K X) (aq 15) (λO H'=>Q .none H') (PX Q):=by
 have hl6:(aX (aj K.sl)).length=6:=by rw [Ba,(fy K.sl).length_eq];rfl
 refine bK ?_;refine qA (Ω "before") (Ω "names") (by kernel_rfl) ?_;ext;refine ⟨bR,?_⟩;ext;refine xd (.inr (.lref hS)) (by rw [hl6];decide) (.inl ?_);ext;refine cF (Gy none) (.loc (.loc .nil)) ?_ (by decide +kernel) (by rfl) (by rfl) (by intro _ _;rfl) (by omega);refine cJ ?_;ext;refine cV hS λD=>?_;refine j9 (σt:=Gy) (f:=kx) ?_ _ _ none ?_ ?_ ?_ ?_
 . intro p hp;cases msp hp;exact hS
 . intro x hx o H K k
   ext;exact k
 . intro x hx acc K k
   obtain ⟨c,O,rfl⟩:=mmp hx;ext;exact ⟨bH dh,gS (j:=0) ∅ ∅ (by rfl) rfl k⟩
 . rw [hl6];exact (by decide:0+6<=sizeLine)
 rw [Bp,Bi,show (aj K.sl).map (kx∘fR)=ga (aj K.sl) from rfl];ext
 with_reducible refine' XsT.wk ?zh ?zw
 case zh=>exact @h
 case zw=>walk_at "k"
end
end
section
theorem f7 (n:Nat)(cl:List (Str×Addr)):∀names:List (Str×NameKind),(∀x∈names,x.2≠NameKind.cell)->cellsFrom n names cl=cl
 | [],_=>rfl
 | (x,k)::r,h=>by
   have h:=List.forall_mem_cons.mp h;unfold cellsFrom;rw [if_neg λe=>h.1 (eq_of_beq e)];exact f7 n cl r h.2
theorem fw (hp:Heap):∀names:List (Str×NameKind),(∀x∈names,x.2≠NameKind.cell)->pushCells hp names=hp
 | [],_=>rfl
 | (x,k)::r,h=>by
   have h:=List.forall_mem_cons.mp h;unfold pushCells;rw [if_neg λe=>h.1 (eq_of_beq e)];exact fw hp r h.2
theorem xc {cl:List (Str×Addr)}{P:Value->Env->Shared->Prop}{n0:Str×NameKind}{x0:Str}{rest:List (Str×NameKind)}(hs:scope.names=n0::(x0,.cell)::rest)(hc:∀x∈n0::rest,x.2≠NameKind.cell)
   (k:∀s₄:Shared,(∀b o,(s₂.heap.push (aO #[] 0)).get? b=some o->s₄.heap.get? b=some o)->s₄.heap.Ns (s₂.heap.push (aO #[] 0)).objs.size (λx=>([]:List (Str×Value)).reverse.lookup x)->s₄.heap.IsCell ((s₂.heap.push (aO #[] 0)).objs.size+1) none->s₄.gens=s₂.gens->s₄.os=s₂.os->
     P (.ref s₂.heap.objs.size) (newEnv scope (s₂.heap.push (aO #[] 0)).objs.size env.globals ((x0,(s₂.heap.push (aO #[] 0)).objs.size+1)::cl) env.qual none .none (some env) builtinsNs) s₄) :
   wpAny (model B.prog B.w) A (newList []) (λacc s₃=>wpAny (model B.prog B.w) A (newFunctionEnv scope env.globals cl [] env.qual none .none (some env)) (λcenv s₄=>P acc cenv s₄) E s₃) E s₂:=by
 refine wpAny_newList ?_ (by rw [sizeLine_eq];exact Ab _);have hc:=List.forall_mem_cons.mp hc;simp only [newFunctionEnv,Option.isSome_some,if_true];refine wpAny_bind (wpAny_alloc ?_);refine wpAny_bind (wpAny_layCells _ (λname kind cells=>by cases hkc:kind==NameKind.cell <;> simp [hkc]) _ _ _ _ ?_);refine wpAny_bind ?_;rw [List.forIn_nil];refine wpAny_pure (wpAny_pure ?_)
 have e1:∀n,cellsFrom n scope.names cl=(x0,n)::cl:=λn=>by
   rw [hs];unfold cellsFrom;rw [if_neg λe=>hc.1 (eq_of_beq e)];unfold cellsFrom;exact (if_pos ∅).trans (f7 _ _ rest hc.2)
 have e2:∀h,pushCells h scope.names=h.push { cls:=.type "cell",data:=.cell none }:=λh=>by
   rw [hs];unfold pushCells;rw [if_neg λe=>hc.1 (eq_of_beq e)];unfold pushCells;exact (if_pos ∅).trans (fw _ rest hc.2)
 have hz:((s₂.heap.push (aO #[] 0)).push { cls:=.type "dict",data:=.dict #[] }).objs.size=(s₂.heap.push (aO #[] 0)).objs.size+1:=Heap.size_push ..;have:=k ⟨((s₂.heap.push (aO #[] 0)).push { cls:=.type "dict",data:=.dict #[] }).push { cls:=.type "cell",data:=.cell none },s₂.gens,s₂.drawn,s₂.toks,s₂.os⟩
   (λb o e=>Heap.get?_push_of_some _ (Heap.get?_push_of_some _ e)) ((Heap.Ns.new (s₂.heap.push (aO #[] 0)) (.type "dict")).keeps λb o e=>Heap.get?_push_of_some _ e) (by rw [<-hz];exact ⟨_,Heap.get?_push_size _ rfl,rfl⟩) rfl rfl
 rw [<-hz] at this;simp only [e1,e2];exact this
noncomputable abbrev aCc (fi:aN)(scope:Scope)(σ':St)(x0:Str):aN:=⟨{ scope with names:=σ'.map λe=>(e.1,e.2.1) },none,fi.qual,λy=>y != x0⟩
theorem k8 {α:Type}{a b:α}{l m:List α}(h:a=b)(k:l=m):a::l=b::m:=h▸k▸rfl
theorem kG {s₄:Shared}{e0:Str×NameKind×Option PV}{σr:St}{cl:List (Str×Addr)}{n0:Str×NameKind}{x0:Str}{rest:List (Str×NameKind)}(I:Inv B H s)(F:aA s H σ env B)(hk:env.scope.kind=.function)(hnm:scope.names=n0::(x0,.cell)::rest)(hc:CSt B σ (n0::rest) (e0::σr))(hn:(scope.names.map λe=>e.1).Nodup)
   (K:iN env scope s cl)(T:Tr noU s₄ H' s H B)(hC:s.heap.objs.size<=C)(hns:s₄.heap.Ns C (λx=>([]:List (Str×Value)).reverse.lookup x))(hcell:s₄.heap.IsCell (C+1) none):aA s₄ H' (e0::(x0,.cell,none)::σr) (compEnvC scope ((x0,C+1)::cl) C env) B:=by
 have kept:∀b o,s.heap.get? b=some o->¬Trk H B b->s₄.heap.get? b=some o:=λb o eb hnt=>T.step.heap b o eb λq=>q.elim hnt False.elim;have q:=List.cons.inj (hc.keys F hk)
 have keys:(relabel scope env).names=(e0::(x0,NameKind.cell,(none:Option PV))::σr).map λe=>(e.1,e.2.1):=by
   show scope.names.map _=_;rw [hnm];exact k8 q.1.symm (k8 rfl q.2.symm)
 have p:=List.cons.inj hc.fst
 have fst:((e0::(x0,NameKind.cell,(none:Option PV))::σr).map λe=>e.1)=scope.names.map λe=>e.1:=by
   rw [hnm];exact k8 p.1 (k8 rfl p.2)
 have hn':=fst▸hn;have n1:=ncp hn';have ne:∀e∈e0::σr,e.1≠x0:=fmc ⟨λeq=>n1.1 (eq▸.head _),λe he eq=>(ncp n1.2).1 (mmr ⟨e,he,eq⟩)⟩;have look:∀{x:Str},x≠x0->((x0,C+1)::cl).lookup x=cl.lookup x:=λh=>by rw [BH,beq_eq_false_iff_ne.mpr h]
 have big:∀{x:Str} {c:Addr},cl.lookup x=some c->c≠C+1:=λh e=>absurd (K.lt _ _ h) (nlr (by rw [e];exact Aw hC));have old:∀{e:Str×NameKind×Option PV},e∈e0::(x0,NameKind.cell,(none:Option PV))::σr->e=(x0,.cell,none)\/e∈e0::σr:=λh=>(mcp h).elim (λh=>.inr (h▸.head _)) λh=>(mcp h).imp id (.tail _);refine ⟨Heap.get?_none_of_le (ntr I.size hC),λx y c hx hy=>?_,keys.symm,?_,⟨_,hns,λx p hm=>?_⟩,λx ov hm=>?_,λx p hm=>?_⟩
 . by_cases h1:x=x0
   . by_cases h2:y=x0
     . rw [h1,h2]
     . subst h1
       have q:((x,C+1)::cl).lookup x=some c:=hx;rw [BN] at q;exact absurd (Option.some.inj q).symm (big ((look h2).symm.trans hy))
   . by_cases h2:y=x0
     . subst h2
       have q:((y,C+1)::cl).lookup y=some c:=hy;rw [BN] at q;exact absurd (Option.some.inj q).symm (big ((look h1).symm.trans hx))
     . exact F.apart x y c (K.sub x c ((look h1).symm.trans hx)) (K.sub y c ((look h2).symm.trans hy))
 . show ((relabel scope env).names.map _).Nodup
   rw [keys,Bi];exact hn'
 . rcases old hm with e | hm
   . cases e
   . cases ((hc.mem F _ hm:some p=none))
 . have go:∀{k:NameKind},(x,k,ov)∈e0::σr->(xN B (Trk H B) env s.heap (n0::rest) (x,k,ov)->fL ov x env (Trk H B) s.heap/\(x,NameKind.free)∈n0::rest)->fL ov x (compEnvC scope ((x0,C+1)::cl) C env) (Trk H' B) s₄.heap:=λhm hq=>by
     obtain ⟨⟨c,w,hc',⟨oc,hoc,hdc⟩,hw⟩,hf⟩:=hq (hc.mem F _ hm);exact ⟨c,w,(look (ne _ hm)).trans ((K.get x (by rw [hnm];exact (mcp hf).elim (λe=>e▸.head _) λe=>.tail _ (.tail _ e))).trans hc'),⟨oc,kept _ _ hoc (b9 I hoc (by rw [hdc];(intros;first | contradiction | (intro q;cases q))) (by rw [hdc];(intros;first | contradiction | (intro q;cases q)))),hdc⟩,hw.mono (λa o ea O hna=>kept a o ea hna) λa ha t=>Trk.new T.keys ha t⟩
   rcases hm with hm | hm
   . rcases old hm with e | hm
     . cases e
       exact ⟨C+1,none,BN,hcell,trivial⟩
     . exact go hm id
   . rcases old hm with e | hm
     . cases e
     . exact go hm id
 . rcases old hm with e | hm
   . cases e
   . exact hc.mem F _ hm p rfl
inductive WJO (B:aI)(J:(Addr->Prop)->List PV->AH->Shared->Prop)(cenv:Env)(zz:Nat)(s₀:Shared)(items:List PV)(H:AH)(s':Shared):Prop
 | mk (W:Addr->Prop) (j:J W items H s') (p:∀p,W p->s₀.heap.objs.size<=p/\p<s'.heap.objs.size/\¬Trk H B p/\p≠cenv.locals/\∀y c,cenv.cells.lookup y=some c->p≠c) (hz:zz<=s'.heap.objs.size)
theorem yO {deps:AH}{itv:Value}{cenv:Env}{s₀:Shared}{G:Nat->Prop}{J:(Addr->Prop)->List PV->AH->Shared->Prop}{zz:Nat}(Rm:ai A 3)(I₀:Inv B H s₀)(IT:sW B A deps tgt itv G J)(hG:∀i,G i->s₀.gens.size<=i)
   (hCl:∀y c,cenv.cells.lookup y=some c->c<zz)(hU:∀a,bT cenv a->s₀.heap.objs.size<=a):r9 B (λ_:Unit=>B.hid) A deps tgt itv cenv H s₀ (λitems O H' s'=>WJO B J cenv zz s₀ items H' s') where
 self:=λitems O H s E Q j q=>by
   obtain ⟨W,j,O⟩:=j;exact IT.self W items H s E Q j q
 next:=λitems O σ H₂ s₂ j T₂ F₂=>by
   obtain ⟨W,j,hP,hz⟩:=j;have hPa:∀p,W p->s₀.heap.objs.size<=p:=λp hp=>(hP p hp).1;have fr:∀{s₃},bt s₃ G s₂ H₂ B W->aA s₃ H₂ σ cenv B:=λo=>o.frame' F₂ (λhp=>(hP _ hp).2.2.2.1 rfl) (λy c hy hp=>(hP _ hp).2.2.2.2 y c hy rfl) λp hp=>IT.notseq _ _ _ _ j p hp;refine wpm (IT.next W items H₂ s₂ j Rm T₂.inv) (λr s₃ hr=>?_)
   cases items with
   | nil=>exact .done rfl hr.1 (hr.2.tr T₂ hPa hG) (fr hr.2)
   | cons x xs=>
     obtain ⟨v,e,hv⟩:=hr;refine .one v x xs rfl e (wpm hv (λO s₄ hh1=>?_));obtain ⟨o,hvr,W',hW',j₄⟩:=hh1;have T₄:=o.tr T₂ hPa hG;have hlt:cenv.locals<s₂.heap.objs.size:=by obtain ⟨m,hns,O⟩:=F₂.ns;exact hns.lt
     have hP₄:∀p,W' p->s₀.heap.objs.size<=p/\p<s₄.heap.objs.size/\¬Trk H₂ B p/\p≠cenv.locals/\∀y c,cenv.cells.lookup y=some c->p≠c:=λp hp=>by
       rcases hW' p hp with q | q
       . exact ⟨(hP p q).1,nlt (hP p q).2.1 o.size,(hP p q).2.2⟩
       . exact ⟨ntr T₂.step.size q.1,q.2,λt=>absurd (dN T₂.inv t) (nlr q.1),λe=>absurd (e▸q.1) (Nat.not_le.mpr hlt),λy c hy e=>absurd (nlt (e▸hCl y c hy) hz) (nlr q.1)⟩
     exact ⟨(),T₄.inv,fr o,hvr,λH' s' t hd=>⟨Tr.back I₀ T₄ t hU,W',IT.stable _ _ _ _ _ _ j₄ (Evo.of_tr' (fr o) t (λp hp=>⟨lX (P:=W') (λhp=>(hP₄ _ hp).2.2.2.1 rfl) (λy c hy hp=>(hP₄ _ hp).2.2.2.2 y c hy rfl) p hp,(hP₄ p hp).2.2.1⟩) hd),
       λp hp=>⟨(hP₄ p hp).1,nlt (hP₄ p hp).2.1 t.step.size,λq=>(hP₄ p hp).2.2.1 (Trk.new t.keys (hP₄ p hp).2.1 q),(hP₄ p hp).2.2.2⟩,ntr hz (ntr o.size t.step.size)⟩⟩
theorem f0 {x:Str}{pos':Pos}{iter elt:Expr}{ifs:List Expr}{cpos:Pos}{n0:Str×NameKind}{x0:Str}{rest:List (Str×NameKind)}(e0:Str×NameKind×Option PV)(σr:St)(hnm:scope.names=n0::(x0,.cell)::rest)
   (hc:CSt B σ (n0::rest) (e0::σr))
   (hi:EvI B fi d NoE tgt iter σ H λitems deps H₁=>∀D,sm B (aCc fi scope (e0::(x0,.cell,none)::σr) x0) d tgt ifs elt D deps items [] (e0::(x0,.cell,none)::σr) H₁ λacc H'=>∃σ₂,Rep x (.list acc) .local σ σ₂/\Qn σ₂ H')
   (hx:∃ov,(x,NameKind.local,ov)∈σ)(hl:(pos'.line==cpos.line)=true)(hno:(scope.names.any λ(n,k)=>n==x && (k==.local || k==.cell))=false)
   (hn:(scope.names.map λe=>e.1).Nodup)(hk:scope.kind=.function)(hco:scope.isCoroutine=false)(hs:∀env x,foldedSetIterable iter env x=pure x)
   (hd:3<=d)(hifs:ifs.length<=1):X B fi d E (.Assign [.Name x pos'] (.ListComp elt [⟨tgt,iter,ifs,0⟩] scope cpos) pos) σ H Qn Qf:=λA s env e R I F=>by
 obtain ⟨ov,hx⟩:=hx;rw [exec_Assign_Name_used x pos' _ pos (fz e.kindF (F.kindOf hx) hl hno)];refine wpAny_bind (wpAny_standAt (wpAny_bind ?_));show wpAny _ A (do let _<-comprehension (.ListComp elt [⟨tgt,iter,ifs,0⟩] scope cpos) scope env (firstIterPos [⟨tgt,iter,ifs,0⟩] cpos) (newList []) (firstAsync [⟨tgt,iter,ifs,0⟩]) (firstIter [⟨tgt,iter,ifs,0⟩] env) (some (assign (.Name x pos') env))) _ _ s;refine wpAny_bind (wpAny_mono (E:=NoE) (Q:=λO s'=>∃σ₂ H',Tr (bT env) s' H' s H B/\aA s' H' σ₂ env B/\Qn σ₂ H') ?_ (λO s' hh1=>by obtain ⟨σ₂,H',t,F',q⟩:=hh1;exact wpAny_pure (wpAny_pure ⟨σ₂,H',t,F',.inl ⟨rfl,q⟩⟩)) λO O x=>x.elim)
 have hfree:∀e∈scope.names,e.2=.free->∃c,env.cells.lookup e.1=some c/\c<s.heap.objs.size:=λe he hf=>by
   rw [hnm] at he;refine hc.free F e ?_ hf;rcases mcp he with rfl | he
   . exact .head _
   . rcases mcp he with rfl | he
     . cases hf
     . exact .tail _ he
 obtain ⟨cl,L⟩:=iN.of hfree;refine wpAny_comprehension_free (gs:=[]) rfl (hs env) L.e hk (λx hx hl=>aY hn (by rw [<-hl];exact hx)) (wpm (hi A s env e R I F) (λx s₁ h₁=>wpm h₁ (λitv s₂ m=>xc hnm hc.nocell λs₄ keep hns hcell hg ho=>?_)));obtain ⟨items,deps,H₁,W,G,J,t₂,IT,j,p,g,dp,q⟩:=m;have T:=t₂.trans (Tr.fresh t₂.inv keep (Ac hns.lt) hg ho);have hC:s₂.heap.objs.size<=(s₂.heap.push (aO #[] 0)).objs.size:=by rw [Heap.size_push];exact Aj _
 have hCs:=ntr t₂.step.size hC;have hCc:=hcell.lt;have tF:=Tr.fresh t₂.inv keep (Ac hns.lt) hg ho
 have lk:∀{y:Str} {c:Addr},((x0,(s₂.heap.push (aO #[] 0)).objs.size+1)::cl).lookup y=some c->c=(s₂.heap.push (aO #[] 0)).objs.size+1\/c<s.heap.objs.size:=λ{y c} h=>by
   rw [BH] at h
   cases e:y==x0 with
   | true=>rw [e] at h;exact .inl (Option.some.inj h).symm
   | false=>rw [e] at h;exact .inr (L.lt _ _ h)
 have hU:∀a,bT (compEnvC scope ((x0,(s₂.heap.push (aO #[] 0)).objs.size+1)::cl) (s₂.heap.push (aO #[] 0)).objs.size env) a->s.heap.objs.size<=a:=λa u=>by
   rcases u with rfl | ⟨x,_,hx,hlt⟩
   . exact hCs
   . rcases lk hx with e | e
     . exact ntr hCs (by rw [e];exact Aj _)
     . exact absurd (Ag (nlt e hCs) hlt) (Al _)
 have ek:a9 B (aCc fi scope (e0::(x0,.cell,none)::σr) x0) (compEnvC scope ((x0,(s₂.heap.push (aO #[] 0)).objs.size+1)::cl) (s₂.heap.push (aO #[] 0)).objs.size env):=by
   have fr:=kG I F e.kindF hnm hc hn L T hCs hns hcell;refine ⟨congrArg (λn=>({ scope with names:=n }:Scope)) fr.keys.symm,hk,hco,e.globals,e.builtins,e.qual,(λc P h=>(by cases h)),λx h c O hx=>?_,λx h c O hx=>?_⟩
   . have hx0:x=x0:=eq_of_beq (by have h':(!(x==x0))=false:=h;simpa using h')
     subst hx0;have q:((x,(s₂.heap.push (aO #[] 0)).objs.size+1)::cl).lookup x=some c:=hx;rw [BN] at q;rw [<-Option.some.inj q];exact An _
   . have hx0:x=x0:=eq_of_beq (by have h':(!(x==x0))=false:=h;simpa using h')
     subst hx0;have q:((x,(s₂.heap.push (aO #[] 0)).objs.size+1)::cl).lookup x=some c:=hx;rw [BN] at q;rw [<-Option.some.inj q];exact Heap.get?_none_of_le (ntr I.size (Aw hCs))
 refine nN (R.le (Aa _)) hifs ek (yO (zz:=s₄.heap.objs.size) (R.le hd) I IT (λi hi=>(g i hi).1) (λy c hy=>(lk hy).elim (λe=>e▸hCc) λe=>nlt e (ntr t₂.step.size tF.step.size)) hU) T (o:=()) (kG I F e.kindF hnm hc hn L T hCs hns hcell) ⟨W,IT.stable _ _ _ _ _ _ j (Evo.of_tr0 tF (λa ha=>(p a ha).2.2) λx hx=>.tail _ (dp x hx)),λa ha=>?_,Aa _⟩ (q _) λacc σ'' H' s' T' F' hq=>?_
 . refine ⟨(p a ha).1,nlt (p a ha).2.1 tF.step.size,λq=>(p a ha).2.2 (Trk.new tF.keys (p a ha).2.1 q),λe=>absurd (p a ha).2.1 (nlr (e▸hC)),λy c hy e=>?_⟩
   rcases lk hy with h | h
   . exact absurd (p a ha).2.1 (nlr (by rw [e,h];exact Aw hC))
   . exact absurd (p a ha).1 (Nat.not_le.mpr (e▸h))
 . obtain ⟨m,hns',O⟩:=F'.ns
   obtain ⟨σ₂,hr,q⟩:=hq;exact oC e I F T' ⟨m,hns'⟩ hCs hr q
theorem wJ {Q:SQ}(hr:Rep x v .cell σ σ')(q:Q σ' H)(hx:fi.comp x=false):Asg B fi d E (.Name x pos) v σ H Q:=λA s env e R I F va r=>
 wpAny_bind (wpAny_standAt (wpAny_bindName (wpm (tH e I F r hr (.inr ⟨rfl,hx⟩)) (λO s₂ hh1=>by obtain ⟨t₂,F₂⟩:=hh1;exact ⟨σ',H,t₂,F₂,q⟩))))
end
set_option maxHeartbeats 2000000
section
noncomputable def cntZ (l:List It)(m y:Int):Nat:=l.countP λc=>decide ((c.1:Int)+m<=y)
noncomputable def leZ (m y:Int)(p:PV):Bool:=decide (rm p+m<=y)
theorem k4 (l:List It)(m y:Int):(([]:List PV)++((aX l).filter (leZ m y)).map id).length=cntZ l m y:=by
 rw [Bp,List.map_id,aX,List.filter_map,Ba];exact List.countP_eq_length_filter.symm
section
noncomputable abbrev two {α:Type}(b:Bool)(x y:α):List α:=match b with
 | true=>[y,x]
 | false=>[x,y]
noncomputable abbrev aC3 (nm:Str)(b:Bool):Scope:=⟨.function,(Ω ".0",.local)::(Ω "one",.local)::two b (nm,.free) (Ω "more",.free),false,false,[]⟩
noncomputable abbrev Gc (nm:Str)(b:Bool):Scope:=⟨.function,(Ω ".0",.local)::(Ω "more",.cell)::(Ω "len",.globalImplicit)::two b (nm,.free) (Ω "items",.free),false,false,[]⟩
noncomputable abbrev aB8 (nm:Str)(b:Bool)(y:PV)(I:Addr):St:=(Ω "len",.globalImplicit,some (.raw (.builtin "len")))::two b (nm,.cell,some y) (Ω "items",.cell,some (.lref I))
noncomputable abbrev aE3 (nm:Str)(b:Bool)(y:PV)(I:Addr)(more:Option PV):St:=(Ω ".0",.local,none)::(Ω "more",.cell,more)::aB8 nm b y I
noncomputable abbrev Eb (nm:Str)(b:Bool)(y m:PV)(o:Option PV):St:=(Ω ".0",.local,none)::(Ω "one",.local,o)::two b (nm,.cell,some y) (Ω "more",.cell,some m)
section
variable {nm:Str}{b:Bool}{y:Int}{I:Addr}{its:List It}{q1 q2 q3 q4 q5 q6 q7 q8 q9 q10 q11 q12 q13 q14 q15 q16 q17 q18:Pos}
noncomputable abbrev aD7 (nm:Str)(b:Bool)(q1 q2 q3 q4 q5 q6 q7 q8 q9 q10 q11 q12 q13:Pos):Expr:=.Call (.Name "len" q1) [.ListComp (.Name "one" q2) [⟨.Name "one" q3,.Name "items" q4,[.Compare (.BinOp (.Subscript (.Name "one" q5) (.Constant (.int 1) 0 q6) q7) .Add (.Name "more" q8) q9) [.LtE] [.Name nm q10] q11],0⟩] (aC3 nm b) q12] [] q13
theorem pP (hI:(I,aX its)∈H)(hl:its.length<=100)(hn:((aC3 nm b).names.map λe=>e.1).Nodup)(hdb:(nm==("__debug__" : Str))=false){m:Int}{K:PQ}(k:K (.int (cntZ its m y:Nat)) H) :
   Ev NoE B (d+20) (aCc fi (Gc nm b) (aE3 nm b (.int y) I none) (Ω "more")) (aE3 nm b (.int y) I (some (.int m))) H (aD7 nm b q1 q2 q3 q4 q5 q6 q7 q8 q9 q10 q11 q12 q13) K:=by
 cases b with
 | false=>
   ext;refine ⟨aB,?_⟩;ext;refine cF (Eb nm false (.int y) (.int m) none) (.loc (.loc (.capC (.tail _ (.tail _ (.tail _ (.head _)))) (.capC (.tail _ (.head _)) .nil)))) ?_ hn (by rfl) (by rfl) (by intro _ _;rfl) (by lia) (Aa 1);refine cJ ?_;ext;refine cV hI λD=>?_;refine kO (σt:=Eb nm false (.int y) (.int m)) (f:=id) (p:=leZ m y) ?_ ?_ _ _ none ?_ ?_ ?_ ?_
   . intro x o H K k
     ext;exact k
   . intro p hp;cases msp hp;exact hI
   . intro x hx acc K k
     obtain ⟨c,O,rfl⟩:=mmp hx;ext;refine ⟨bH dh,gS (j:=1) ∅ ∅ (by rfl) rfl ?_⟩;ext;refine k5 ?_ hdb;ext;exact k
   . intro x hx acc K k
     ext;exact k
   . rw [Ba];exact ntr (Au hl 0) ∅
   have hle:cntZ its m y<=its.length:=Bz;ext;refine ac .list (by rw [k4];lia) ?_;rw [k4];exact k
 | true=>
   ext;refine ⟨aB,?_⟩;ext;refine cF (Eb nm true (.int y) (.int m) none) (.loc (.loc (.capC (.tail _ (.head _)) (.capC (.tail _ (.tail _ (.tail _ (.tail _ (.head _))))) .nil)))) ?_ hn (by rfl) (by rfl) (by intro _ _;rfl) (by lia) (Aa 1);refine cJ ?_;ext;refine cV hI λD=>?_;refine kO (σt:=Eb nm true (.int y) (.int m)) (f:=id) (p:=leZ m y) ?_ ?_ _ _ none ?_ ?_ ?_ ?_
   . intro x o H K k
     ext;exact k
   . intro p hp;cases msp hp;exact hI
   . intro x hx acc K k
     obtain ⟨c,O,rfl⟩:=mmp hx;ext;refine ⟨bH dh,gS (j:=1) ∅ ∅ (by rfl) rfl ?_⟩;ext;refine k5 ?_ hdb;ext;exact k
   . intro x hx acc K k
     ext;exact k
   . rw [Ba];exact ntr (Au hl 0) ∅
   have hle:cntZ its m y<=its.length:=Bz;ext;refine ac .list (by rw [k4];lia) ?_;rw [k4];exact k
theorem gM {elt:Expr}{D:Addr}{x:PV}{acc:List PV}{Q:LQ}(h:Asg B fi d NoE tgt x σ ((D,acc)::H) λσ₁ H₁=>Ev NoE B d fi σ₁ H₁ elt λv H₃=>acc.length<=sizeLine/\aBx D acc [] H₃ λH₄=>sm B fi d tgt [] elt D [] xs (acc++[v]) σ₁ H₄ Q):sm B fi d tgt [] elt D [] (x::xs) acc σ H Q:=λO=>h
theorem wV {pos':Pos}(hI:(I,aX its)∈H)(hl:its.length<=100)(hn:((aC3 nm b).names.map λe=>e.1).Nodup)(hn':((Gc nm b).names.map λe=>e.1).Nodup)(hdb:(nm==("__debug__" : Str))=false)(h1:(Ω "len",NameKind.globalImplicit,some (PV.raw (.builtin "len")))∈σ)(h2:(nm,NameKind.cell,some (PV.int y))∈σ)(h3:(Ω "items",NameKind.cell,some (PV.lref I))∈σ)
   (hx:∃ov,(x,NameKind.local,ov)∈σ)(hln:(pos'.line==q18.line)=true)(hno:((Gc nm b).names.any λ(n,k)=>n==x && (k==.local || k==.cell))=false)
   {σ₂:St}(hr:Rep x (.list [.int (cntZ its 1 y:Nat),.int (cntZ its 0 y:Nat)]) .local σ σ₂)(q:Qn σ₂ H) :
   X B fi (d+20) NoE (.Assign [.Name x pos'] (.ListComp (aD7 nm b q1 q2 q3 q4 q5 q6 q7 q8 q9 q10 q11 q12 q13) [⟨.Name "more" q14,.Tuple [.Constant (.int 1) 0 q15,.Constant (.int 0) 0 q16] 0 q17,[],0⟩] (Gc nm b) q18) pos) σ H Qn Qf:=by
 cases b with
 | false=>
   refine f0 (n0:=(Ω ".0",.local)) (rest:=[(Ω "len",.globalImplicit),(nm,.free),(Ω "items",.free)]) (x0:=Ω "more") (Ω ".0",.local,none) (aB8 nm false (.int y) I) rfl (.loc (.globS h1 (.capC h2 (.capC h3 .nil)))) ?_ hx hln hno hn' rfl rfl (by intro _ _;rfl) (by lia) (Ab _);refine cJ ?_;refine je ?_ rfl (Ap rfl);ext;refine dO ?_;intro D;refine gM (wJ (by walk_at "m_rep") ?_ rfl);refine pP (.tail _ hI) hl hn hdb ⟨Ab _,⟨_,rfl,λO h=>(by cases h),?_⟩⟩;refine gM (wJ (by walk_at "m_rep") ?_ rfl);exact pP (.tail _ hI) hl hn hdb ⟨(by decide:1<=sizeLine),⟨_,rfl,λO h=>(by cases h),⟨_,hr,q⟩⟩⟩
 | true=>
   refine f0 (n0:=(Ω ".0",.local)) (rest:=[(Ω "len",.globalImplicit),(Ω "items",.free),(nm,.free)]) (x0:=Ω "more") (Ω ".0",.local,none) (aB8 nm true (.int y) I) rfl (.loc (.globS h1 (.capC h3 (.capC h2 .nil)))) ?_ hx hln hno hn' rfl rfl (by intro _ _;rfl) (by lia) (Ab _);refine cJ ?_;refine je ?_ rfl (Ap rfl);ext;refine dO ?_;intro D;refine gM (wJ (by walk_at "m_rep") ?_ rfl);refine pP (.tail _ hI) hl hn hdb ⟨Ab _,⟨_,rfl,λO h=>(by cases h),?_⟩⟩;refine gM (wJ (by walk_at "m_rep") ?_ rfl);exact pP (.tail _ hI) hl hn hdb ⟨(by decide:1<=sizeLine),⟨_,rfl,λO h=>(by cases h),⟨_,hr,q⟩⟩⟩
end
end
end
set_option maxHeartbeats 2000000
section
theorem ym {s l:List It}(p:s.Perm l)(n:Nat):rJ s n=cntZ l 1 (n:Nat):=by
 unfold rJ cntZ;rw [p.countP_eq];exact List.countP_congr λc O=>by simp only [decide_eq_true_eq];omega
theorem CP {s l:List It}(p:s.Perm l)(n:Nat):jz s n=cntZ l 0 (n:Nat):=by
 unfold jz cntZ;rw [p.countP_eq];exact List.countP_congr λc O=>by simp only [decide_eq_true_eq,BZ,decide_eq_false_iff_not];omega
theorem oj {xs:List It}{y:PV}(h:(ga xs)[m]?=some y):∃z,y=.str (ofL (aE 4 z.1))/\xs[m]?=some z:=by
 rw [List.getElem?_map] at h
 cases e:xs[m]? with
 | none=>rw [e] at h;cases h
 | some z=>rw [e] at h;cases h;exact ⟨z,rfl,rfl⟩
section
theorem aDy {l:List It}(hs:l.Pairwise fV)(hn:n<=1290)(hb:∀c∈l,c.1<=1290)(d:Nat)(m:Nat)(y:PV)(hy:(ga l)[m]?=some y):P2 (compareOp .Lt) y (.str (ofL (aE 4 n))) (.bool (decide (m<rJ l n))):=by
 obtain ⟨w,rfl,hw⟩:=oj hy;rw [<-zD hs m w hw,<-gA (hb w (List.mem_of_getElem? hw)) hn];exact sF
theorem aE6 {l:List It}(hs:l.Pairwise fV)(hn:n<=1290)(hb:∀c∈l,c.1<=1290)(d:Nat)(m:Nat)(y:PV)(hy:(ga l)[m]?=some y):P2 (compareOp .Lt) (.str (ofL (aE 4 n))) y (.bool (!decide (m<jz l n))):=by
 obtain ⟨w,rfl,hw⟩:=oj hy;rw [<-vV hs m w hw,<-gA hn (hb w (List.mem_of_getElem? hw))];exact sF
theorem tX {a b:Int}(q:Q (.bool false) H):V2 H E B d (.list [.int a,.int b]) (.list [.int a,.int b]) (compareOp .NotEq) Q:=
 have o:okD (.list [.int a,.int b])=true:=lW [a,b]
 k7 IsD.self IsD.self o o (by rw [SeqAt.eqv_refl _ (SeqAt.canLay_of_shaped o)];exact q)
noncomputable abbrev g16:Stmt:=((aZ (aJ iP))[16]?).getD (.Pass default)
theorem Cc (F:aR B)(K:Kn)(hI:(K.I,aX (am K.sl))∈H){x:It}(hx:x.1<=1290){due:Option PV}
   (q:∀due,Qn (stV none none none none none none due (some (.str (ofL (aE 4 x.1)))) (some (.int (x.1:Nat))) (some (.int (x.2:Nat))) F K) H) :
   Xs NoE B (d+64) (fiL F) H (stV none none none none none none due (some (.str (ofL (aE 4 x.1)))) (some (.int (x.1:Nat))) (some (.int (x.2:Nat))) F K) (aM g16) Qn Qf:=by
 have ok:=mL K.sl;have hs:=ok.le (Aa 6);have hl:(ga (aj K.sl)).length=6:=by rw [Ba,ok.len]
 have e1:=ym (fy K.sl) x.1;have e2:=CP (fy K.sl) x.1;have c1:rJ (aj K.sl) x.1<=6:=ok.len▸Bz;have c2:jz (aj K.sl) x.1<=6:=ok.len▸Bz;refine' aH ?_;refine wV (d:=d+44) (nm:=Ω "figure") (b:=false) (y:=(x.1:Nat)) (its:=am K.sl) hI (Ap rfl) (by decide +kernel) (by decide +kernel) (by decide +kernel) (by walk_at "mm") (by walk_at "mm") (by walk_at "mm") ⟨_,by walk_at "mm"⟩ (by rfl) (by decide +kernel) (by walk_at "m_rep") ?_;ext;refine cn ?_;ext;refine ⟨aD F.Y.hbl,?_⟩;ext;refine uN (d:=d+63) F.Y.hbl F.Y.D3 F.Y.gV F.Y.gln .list (by rw [hl];decide) (aDy hs hx ok.num) ?_;rw [hl,i0 c1,e1];ext;refine ⟨aD F.Y.hbr,?_⟩;ext;refine tv (d:=d+63) F.Y.hbr F.Y.D4 F.Y.gV F.Y.gln .list (by rw [hl];decide) (aE6 hs hx ok.num) ?_;rw [hl,i0 c2,e2];ext;refine tX ?_;ext;exact q _
theorem CQ (F:aR B)(K:Kn)(hI:(K.I,aX (am K.sl))∈H):∀(l:List It) (name figure tag due:Option PV),(∀c∈l,c.1<=1290)->(∀name figure tag due,Qn (stV none none none none none none due name figure tag F K) H)->
   cQ B (fiL F) (d+64) (a0 g16) (aM g16) [(K.I,aX (am K.sl))] (aX l) (stV none none none none none none due name figure tag F K) H Qn Qf:=by
 intro l
 induction l with
 | nil=>
   intro _ _ _ _ _ q;exact b6 (q _ _ _ _)
 | cons x l ih=>
   intro _ _ _ _ hl q;have hl:=List.forall_mem_cons.mp hl;refine bP ?_;show Asg B _ (d+64) NoE (a0 g16) (fR x) _ _ _;refine jU rfl rfl ?_;ext;refine Cc F K hI hl.1 λdue=>⟨λp hp=>?_,ih _ _ _ _ hl.2 q⟩;cases msp hp;exact hI
theorem EX (F:aR B)(K:Kn)(hI:(K.I,aX (am K.sl))∈H)
   (h:∀name figure tag due,XsT (K.m+8) B (d+64) (fiL F) H (stV none none none none none none due name figure tag F K) (aq 17) (λO H'=>Q .none H') (PX Q)) :
   XsT (K.m+8) B (d+64) (fiL F) H (stV none none none none none none none none none none F K) (aq 16) (λO H'=>Q .none H') (PX Q):=by
 refine bK ?_;refine jc (tgt:=a0 g16) (body:=aM g16) ?_ (by lia) (by intro _ _;rfl);refine cJ ?_;ext;refine cV hI ?_;exact CQ F K hI (am K.sl) none none none none (cL K.sl).num λname figure tag due=>@h name figure tag due
end
end
set_option maxHeartbeats 2000000
section
theorem G6 (a b:Nat):max (a:Int) (b:Int)=(max a b:Nat):=by
 rcases Nat.le_total a b with h | h
 . rw [AP h,Int.max_eq_right (Int.ofNat_le.mpr h)]
 . rw [A2 h,Int.max_eq_left (Int.ofNat_le.mpr h)]
theorem GT (a b:Nat):min (a:Int) (b:Int)=(min a b:Nat):=by
 rcases Nat.le_total a b with h | h
 . rw [AE h,Int.min_eq_left (Int.ofNat_le.mpr h)]
 . rw [Nat.min_eq_right h,Int.min_eq_right (Int.ofNat_le.mpr h)]
theorem wA {c lo hi:Nat}(h:lo<=hi):min (max (c:Int) (lo:Int)) (hi:Int)=((clp c lo hi:Nat):Int):=by
 rw [G6,GT,clp];rcases Nat.le_total c lo with k | k
 . rw [AP k,AE h,AE (ntr k h),A2 k]
 . rw [A2 k,AP (Nat.le_min.mpr ⟨k,h⟩)]
theorem Dj {l:List It}{k y:Int}(h:l.Pairwise fV)(m:Nat)(z:It)(e:l[m]?=some z):decide ((z.1:Int)+k<=y)=decide (m<cntZ l k y):=
 js (R:=fV) (p:=λz=>decide ((z.1:Int)+k<=y)) (λa b h e=>decide_eq_true (by
   have h':a.1<=b.1:=h;have:=of_decide_eq_true e
   lia)) h m z e
section
theorem aHa {l:List It}{y:Int}(hs:l.Pairwise fV)(d:Nat)(m:Nat)(p:PV)(hy:(aX l)[m]?=some p):P2 (compareOp .Lt) (sj p) (.int y) (.bool (decide (m<cntZ l 1 y))):=by
 obtain ⟨w,rfl,hw⟩:=iw hy;rw [<-Dj hs m w hw,show decide ((w.1:Int)+1<=y)=decide ((w.1:Int)<y) from decide_eq_decide.mpr (by lia)];exact aAp
theorem aHe {l:List It}{y:Int}(hs:l.Pairwise fV)(d:Nat)(m:Nat)(p:PV)(hy:(aX l)[m]?=some p):P2 (compareOp .Lt) (.int y) (sj p) (.bool (!decide (m<cntZ l 0 y))):=by
 obtain ⟨w,rfl,hw⟩:=iw hy;rw [<-Dj hs m w hw,show (!decide ((w.1:Int)+0<=y))=decide (y<(w.1:Int)) by rw [<-decide_not];exact decide_eq_decide.mpr (by lia)];exact aAp
noncomputable abbrev g17:Stmt:=((aZ (aJ iP))[17]?).getD (.Pass default)
noncomputable abbrev aEf (lo hi:Nat)(o:Option PV):St:=[(Ω ".0",.local,none),(Ω "many",.local,o),(Ω "min",.globalImplicit,some (.raw (.builtin "min"))),(Ω "max",.globalImplicit,some (.raw (.builtin "max"))),(Ω "high",.cell,some (.int (hi:Nat))),(Ω "low",.cell,some (.int (lo:Nat)))]
noncomputable def aHc (lo hi:Nat):PV->PV
 | .int i=>.int (min (max i lo) hi)
 | v=>v
theorem Ej (F:aR B)(K:Kn)(hS:(K.S,aX (aj K.sl))∈H)(hI:(K.I,aX (am K.sl))∈H){y:Int}{lo hi:Nat}(hlo:lo<=hi)(hhi:hi<=6){name figure tag due less upto:Option PV}
   (q:∀due less upto,Qn (stV none less upto (some (.int y)) (some (.int (lo:Nat))) (some (.int (hi:Nat))) due name figure tag F K) H) :
   Xs NoE B (d+64) (fiL F) H (stV none less upto (some (.int y)) (some (.int (lo:Nat))) (some (.int (hi:Nat))) due name figure tag F K) (aM g17) Qn Qf:=by
 have ok:=mL K.sl;have hs:=ok.le (Aa 6);have hl:(aX (aj K.sl)).length=6:=by rw [Ba,ok.len]
 have ep:∀k,cntZ (aj K.sl) k y=cntZ (am K.sl) k y:=λk=>(fy K.sl).countP_eq _;have hcl:(aX (aj K.sl)).length<2 ^ 60:=by rw [hl];decide
 have hhi':hi<=(aX (aj K.sl)).length:=by rw [hl];exact hhi
 refine' aH ?_;refine wV (d:=d+44) (nm:=Ω "sought") (b:=true) (y:=y) (its:=am K.sl) hI (Ap rfl) (by decide +kernel) (by decide +kernel) (by decide +kernel) (by walk_at "mm") (by walk_at "mm") (by walk_at "mm") ⟨_,by walk_at "mm"⟩ (by rfl) (by decide +kernel) (by walk_at "m_rep") ?_;ext;refine dK F.n2 rfl iZ (λO=>rfl) ∅ ?_ (by rfl) ⟨_,_,rfl,λO=>rfl⟩ (λO=>rfl);ext;refine ⟨aD F.Y.hbl,?_⟩;ext;intro g hk ht fl N;refine kL (d:=d+63) F.Y.D3.up F.Y.gV F.Y.gln (zq (xs:=aj K.sl) N) (.lref hS) hcl F.Y.hbl.up (.inr ⟨rfl,hhi'⟩) (aHa hs) ?_;rw [ep];ext;refine dK F.n3 rfl iZ (λO=>rfl) ∅ ?_ (by rfl) ⟨_,_,rfl,λO=>rfl⟩ (λO=>rfl);ext;refine ⟨aD F.Y.hbr,?_⟩;ext;intro g hk ht fl N;refine kK (d:=d+63) F.Y.D4.up F.Y.gV F.Y.gln (zq (xs:=aj K.sl) N) (.lref hS) hcl F.Y.hbr.up (.inr ⟨rfl,hhi'⟩) (aHe hs) ?_;rw [ep];ext;refine cn ?_;ext;refine cF (aEf lo hi none) (.loc (.loc (.glob F.gMin (.globS (by walk_at "mm") (.capC (by walk_at "mm") (.capC (by walk_at "mm") .nil)))))) ?_ (by decide +kernel) (by rfl) (by rfl) (by intro _ _;rfl) (by lia);refine cJ ?_;ext;refine u3 λD=>?_;refine j9 (σt:=aEf lo hi) (f:=aHc lo hi) (λp hp=>(by cases hp)) _ _ none ?_ ?_ (show 0+2<=sizeLine by decide) ?_
 . intro x hx o H K k
   ext;exact k
 . intro x hx acc K k
   obtain ⟨c,rfl⟩:∃c:Nat,x=.int (c:Nat):=by
     rcases mcp hx with rfl | hx
     . exact ⟨_,rfl⟩
     . exact ⟨_,msp hx⟩
   ext;refine ⟨aB,?_⟩;ext;refine ⟨aB,?_⟩;ext;refine jf ?_;ext;refine xo ?_;exact k
 show V2 _ NoE B _ (.list [.int (min (max ((cntZ (am K.sl) 1 y:Nat):Int) lo) hi),.int (min (max ((cntZ (am K.sl) 0 y:Nat):Int) lo) hi)]) _ _ _;rw [wA hlo,wA hlo];refine tX ?_;ext;exact q _ _ _
theorem Ge (F:aR B)(K:Kn)(hS:(K.S,aX (aj K.sl))∈H)(hI:(K.I,aX (am K.sl))∈H){name figure tag:Option PV}:∀(l:List (Int×Nat×Nat)) (due sought low high less upto:Option PV),(∀c∈l,c.2.1<=c.2.2/\c.2.2<=6)->(∀due sought low high less upto,Qn (stV none less upto sought low high due name figure tag F K) H)->
   cQ B (fiL F) (d+64) (a0 g17) (aM g17) [] (l.map λc=>PV.tup [.int c.1,.int (c.2.1:Nat),.int (c.2.2:Nat)]) (stV none less upto sought low high due name figure tag F K) H Qn Qf:=by
 intro l
 induction l with
 | nil=>
   intro _ _ _ _ _ _ _ q;exact b6 (q _ _ _ _ _ _)
 | cons hd l ih=>
   intro _ _ _ _ _ _ hl q;obtain ⟨y,lo,hi⟩:=hd;have hl:=List.forall_mem_cons.mp hl;refine bP ?_;show Asg B _ (d+64) NoE (a0 g17) (.tup [.int y,.int (lo:Nat),.int (hi:Nat)]) _ _ _;refine jU rfl rfl ?_;ext;exact Ej F K hS hI hl.1.1 hl.1.2 λdue less upto=>⟨λp hp=>(by cases hp),ih _ _ _ _ _ _ hl.2 q⟩
theorem ER (F:aR B)(K:Kn)(hS:(K.S,aX (aj K.sl))∈H)(hI:(K.I,aX (am K.sl))∈H){name figure tag due:Option PV}
   (h:∀due sought low high less upto,XsT (K.m+8) B (d+64) (fiL F) H (stV none less upto sought low high due name figure tag F K) (aq 18) (λO H'=>Q .none H') (PX Q)) :
   XsT (K.m+8) B (d+64) (fiL F) H (stV none none none none none none due name figure tag F K) (aq 17) (λO H'=>Q .none H') (PX Q):=by
 refine bK ?_;refine jc (tgt:=a0 g17) (body:=aM g17) ?_ (by lia) (by intro _ _;rfl);refine cJ ?_;ext;refine b7 ∅ ?_;ext;refine b7 ∅ ?_;ext;refine dO ?_
 exact Ge F K hS hI [(bL K.sl,0,6),(bL K.sl,2,3),((bL K.sl).fmod 1024,0,6),((bL K.sl).fmod 1024,2,3)] due none none none none none (λc hc=>by
   rcases mcp hc with rfl | hc
   . exact ⟨Ab _,Aa _⟩
   rcases mcp hc with rfl | hc
   . exact ⟨Ap rfl,Ap rfl⟩
   rcases mcp hc with rfl | hc
   . exact ⟨Ab _,Aa _⟩
   cases msp hc
   exact ⟨Ap rfl,Ap rfl⟩) λdue sought low high less upto=>@h due sought low high less upto
end
end
noncomputable abbrev u5 (n:Nat):List PV:=(List.range n).map λi:Nat=>PV.int i
theorem VRs.of_get :∀{vs:List Value} {xs:List PV},vs.length=xs.length->(∀(i:Nat) v p,vs[i]?=some v->xs[i]?=some p->VR h T v p)->VRs h T vs xs:=by
 intro vs
 induction vs with
 | nil=>intro xs hl hg;obtain rfl:=List.length_eq_zero_iff.mp hl.symm;exact .nil
 | cons v vs ih=>
   intro xs hl hg
   cases xs with
   | nil=>cases hl
   | cons x xs=>exact .cons (hg 0 v x rfl rfl) (ih (Nat.succ.inj hl) λi v p h1 h2=>hg (i+1) v p h1 h2)
section
theorem ET:∀n:Nat,Builtin.Range.rangeSize 0 n 1=n
 | 0=>rfl
 | m+1=>by
   show (if (0:Int)<(m:Int)+1 then ((m:Int)+1-0-1)/1+1 else 0)=_;rw [if_pos (Int.lt_add_one_of_le (B2 m)),Int.sub_zero,Ca,Int.ediv_one];rfl
theorem Ck (h:(u5 n)[i]?=some p):p=.int (i:Nat):=by
 obtain ⟨hj,e⟩:=List.getElem?_eq_some_iff.mp h;rw [<-e,Bu,BS]
theorem qt {func fr a:Expr}{p1 p2:Pos}(hn:n<=1000)
   (h:Ev E B d fi σ H func λf H₁=>f=.raw (.type "list")/\Ev E B d fi σ H₁ fr λr H₂=>r=.raw (.type "range")/\Ev E B d fi σ H₂ a λv H₃=>v=.int (n:Nat)/\l9 Q (u5 n) H₃)
   (hpl:av a=true)(hp:av (.Call fr [a] [] p2)=true)
   (he:∀env,eval (.Call func [.Call fr [a] [] p2] [] p1) env=(do callWith p1 (<-eval func env) [] (backTo p1 (starEach [.Call fr [a] [] p2] env)) (backToKw p1 (keywordEach [] env))))
   (he':∀env,eval (.Call fr [a] [] p2) env=(do callWith p2 (<-eval fr env) [] (backTo p2 (starEach [a] env)) (backToKw p2 (keywordEach [] env)))) :
   Ev E B d fi σ H (.Call func [.Call fr [a] [] p2] [] p1) Q:=λA s env e R I F=>by
 refine Call_ (wpE (h A s env e R I F) (λfv s₁ f H₁ t₁ q₁ h₁=>?_)) (he env);obtain ⟨rfl,h₁⟩:=h₁;obtain ⟨O,rfl⟩:=q₁.inv;refine ae (au (by rw [BI,hp];rfl) (args_cons ?_ (bJ hp)));refine Call_ (wpE (h₁ A s₁ env e R t₁.inv (F.tr I t₁)) (λrv s₂ f H₂ t₂ q₂ h₂=>?_)) (he' env);obtain ⟨rfl,h₂⟩:=h₂;obtain ⟨O,rfl⟩:=q₂.inv;have F₂:=F.tr I (t₁.trans t₂);refine ae (au (by rw [BI,hpl];rfl) (args_cons (wpE (h₂ A s₂ env e R t₂.inv F₂) (λav s₃ f H₃ t₃ q₃ h₃=>?_)) (bJ hpl)));obtain ⟨rfl,h₃⟩:=h₃;obtain ⟨tk,rfl⟩:=q₃.inv;have I₃:=t₃.inv;refine Calls.spliced_nil ⟨λQ' hQ'=>wpAny_pure (hQ' _),?_⟩;show wpAny _ A (call (.type "range") [.int (n:Nat) tk] []) _ _ s₃;refine call_range_1 ?_;have t₄:=Tr.pushTok I₃ { cls:=.type "range",data:=.fields #[.int 0 s₃.toks,.int (n:Nat) tk,.int 1 (s₃.toks+1)] } (s₃.toks+1+1);refine Calls.spliced_nil ⟨λQ' hQ'=>wpAny_pure (hQ' _),?_⟩;show wpAny _ A (call (.type "list") [.ref s₃.heap.objs.size] []) _ _ _;refine aU (call_list_range R.handled (Heap.get?_push_size _ rfl) (small_one ∅ ∅ (by lia) (by lia)) (n:=n) (ET n) (by lia) λh' tk acc c' hk hS hi=>λhz=>?_);refine (aL.made t₄.inv hk hz rfl rfl (Aa _) hS (VRs.of_get (xs:=u5 n) ?_ λi v p h1 h2=>?_) h₃).trans ((t₁.trans t₂).trans (t₃.trans t₄))
 . rw [Array.length_toList,hi.1,Ba,BC]
 . rw [Array.getElem?_toList] at h1
   obtain ⟨t,rfl⟩:=hi.2 i v h1;obtain rfl:=Ck h2;rw [Int.mul_one,Int.zero_add];exact .int _ _
end
set_option maxHeartbeats 2000000
section
theorem uF:∀n,n<81->aW 3 4 n<=aW 3 4 (n+1):=by decide +kernel
theorem EE:aW 3 4 81=1024:=by decide +kernel
theorem tq {a:Nat}:∀{b:Nat},a<=b->b<=81->aW 3 4 a<=aW 3 4 b:=by
 intro b
 induction b with
 | zero=>
   intro h _;rw [Nat.le_zero.mp h];exact Aa _
 | succ b ih=>
   intro h hb;rcases AU b a with h1 | h1
   . rw [AF h h1];exact Aa _
   . exact ntr (ih h1 (Ao hb)) (uF b hb)
noncomputable def cT (r:Nat):Nat:=(List.range 81).countP λn=>decide (aW 3 4 n<=r)
theorem ir (r:Nat)(hm:m<81):decide (aW 3 4 m<=r)=decide (m<cT r):=by
 refine js (R:=λa b=>aW 3 4 a<=aW 3 4 b) (p:=λn=>decide (aW 3 4 n<=r)) (λa b h e=>decide_eq_true (ntr h (of_decide_eq_true e))) ?_ m m (by rw [List.getElem?_range hm]);refine List.pairwise_iff_getElem.mpr λi j hi hj hij=>?_;rw [BC] at hi hj;rw [BS,BS];exact tq (Ac hij) (Ac hj)
theorem zE {r:Nat}(hr:r<1024):1<=cT r/\cT r<=81/\aW 3 4 (cT r-1)<=r/\r<aW 3 4 (cT r):=by
 have h81:cT r<=81:=ntr Bz (Ad BC)
 have h1:1<=cT r:=by
   have:=ir r (m:=0) ∅;rw [decide_eq_true (show aW 3 4 0<=r from Ab _)] at this;exact of_decide_eq_true this.symm
 refine ⟨h1,h81,?_,?_⟩
 . have:=ir r (m:=cT r-1) (by omega)
   rw [decide_eq_true (show cT r-1<cT r by omega)] at this;exact of_decide_eq_true this
 . by_cases h:cT r<81
   . have:=ir r h
     rw [decide_eq_false (Al _)] at this;exact A7 (of_decide_eq_false this)
   . rw [show cT r=81 by omega,EE];exact hr
noncomputable def Gt:PV->PV
 | .int i=>.str (ofL (aE 3 i.toNat))
 | v=>v
theorem aC5 {y:PV}(h:(u5 n)[m]?=some y):m<n/\y=.int (m:Nat):=by
 rw [List.getElem?_map] at h
 cases e:(List.range n)[m]? with
 | none=>rw [e] at h;cases h
 | some j=>
   rw [e] at h;cases h;obtain ⟨hj,rfl⟩:=List.getElem?_eq_some_iff.mp e;rw [BC] at hj;rw [BS];exact ⟨hj,rfl⟩
section
theorem aAu {r:Nat}(hr:r<1024)(d:Nat)(m:Nat)(y:PV)(hy:(u5 81)[m]?=some y):P2 (compareOp .Lt) (.str (ofL (aE 4 r))) (Gt y) (.bool (!decide (m<cT r))):=by
 obtain ⟨hm,rfl⟩:=aC5 hy;show P2 (compareOp .Lt) (.str (ofL (aE 4 r))) (.str (ofL (aE 3 m))) _;have h3:=(pH m (Ag hm ∅)).1;rw [zN m (Ag hm ∅),<-ir r hm,show (!decide (aW 3 4 m<=r))=decide (r<aW 3 4 m) by rw [<-decide_not];exact decide_eq_decide.mpr Nat.not_le,<-gA (i:=r) (j:=aW 3 4 m) (by lia) (by lia)];exact sF
variable {g:Heap}{hk:∀a o,B.g.get? a=some o->g.get? a=some o}{ht:∀q∈B.tabs,g.get? q.2=Option.none}
theorem ax.up {c P:Addr}{qual:Str}(h:ax qual pos P c B):ax qual pos P c (B.up g hk ht):=by
 obtain ⟨bm,o,h1,h2,h3,h4,h5,r⟩:=h.ba;exact ⟨h.mem,h.hd.keeps hk,h.qn,⟨bm,o,h1,h2,h3,h4,hk _ _ h5,r⟩⟩
noncomputable def b8.up (F:b8 B):b8 (B.up g hk ht) where
 f2:=F.f2
 f3:=F.f3
 cd2:=F.cd2
 cd3:=F.cd3
 h2:=F.h2.up
 h3:=F.h3.up
 g2:=F.g2
 g3:=F.g3
 gl:=F.gl
 gd:=F.gd
 fi:=F.fi
 fo:=F.fo
 ci:=F.ci
 co:=F.co
 pi:=F.pi
 po:=F.po
 hi:=F.hi.up
 ho:=F.ho.up
 ni:=F.ni.up
 no:=F.no.up
 gi:=F.gi
 go:=F.go
 gln:=F.gln
 grv:=F.grv
 fp:=F.fp
 fm:=F.fm
 cp:=F.cp
 cm:=F.cm
 hp:=F.hp.up
 hm:=F.hm.up
 gp:=F.gp
 gm:=F.gm
 gz:=F.gz
 f:=F.f
 c:=F.c
 h:=F.h.up
 g:=F.g
 gDm:=F.gDm
 gAb:=F.gAb
 gRa:=F.gRa
 gCh:=F.gCh
 gOr:=F.gOr
noncomputable abbrev aGf:Scope:=⟨.function,[(Ω "one",.local),(Ω "_law_nest",.globalImplicit)],false,false,[]⟩
noncomputable abbrev nsE (p1 p2 p3 p4 p5:Pos):Expr:=.Call (.Name "_law_nest" p1) [.Name "one" p2,.Constant (.int 3) 0 p3,.Constant (.int 0) 0 p4] [] p5
theorem aBd (F:b8 B){e:Nat}{qual:Str}{p p1 p2 p3 p4 p5:Pos}(h:eJ B f qual (iR p) (nsE p1 p2 p3 p4 p5) aGf):d9 B H (e+70) f (u5 81) Gt:=⟨ei h,λy hy Q q=>by
 obtain ⟨m,hm,rfl⟩:=mmp hy;rw [List.mem_range] at hm;refine h.call (d:=e+69) (bs:=[(Ω "one",.int (m:Nat))]) (λpm cv ctv=>cO λS v=>ss) (List.nodup_cons.mpr ⟨Be,.nil⟩) (by intro e he;cases msp he;exact .head _) ∅ ∅ rfl rfl rfl (.arg (.head _) (.glob F.g .nil)) ?_;refine sO ?_ rfl (λO=>rfl);ext;refine ⟨aD F.h,?_⟩;ext
 exact jp F (b:=3) (bn:=3) (.inr (.inl ⟨rfl,rfl⟩)) 4 e m 0 H _ ∅ (.inl rfl) (Ag hm ∅) (Ag hm ∅) q⟩
theorem Ei (F:aR B)(K:Kn){e:Nat}(hd:d=e+7)(hI:(K.I,aX (am K.sl))∈H){name figure tag due sought low high less upto:Option PV}
   (h:∀found,XsT (K.m+8) B (d+64) (fiL F) H (stV found less upto sought low high due name figure tag F K) (aq 20) (λO H'=>Q .none H') (PX Q)) :
   XsT (K.m+8) B (d+64) (fiL F) H (stV none less upto sought low high due name figure tag F K) (aq 18) (λO H'=>Q .none H') (PX Q):=by
 subst hd;have hr:=p0 K.sl;obtain ⟨f1,f2,f3,f4⟩:=zE hr;have hup:(u5 81).length=81:=rfl;refine bK ?_;ext;refine dK F.n4 rfl iZ (λO=>rfl) ∅ ?_ (by rfl) ⟨_,_,rfl,λO=>rfl⟩ (λO=>rfl);ext;refine ⟨aD F.Y.hbr,?_⟩;refine' mo ?_;refine qt (n:=81) ∅ ?_ rfl rfl (λO=>rfl) (λO=>rfl);ext;refine ⟨rfl,?_⟩;ext;refine ⟨rfl,?_⟩;ext;refine ⟨rfl,.inl ?_⟩;ext;refine ⟨aK (.lref hI),cM (k:=5) (.lref hI) ∅ ∅ rfl ?_⟩;ext;refine ⟨bH dh,gS (j:=0) ∅ ∅ (by rfl) rfl ?_⟩;ext;intro g hk ht fl N;refine rV (d:=e+70) F.Y.D4.up F.Y.gV F.Y.gln (aBd F.N.up N) .list (by rw [hup];decide) F.Y.hbr.up (aAu hr) ?_;rw [hup,i0 f2];ext;refine bK ?_;ext;refine pU ?_ ?hm
 case hm=>with_unfolding_all rfl
 ext;refine ⟨aD F.V.hm,?_⟩;ext;refine ⟨aB,?_⟩;ext;refine jf ?_;ext;rw [show max ((cT (restOf K.sl):Nat):Int) 1-1=((cT (restOf K.sl)-1:Nat):Int) by lia];ext;refine iq F.V (b:=3) (x:=4) 4 (e+2) _ H _ ∅ (.inr (.inr ⟨rfl,rfl,by lia⟩)) (Ae (ntr (Aq _ _) f2) ∅) ?_;ext;refine b7 ∅ ?_;rw [pA];ext;rw [decide_eq_true (Int.ofNat_le.mpr f3)];ext;refine ⟨aD F.V.hm,?_⟩;ext;refine iq F.V (b:=3) (x:=4) 4 (e+2) _ H _ ∅ (.inr (.inr ⟨rfl,rfl,by lia⟩)) (Ae f2 ∅) ?_;ext;rw [decide_eq_true (Int.ofNat_lt.mpr f4)];ext;exact @h _
end
end
noncomputable def fM (B:aI)(d:Nat)(f:PV)(args:List PV)(kw:List (Str×PV))(cls:String)(msg:Option Str):Prop:=
 ∀(E:EP) A s,ai A d->Inv B [] s->∀fv vs kvs,VR s.heap (Trk [] B) fv f->VRs s.heap (Trk [] B) vs args->dE (Trk [] B) s.heap kvs kw->∀outer,A.frames=some outer->s.heap.FunFrames B.g outer->
   (∀e s',eF B outer cls msg s e s'->E e s')->wpAny (model B.prog B.w) A (call fv vs kvs) (λO O=>False) E s
section
variable {cls:String}{msg:Option Str}
theorem eF.leaves {fi2:aN}{σ₀:St}{outer:List Env}{s':Shared}{e:Value}(I:Inv B [] s)(x:DF B [] s fi2 σ₀ env s₁)(hfr:A.frames=some outer)(hff:s₁.heap.FunFrames B.g (env::outer))(hE:∀e s',eF B outer cls msg s e s'->E e s')(r:gH B env outer cls msg s₁ e s') :
   wpAny (model B.prog B.w) (A.deeper env) (leaving env e) (λO s''=>E e s'') (λe' s''=>E e' s'') s':=by
 have fin:∀(ea t:Addr) (ws:List Value) (h':Heap),e=.ref ea->Heap.FlyingW B.g outer ea (.type cls) (.ref t) h'->h'.TupAt t ws->nZ msg ws->B.g.get? t=Option.none->s'.heap.UpToSlots h'->s₁.heap.UpToSlots s'.heap->s₁.heap.objs.size<=s'.heap.objs.size->s'.heap.objs.size<=h'.objs.size->
     AllBare s'.gens->(∀(i:Nat) (x:GenState),s₁.gens[i]?=some x->s'.gens[i]?=some x)->s'.os=s₁.os->E e { s' with heap:=h' }:=λea t ws h' q1 q2 q3 q4 q5 q6 q7 q8 q9 q10 q11 q12=>
   hE _ _ ⟨⟨ea,t,ws,q1,q2,q3,q4,q5⟩,((Heap.UpToSlots.of_keeps x.keep).trans q7).trans q6,ntr x.tr.step.size (ntr q8 q9),q10,λi y q=>q11 i y (x.tr.step.gens i y q),q12.trans (x.tr.inv.os.trans I.os.symm)⟩
 rcases r with ⟨⟨ea,t,ws,rfl,hfl,htup,hmsg,hnt⟩,hsl,hsz2,hb2,hg2,ho2⟩ | ⟨h₂,ws,ea,hk₂,rfl,hx,hmsg,hsz2,hb2,hg2,ho2⟩
 . exact aU (wpAny_leaves_onW (Around.frames_deeper hfr) x.fr hfl λh' x1 x2 hz=>fin ea t ws h' rfl x1 (htup.of_slots x2) hmsg hnt x2 hsl hsz2 hz hb2 hg2 ho2)
 . exact aU (wpAny_leaves_madeW (Around.frames_deeper hfr) x.fr (λb o q=>hk₂ b o (x.tr.inv.keep b o q)) (hff.of_keeps λb o hb O=>⟨o,hk₂ b o hb,rfl⟩) hx λh' t x1 x2 x3 x4 hz=>fin ea t ws h' rfl x1 x2 hmsg x3 x4 ((Heap.UpToSlots.of_keeps hk₂).trans (Heap.UpToSlots.of_keeps hx.keeps)) hsz2 hz hb2 hg2 ho2)
theorem af.callXK (FL:dT B){name:Str}(h:af dV kV k name f cdv B){args:List PV}{kw bs:List (Str×PV)}{nm:List Str}{σ₀:St}
   (hb:∀doc pm an ct,cB B (bN name k dV kV doc pm an cdv ct) args kw [] bs)(hnm:bs.map (λe=>e.1)=nm)(hc:bb nm (aG (aJ k))=true)
   (hi:Ini B bs (aG (aJ k)).names σ₀)(hx:XsX B (d8 k name) d (aZ (aJ k)) σ₀ cls msg):fM B (d+1) (.raw (.ref f)) args kw cls msg:=λE A s R I fv vs kvs h1 h2 h3 outer hfr hfun hE=>by
 obtain ⟨oc,od,osl,doc,pm,an,ct,ho⟩:=h.at_;cases h1;refine ii (fd:=bN name k dV kV doc pm an cdv ct) (cp:=none) (λs I=>I.keep _ _ ho) rfl rfl (λs I=>h.code.keeps I.keep) (eZ hc) (ip hc) (f5 hc) rfl rfl (λO O h=>(by cases h)) (hb doc pm an ct)
   (by rw [hnm];exact dw hc) (λe he=>f9 hc _ (by rw [<-hnm];exact mmr ⟨e,he,rfl⟩)) (dq hc) (eK hc) hi R I h2 h3 λenv s₁ x=>?_
 obtain ⟨m,hns,O⟩:=x.frm.ns;have hff:s₁.heap.FunFrames B.g (env::outer):=Heap.FunFrames.cons (L:=env.locals) (by rw [x.eok.kindF];(intros;first | contradiction | (intro q;cases q))) x.fr hns x.frm.fresh (hfun.of_keeps λb o hb O=>⟨o,x.keep b o hb,rfl⟩);exact wpAny_mono (hx _ (A.deeper env) s₁ env x.eok (R.deeper env) x.tr.inv x.frm outer (Around.frames_deeper hfr) hff (λe s' r=>r)) (λO O x=>x.elim) λe s' r=>eF.leaves I x hfr hff hE r
theorem eN (FL:dT B){npos:Pos}{func:Expr}{args:List Expr}{key:Str}{xk:Expr}{kp cpos:Pos}
   (h:Ev NoE B d fi σ [] func λf H₁=>H₁=[]/\bo B f/\EvL B fi d NoE args σ [] λvs H₂=>H₂=[]/\Ev NoE B d fi σ [] xk λkv H₃=>H₃=[]/\fM B d f vs [(key,kv)] cls msg)(hp:args.all av=true)
   (hne:∃a r,args=a::r/\∀env,starEach (a::r) env=(false,eval a env)::starEach r env)
   (he:∀env,eval (.Call func args [⟨some key,xk,kp⟩] cpos) env=(do callWith cpos (<-eval func env) [] (backTo cpos (starEach args env)) (backToKw cpos (keywordEach [⟨some key,xk,kp⟩] env))))
   (hs:autoParam (∀env,swapsWith (.Call func args [⟨some key,xk,kp⟩] cpos) (some (.Name x npos)) pos.line env=pure false) nC):XsX B fi d (.Assign [.Name x npos] (.Call func args [⟨some key,xk,kp⟩] cpos) pos::rest) σ cls msg:=λE A s env e R I F outer hfr hff hE=>by
 refine wpAny_execs_cons (wpAny_mono (Q:=λO O=>False) (E:=E) (wpAny_Assign_Name ?_ (hs env)) (λO O x=>x.elim) λO O x=>x);refine wpAny_mono (Q:=λO O=>False) (E:=E) ?_ (λO O x=>x.elim) λO O x=>x;rw [he env];refine wpAny_bind (wpAny_mono (h A s env e R I F) (λfv s₁ hh1=>?_) λO O x=>x.elim);obtain ⟨f,H₁,t₁,q₁,hH,hk,h₁⟩:=hh1;subst hH;obtain ⟨a,r,ea,hse⟩:=hne;subst ea;refine ae (evalArgs_kw2 rfl (wpAny_mono (ao h₁ hp A s₁ env e R t₁.inv (F.tr I t₁)) (λvs s₂ hh1=>?_) λO O x=>x.elim) (hse env));obtain ⟨ps,H₂,t₂,l₂,q₂,hH,h₂⟩:=hh1;subst hH;have t:=t₁.trans t₂;refine kwAll_cons (wpAny_mono (h₂ A s₂ env e R t₂.inv (F.tr I t)) (λkv s₃ hh1=>?_) λO O x=>x.elim);obtain ⟨kp,H₃,t₃,q₃,hH,h₃⟩:=hh1;subst hH;refine kwAll_nil ⟨hk A E [] s₃ fv t₃.inv ((q₁.tr t₂).tr t₃),?_⟩;have tt:=t.trans t₃;refine wpm (h₃ E A s₃ R t₃.inv fv vs _ ((q₁.tr t₂).tr t₃) (q₂.tr t₃) ⟨.cons q₃ .nil,rfl⟩ (outer:=env::outer) hfr (hff.of_keeps λb o q O=>⟨o,tt.keeps FL b o q,rfl⟩) λe s' r=>hE e s' (.inl ?_)) (λO O x=>x.elim);exact ⟨r.ex,(Heap.UpToSlots.of_keeps (tt.keeps FL)).trans r.slots,ntr tt.step.size r.size,r.bare,λi x q=>r.gens i x (tt.step.gens i x q),r.os.trans (tt.inv.os.trans I.os.symm)⟩
noncomputable abbrev mx:Option Str:=some (Ω "lo must be non-negative")
variable {dV' kV' cdv':Value}
theorem Ga (FL:dT B){k:Addr}{a x hv:PV}{lo:Int}(hlo:lo<0)(h:af dV kV cZ "bisect_left" f cdv B)(D:aw B dV kV)(gV:aC B "ValueError" (.raw (.type "ValueError")))(gl:aC B "len" (.raw (.builtin "len"))) :
   fM B (d+1) (.raw (.ref f)) [a,x,.int lo,hv] [(Ω "key",.raw (.ref k))] "ValueError" mx:=by
 refine h.callXK FL (λdoc pm an ct=>i6 (fd:=λdV kV=>bN "bisect_left" cZ dV kV doc pm an cdv ct) D λS T D n t v w u z ky=>lm) rfl ki (mt gV gl) ?_;refine mH FL ?_;ext;refine ⟨rfl,?_⟩;rw [decide_eq_true hlo,if_pos rfl];refine kf FL F.excCall_ValueError F.excRaise_ValueError rfl ?_;ext;exact ⟨rfl,rfl⟩
theorem FU (FL:dT B){k:Addr}{a x hv:PV}{lo:Int}(hlo:lo<0)(h:af dV kV bq "bisect_right" f cdv B)(D:aw B dV kV)(gV:aC B "ValueError" (.raw (.type "ValueError")))(gl:aC B "len" (.raw (.builtin "len"))) :
   fM B (d+1) (.raw (.ref f)) [a,x,.int lo,hv] [(Ω "key",.raw (.ref k))] "ValueError" mx:=by
 refine h.callXK FL (λdoc pm an ct=>i6 (fd:=λdV kV=>bN "bisect_right" bq dV kV doc pm an cdv ct) D λS T D n t v w u z ky=>lQ) rfl iy (jm gV gl) ?_;refine mH FL ?_;ext;refine ⟨rfl,?_⟩;rw [decide_eq_true hlo,if_pos rfl];refine kf FL F.excCall_ValueError F.excRaise_ValueError rfl ?_;ext;exact ⟨rfl,rfl⟩
end
noncomputable abbrev bx (L z:Addr):Addr->Prop:=λa=>a≠L/\a≠z
section
variable {cls:String}{msg:Option Str}{L z:Addr}
theorem cW (I:Inv B H s):∀a o,B.g.get? a=some o->(c9 B.g s.heap (bx L z)).get? a=some o:=λa o e=>by
 by_cases hp:bx L z a
 . rw [de (P:=bx L z) hp];exact I.keep a o e
 . rw [cK (P:=bx L z) hp I.size];exact e
theorem jY (I:Inv B H s)(hn:¬bx L z a)(e:B.g.get? a=none):(c9 B.g s.heap (bx L z)).get? a=none:=by
 rw [cK (P:=bx L z) hn I.size];exact e
theorem kq (ha:bx L z a)(h:s.heap.get? a=some o):(c9 B.g s.heap (bx L z)).get? a=some o:=by rw [de (P:=bx L z) ha];exact h
theorem uM (h1:(c9 B.g s.heap (bx L z)).get? a=none)(h2:s.heap.get? a=some o):¬bx L z a:=λha=>(by cases (h1.symm.trans (kq ha h2)))
theorem Inv.flatZ (I:Inv B H s):Inv (B.flat _ (cW (L:=L) (z:=z) I)) [] s:=by
 refine ⟨λa o e=>?_,Ad c0,(λO h=>(by cases h)),I.bare,I.os,List.nodup_nil,(λO h=>(by cases h)),(λO h=>(by cases h))⟩;change (c9 B.g s.heap (bx L z)).get? a=some o at e;by_cases hp:bx L z a
 . rwa [de (P:=bx L z) hp] at e
 . rw [cK (P:=bx L z) hp I.size] at e;exact I.keep a o e
noncomputable def XsZ (B:aI)(fi:aN)(d:Nat)(b:List Stmt)(σ:St)(H:AH)(cls:String)(msg:Option Str):Prop:=
 ∀(E:EP) A s env env₀ fi₀ σ₀,a9 B fi env->a9 B fi₀ env₀->ai A d->Inv B H s->aA s H σ env B->aA s H σ₀ env₀ B->A.frames=some [env,env₀]->env.frame=some env.locals->env₀.frame=some env₀.locals->
   (∀s' (I':Inv B H s'),Tr noU s' H s H B->∀e s₁,eF (B.flat _ (cW (L:=env₀.locals) (z:=env.locals) I')) [env,env₀] cls msg s' e s₁->E e s₁)->wpAny (model B.prog B.w) A (execs b env) (λO O=>False) E s
theorem aB7 {t:Expr}{b o:List Stmt}(h:Tst B fi d NoE t σ H λc H'=>H'=H/\(if c then XsZ B fi d b σ H cls msg else XsZ B fi d o σ H cls msg)):XsZ B fi d (.If t b o pos::rest) σ H cls msg:=λE A s env env₀ fi₀ σ₀ e e₀ R I F F₀ hfr hf hf₀ hE=>by
 refine wpAny_execs_cons (wpAny_mono (Q:=λO O=>False) (E:=E) (wpAny_If (wpAny_mono (h A s env e R I F) (λc s₁ hh1=>?_) λO O x=>x.elim)) (λO O x=>x.elim) λO O x=>x);obtain ⟨H₁,t₁,hH,q⟩:=hh1;subst hH
 have go:∀body,XsZ B fi d body σ H₁ cls msg->wpAny (model B.prog B.w) A (execs body env) (λO O=>False) E s₁:=λbody hb=>
   hb E A s₁ env env₀ fi₀ σ₀ e e₀ R t₁.inv (F.tr I t₁) (F₀.tr I t₁) hfr hf hf₀ λs' I' t e s₂ r=>hE s' I' (t₁.trans t) e s₂ r
 cases c with
 | true=>exact go b q
 | false=>exact go o q
inductive aGr (B:aI)(d:Nat)(cls:String)(msg:Option Str)(key lq:Str)(params:Arguments)(lb:Expr)(ls:Scope)(H:AH)(f:PV)(vs:List PV)(H₂:AH):Prop
 | mk (a:H₂=H) (vs':List PV) (z:Fz H vs vs') (c:∀g hk fl,eJ (B.flat g hk) fl lq params lb ls->fM (B.flat g hk) d f vs' [(key,.raw (.ref fl))] cls msg)
inductive aGi (B:aI)(fi:aN)(d:Nat)(σ:St)(cls:String)(msg:Option Str)(key lq:Str)(params:Arguments)(lb:Expr)(ls:Scope)(args:List Expr)(H:AH)(f:PV)(H₁:AH):Prop
 | mk (a:H₁=H) (fa:∃fa,f=.raw (.ref fa)) (k:bo B f) (h:EvL B fi d NoE args σ H (aGr B d cls msg key lq params lb ls H f))
theorem kT {c P:Addr}{func:Expr}{args:List Expr}{key:Str}{params:Arguments}{lb:Expr}{ls:Scope}{lp kp cpos:Pos}{lq:Str}(N:ax lq lp P c B)(hfi:fi.code=some (c,P))(hq:fi.qual++"<lambda>" = lq)(hdef:∀env,defaultsOf params env=([],[]))(hfree:∀e∈ls.names,e.2≠.free)
   (h:Ev NoE B d fi σ H func (aGi B fi d σ cls msg key lq params lb ls args H))
   (hp:args.all av=true)
   (hne:∃a r,args=a::r/\∀env,starEach (a::r) env=(false,eval a env)::starEach r env)
   (he:∀env,eval (.Call func args [⟨some key,.Lambda params lb ls lp,kp⟩] cpos) env=(do callWith cpos (<-eval func env) [] (backTo cpos (starEach args env)) (backToKw cpos (keywordEach [⟨some key,.Lambda params lb ls lp,kp⟩] env))))
   (hs:autoParam (∀env,swapsWith (.Call func args [⟨some key,.Lambda params lb ls lp,kp⟩] cpos) none pos.line env=pure false) nC) :
   XsZ B fi d (.Expr (.Call func args [⟨some key,.Lambda params lb ls lp,kp⟩] cpos) pos::rest) σ H cls msg:=λE A s env env₀ fi₀ σ₀ e e₀ R I F F₀ hfr hf hf₀ hE=>by
 have hi:interactive env=false:=by unfold interactive;rw [e.kindF];rfl
 refine wpAny_execs_cons ?_;rw [exec_Expr env _ pos hi (hs env)];refine wpAny_bind (wpAny_standAt (wpAny_bind (wpAny_mono (Q:=λO O=>False) (E:=E) ?_ (λO O x=>x.elim) λO O x=>x)));rw [he env];refine wpAny_bind (wpAny_mono (h A s env e R I F) (λfv s₁ hh1=>?_) λO O x=>x.elim);obtain ⟨f,H₁,t₁,q₁,hH,⟨fa,hfa⟩,hk,h₁⟩:=hh1;subst hH;subst hfa;obtain ⟨a,r,ea,hse⟩:=hne;subst ea;refine ae (evalArgs_kw2 rfl (wpAny_mono (ao h₁ hp A s₁ env e R t₁.inv (F.tr I t₁)) (λvs s₂ hh1=>?_) λO O x=>x.elim) (hse env));obtain ⟨ps,H₂,t₂,l₂,q₂,hH,vs',hz,hX⟩:=hh1;subst hH;have t:=t₁.trans t₂;refine kwAll_cons (kla_eval (hdef env) ?_);rw [e.qual,hq];refine rD e t₂.inv N hfi (fu hfree) λfl pm cv ctv s₃ t₃ hlt ho hr=>kwAll_nil ⟨hk A E H₂ s₃ fv t₃.inv ((q₁.tr t₂).tr t₃),?_⟩;have I₃:=t₃.inv;have T:=t.trans t₃;have F₃:=F.tr I T;have G₃:=F₀.tr I T;obtain ⟨m,hns,O⟩:=F₃.ns;obtain ⟨m₀,hns₀,O⟩:=G₃.ns;have pinned:∀{a:Addr} {o:Obj},s₃.heap.get? a=some o->bx env₀.locals env.locals a->(c9 B.g s₃.heap (bx env₀.locals env.locals)).get? a=some o:=λe h=>kq h e;have Lm:eJ (B.flat _ (cW (L:=env₀.locals) (z:=env.locals) I₃)) fl lq params lb ls:=⟨pm,cv,ctv,pinned ho ⟨G₃.nloc ho (λO O=>(by intros;first | contradiction | (intro q;cases q))),F₃.nloc ho (λO O=>(by intros;first | contradiction | (intro q;cases q)))⟩,gU I₃ hr λa o vs e d n=>pinned e ⟨G₃.nloc e λO O=>by rw [d];(intros;first | contradiction | (intro q;cases q)),F₃.nloc e λO O=>by rw [d];(intros;first | contradiction | (intro q;cases q))⟩⟩;obtain ⟨O,rfl⟩:=q₁.inv
 have hff:s₃.heap.FunFrames (c9 B.g s₃.heap (bx env₀.locals env.locals)) [env,env₀]:=
   Heap.FunFrames.cons (L:=env.locals) (by rw [e.kindF];(intros;first | contradiction | (intro q;cases q))) hf hns (jY I₃ (λq=>q.2 rfl) F₃.fresh) (Heap.FunFrames.cons (L:=env₀.locals) (by rw [e₀.kindF];(intros;first | contradiction | (intro q;cases q))) hf₀ hns₀ (jY I₃ (λq=>q.1 rfl) G₃.fresh) trivial)
 exact wpm (hX _ _ fl Lm E A s₃ R (Inv.flatZ I₃) (.ref fa) vs _ (.raw _) (hz.rel I₃ (λa=>(flat_flat:dT (B.flat _ (cW (L:=env₀.locals) (z:=env.locals) I₃))).trk) (q₂.tr t₃)) ⟨.cons (.raw _) .nil,rfl⟩ [env,env₀] hfr hff λe s' r=>hE s₃ I₃ T e s' r) (λO O x=>x.elim)
noncomputable def oJ (B:aI)(d:Nat)(f:PV)(args:List PV)(H:AH)(cls:String)(msg:Option Str):Prop:=
 ∀(E:EP) A s env fi σ,a9 B fi env->ai A d->Inv B H s->aA s H σ env B->A.frames=some [env]->env.frame=some env.locals->∀fv vs,VR s.heap (Trk H B) fv f->VRs s.heap (Trk H B) vs args->
   (∀z s' (I':Inv B H s'),(s.heap.objs.size<=z\/z=env.locals)->B.g.get? z=none->(∃m,s'.heap.Ns z m)->Tr noU s' H s H B->∀e s₁,eF (B.flat _ (cW (L:=env.locals) (z:=z) I')) [env] cls msg s' e s₁->E e s₁)->wpAny (model B.prog B.w) A (call fv vs []) (λO O=>False) E s
theorem af.callZ {c P:Addr}{name:Str}(h:af dV kV k name f (.ref c) B){args:List PV}{bs:List (Str×PV)}{nm:List Str}{σ₀:St}
   (hb:∀doc pm an ct,cB B (bN name k dV kV doc pm an (.ref c) ct) args [] H bs)(hnm:bs.map (λe=>e.1)=nm)(hc:bb nm (aG (aJ k))=true)
   (hi:Ini B bs (aG (aJ k)).names σ₀)(hx:XsZ B ⟨aG (aJ k),some (c,P),name++".<locals>.",λO=>false⟩ d (aZ (aJ k)) σ₀ H cls msg):oJ B (d+1) (.raw (.ref f)) args H cls msg:=λE A s env₀ fi₀ σ' e₀ R I F₀ hfr hf₀ fv vs h1 h2 hE=>by
 obtain ⟨oc,od,osl,doc,pm,an,ct,ho⟩:=h.at_;cases h1;refine ii (fd:=bN name k dV kV doc pm an (.ref c) ct) (cp:=some (c,P)) (λs I=>I.keep _ _ ho) rfl rfl (λs I=>h.code.keeps I.keep) (eZ hc) (ip hc) (f5 hc) rfl rfl (λO O h=>by cases h;rfl) (hb doc pm an ct)
   (by rw [hnm];exact dw hc) (λe he=>f9 hc _ (by rw [<-hnm];exact mmr ⟨e,he,rfl⟩)) (dq hc) (eK hc) hi R I h2 ⟨.nil,rfl⟩ λenv s₁ x=>?_
 refine wpm (hx (λe s₂=>wpAny (model B.prog B.w) (A.deeper env) (leaving env e) (λO s''=>E e s'') (λe' s''=>E e' s'') s₂) (A.deeper env) s₁ env env₀ fi₀ σ' x.eok e₀ (R.deeper env) x.tr.inv x.frm (F₀.tr I x.tr) (Around.frames_deeper hfr) x.fr hf₀ λs' I' t e s₂ r=>?_) (λO O x=>x.elim);obtain ⟨m,hns,O⟩:=(x.frm.tr x.tr.inv t).ns;obtain ⟨⟨ea,tt,ws,rfl,hfl,htup,hmsg,hnt⟩,hsl,hsz2,hb2,hg2,ho2⟩:=r;exact aU (wpAny_leaves_onW (Around.frames_deeper hfr) x.fr hfl λh' x1 x2 hz=>hE env.locals s' I' (.inl (Ad x.loc.symm)) x.frm.fresh ⟨m,hns⟩ (x.tr.trans t) _ _ ⟨⟨ea,tt,ws,rfl,x1,htup.of_slots x2,hmsg,hnt⟩,hsl.trans x2,ntr hsz2 hz,hb2,hg2,ho2⟩)
theorem oJ.of {vs vs':List PV}(hz:Fz H vs vs')(hX:∀g hk,fM (B.flat g hk) d (.raw (.ref f)) vs' [] cls msg):oJ B d (.raw (.ref f)) vs H cls msg:=λE A s env fi σ e R I F hfr hf fv ws h1 h2 hE=>by
 obtain ⟨m,hns,O⟩:=F.ns;obtain ⟨O,rfl⟩:=h1.inv;exact hX _ (cW (L:=env.locals) (z:=env.locals) I) E A s R (Inv.flatZ I) (.ref f) ws [] (.raw _) (hz.rel I (λa=>(flat_flat:dT (B.flat _ (cW (L:=env.locals) (z:=env.locals) I))).trk) h2) ⟨.nil,rfl⟩ [env] hfr (Heap.FunFrames.cons (L:=env.locals) (by rw [e.kindF];(intros;first | contradiction | (intro q;cases q))) hf hns (jY I (λq=>q.1 rfl) F.fresh) trivial) λe s₁ r=>hE _ s I (.inr rfl) F.fresh ⟨m,hns⟩ (.refl I) e s₁ r
end
section
variable {cls:String}{msg:Option Str}
section
variable {s₀:Shared}{z ea t:Addr}{ws:List Value}(t₀:Tr noU s H s₀ H B)(I:Inv B H s)(F:aA s H σ env B)(hz0:s₀.heap.objs.size<=z\/z=env.locals)(hgz:B.g.get? z=none)(hnz:∃m,s.heap.Ns z m)
include t₀ I F hz0 hgz hnz in
theorem aB1 (hst:Heap.StaysIn (c9 B.g s.heap (bx env.locals z)) s'.heap)(hsl:s.heap.UpToSlots s'.heap)(hz:s.heap.objs.size<=s'.heap.objs.size)(hb:AllBare s'.gens)(hg:∀(i:Nat) (x:GenState),s.gens[i]?=some x->s'.gens[i]?=some x)(ho:s'.os=s.os) :
   Tr (bT env) s' H s₀ H B/\aA s' H σ env B:=by
 have keep:∀a o,s.heap.get? a=some o->bx env.locals z a->s'.heap.get? a=some o:=λa o e ne=>hst a o (kq ne e);obtain ⟨m,hns,hm⟩:=F.ns;obtain ⟨oL,es,ep,hoL,hdL,hrest⟩:=id hns;obtain ⟨mz,oZ,ez,pz,hoZ,hdZ,O⟩:=hnz;let h1:Heap:=c9 s.heap s'.heap (bx env.locals z);let h2:Heap:=c9 s.heap s'.heap λa=>a≠env.locals;have in1:∀a,bx env.locals z a->h1.get? a=s'.heap.get? a:=λa ne=>de (P:=bx env.locals z) ne;have out1:∀a,¬bx env.locals z a->h1.get? a=s.heap.get? a:=λa ne=>cK (P:=bx env.locals z) ne hz;have in2:∀a,a≠env.locals->h2.get? a=s'.heap.get? a:=λa ne=>de (P:=λa=>a≠env.locals) ne;have out2:h2.get? env.locals=s.heap.get? env.locals:=cK (P:=λa=>a≠env.locals) (λq=>q rfl) hz
 have hk1:∀a o,s.heap.get? a=some o->h1.get? a=some o:=λa o e=>by
   by_cases ne:bx env.locals z a
   . rw [in1 a ne];exact keep a o e ne
   . rw [out1 a ne];exact e
 have z1:h1.objs.size=s'.heap.objs.size:=c0;have z2:h2.objs.size=s'.heap.objs.size:=c0;have I1:Inv B H ⟨h1,s'.gens,s'.drawn,s'.toks,s'.os⟩:=I.ext hk1 (by show _<=h1.objs.size;rw [z1];exact hz) hb ho
 have b1:Heap.SameBut z h1 h2:=⟨z2.trans z1.symm,λb ne=>by
   by_cases hl:b=env.locals
   . subst hl;rw [out2,out1 _ λq=>q.1 rfl]
   . rw [in2 b hl,in1 b ⟨hl,ne⟩]⟩
 have I2:Inv B H ⟨h2,s'.gens,s'.drawn,s'.toks,s'.os⟩:=I1.change (t:=s'.toks) (hk1 _ _ hoZ) (by rw [hdZ];(intros;first | contradiction | (intro q;cases q))) (by rw [hdZ];(intros;first | contradiction | (intro q;cases q))) hgz b1;have b2:Heap.SameBut env.locals h2 s'.heap:=⟨z2.symm,λb ne=>(in2 b ne).symm⟩;have I3:Inv B H s':=I2.change (t:=s'.toks) (a:=env.locals) (o:=oL) (out2.trans hoL) (by rw [hdL];(intros;first | contradiction | (intro q;cases q))) (by rw [hdL];(intros;first | contradiction | (intro q;cases q))) F.fresh b2
 have nz:∀{a o},s.heap.get? a=some o->(∀e p,o.data≠.dict e p)->bx env.locals z a:=λe hd=>⟨F.nloc e hd,λq=>by
   rw [q,hoZ] at e;cases e;exact hd _ _ hdZ⟩
 have hkq:∀a o,s.heap.get? a=some o->ah o->¬Trk H B a->s'.heap.get? a=some o:=λa o e ⟨vs,n,q⟩ _=>keep a o e (nz e λO O=>by rw [q];(intros;first | contradiction | (intro q;cases q)));refine ⟨⟨I3,⟨λa o e hn=>?_,ntr t₀.step.size hz,λi x e=>hg i x (t₀.step.gens i x e)⟩,λO h=>.inl h⟩,F.fresh,F.apart,F.keys,F.nodup,⟨m,hsl.ns hns,λx p hx=>(hm x p hx).mono hkq λO O t=>t⟩,λx ov hx=>?_,F.glob⟩
 . have hL:a≠env.locals:=λq=>hn (.inr (.inl q))
   refine keep a o (t₀.step.heap a o e λq=>q.elim (λq=>hn (.inl q)) False.elim) ⟨hL,λq=>?_⟩;rcases hz0 with h | h
   . exact absurd (Heap.lt_size e) (nlr (q▸h))
   . exact hL (q.trans h)
 . obtain ⟨c,w,hc,⟨oc,hoc,hdc⟩,hv⟩:=F.cell x ov hx
   exact ⟨c,w,hc,⟨oc,keep c oc hoc (nz hoc λO O=>by rw [hdc];(intros;first | contradiction | (intro q;cases q))),hdc⟩,hv.mono hkq λO O t=>t⟩
end
set_option genInjectivity false in
set_option genSizeOf false in
structure dc (B:aI)(env:Env)(σ:St)(H:AH)(s₀ s:Shared)(z ea t:Addr)(cls:String)(ws:List Value)(s':Shared):Prop where
 tr:Tr (bT env) s' H s₀ H B
 frm:aA s' H σ env B
 fly:Heap.FlyingW (c9 B.g s.heap (bx env.locals z)) [env] ea (.type cls) (.ref t) s'.heap
 tup:s'.heap.TupAt t ws
 nt:(c9 B.g s.heap (bx env.locals z)).get? t=none
 sl:s.heap.UpToSlots s'.heap
 size:s.heap.objs.size<=s'.heap.objs.size
 gens:∀(i:Nat) (x:GenState),s.gens[i]?=some x->s'.gens[i]?=some x
section
variable {s₀:Shared}{z ea t:Addr}{ws:List Value}(t₀:Tr noU s H s₀ H B)(I:Inv B H s)(F:aA s H σ env B)(hz0:s₀.heap.objs.size<=z\/z=env.locals)(hgz:B.g.get? z=none)(hnz:∃m,s.heap.Ns z m)
include t₀ I F hz0 hgz hnz in
theorem dc.on (hfl:Heap.FlyingW (c9 B.g s.heap (bx env.locals z)) [env] ea (.type cls) (.ref t) s'.heap)(tup:s'.heap.TupAt t ws)(nt:(c9 B.g s.heap (bx env.locals z)).get? t=none)(sl:s.heap.UpToSlots s'.heap)(hz:s.heap.objs.size<=s'.heap.objs.size)(hb:AllBare s'.gens)
   (hg:∀(i:Nat) (x:GenState),s.gens[i]?=some x->s'.gens[i]?=some x)(ho:s'.os=s.os):dc B env σ H s₀ s z ea t cls ws s':=
 have x:=aB1 t₀ I F hz0 hgz hnz hfl.1 sl hz hb hg ho
 ⟨x.1,x.2,hfl,tup,nt,sl,hz,hg⟩
include t₀ I F hz0 hgz hnz in
theorem dc.again (c:dc B env σ H s₀ s z ea t cls ws s'){P:Shared->Prop}(k:∀s₃,dc B env σ H s₀ s z ea t cls ws s₃->P s₃):wpAny (model B.prog B.w) A (setFlight (.ref ea) none) (λO s₃=>P s₃) E s':=
 aU (lands_againW c.fly λh₄ hfl₄ hsl₄ hz₄=>k _ (.on t₀ I F hz0 hgz hnz hfl₄ (c.tup.of_slots hsl₄) c.nt (c.sl.trans hsl₄) (ntr c.size hz₄) c.tr.inv.bare c.gens (c.tr.inv.os.trans I.os.symm)))
include t₀ I F hz0 hgz hnz in
theorem eF.caughtZ (hfr:A.frames=some [env])(hf:env.frame=some env.locals){e':Value}(r:eF (B.flat _ (cW (L:=env.locals) (z:=z) I)) [env] cls msg s e' s₁){P:Value->Shared->Prop}
   (k:∀ea t ws s₃,nZ msg ws->dc B env σ H s₀ s z ea t cls ws s₃->P (.ref ea) s₃):wpAny (model B.prog B.w) A (noteFrame e' env) (λO s₂=>wpAny (model B.prog B.w) A (setFlight e' none) (λO s₃=>P e' s₃) E s₂) E s₁:=by
 obtain ⟨ea,t,ws,rfl,hfl,htup,hmsg,hnt'⟩:=r.ex
 exact aU (wpAny_looks_onW hfr hf hfl λh₂ hheld hsl₂ hz₂=>aU (wpAny_landsW hheld λh₃ hfl₃ hsl₃ hz₃=>
   k _ _ _ _ hmsg (.on t₀ I F hz0 hgz hnz hfl₃ (htup.of_slots (hsl₂.trans hsl₃)) hnt' (r.slots.trans (hsl₂.trans hsl₃)) (ntr r.size (ntr hz₂ hz₃)) r.bare r.gens r.os)))
include I F in
theorem oQ {s₄ s₅:Shared}(T:Tr (bT env) s₅ H s₄ H B)(h1:(c9 B.g s.heap (bx env.locals z)).get? a=none)(h2:s₄.heap.get? a=some o)(h3:bx env.locals z a):s₅.heap.get? a=some o:=by
 refine T.step.heap a o h2 ?_;have no:∀{o},¬s.heap.get? a=some o:=λe=>uM h1 e h3
 rintro ((q | q | q) | q | ⟨x,q1,q2,_⟩)
 . obtain ⟨p,hp,rfl⟩:=mmp q
   obtain ⟨O,O,O,e1,O⟩:=I.objs p hp;exact no e1
 . obtain ⟨p,hp,rfl⟩:=mmp q
   obtain ⟨O,e1,O⟩:=I.tabs p hp;exact no e1
 . obtain ⟨p,hp,rfl⟩:=mmp q
   exact no (I.hid p hp).a
 . exact h3.1 q
 . obtain ⟨⟨y,k,ov⟩,hy,heq⟩:=mmp (F.keys▸mem_of_lookup q1:(x,NameKind.cell)∈σ.map _)
   cases heq;obtain ⟨c,O,hc',⟨oc,hoc,O⟩,O⟩:=F.cell _ ov (.inl hy);rw [q2] at hc';cases hc';exact no hoc
include I F hnz in
theorem dc.exc (c:dc B env σ H s₀ s z ea t cls ws s'){s₅:Shared}(T:Tr (bT env) s₅ H s' H B):s₅.heap.ExcAt ea cls (.ref t)/\s₅.heap.TupAt t ws:=by
 obtain ⟨oe,fs,hoe,hoec,hoed,hoe0⟩:=c.fly.first;obtain ⟨ot,kt,hot,hotc,hotd⟩:=c.tup;obtain ⟨m,hm⟩:=hnz;obtain ⟨oZ,ez,pz,hoZ,hdZ,O⟩:=c.sl.ns hm
 have nz:∀{a o},s'.heap.get? a=some o->(∀e p,o.data≠.dict e p)->bx env.locals z a:=λe hd=>⟨c.frm.nloc e hd,λq=>by
   rw [q,hoZ] at e;cases e;exact hd _ _ hdZ⟩
 exact ⟨⟨oe,fs,oQ I F T c.fly.2.1 hoe (nz hoe λO O=>by rw [hoed];(intros;first | contradiction | (intro q;cases q))),hoec,hoed,hoe0⟩,ot,kt,oQ I F T c.nt hot (nz hot λO O=>by rw [hotd];(intros;first | contradiction | (intro q;cases q))),hotc,hotd⟩
end
theorem CE {nn:String}(FX:ExcStrFacts cls nn){w n:Str}{wp ap sp np scp acp aep hp:Pos}{s₀ s₄:Shared}{env:Env}{z ea t W:Addr}{ws:List Value}(e:a9 B fi env)(hu:A.units+60<cLine)(I:Inv B H s)(F:aA s H σ env B)(hnz:∃m,s.heap.Ns z m)
   (c:dc B env σ H s₀ s z ea t cls ws s₄)(hm:nZ msg ws)
   (hw:(w,NameKind.local,some (PV.lref W))∈σ)(hn:(n,NameKind.local,Option.none)∈σ)(hs:(Ω "str",NameKind.globalImplicit,some (PV.raw (.type "str")))∈σ)
   (u:Upd W xs (xs++[.str (qV msg)]) H H')(hz:xs.length<=sizeLine)(hwn:w≠n)(hdw:(w==("__debug__" : Str))=false)(hdn:(n==("__debug__" : Str))=false)
   (he:∀env,eval (.Call (.Attribute (.Name w wp) (Ω "append") ap) [.Call (.Name (Ω "str") sp) [.Name n np] [] scp] [] acp) env=(do
     let ov<-eval (.Name w wp) env
     standAt ap.atName
     let (f,first)<-holding [ov] (getMethod ov (Ω "append") (do return (<-importBound (.Name w wp) env).getD true))
     callWith acp f first (backTo acp (starEach [.Call (.Name (Ω "str") sp) [.Name n np] [] scp] env)) [])){E₁ E₂:EP} :
   wpAny (model B.prog B.w) (A.mark (some (.ref ea))) (storeName env n (.ref ea)) (λO s₃=>wpAny (model B.prog B.w) (A.mark (some (.ref ea))) (execs [pC w n wp ap sp np scp acp aep] env) (λf s₄=>wpAny (model B.prog B.w) A (do bindName env n .none;unbindBehindTheSuite env n hp) (λO s₅=>Nx B env σ H s₀ H' f s₅) E s₄) E₁ s₃) E₂ s₄:=by
 obtain ⟨σ',hrep,hrn,hro⟩:=aAi (p:=PV.raw (.ref ea)) hn;refine wpm (dD e c.tr.inv c.frm (.raw (.ref ea)) hrep (.inl rfl)) (λO s₅ x=>?_);have y:=c.exc I F hnz x.1;refine wpm (aCb FX e hu x.1.inv x.2 (hro _ hw hwn) hrn (hro _ hs (F.ne hs hn (by intros;first | contradiction | (intro q;cases q)))) y.1 y.2 hm u hz hdw hdn he) (λfl s₆ z=>?_);refine wpm (Fo (σ:=σ) e z.2.inv (x.2.tr x.1.inv z.2) hrn hrep.keys.symm λy k ov hy=>?_) (λO s₇ v=>⟨z.1,(c.tr.trans x.1).trans (z.2.up.trans v.1),v.2⟩);by_cases hyn:y=n
 . subst hyn
   cases (F.kindOf hn).symm.trans (F.kindOf hy);exact .inl ⟨rfl,(vM F.nodupS hn hy).symm⟩
 . exact .inr ⟨hyn,hro _ hy hyn⟩
inductive aGw (B:aI)(fi:aN)(d:Nat)(σ:St)(cls:String)(msg:Option Str)(args:List Expr)(H:AH)(f:PV)(H₁:AH):Prop
 | mk (a:H₁=H) (k:bo B f) (h:EvL B fi d NoE args σ H λvs H₂=>H₂=H/\oJ B d f vs H cls msg)
theorem gI {nn:String}(FX:ExcStrFacts cls nn){func:Expr}{args:List Expr}{cpos epos tpos cp hp:Pos}{cx w n:Str}{wp ap sp np scp acp aep:Pos}{W:Addr}
   (hexc:isSubtype (.type cls) (.type "BaseException")=pure true)(hnt:isSubtype (.type ((Manifest.find? cls).elim "type" λx=>x.metatype)) (.type "tuple")=pure false)(hsub:isSubtype (.type cls) (.type cls)=pure true)
   (h:Ev NoE B d fi σ H func (aGw B fi d σ cls msg args H))
   (hw:(w,NameKind.local,some (PV.lref W))∈σ)(hn:(n,NameKind.local,Option.none)∈σ)(hs:(Ω "str",NameKind.globalImplicit,some (PV.raw (.type "str")))∈σ)(hc:(cx,NameKind.globalImplicit,some (PV.raw (.type cls)))∈σ)
   (u:Upd W xs (xs++[.str (qV msg)]) H H')(hz:xs.length<=sizeLine)(hwn:w≠n)(q:XsF B d fi H' σ rest Qn Qf)
   (he:autoParam (∀env,eval (.Call (.Attribute (.Name w wp) (Ω "append") ap) [.Call (.Name (Ω "str") sp) [.Name n np] [] scp] [] acp) env=(do
     let ov<-eval (.Name w wp) env
     standAt ap.atName
     let (f,first)<-holding [ov] (getMethod ov (Ω "append") (do return (<-importBound (.Name w wp) env).getD true))
     callWith acp f first (backTo acp (starEach [.Call (.Name (Ω "str") sp) [.Name n np] [] scp] env)) [])) nC)
   (hpl:autoParam (args.all av=true) nA)
   (hec:autoParam (∀env,eval (.Call func args [] cpos) env=(do callWith cpos (<-eval func env) [] (backTo cpos (starEach args env)) (backToKw cpos (keywordEach [] env)))) nC)
   (hsw:autoParam (∀env,swapsWith (.Call func args [] cpos) none epos.line env=pure false) nC)
   (hdw:autoParam ((w==("__debug__" : Str))=false) nB)(hdn:autoParam ((n==("__debug__" : Str))=false) nB)(hdc:autoParam ((cx==("__debug__" : Str))=false) nB) :
   XsF B d fi H σ (.Try [.Expr (.Call func args [] cpos) epos] [.ExceptHandler (some (.Name cx cp)) (some n) [pC w n wp ap sp np scp acp aep] hp] [] [] tpos::rest) Qn Qf:=λA s env e R I F hfr hf=>by
 refine wpAny_execs_cons (wpAny_mono (Q:=Nx B env σ H s H') ?_ (λfl s' x=>?_) λO O x=>x)
 . refine wpAny_Try_except (wpAny_execs_cons ?_)
   rw [exec_Expr env _ epos (by unfold interactive;rw [e.kindF];rfl) (hsw env)];refine wpAny_bind (wpAny_standAt (wpAny_bind ?_));refine Call_ (wpAny_mono (h A s env e R I F) (λfv s₁ hh1=>?_) λO O x=>x.elim) (hec env);obtain ⟨f,H₁,t₁,q₁,hH,hk,h₁⟩:=hh1;subst hH;refine ae (au hpl (wpAny_mono (ao h₁ hpl A s₁ env e R t₁.inv (F.tr I t₁)) (λvs s₀ hh1=>?_) λO O x=>x.elim));obtain ⟨ps,H₂,t₂,l₂,q₂,hH,hX⟩:=hh1;subst hH;refine ⟨hk A _ H₂ s₀ fv t₂.inv (q₁.tr t₂),?_⟩;have tt:=t₁.trans t₂;have F₀:=F.tr I tt;refine wpm (hX _ A s₀ env fi σ e R tt.inv F₀ hfr hf fv vs (q₁.tr t₂) q₂ λz s' I' hz0 hgz hnz t' e' s₁ r=>?_) (λO O x=>x.elim);have F':=F₀.tr tt.inv t';refine eF.caughtZ (P:=λe' s₃=>wpAny (model B.prog B.w) A (handleBy e' env _) _ _ s₃) t' I' F' hz0 hgz hnz hfr hf r λea t ws s₃ hmsg c=>?_;obtain ⟨ob,hob,hobc⟩:=c.fly.there;refine wpAny_handleBy_builtin_as (X:=cls) (T:=cls) (b:=true) hexc hnt hsub (j7 e c.tr.inv c.frm hc ⟨rfl,⟨ob,hob,hobc⟩,?_⟩ hdc);rw [if_pos rfl];refine c.again t' I' F' hz0 hgz hnz λs₄ c=>?_;exact wpm (CE FX e (by have:=R.units;lia) I' F' hnz c hmsg hw hn hs u hz hwn hdw hdn he) (λO O x=>wpm x (λO O x=>wpm x (λO O x=>x.up tt)))
 . obtain ⟨hfl,t,F'⟩:=x
   subst hfl;exact wpm (q A s' env e R t.inv F' hfr hf) (λfl' s₂ hh1=>by obtain ⟨σ₂,H₂,t₂,F₂,q₂⟩:=hh1;exact ⟨σ₂,H₂,t.trans t₂,F₂,q₂⟩)
end
set_option maxHeartbeats 2000000
section
section
theorem aBq:isSubtype (.type "ValueError") (.type "BaseException")=pure true:=PySem.F.excRaise_ValueError.isExc
theorem aCz:isSubtype (.type "ZeroDivisionError") (.type "BaseException")=pure true:=PySem.F.excRaise_ZeroDivisionError.isExc
theorem aAw:isSubtype (.type ((Manifest.find? "ValueError").elim "type" λx=>x.metatype)) (.type "tuple")=pure false:=by rw [isSubtype_type];kernel_rfl
theorem aBb:isSubtype (.type ((Manifest.find? "ZeroDivisionError").elim "type" λx=>x.metatype)) (.type "tuple")=pure false:=by rw [isSubtype_type];kernel_rfl
section
variable {dV' kV' cdv':Value}
theorem zW (FL:dT B){g k:Addr}{a x:PV}{lo:Int}{fk:PV->PV}(hlo:lo<0)(h:af dV kV kB "insort_left" f cdv B)(D:aw B dV kV)(h':af dV' kV' cZ "bisect_left" g cdv' B)(D':aw B dV' kV')(K:d9 B [] d k [x] fk)
   (gb:aC B "bisect_left" (.raw (.ref g)))(gV:aC B "ValueError" (.raw (.type "ValueError")))(gl:aC B "len" (.raw (.builtin "len"))):fM B (d+2) (.raw (.ref f)) [a,x,.int lo] [(Ω "key",.raw (.ref k))] "ValueError" mx:=by
 refine h.callXK FL (λdoc pm an ct=>jN (fd:=λdV kV=>bN "insort_left" kB dV kV doc pm an cdv ct) D λS T D n t v w u ky=>kC) rfl tg (nk gb) ?_;refine mH FL ?_;ext;refine di ?_;refine' dC ?_;refine ⟨rfl,?_⟩;refine' ifn BW ?_;refine eN FL ?_ (by rfl) ⟨_,_,rfl,λO=>rfl⟩ (λO=>rfl);ext;refine ⟨rfl,aD h',?_⟩;ext;refine ⟨K.keep,?_⟩;ext;refine aF.le (Aj d) (K.call x (.head _) _ ?_);ext;refine ⟨rfl,?_⟩;ext;exact ⟨rfl,Ga FL hlo h' D' gV gl⟩
theorem DC (FL:dT B){g k:Addr}{a x:PV}{lo:Int}{fk:PV->PV}(hlo:lo<0)(h:af dV kV kR "insort_right" f cdv B)(D:aw B dV kV)(h':af dV' kV' bq "bisect_right" g cdv' B)(D':aw B dV' kV')(K:d9 B [] d k [x] fk)
   (gb:aC B "bisect_right" (.raw (.ref g)))(gV:aC B "ValueError" (.raw (.type "ValueError")))(gl:aC B "len" (.raw (.builtin "len"))):fM B (d+2) (.raw (.ref f)) [a,x,.int lo] [(Ω "key",.raw (.ref k))] "ValueError" mx:=by
 refine h.callXK FL (λdoc pm an ct=>jN (fd:=λdV kV=>bN "insort_right" kR dV kV doc pm an cdv ct) D λS T D n t v w u ky=>kS) rfl rz (mu gb) ?_;refine mH FL ?_;ext;refine di ?_;refine' dC ?_;refine ⟨rfl,?_⟩;refine' ifn BW ?_;refine eN FL ?_ (by rfl) ⟨_,_,rfl,λO=>rfl⟩ (λO=>rfl);ext;refine ⟨rfl,aD h',?_⟩;ext;refine ⟨K.keep,?_⟩;ext;refine aF.le (Aj d) (K.call x (.head _) _ ?_);ext;refine ⟨rfl,?_⟩;ext;exact ⟨rfl,FU FL hlo h' D' gV gl⟩
end
theorem aFq (F:j4 B){c P L:Addr}(N:qc B c P){l:List It}{x:It}{lo:Int}{left:Nat}(h:af .none .none oq "_law_laid" f (.ref c) B)(hL:(L,aX l)∈H)(hlo:lo<0):oJ B (d+4) (.raw (.ref f)) [.lref L,fR x,.int lo,.int (left:Nat)] H "ValueError" mx:=by
 refine h.callZ (d:=d+3) (P:=P) (λdoc pm an ct=>rY λS v w u v'=>ml) rfl sA (tC F) ?_;refine aB7 ?_;ext;refine ⟨rfl,?_⟩;by_cases hl:left=0
 . refine' ifn (λe=>bne_iff_ne.mp e (congrArg Nat.cast hl:((left:Nat):Int)=0)) ?_
   refine kT N.nr rfl gW (λO=>rfl) ∅ ?_ (by rfl) ⟨_,_,rfl,λO=>rfl⟩ (λO=>rfl);ext;refine ⟨rfl,⟨_,rfl⟩,aD F.hr,?_⟩;ext;refine ⟨rfl,_,.lref hL (.other (.other .nil)),λg hk fl Lm=>?_⟩;exact DC (d:=d+1) flat_flat hlo F.hr.flat F.D2.flat F.hbr.flat F.D4.flat (vY (xs:=[x]) Lm) F.gbr F.gV F.gln
 . refine' ifp (bne_iff_ne.mpr λe=>hl (Int.ofNat.inj e)) ?_
   refine kT N.nl rfl gW (λO=>rfl) ∅ ?_ (by rfl) ⟨_,_,rfl,λO=>rfl⟩ (λO=>rfl);ext;refine ⟨rfl,⟨_,rfl⟩,aD F.hl,?_⟩;ext;refine ⟨rfl,_,.lref hL (.other (.other .nil)),λg hk fl Lm=>?_⟩;exact zW (d:=d+1) flat_flat hlo F.hl.flat F.D1.flat F.hbl.flat F.D3.flat (vY (xs:=[x]) Lm) F.gbl F.gV F.gln
theorem imX (FL:dT B){fm fp:Addr}{cm:Value}(hm:af .none .none ie "int_divmod" fm cm B)(gz:aC B "ZeroDivisionError" (.raw (.type "ZeroDivisionError")))(gm:aC B "int_divmod" (.raw (.ref fm)))(gp:aC B "_divmod_pos" (.raw (.ref fp))){a:Int}:fM B (d+1) (.raw (.ref fm)) [.int a,.int 0] [] "ZeroDivisionError" none:=by
 refine hm.callXK FL (λdoc pm an ct=>cb λS v w=>k6) rfl qj (σ₀:=aDl a 0 none none fm fp) (.arg (by walk_at "mm") (.inl rfl) (.arg (by walk_at "mm") (.inl rfl) (.unset (.unset (.glob gz (.glob gm (.glob gp .nil))))))) ?_;refine mH FL ?_;ext;refine ⟨rfl,?_⟩;refine' ifp ∅ ?_;exact uq FL PySem.F.excCall_ZeroDivisionError PySem.F.excRaise_ZeroDivisionError excClass_ZeroDivisionError rfl (by walk_at "mm")
theorem Eo (F:aR B)(K:Kn){H':AH}(hS:(K.S,aX (aj K.sl))∈H)(hI:(K.I,aX (am K.sl))∈H)(hC:(K.C,aa (ag K.sl))∈H)(u:Upd K.W [] [.str (Ω "lo must be non-negative")] H H'){name figure tag due sought low high less upto found:Option PV}
   (h:XsF B (d+64) (fiL F) H' (stV found less upto sought low high due name figure tag F K) (aq 21) (λO H'=>Q .none H') (PX Q)) :
   XsF B (d+64) (fiL F) H (stV found less upto sought low high due name figure tag F K) (aq 20) (λO H'=>Q .none H') (PX Q):=by
 refine gI (msg:=mx) (W:=K.W) (xs:=[]) PySem.F.excStr_ValueError aBq aAw PySem.F.excCall_ValueError.sub ?_ (by walk_at "mm") (by walk_at "mm") (by walk_at "mm") (by walk_at "mm") u (bl rfl) ∅ h;ext;refine ⟨rfl,aD F.hd,?_⟩;ext;refine ⟨aK (.lref hI),cM (k:=0) (.lref hI) ∅ ∅ rfl ?_⟩;ext;refine ⟨aK (.lref hC),?_⟩;refine eW (j:=0) (.lref hC) (by rw [bw];decide) (by rw [bw];decide) ?_;ext;refine b7 ∅ ?_;ext;refine ⟨rfl,?_⟩;have h3:=Int.fmod_nonneg_of_pos (((ag K.sl).getD 0 0:Nat):Int) (show (0:Int)<3 by decide);exact aFq (d:=d+60) F.Y F.hdn F.hd hS (by omega)
theorem FZ (F:aR B)(K:Kn){H':AH}(u:Upd K.W [.str (Ω "lo must be non-negative")] [.str (Ω "lo must be non-negative"),.str (Ω "")] H H'){name figure tag due sought low high less upto found:Option PV}
   (h:XsF B (d+64) (fiL F) H' (stV found less upto sought low high due name figure tag F K) (aq 22) (λO H'=>Q .none H') (PX Q)) :
   XsF B (d+64) (fiL F) H (stV found less upto sought low high due name figure tag F K) (aq 21) (λO H'=>Q .none H') (PX Q):=by
 refine gI (msg:=none) (W:=K.W) (xs:=[.str (Ω "lo must be non-negative")]) PySem.F.excStr_ZeroDivisionError aCz aBb PySem.F.excCall_ZeroDivisionError.sub ?_ (by walk_at "mm") (by walk_at "mm") (by walk_at "mm") (by walk_at "mm") u ∅ ∅ h;ext;refine ⟨rfl,aD F.N.hm,?_⟩;ext;exact ⟨rfl,oJ.of (.other (.other .nil)) λg hk=>imX (d:=d+63) flat_flat F.N.hm.flat F.N.gz F.N.gm F.N.gp⟩
theorem GI (F:aR B)(K:Kn)(hS:(K.S,aX (aj K.sl))∈H)(hW:(K.W,[PV.str (Ω "lo must be non-negative"),.str (Ω "")])∈H){name figure tag due sought low high less upto found:Option PV}(q:Q (.bool true) H) :
   XsF B (d+64) (fiL F) H (stV found less upto sought low high due name figure tag F K) (aq 22) (λO H'=>Q .none H') (PX Q):=by
 refine XsF.of ?_;refine' aH ?_;refine rE ?_;refine aBw ?_;ext;refine cn ?_;ext;have hok:∀x∈[Ω "lo must be non-negative",Ω ""],PyData.strOk x=true:=by decide +kernel
 refine Dv (ns:=[Ω "lo must be non-negative",Ω ""]) (ms:=[Ω "lo must be non-negative",Ω ""]) (.lref hW) .list hok hok ?_;rw [decide_eq_true rfl];ext;refine aDa ?_;ext;refine yx (l:=aj K.sl) (.lref hS) .list ?_;exact q
end
end
set_option maxHeartbeats 2000000
section
noncomputable def QT:PQ:=λv O=>v=.bool true
theorem FS (F:aR B)(K:Kn){e:Nat}(hd:d=e+7){b Hd R2 R3:Addr}{xb xh x2 x3:List PV}{name figure tag due sought low high less upto:Option PV} :
   XsT (K.m+8) B (d+64) (fiL F) ([(b,xb),(Hd,xh),(R3,x3),(R2,x2),(K.W,[])]++(K.S,aX (aj K.sl))::(K.I,aX (am K.sl))::[(K.C,aa (ag K.sl))]) (stV none less upto sought low high due name figure tag F K) (aq 18) (λO H'=>QT .none H') (PX QT):=by
 refine Ei F K hd (.tail _ (.tail _ (.tail _ (.tail _ (.tail _ (.tail _ (.head _))))))) λfound=>?_;refine XsT.of ?_;refine Eo F K (.tail _ (.tail _ (.tail _ (.tail _ (.tail _ (.head _)))))) (.tail _ (.tail _ (.tail _ (.tail _ (.tail _ (.tail _ (.head _))))))) (.tail _ (.tail _ (.tail _ (.tail _ (.tail _ (.tail _ (.tail _ (.head _)))))))) (.tail (.tail (.tail (.tail .head)))) ?_;refine FZ F K (.tail (.tail (.tail (.tail .head)))) ?_;exact GI F K (.tail _ (.tail _ (.tail _ (.tail _ (.tail _ (.head _)))))) (.tail _ (.tail _ (.tail _ (.tail _ (.head _))))) rfl
theorem Ex (F:aR B)(K:Kn){e:Nat}(hd:d=e+7)(hS:Builtin.Int.intBits (bL K.sl)<=1100001)(X:Kx){R2 R3:Addr}{x2 x3:List PV} :
   XsT (K.m+8) B (d+64) (fiL F) ([(R3,x3),(R2,x2),(K.W,[]),(K.S,[]),(K.I,tJ K.sl),(K.C,aa (ag K.sl))]) (stE none none none none none none none none none F K X) (aq 6) (λO H'=>QT .none H') (PX QT):=by
 with_reducible refine aCd F K X ?_
 with_reducible refine aC2 F K X rfl λHd=>?_
 with_reducible refine aCt F K X λb=>?_
 refine aC6 F K X (List.Mem.tail _ (List.Mem.head _)) λtold=>?_
 with_reducible refine aCl F K X hS λpart=>?_
 refine FJ F K X (e:=e+1) (by omega) (its:=tJ K.sl) (by exact Ap rfl) (.tail (.tail (.tail (.tail (.tail (.tail .head)))))) (wl K.sl).symm ?_;refine F5 F K X (pre:=[(b,_),(Hd,_),(R3,x3),(R2,x2),(K.W,[])]) (post:=[(K.C,aa (ag K.sl))]) λitem=>?_;refine Ea F K X (.tail _ (.tail _ (.tail _ (.tail _ (.tail _ (.head _)))))) (.tail _ (.tail _ (.tail _ (.tail _ (.tail _ (.tail _ (.head _))))))) ?_;refine Eu F K X (.tail _ (.tail _ (.tail _ (.tail _ (.tail _ (.head _)))))) ?_;refine EX F K (.tail _ (.tail _ (.tail _ (.tail _ (.tail _ (.tail _ (.head _))))))) λname figure tag due=>?_;refine ER F K (.tail _ (.tail _ (.tail _ (.tail _ (.tail _ (.head _)))))) (.tail _ (.tail _ (.tail _ (.tail _ (.tail _ (.tail _ (.head _))))))) λdue sought low high less upto=>?_;exact FS F K hd
theorem Fy (F:aR B){e:Nat}(hd:d=e+7){sl:List Int}(hn:sl.length<=63)(hS:Builtin.Int.intBits (bL sl)<=1100001) :
   XsF B (d+64) (fiL F) [] (stL (F:=F) (script_:=some (.list (cf sl)))) (aq 0) (λO H'=>QT .none H') (PX QT):=by
 with_reducible refine aBg F hn λC=>?_
 with_reducible refine aBf F ?_
 with_reducible refine aAy F λm=>?_
 with_reducible refine aB0 F hn λI S W=>?_
 refine aCj F ⟨sl,m,C,I,S,W⟩ (e:=e+1) (by omega) λR2 R3 place closing ends=>?_;exact Ex F ⟨sl,m,C,I,S,W⟩ hd hS ⟨place,closing,ends⟩
end
noncomputable def oAt (K:Frag)(a:Addr):Obj:=(K.lookup a).getD default
noncomputable def oFd (o:Obj):Option FuncData:=match o.data with | .func fd=>some fd | _=>none
noncomputable def aF4 (o:Obj):Value:=((oFd o).map (·.doc)).getD .none
noncomputable def oPm (o:Obj):Value:=((oFd o).map (·.pyModule)).getD .none
noncomputable def oAn (o:Obj):Option Addr:=(oFd o).bind (·.annotations)
noncomputable def oCt (o:Obj):Value:=((oFd o).map (·.closureTuple)).getD .none
noncomputable def aAs (o:Obj):Array Value×Nat:=match o.data with | .seq vs n=>(vs,n) | _=>(#[],0)
noncomputable def Gx (o:Obj):Nat:=(aAs o).2
noncomputable def GO:Value->Tok
 | .int _ t=>t
 | .str _ t=>t
 | _=>default
noncomputable def aD8 (o:Obj):Tok:=GO ((aAs o).1.getD 0 .none)
noncomputable def Cq (o:Obj):Array DictEntry×Nat:=match o.data with | .dict es n=>(es,n) | _=>(#[],0)
noncomputable def aEw (o:Obj):Int:=((Cq o).1.getD 0 default).hash
noncomputable def aDq (o:Obj):Tok:=GO ((Cq o).1.getD 0 default).key
noncomputable def aBt (o:Obj):Nat:=(Cq o).2
noncomputable def FnK (K:Frag)(f:Addr)(name:Str)(k:Nat)(dV kV cdv:Value):Prop:=
 K.lookup f=some ⟨(oAt K f).cls,(oAt K f).dict,.func (fnOf name name (ee (aJ k)) (aZ (aJ k)) (aG (aJ k)) dV kV (aF4 (oAt K f)) (oPm (oAt K f)) (oAn (oAt K f)) cdv (oCt (oAt K f))),(oAt K f).slots⟩/\codeIn K cdv name=true
noncomputable def yE (K:Frag)(T D:Addr):Prop:=
 K.lookup T=some (bf #[.int 0 (aD8 (oAt K T)),.none] (Gx (oAt K T)))/\K.lookup D=some (qf (aEw (oAt K D)) (aDq (oAt K D)) (aBt (oAt K D)))
noncomputable def GlK (K:Frag)(x:Str)(a:Addr):Prop:=nsIn K mainGlobals x=some (some (.ref a))
noncomputable def Gm (K:Frag)(x:Str):Value:=((nsIn K mainGlobals x).getD none).getD .none
noncomputable def aGo (K:Frag)(x:Str)(i:Int):Prop:=nsIn K mainGlobals x=some (some (.int i (GO (Gm K x))))
noncomputable def aGm (K:Frag)(x:Str)(i:Str):Prop:=nsIn K mainGlobals x=some (some (.str i (GO (Gm K x))))
noncomputable def BiK (K:Frag)(x:Str)(v:Value):Prop:=nsIn K mainGlobals x=some none/\bootBuiltins x=some v/\x≠"__name__"
noncomputable def vU (o:Obj):Array Value:=match o.data with | .fields fs=>fs | _=>#[]
noncomputable def DR (o:Obj):Array Value:=(aAs o).1
noncomputable def DB (K:Frag)(p c:Addr)(code:Array Nat)(kind:Nat):Prop:=
 K.lookup p=some ⟨.type "re.Pattern",none,.fields (vU (oAt K p)),(oAt K p).slots⟩/\Builtin.Re.reRawNat ((vU (oAt K p)).getD 6 .none)=kind/\Builtin.Re.reRawNat ((vU (oAt K p)).getD 2 .none)=0/\(vU (oAt K p)).getD 5 .none=.ref c/\
   K.lookup c=some ⟨(oAt K c).cls,(oAt K c).dict,.seq (DR (oAt K c)) (Gx (oAt K c)),(oAt K c).slots⟩/\((DR (oAt K c)).map Builtin.Re.reRawOf).map (·.toNat)=code
section
variable {K:Frag}{w:World}
theorem FnK.is (X:K.In B.g){name:Str}(h:FnK K f name k dV kV cdv):af dV kV k name f cdv B:=
 ⟨⟨_,_,_,_,_,_,_,X _ _ h.1⟩,codeRec_of X h.2⟩
theorem yE.is (X:K.In B.g){T D:Addr}(h:yE K T D):aw B (.ref T) (.ref D):=
 ⟨⟨T,_,_,rfl,X _ _ h.1⟩,D,_,_,_,rfl,X _ _ h.2⟩
theorem GlK.is (X:K.In B.g)(h:GlK K x a):aC B x (.raw (.ref a)):=⟨_,.inl (mg_of X B.nsg h),λO O=>.raw _⟩
theorem BiK.is (X:K.In B.g){v:Value}(h:BiK K x v):aC B x (.raw v):=⟨_,.inr ⟨ns_none_of X B.nsg h.1,h.2⟩,λO O=>.raw _⟩
theorem GK (X:K.In B.g){i:Int}(h:aGo K x i):aC B x (.int i):=⟨_,.inl (mg_of X B.nsg h),λO O=>.int _ _⟩
theorem E7 (X:K.In B.g){i:Str}(h:aGm K x i):aC B x (.str i):=⟨_,.inl (mg_of X B.nsg h),λO O=>.str _ _⟩
theorem DB.is (X:K.In B.g){p c:Addr}{code:Array Nat}{kind:Nat}(h:DB K p c code kind):cc B.g p code kind:=
 ⟨_,_,c,_,_,_,X _ _ h.1,h.2.1,h.2.2.1,h.2.2.2.1,X _ _ h.2.2.2.2.1,rfl,h.2.2.2.2.2⟩
end
noncomputable def f8:List (Addr×Addr):=[(87,83),(94,90),(198,194),(203,201)]
section
variable {P:Params}
noncomputable abbrev aG2:Addr->Pos->Option Str:=λP O=>if P=83 then some "_int2digits.<locals>.inner" else if P=90 then some "_digits2int.<locals>.inner" else if P=194 then some "_law_laid.<locals>.<lambda>" else some "law.<locals>.<lambda>"
noncomputable abbrev ES (X:(hd01.heap_1 P).In B.g)(n1:ax "_int2digits.<locals>.inner" (iC nI) 83 87 B)(n2:ax "_digits2int.<locals>.inner" (iC nO) 90 94 B):b8 B where
 f2:=74
 f3:=81
 cd2:=.ref 73
 cd3:=.ref 80
 h2:=FnK.is X ⟨by kernel_rfl,by kernel_rfl⟩
 h3:=FnK.is X ⟨by kernel_rfl,by kernel_rfl⟩
 g2:=GlK.is X (by kernel_rfl:_=_)
 g3:=GlK.is X (by kernel_rfl:_=_)
 gl:=GK X (by kernel_rfl:_=_)
 gd:=BiK.is X ⟨by kernel_rfl,by kernel_rfl,by decide⟩
 fi:=88
 fo:=95
 ci:=87
 co:=94
 pi:=83
 po:=90
 hi:=FnK.is X ⟨by kernel_rfl,by kernel_rfl⟩
 ho:=FnK.is X ⟨by kernel_rfl,by kernel_rfl⟩
 ni:=n1
 no:=n2
 gi:=GlK.is X (by kernel_rfl:_=_)
 go:=GlK.is X (by kernel_rfl:_=_)
 gln:=BiK.is X ⟨by kernel_rfl,by kernel_rfl,by decide⟩
 grv:=BiK.is X ⟨by kernel_rfl,by kernel_rfl,by decide⟩
 fp:=102
 fm:=109
 cp:=.ref 101
 cm:=.ref 108
 hp:=FnK.is X ⟨by kernel_rfl,by kernel_rfl⟩
 hm:=FnK.is X ⟨by kernel_rfl,by kernel_rfl⟩
 gp:=GlK.is X (by kernel_rfl:_=_)
 gm:=GlK.is X (by kernel_rfl:_=_)
 gz:=BiK.is X ⟨by kernel_rfl,by kernel_rfl,by decide⟩
 f:=178
 c:=.ref 177
 h:=FnK.is X ⟨by kernel_rfl,by kernel_rfl⟩
 g:=GlK.is X (by kernel_rfl:_=_)
 gDm:=BiK.is X ⟨by kernel_rfl,by kernel_rfl,by decide⟩
 gAb:=BiK.is X ⟨by kernel_rfl,by kernel_rfl,by decide⟩
 gRa:=BiK.is X ⟨by kernel_rfl,by kernel_rfl,by decide⟩
 gCh:=BiK.is X ⟨by kernel_rfl,by kernel_rfl,by decide⟩
 gOr:=BiK.is X ⟨by kernel_rfl,by kernel_rfl,by decide⟩
noncomputable abbrev aCi (X:(hd01.heap_1 P).In B.g):j4 B where
 fl:=136
 fr:=118
 bl:=145
 br:=127
 cl:=.ref 135
 cr:=.ref 117
 dl:=.ref 144
 dr:=.ref 126
 dV1:=.ref 128
 kV1:=.ref 129
 dV2:=.ref 110
 kV2:=.ref 111
 dV3:=.ref 137
 kV3:=.ref 138
 dV4:=.ref 119
 kV4:=.ref 120
 hl:=FnK.is X ⟨by kernel_rfl,by kernel_rfl⟩
 hr:=FnK.is X ⟨by kernel_rfl,by kernel_rfl⟩
 hbl:=FnK.is X ⟨by kernel_rfl,by kernel_rfl⟩
 hbr:=FnK.is X ⟨by kernel_rfl,by kernel_rfl⟩
 D1:=yE.is X ⟨by kernel_rfl,by kernel_rfl⟩
 D2:=yE.is X ⟨by kernel_rfl,by kernel_rfl⟩
 D3:=yE.is X ⟨by kernel_rfl,by kernel_rfl⟩
 D4:=yE.is X ⟨by kernel_rfl,by kernel_rfl⟩
 gl:=GlK.is X (by kernel_rfl:_=_)
 gr:=GlK.is X (by kernel_rfl:_=_)
 gbl:=GlK.is X (by kernel_rfl:_=_)
 gbr:=GlK.is X (by kernel_rfl:_=_)
 gV:=BiK.is X ⟨by kernel_rfl,by kernel_rfl,by decide⟩
 gln:=BiK.is X ⟨by kernel_rfl,by kernel_rfl,by decide⟩
noncomputable abbrev aC9 (X:(hd01.heap_1 P).In B.g):er B where
 p1:=36
 p2:=41
 p3:=46
 h1:=DB.is X (c:=35) ⟨by kernel_rfl,by kernel_rfl,by kernel_rfl,by kernel_rfl,by kernel_rfl,by kernel_rfl⟩
 h2:=DB.is X (c:=40) ⟨by kernel_rfl,by kernel_rfl,by kernel_rfl,by kernel_rfl,by kernel_rfl,by kernel_rfl⟩
 h3:=DB.is X (c:=45) ⟨by kernel_rfl,by kernel_rfl,by kernel_rfl,by kernel_rfl,by kernel_rfl,by kernel_rfl⟩
 g1:=GlK.is X (by kernel_rfl:_=_)
 g2:=GlK.is X (by kernel_rfl:_=_)
 g3:=GlK.is X (by kernel_rfl:_=_)
 gc:=E7 X (by kernel_rfl:_=_)
noncomputable abbrev GC (X:(hd01.heap_1 P).In B.g):gK B where
 f:=159
 g:=152
 c:=166
 cdf:=.ref 158
 cdg:=.ref 151
 cdc:=.ref 165
 hf:=FnK.is X ⟨by kernel_rfl,by kernel_rfl⟩
 hg:=FnK.is X ⟨by kernel_rfl,by kernel_rfl⟩
 hc:=FnK.is X ⟨by kernel_rfl,by kernel_rfl⟩
 gf:=GlK.is X (by kernel_rfl:_=_)
 gg:=GlK.is X (by kernel_rfl:_=_)
 gc:=GlK.is X (by kernel_rfl:_=_)
 gl:=BiK.is X ⟨by kernel_rfl,by kernel_rfl,by decide⟩
 ge:=BiK.is X ⟨by kernel_rfl,by kernel_rfl,by decide⟩
noncomputable abbrev aA6 (X:(hd01.heap_1 P).In B.g)(n1:ax "_int2digits.<locals>.inner" (iC nI) 83 87 B)(n2:ax "_digits2int.<locals>.inner" (iC nO) 90 94 B)(N:qc B 198 194)(k:∀p,ax "law.<locals>.<lambda>" p 201 203 B):aR B where
 Y:=aCi X
 R:={ M:=GC X,r:=192,cr:=.ref 191,hr:=FnK.is X ⟨by kernel_rfl,by kernel_rfl⟩,gr:=GlK.is X (by kernel_rfl:_=_),gLe:=BiK.is X ⟨by kernel_rfl,by kernel_rfl,by decide⟩,gCh:=BiK.is X ⟨by kernel_rfl,by kernel_rfl,by decide⟩ }
 N:=ES X n1 n2
 V:={ m:=185,cm:=.ref 184,hm:=FnK.is X ⟨by kernel_rfl,by kernel_rfl⟩,gm:=GlK.is X (by kernel_rfl:_=_) }
 P:=aC9 X
 lc:=203
 lP:=201
 fd:=199
 cdc:=198
 cdP:=194
 hd:=FnK.is X ⟨by kernel_rfl,by kernel_rfl⟩
 hdn:=N
 gd:=GlK.is X (by kernel_rfl:_=_)
 fv:=173
 cv:=.ref 172
 hv:=FnK.is X ⟨by kernel_rfl,by kernel_rfl⟩
 gv:=GlK.is X (by kernel_rfl:_=_)
 fq:=53
 cq:=.ref 52
 hq:=FnK.is X ⟨by kernel_rfl,by kernel_rfl⟩
 gq:=GlK.is X (by kernel_rfl:_=_)
 fp:=60
 cp:=.ref 59
 hp:=FnK.is X ⟨by kernel_rfl,by kernel_rfl⟩
 gp:=GlK.is X (by kernel_rfl:_=_)
 fe:=67
 ce:=.ref 66
 he:=FnK.is X ⟨by kernel_rfl,by kernel_rfl⟩
 ge:=GlK.is X (by kernel_rfl:_=_)
 gE:=BiK.is X ⟨by kernel_rfl,by kernel_rfl,by decide⟩
 gZ:=BiK.is X ⟨by kernel_rfl,by kernel_rfl,by decide⟩
 gSum:=BiK.is X ⟨by kernel_rfl,by kernel_rfl,by decide⟩
 gMax:=BiK.is X ⟨by kernel_rfl,by kernel_rfl,by decide⟩
 gMin:=BiK.is X ⟨by kernel_rfl,by kernel_rfl,by decide⟩
 gSrt:=BiK.is X ⟨by kernel_rfl,by kernel_rfl,by decide⟩
 gStr:=BiK.is X ⟨by kernel_rfl,by kernel_rfl,by decide⟩
 gli:=BiK.is X ⟨by kernel_rfl,by kernel_rfl,by decide⟩
 n1:=k _
 n2:=k _
 n3:=k _
 n4:=k _
end
theorem zr {M:Nat}:∀(l:List Int),(∀x∈l,x.natAbs<=M)->l.sum.natAbs<=l.length*M:=by
 intro l
 induction l with
 | nil=>exact λO=>Ab _
 | cons x r ih=>
   intro h;have h:=List.forall_mem_cons.mp h;rw [BB,Bf,Nat.succ_mul];exact ntr (Int.natAbs_add_le x r.sum) (Ah x.natAbs _▸Ay (ih h.2) h.1)
theorem yT {a c:Nat}{S:Int}(hc:a+1<=c)(ha:9<=a)(h:S.natAbs<2 ^ a):(259+S).natAbs<2 ^ c:=by
 refine nlt ?_ (AY ∅ hc);rw [Nat.pow_succ,Nat.mul_two];exact Ae (Int.natAbs_add_le 259 S) (Nat.add_lt_add_of_le_of_lt (ntr ∅ (AY (n:=2) ∅ ha)) h)
theorem vS {N:Nat}{sl:List Int}(h:∀x∈sl,Builtin.Int.intBits x<=N)(hN:9<=N+6):Builtin.Int.intBits (259+(sl.take 60).sum)<=N+7:=by
 refine intBits_le_iff.mpr (yT (Aa (N+7)) hN ?_);have h1:=zr (M:=2 ^ N-1) (sl.take 60) λx hx=>AT (intBits_le_iff.mp (h x (Bx hx)));have h2:(sl.take 60).length<=64:=ntr (List.length_take_le _ _) ∅;rw [AB,AN];exact Ae (ntr h1 (A1 _ h2)) (Nat.mul_lt_mul_of_pos_left (Nat.sub_lt (AI N) Nat.one_pos) ∅)
theorem p8 {P:Params}(sl:List Int):∀{vs:List Value},WellAll P h vs (ofPys (sl.map .int))->VRs h T vs (cf sl):=by
 induction sl with
 | nil=>intro vs x;cases x;exact .nil
 | cons i r ih=>
   intro vs x
   cases (x:WellAll P h vs (.int i::ofPys (r.map .int))) with
   | cons a b=>cases a;exact .cons (.int _ _) (ih b)
theorem D9 (F:aR B){sl:List Int}(h:af .none .none iP "law" f (.ref F.lc) B)(hn:sl.length<=63)(hS:Builtin.Int.intBits (bL sl)<=1100001) :
   ∀A s,ai A (7+64+1)->A.frames=some []->Inv B [] s->∀fv vs kvs,VR s.heap (Trk [] B) fv (.raw (.ref f))->VRs s.heap (Trk [] B) vs [.list (cf sl)]->dE (Trk [] B) s.heap kvs []->
   wpAny (model B.prog B.w) A (call fv vs kvs) (aL B [] s QT) NoE s:=
 xA (P:=F.lP) (d:=7+64) h (λdoc pm an ct=>cO λS v=>Df) rfl Gf (GR F) (Fy (d:=7) F (e:=0) rfl hn hS)
theorem aEz {P:Params}(X:(hd01.heap_1 P).In B.g):af .none .none iP "law" 204 (.ref 203) B:=FnK.is X ⟨by kernel_rfl,by kernel_rfl⟩
theorem join01 {w:World}{mg mb:Str->Option Value}(X:(hd01.heap_1 w.params).In s₁.heap)(hT8:∀P∈([194,90,83,201]:List Addr),s₁.heap.get? P=some (tabObj #[]))(G:s₁.heap.Ns mainGlobals mg)(Gb:s₁.heap.Ns builtinsNs mb)
   (nl:s₁.heap.NoLimit)(boot:∀x:Str,x≠"__name__"->mb x=bootBuiltins x)(bmain:∃bm ob,mg "__builtins__" = some (.ref bm)/\bm≠builtinsNs/\s₁.heap.get? bm=some ob/\ob.cls=.type "module"/\ob.dict=some builtinsNs/\ob.data=.plain)
   (hgens:s₁.gens=#[]){sl:List Int}(hn:sl.length<=63)(hbits:∀x∈sl,Builtin.Int.intBits x<=1048576){fa:Addr}(hmg:mg "law" = some (.ref fa))(W:Well w.params s₁.heap (.ref l) (ofPy (.list (sl.map .int)))) :
   wpAny (model pw w) callerA (call (.ref fa) [.ref l] []) (λv s'=>v=.bool true/\OldK s₁.heap s'.heap/\s'.os=s₁.os/\AllBare s'.gens) NoE s₁:=by
 obtain rfl:fa=204:=Value.ref.inj (Option.some.inj (hmg.symm.trans (mg_of X G (show GlK (hd01.heap_1 w.params) "law" 204 from (by kernel_rfl:_=_)))));have hT:TabsAt f8 s₁.heap:=fmc ⟨⟨codeHd_of_K X (by kernel_rfl),hT8 83 (.tail _ (.tail _ (.head _)))⟩,fmc ⟨⟨codeHd_of_K X (by kernel_rfl),hT8 90 (.tail _ (.head _))⟩,fmc ⟨⟨codeHd_of_K X (by kernel_rfl),hT8 194 (.head _)⟩,fmc ⟨⟨codeHd_of_K X (by kernel_rfl),hT8 201 (.tail _ (.tail _ (.tail _ (.head _))))⟩,λO h=>(Be h).elim⟩⟩⟩⟩;have XG:(hd01.heap_1 w.params).In (ghostOf s₁.heap f8):=ghost_K hT X (by kernel_rfl);have hCA:=ghost_code hT
 let B:aI:={ prog:=pw,w:=w,g:=ghostOf s₁.heap f8,mg:=mg,mb:=mb,K:=hd01.heap_1 w.params,tabs:=f8,qn:=aG2,os:=s₁.os,inK:=XG,nsg:=ghost_ns hT G,nsb:=ghost_ns hT Gb,
                   nolimit:=let ⟨mc,a,r⟩:=nl;⟨mc,ghost_ns hT a,r⟩,boot:=boot,tabsHidden:=λq hq=>hideAll_none _ (Bk hq),low:=by decide }
 have I:Inv B [] s₁:={
   keep:=λa o e=>of_hideAll _ e
   size:=Ad (hideAll_size _ _)
   tabs:=λq hq=>⟨#[],(hT q hq).2,trivial,λpos cv e=>by cases e⟩
   bare:=by rw [hgens];exact .of_eq rfl
   os:=rfl
   nodup:=.nil
   hid:=λq hq=>(by cases hq)
   objs:=λq hq=>(by cases hq)}
 obtain ⟨bm,ob,e1,e2,e3,e4,e5,e6⟩:=bmain;obtain rfl:bm=4:=Value.ref.inj (Option.some.inj (e1.symm.trans (mg_of X G (show GlK (hd01.heap_1 w.params) "__builtins__" 4 from (by kernel_rfl:_=_)))));have hob:(ghostOf s₁.heap f8).get? 4=some ob:=ghost_get hT e3 (λq=>by rw [q] at e4;cases e4);have ba:∀P:Addr,P≠4->B.g.BuiltinsAt B.mg P:=λP hP=>⟨4,ob,e1,e2,by decide,λq=>hP q.symm,hob,e4,e5,e6⟩;have n1:ax "_int2digits.<locals>.inner" (iC nI) 83 87 B:=⟨.head _,hCA.1,λO O O=>rfl,ba 83 ∅⟩;have n2:ax "_digits2int.<locals>.inner" (iC nO) 90 94 B:=⟨.tail _ (.head _),hCA.2.1,λO O O=>rfl,ba 90 ∅⟩;have nL:∀p,ax "_law_laid.<locals>.<lambda>" p 194 198 B:=λp=>⟨.tail _ (.tail _ (.head _)),hCA.2.2.1,λO O O=>rfl,ba 194 ∅⟩;have nW:∀p,ax "law.<locals>.<lambda>" p 201 203 B:=λp=>⟨.tail _ (.tail _ (.tail _ (.head _))),hCA.2.2.2.1,λO O O=>rfl,ba 201 ∅⟩;obtain ⟨F,hF⟩:∃F:aR B,F.lc=203/\af .none .none iP "law" 204 (.ref F.lc) B:=⟨aA6 (B:=B) XG n1 n2 ⟨nL _,nL _⟩ nW,rfl,aEz (B:=B) XG⟩
 have hl:∃vs,s₁.heap.get? l=some (aO vs 0)/\VRs s₁.heap (Trk [] B) vs.toList (cf sl):=by
   simp only [ofPy] at W
   cases W with
   | list e a=>exact ⟨_,e,p8 _ a⟩
 obtain ⟨vs,hl1,hl2⟩:=hl
 have hlt:¬Trk [] B l:=λt=>by
   rcases t with t | t | t
   . cases t
   . obtain ⟨q,hq,rfl⟩:=mmp t
     have:=(hT q hq).2;rw [hl1] at this;cases this
   . cases t
 have hb:=vS hbits ∅;refine wpm (D9 F hF.2 hn (ntr hb ∅) callerA s₁ ⟨rfl,by decide,by decide⟩ rfl I (.ref 204) [.ref l] [] (.raw _) (.cons (.list hl1 hlt hl2) .nil) ⟨.nil,rfl⟩) (λv s' ⟨p,H',t,r,q⟩=>?_);have hq:p=.bool true:=q;subst hq
 (first | obtain ⟨O,rfl⟩:=r.inv | obtain rfl:=r.inv | cases r)
 have hk:∀b o,b∉f8.map (·.2)->s₁.heap.get? b=some o->s'.heap.get? b=some o:=λb o hb e=>t.inv.keep b o (ghost_ne e hb);refine ⟨rfl,⟨λb o e=>?_,λb o e=>?_⟩,t.inv.os,t.inv.bare⟩
 . by_cases hb:b∈f8.map (·.2)
   . obtain ⟨q,hq,rfl⟩:=mmp hb
     obtain ⟨ps,hps,O⟩:=t.inv.tabs q hq;have e2:=(hT q hq).2;rw [e] at e2;have e3:=Option.some.inj e2;subst e3;exact .inr (.inl ⟨((hT q hq).1.tab (hT q hq).2).isCodeTable,rfl,#[],ps,rfl,by rw [Array.empty_append];exact hps⟩)
   . exact .inl (hk b o hb e)
 . by_cases hb:b∈f8.map (·.2)
   . obtain ⟨q,hq,rfl⟩:=mmp hb
     obtain ⟨ps,hps,O⟩:=t.inv.tabs q hq;exact ⟨_,hps⟩
   . exact ⟨o,hk b o hb e⟩
end Mine.Tactic
set_option tactic.hygienic true
open PySem PySem.W PyProof.Rows
set_option maxHeartbeats 4000000 in
theorem PySem.Challenge.cw_wc0020_01_holds : PySem.Challenge.rw_wc0020_01.Holds := by
  refine Mine.Tactic.hd01 ?_
  intro w s₀ s₁ mg mb G Y fa o pm cd doc dV kV ho hd hcd hD hmg hg args vals as hpre hlay hrd hwl hlo
  have KX := km_in_of Y
  km_tabs Y
  clear Y
  refine Ground.open G ?_
  intro T B D TE TW
  clear ho hd hcd hD B D TE TW G
  wrow_args hpre hlay hrd hwl hlo
  rename_i sl _ _ hlb _ _ _ _ l _ _ _ _ W _ _ _ hlen _
  have hlen' : sl.length ≤ 63 := by omega
  refine wpAny_mono (Mine.Tactic.join01 KX hT8 T.g T.b T.nolimit T.builtins T.bmain hg hlen' (fun x hx => PyData.bits_item_of_ints hlb hx) hmg W) ?_ (fun _ _ x => x.elim)
  rintro v s' ⟨rfl, hK, hos, hbare⟩
  exact ⟨.inl ⟨_, .bool true, _, rfl, raisesW_false (by wrow_none_raised), ReadsW.bool _, postW_of (by wrow_shape) (by wtm_val) (by w_fin), fun _ => ⟨.nil, fun _ h => nomatch h⟩⟩, hK, hos, hbare⟩
