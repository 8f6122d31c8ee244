import PyProof.Rows.All
import Wide.All
import OpenK.AllK
import Wide.FinOn
import PyProof.Rows.SortRuns
import PyProof.ToksMono
import KE.BitLaws
import KE.IntBitsLaws
import KE.KxBytes
import KE.KxDecode
import PyProof.ZipIter
import PyProof.Rows.CatchStr
import PyProof.Rows.FactsExc_ZeroDivisionError
import PyProof.NsDelKeeps
import PyProof.WalksMore
import PyProof.StrLawsTight
import PyProof.StrLawsChain
import PyProof.Rows.TupIn
import PyProof.Rows.StrCountLaw
import PySem.Challenge.RW_wc0020_02
set_option Elab.async false
set_option bootstrap.genMatcherCode false
set_option compiler.extract_closed false
set_option autoImplicit false
set_option tactic.hygienic false
set_option maxRecDepth 100000
set_option maxHeartbeats 4000000
set_option linter.all false
namespace Mine.Tactic
theorem mcp {α:Type}{a b:α}{l:List α}(h:a∈b::l):a=b\/a∈l:=List.mem_cons.mp h
theorem mmr {α β:Type}{b:β}{l:List α}{f:α->β}(h:∃a,a∈l/\f a=b):b∈l.map f:=List.mem_map.mpr h
theorem mmp {α β:Type}{b:β}{l:List α}{f:α->β}(h:b∈l.map f):∃a,a∈l/\f a=b:=List.mem_map.mp h
theorem msp {α:Type}{a b:α}(h:a∈[b]):a=b:=List.mem_singleton.mp h
theorem fmc {α:Type}{p:α->Prop}{a:α}{l:List α}(h:p a/\∀x,x∈l->p x):∀x,x∈a::l->p x:=List.forall_mem_cons.mpr h
theorem mpp {α:Type}{a:α}{l r:List α}(h:a∈l++r):a∈l\/a∈r:=List.mem_append.mp h
theorem ncp {α:Type}{a:α}{l:List α}(h:(a::l).Nodup):¬a∈l/\l.Nodup:=List.nodup_cons.mp h
theorem nlr {a b:Nat}(h:b<=a):¬a<b:=Nat.not_lt.mpr h
theorem ntr {a b c:Nat}(h:a<=b)(k:b<=c):a<=c:=Nat.le_trans h k
theorem nlt {a b c:Nat}(h:a<b)(k:b<=c):a<c:=Nat.lt_of_lt_of_le h k
theorem mcs {α:Type}{a:α}{l:List α}:a∈a::l:=.head _
theorem mcm {α:Type}(b:α){a:α}{l:List α}(h:a∈l):a∈b::l:=.tail _ h
section
namespace Rx
open PySem.Sre
theorem l0 {n:Nat}{m:M}:M.runFor (n+1) m=if m.outcome.isSome then m else M.runFor n m.step:=rfl
theorem runFor_add:∀(a b:Nat) (m:M),M.runFor (a+b) m=M.runFor b (M.runFor a m)
 | 0,b,m=>congrArg (M.runFor · m) (Nat.zero_add b)
 | a+1,b,m=>by
   rw [show a+1+b=(a+b)+1 by exact Nat.add_right_comm ..,l0,l0];by_cases h:m.outcome.isSome
   . rw [if_pos h,if_pos h]
     cases b with
     | zero=>rfl
     | succ b=>exact (if_pos h).symm
   . rw [if_neg h,if_neg h];exact runFor_add a b _
theorem rk {n:Nat}{m:M}(h:m.outcome.isSome=true):M.runFor n m=m:=by
 cases n with
 | zero=>rfl
 | succ n=>exact if_pos h
theorem runFor_le {a b:Nat}{m:M}(h:a<=b)(ha:(M.runFor a m).outcome.isSome=true):M.runFor b m=M.runFor a m:=by
 obtain ⟨c,rfl⟩:=Nat.exists_eq_add_of_le h;rw [runFor_add,rk ha]
theorem runFor_same {a b:Nat}{m:M}(ha:(M.runFor a m).outcome.isSome=true)(hb:(M.runFor b m).outcome.isSome=true):M.runFor a m=M.runFor b m:=
 (Nat.le_total a b).elim (λh=>(runFor_le h ha).symm) λh=>runFor_le h hb
theorem rZ {n:Nat}{m:M}(h:m.outcome=none):M.runFor (n+1) m=M.runFor n m.step:=by
 rw [l0,if_neg (by rw [h];exact Bool.false_ne_true)]
noncomputable def code1:Array Nat:=#[14,4,0,1,1,6,1,16,46,1]
noncomputable def at1 (T:Array Nat)(s:Nat)(o:Bool)(seen:Seen):M:=
 { code:=code1,text:=T,lim:=T.size,start:=s,lastStart:=T.size,pc:=5,pos:=s,handed:=s,outermost:=o,marks:=#[],frames:=[{ wait:=.nextStart,pc:=5,pos:=s,outermost:=o }],weight:=1,seen }
noncomputable def hit1 (T:Array Nat)(s:Nat):Bool:=(s==0 || T.getD (s-1) 0==10) && decide (s<T.size) && T.getD s 0==46
theorem pn (T:Array Nat)(s:Nat)(o:Bool)(seen:Seen):(at1 T s o seen).step=if (s==0 || T.getD (s-1) 0==10)=true then { at1 T s o ((seen.add 6).add 44) with pc:=7 } else (at1 T s o ((seen.add 6).add 44)).say false:=rfl
theorem yg (T:Array Nat)(s:Nat)(o:Bool)(seen:Seen):({ at1 T s o seen with pc:=7 }:M).step=if s ≥ T.size then ({ at1 T s o (seen.add 16) with pc:=7 }:M).say false else if (T.getD s 0==46)=true then { at1 T s o (seen.add 16) with pc:=9,pos:=s+1 } else ({ at1 T s o (seen.add 16) with pc:=7 }:M).say false:=by
 show (if s ≥ T.size then _ else _)=_;by_cases h:s ≥ T.size
 . rw [if_pos h,if_pos h];rfl
 . rw [if_neg h,if_neg h]
   show (match (Except.ok (T.getD s 0==46,seen.add 16):Except String (Bool×Seen)) with
     | .error why=>_
     | .ok (false,seen)=>_
     | .ok (true,seen)=>_)=_
   cases hb:(T.getD s 0==46) <;> rfl
theorem aEj (T:Array Nat)(s p:Nat)(o:Bool)(seen:Seen):({ at1 T s o seen with pc:=9,pos:=p }:M).step=({ at1 T s o (seen.add 1) with pc:=9,pos:=p,handed:=p }:M).say true:=by
 show (if (o && ((false && p != T.size) || (false && p==s)))=true then _ else _)=_;rw [Bool.false_and,Bool.false_and,Bool.or_false,Bool.and_false]
 rfl
noncomputable def yW (T:Array Nat)(s p h pc:Nat)(o:Bool)(seen:Seen)(yes:Bool):M:={ at1 T s o seen with pc:=pc,pos:=p,handed:=h,answer:=some yes }
theorem we (T:Array Nat)(s p h pc:Nat)(o:Bool)(seen:Seen):∃m,(yW T s p h pc o seen true).step=m/\m.outcome=none/\m.step.outcome=some .matched/\m.step.start=s/\m.step.handed=h/\m.step.lastmark=-1:=⟨_,rfl,rfl,rfl,rfl,rfl,rfl⟩
theorem qY (T:Array Nat)(s p h pc:Nat)(o:Bool)(seen:Seen)(hs:s<T.size):(yW T s p h pc o seen false).step=at1 T (s+1) false seen:=by
 show (if s<T.size then _ else _)=_;rw [if_pos hs]
 rfl
theorem nc (T:Array Nat)(s p h pc:Nat)(o:Bool)(seen:Seen)(hs:¬s<T.size):∃m,(yW T s p h pc o seen false).step=m/\m.outcome=none/\m.step.outcome=some .failed:=by
 refine ⟨_,rfl,?_,?_⟩
 . show (if s<T.size then _ else _:M).outcome=_
   rw [if_neg hs];rfl
 . show (M.step (if s<T.size then _ else _)).outcome=_
   rw [if_neg hs];rfl
noncomputable def code3:Array Nat:=#[14,9,4,1,2,16,10,16,13,0,7,7,16,13,16,10,15,18,5,16,10,15,13,11,16,13,5,5,0,16,10,1,15,2,0,1]
noncomputable def m3 (T:Array Nat)(s:Nat)(fr:List Frame)(w pc p h:Nat)(o:Bool)(ans:Option Bool)(seen:Seen):M:=
 { code:=code3,text:=T,lim:=T.size,start:=s,lastStart:=T.size,pc:=pc,pos:=p,handed:=h,outermost:=o,marks:=#[],frames:=fr,weight:=w,answer:=ans,seen }
noncomputable abbrev F0 (s:Nat)(o:Bool):Frame:={ wait:=.nextStart,pc:=10,pos:=s,outermost:=o }
noncomputable abbrev FB (k s:Nat)(o:Bool):Frame:={ wait:=.nextBranch,pc:=k,pos:=s,outermost:=o,kept:={ lastmark:=-1,lastindex:=-1,whole:=false,marks:=#[] } }
noncomputable abbrev FL (s:Nat)(o:Bool):Frame:={ wait:=.lookNot,pc:=26,pos:=s+1,outermost:=o,kept:={ lastmark:=-1,lastindex:=-1,whole:=false,marks:=#[] } }
theorem Dk (T:Array Nat)(s:Nat)(fr:List Frame)(w p h:Nat)(o:Bool)(seen:Seen):(m3 T s fr w 12 p h o none seen).step=if p ≥ T.size then m3 T s fr w 12 p h o (some false) (seen.add 16) else if (T.getD p 0==13)=true then m3 T s fr w 14 (p+1) h o none (seen.add 16) else m3 T s fr w 12 p h o (some false) (seen.add 16):=by
 show (if p ≥ T.size then _ else _)=_;by_cases hp:p ≥ T.size
 . rw [if_pos hp,if_pos hp];rfl
 . rw [if_neg hp,if_neg hp]
   show (match (Except.ok (T.getD p 0==13,seen.add 16):Except String (Bool×Seen)) with
     | .error why=>_
     | .ok (false,seen)=>_
     | .ok (true,seen)=>_)=_
   cases hb:(T.getD p 0==13) <;> rfl
theorem DS (T:Array Nat)(s:Nat)(fr:List Frame)(w p h:Nat)(o:Bool)(seen:Seen):(m3 T s fr w 14 p h o none seen).step=if p ≥ T.size then m3 T s fr w 14 p h o (some false) (seen.add 16) else if (T.getD p 0==10)=true then m3 T s fr w 16 (p+1) h o none (seen.add 16) else m3 T s fr w 14 p h o (some false) (seen.add 16):=by
 show (if p ≥ T.size then _ else _)=_;by_cases hp:p ≥ T.size
 . rw [if_pos hp,if_pos hp];rfl
 . rw [if_neg hp,if_neg hp]
   show (match (Except.ok (T.getD p 0==10,seen.add 16):Except String (Bool×Seen)) with
     | .error why=>_
     | .ok (false,seen)=>_
     | .ok (true,seen)=>_)=_
   cases hb:(T.getD p 0==10) <;> rfl
theorem HA (T:Array Nat)(s:Nat)(fr:List Frame)(w p h:Nat)(o:Bool)(seen:Seen):(m3 T s fr w 19 p h o none seen).step=if p ≥ T.size then m3 T s fr w 19 p h o (some false) (seen.add 16) else if (T.getD p 0==10)=true then m3 T s fr w 21 (p+1) h o none (seen.add 16) else m3 T s fr w 19 p h o (some false) (seen.add 16):=by
 show (if p ≥ T.size then _ else _)=_;by_cases hp:p ≥ T.size
 . rw [if_pos hp,if_pos hp];rfl
 . rw [if_neg hp,if_neg hp]
   show (match (Except.ok (T.getD p 0==10,seen.add 16):Except String (Bool×Seen)) with
     | .error why=>_
     | .ok (false,seen)=>_
     | .ok (true,seen)=>_)=_
   cases hb:(T.getD p 0==10) <;> rfl
theorem aEg (T:Array Nat)(s:Nat)(fr:List Frame)(w p h:Nat)(o:Bool)(seen:Seen):(m3 T s fr w 24 p h o none seen).step=if p ≥ T.size then m3 T s fr w 24 p h o (some false) (seen.add 16) else if (T.getD p 0==13)=true then m3 T s fr w 26 (p+1) h o none (seen.add 16) else m3 T s fr w 24 p h o (some false) (seen.add 16):=by
 show (if p ≥ T.size then _ else _)=_;by_cases hp:p ≥ T.size
 . rw [if_pos hp,if_pos hp];rfl
 . rw [if_neg hp,if_neg hp]
   show (match (Except.ok (T.getD p 0==13,seen.add 16):Except String (Bool×Seen)) with
     | .error why=>_
     | .ok (false,seen)=>_
     | .ok (true,seen)=>_)=_
   cases hb:(T.getD p 0==13) <;> rfl
theorem HC (T:Array Nat)(s:Nat)(fr:List Frame)(w p h:Nat)(o:Bool)(seen:Seen):(m3 T s fr w 29 p h o none seen).step=if p ≥ T.size then m3 T s fr w 29 p h o (some false) (seen.add 16) else if (T.getD p 0==10)=true then m3 T s fr w 31 (p+1) h o none (seen.add 16) else m3 T s fr w 29 p h o (some false) (seen.add 16):=by
 show (if p ≥ T.size then _ else _)=_;by_cases hp:p ≥ T.size
 . rw [if_pos hp,if_pos hp];rfl
 . rw [if_neg hp,if_neg hp]
   show (match (Except.ok (T.getD p 0==10,seen.add 16):Except String (Bool×Seen)) with
     | .error why=>_
     | .ok (false,seen)=>_
     | .ok (true,seen)=>_)=_
   cases hb:(T.getD p 0==10) <;> rfl
section
variable (T:Array Nat)(s w pc p h:Nat)(o o':Bool)(fr:List Frame)(seen:Seen)
theorem aGe:(m3 T s [F0 s o] 1 10 s s o none seen).step=m3 T s [FB 11 s o,F0 s o] 2 12 s s o none (seen.add 7):=rfl
theorem aEc:(m3 T s [FB 11 s o,F0 s o] 2 pc p h o (some false) seen).step=m3 T s [FB 18 s o,F0 s o] 2 19 s s o none seen:=rfl
theorem aF6:(m3 T s [FB 18 s o,F0 s o] 2 pc p h o (some false) seen).step=m3 T s [FB 23 s o,F0 s o] 2 24 s s o none seen:=rfl
theorem aF8 (k:Nat):(m3 T s [FB k s o,F0 s o] 2 pc p h o (some true) seen).step=m3 T s [F0 s o] 1 k s h o (some true) seen:=rfl
theorem aG3:(m3 T s [F0 s o] 1 pc p h o (some true) seen).step=m3 T s [] 0 10 s h o (some true) seen:=rfl
theorem aF1:(m3 T s [] 0 pc p h o (some true) seen).step={ m3 T s [] 0 pc p h o (some true) seen with outcome:=some .matched }:=rfl
theorem aA4:(m3 T s fr w 16 p h o none seen).step=m3 T s fr w 35 p h o none (seen.add 15):=rfl
theorem aBw:(m3 T s fr w 21 p h o none seen).step=m3 T s fr w 35 p h o none (seen.add 15):=rfl
theorem aAo:(m3 T s fr w 32 p h o none seen).step=m3 T s fr w 35 p h o none (seen.add 15):=rfl
theorem aAh:(m3 T s fr w 35 p h o none seen).step=m3 T s fr w 35 p p o (some true) (seen.add 1):=by
 show (if (o && ((false && p != T.size) || (false && p==s)))=true then _ else _)=_;rw [Bool.false_and,Bool.false_and,Bool.or_false,Bool.and_false]
 rfl
theorem aF9:(m3 T s [FB 23 s o,F0 s o] 2 26 (s+1) h o none seen).step=m3 T s [FL s o,FB 23 s o,F0 s o] 3 29 (s+1) (s+1) false none (seen.add 5):=rfl
theorem noL:(m3 T s [FL s o,FB 23 s o,F0 s o] 3 pc p h o' (some false) seen).step=m3 T s [FB 23 s o,F0 s o] 2 32 (s+1) h o none seen:=rfl
end
end Rx
end
section
namespace Rx
open PySem.Sre
noncomputable def Res (m:M):Option (Nat×Nat)->Prop
 | some (s,e)=>m.outcome=some .matched/\m.start=s/\m.handed=e
 | none=>m.outcome=some .failed
noncomputable def Ends (N:Nat)(m:M)(r:Option (Nat×Nat)):Prop:=∃n m',n<=N/\M.runFor n m=m'/\Res m' r
theorem Ends.step {N:Nat}{m m':M}{r:Option (Nat×Nat)}(ho:m.outcome=none)(e:m.step=m')(h:Ends N m' r):Ends (N+1) m r:=by
 obtain ⟨n,x,h1,h2,h3⟩:=h;exact ⟨n+1,x,Nat.succ_le_succ h1,by rw [rZ ho,e];exact h2,h3⟩
theorem Ends.le {N N':Nat}{m:M}{r:Option (Nat×Nat)}(h:Ends N m r)(hl:N<=N'):Ends N' m r:=let ⟨n,x,h1,h2⟩:=h;⟨n,x,ntr h1 hl,h2⟩
theorem Ends.now {m:M}{r:Option (Nat×Nat)}(h:Res m r):Ends 0 m r:=⟨0,m,Nat.le_refl _,rfl,h⟩
noncomputable def nx1 (T:Array Nat):Nat->Nat->Option (Nat×Nat)
 | 0,_=>none
 | k+1,s=>if hit1 T s=true then some (s,s+1) else nx1 T k (s+1)
theorem aE3 (T:Array Nat):∀(k s:Nat) (o:Bool) (seen:Seen),s+k=T.size->Ends (6*k+6) (at1 T s o seen) (nx1 T k s):=by
 intro k
 induction k with
 | zero=>
   intro s o seen h;have hs:¬s<T.size:=by lia
   refine Ends.le (N:=5) ?_ (by with_reducible exact Nat.le_succ _);by_cases h1:(s==0 || T.getD (s-1) 0==10)=true
   . refine Ends.step rfl ((pn T s o seen).trans (if_pos h1)) (Ends.step rfl ((yg T s o _).trans (if_pos (Nat.le_of_not_lt hs))) ?_)
     obtain ⟨m,e1,e2,e3⟩:=nc T s s s 7 o (((seen.add 6).add 44).add 16) hs;exact (Ends.step rfl e1 (Ends.step e2 rfl (Ends.now (r:=none) e3))).le (by with_reducible exact Nat.le_succ _)
   . refine (Ends.step rfl ((pn T s o seen).trans (if_neg h1)) ?_:Ends 4 _ _).le (by with_reducible exact Nat.le_succ _)
     obtain ⟨m,e1,e2,e3⟩:=nc T s s s 5 o ((seen.add 6).add 44) hs;exact (Ends.step rfl e1 (Ends.step e2 rfl (Ends.now (r:=none) e3))).le (by lia)
 | succ k ih=>
   intro s o seen h;have hs:s<T.size:=by clear ih;lia
   by_cases h1:(s==0 || T.getD (s-1) 0==10)=true
   . by_cases h2:(T.getD s 0==46)=true
     . have hh:hit1 T s=true:=by unfold hit1;rw [h1,h2,decide_eq_true hs];rfl
       rw [show nx1 T (k+1) s=_ from if_pos hh];refine (Ends.step rfl ((pn T s o seen).trans (if_pos h1)) (Ends.step rfl ((yg T s o _).trans ((if_neg (Nat.not_le_of_lt hs)).trans (if_pos h2))) (Ends.step rfl (aEj T s (s+1) o _) ?_)):Ends 8 _ _).le (Nat.le_add_left ..);obtain ⟨m,e1,e2,e3,e4,e5,O⟩:=we T s (s+1) (s+1) 9 o ((((seen.add 6).add 44).add 16).add 1);exact (Ends.step rfl e1 (Ends.step e2 rfl (Ends.now (r:=some (s,s+1)) ⟨e3,e4,e5⟩))).le (Nat.le_add_left ..)
     . have hh:¬hit1 T s=true:=by unfold hit1;rw [Bool.not_eq_true] at h2;rw [h2];simp
       rw [show nx1 T (k+1) s=_ from if_neg hh];refine (Ends.step rfl ((pn T s o seen).trans (if_pos h1)) (Ends.step rfl ((yg T s o _).trans ((if_neg (Nat.not_le_of_lt hs)).trans (if_neg h2))) (Ends.step rfl (qY T s s s 7 o _ hs) (ih (s+1) false _ (by lia)))):Ends (6*k+6+1+1+1) _ _).le (by lia)
   . have hh:¬hit1 T s=true:=by unfold hit1;rw [Bool.not_eq_true] at h1;rw [h1];simp
     rw [show nx1 T (k+1) s=_ from if_neg hh];exact (Ends.step rfl ((pn T s o seen).trans (if_neg h1)) (Ends.step rfl (qY T s s s 5 o _ hs) (ih (s+1) false _ (by lia))):Ends (6*k+6+1+1) _ _).le (by lia)
theorem search1 (T:Array Nat)(s:Nat)(hs:s<=T.size):Ends (6*T.size+6) (forSearch code1 T 0 s T.size false) (nx1 T (T.size-s) s):=by
 by_cases hc:(decide (s > T.size) || decide (T.size-s<1))=true
 . have e:s=T.size:=by simp at hc;lia
   subst e;rw [Nat.sub_self]
   have:∃m,forSearch code1 T 0 T.size T.size false=m/\m.outcome=none/\m.step.outcome=some .failed:=by
     refine ⟨_,rfl,?_,?_⟩
     . show (if (decide (T.size > T.size) || decide (T.size-T.size<1))=true then _ else _:M).outcome=_
       rw [if_pos hc];rfl
     . show (M.step (if (decide (T.size > T.size) || decide (T.size-T.size<1))=true then _ else _)).outcome=_
       rw [if_pos hc];rfl
   obtain ⟨m,e1,e2,e3⟩:=this;rw [e1];exact (Ends.step e2 rfl (Ends.now (r:=none) e3)).le (Nat.le_add_left ..)
 . have e:forSearch code1 T 0 s T.size false=at1 T s true (({}:Seen).add 14):=by
     show (if (decide (s > T.size) || decide (T.size-s<1))=true then _ else _:M)=_;rw [if_neg hc];rfl
   rw [e];exact (aE3 T (T.size-s) s true _ (by clear hc;lia)).le (by clear hc hs;lia)
end Rx
end
section
namespace Rx
open PySem.Sre
noncomputable def crlfAt (T:Array Nat)(s:Nat):Bool:=T.getD s 0==13 && decide (s+1<T.size) && T.getD (s+1) 0==10
noncomputable def end3 (T:Array Nat)(s:Nat):Nat:=if crlfAt T s=true then s+2 else s+1
noncomputable def hit3 (T:Array Nat)(s:Nat):Bool:=T.getD s 0==10 || T.getD s 0==13
noncomputable def nx3 (T:Array Nat):Nat->Nat->Option (Nat×Nat)
 | 0,_=>none
 | k+1,s=>if hit3 T s=true then some (s,end3 T s) else nx3 T k (s+1)
noncomputable def oH (T:Array Nat):Nat->Nat->Option Nat
 | 0,_=>none
 | k+1,s=>if hit3 T s=true then some s else oH T k (s+1)
theorem ET (T:Array Nat)(k:Nat):∀s,nx3 T k s=(oH T k s).map λs=>(s,end3 T s):=by
 induction k with
 | zero=>exact λs=>rfl
 | succ k ih=>
   intro s;show (if hit3 T s=true then some (s,end3 T s) else nx3 T k (s+1))=(if hit3 T s=true then some s else oH T k (s+1)).map _;by_cases h:hit3 T s=true
   . rw [if_pos h,if_pos h];rfl
   . rw [if_neg h,if_neg h];exact ih _
theorem vn {T:Array Nat}{k t:Nat}:∀{s:Nat},oH T k s=some t->hit3 T t=true/\s<=t/\t<s+k:=by
 induction k with
 | zero=>intro s h;cases h
 | succ k ih=>
   intro s h;change (if hit3 T s=true then some s else oH T k (s+1))=some t at h;by_cases hh:hit3 T s=true
   . cases (if_pos hh).symm.trans h;exact ⟨hh,Nat.le_refl _,Nat.lt_add_of_pos_right (Nat.succ_pos k)⟩
   . obtain ⟨a,b,c⟩:=ih ((if_neg hh).symm.trans h);exact ⟨a,Nat.le_of_succ_le b,Nat.succ_add_eq_add_succ s k▸c⟩
theorem aCe (c:Nat)(seen:Seen):∃seen',inSet code3 c 36 5 true seen=.ok (c==10 || c==13,seen'):=by
 refine ⟨if (c==10)=true then seen.add 16 else if (c==13)=true then (seen.add 16).add 16 else ((seen.add 16).add 16).add 0,?_⟩;show (if (c==10)=true then _ else (if (c==13)=true then _ else _))=_;cases h1:(c==10)
 . cases h2:(c==13) <;> rfl
 . rfl
theorem xG (T:Array Nat)(m:M)(hc:m.code=code3)(ht:m.text=T)(hl:m.lim=T.size)(k:Nat):∀(s f:Nat) (seen:Seen),s+k=T.size->k<f->∃seen',M.admitted m f s seen=.ok (oH T k s,seen'):=by
 induction k with
 | zero=>
   intro s f seen h hf
   cases f with
   | zero=>exact (Nat.lt_irrefl _ hf).elim
   | succ f=>exact ⟨seen,if_pos (Nat.le_of_eq (hl.trans h.symm))⟩
 | succ k ih=>
   intro s f seen h hf
   cases f with
   | zero=>exact (Nat.not_lt_zero _ hf).elim
   | succ f=>
     obtain ⟨seen',e⟩:=aCe (T.getD s 0) seen;obtain ⟨seen'',e'⟩:=ih (s+1) f seen' ((Nat.succ_add_eq_add_succ s k).trans h) (Nat.lt_of_succ_lt_succ hf);have hs:¬s ≥ m.lim:=Nat.not_le.mpr (hl▸h▸Nat.lt_add_of_pos_right (Nat.succ_pos k));cases hb:(T.getD s 0==10 || T.getD s 0==13)
     . refine ⟨seen'',(if_neg hs).trans ?_⟩
       rw [hc,ht,show code3.size=36 from rfl,e,hb,show oH T (k+1) s=_ from if_neg (by unfold hit3;rw [hb];exact Bool.false_ne_true)];exact e'
     . refine ⟨seen',(if_neg hs).trans ?_⟩
       rw [hc,ht,show code3.size=36 from rfl,e,hb,show oH T (k+1) s=_ from if_pos (by unfold hit3;exact hb)]
theorem tS (T:Array Nat)(s p h k:Nat)(o:Bool)(seen:Seen):Ends 4 (m3 T s [FB k s o,F0 s o] 2 35 p h o none seen) (some (s,p)):=
 Ends.step rfl (aAh ..) (Ends.step rfl (aF8 ..) (Ends.step rfl (aG3 ..) (Ends.step rfl (aF1 ..) (Ends.now (r:=some (s,p)) ⟨rfl,rfl,rfl⟩))))
theorem aGn (T:Array Nat)(s:Nat)(o:Bool)(seen:Seen)(hs:s<T.size)(hh:hit3 T s=true):Ends 20 (m3 T s [F0 s o] 1 10 s s o none seen) (some (s,end3 T s)):=by
 have hs':¬s ≥ T.size:=Nat.not_le_of_lt hs;refine (Ends.step rfl (aGe ..) ?_:Ends 20 _ _);by_cases h13:(T.getD s 0==13)=true
 . have h10:¬(T.getD s 0==10)=true:=by
     have:=beq_iff_eq.mp h13;simp [this]
   by_cases hc:crlfAt T s=true
   . obtain ⟨⟨_,h1⟩,h2⟩:(((T.getD s 0==13)=true/\decide (s+1<T.size)=true)/\(T.getD (s+1) 0==10)=true):=by
       unfold crlfAt at hc;simpa only [Bool.and_eq_true] using hc
     have h1':¬s+1 ≥ T.size:=Nat.not_le_of_lt (of_decide_eq_true h1);rw [end3,if_pos hc];refine (Ends.step rfl ((Dk ..).trans ((if_neg hs').trans (if_pos h13))) (Ends.step rfl ((DS ..).trans ((if_neg h1').trans (if_pos h2))) (Ends.step rfl (aA4 ..) ?_)):Ends 19 _ _);exact (tS ..).le (Nat.le_add_left ..)
   . rw [end3,if_neg hc]
     have no:∀seen',∃seen'' ,(m3 T s [FB 11 s o,F0 s o] 2 14 (s+1) s o none seen').step=m3 T s [FB 11 s o,F0 s o] 2 14 (s+1) s o (some false) seen'':=λseen'=>by
       by_cases h1:s+1 ≥ T.size
       . exact ⟨_,(DS ..).trans (if_pos h1)⟩
       . refine ⟨_,(DS ..).trans ((if_neg h1).trans (if_neg λh2=>hc ?_))⟩
         unfold crlfAt;rw [h13,h2,decide_eq_true (Nat.lt_of_not_le h1)];rfl
     have noA:∀h seen',∃seen'' ,(m3 T s [FL s o,FB 23 s o,F0 s o] 3 29 (s+1) h false none seen').step=m3 T s [FL s o,FB 23 s o,F0 s o] 3 29 (s+1) h false (some false) seen'':=λh seen'=>by
       by_cases h1:s+1 ≥ T.size
       . exact ⟨_,(HC ..).trans (if_pos h1)⟩
       . refine ⟨_,(HC ..).trans ((if_neg h1).trans (if_neg λh2=>hc ?_))⟩
         unfold crlfAt;rw [h13,h2,decide_eq_true (Nat.lt_of_not_le h1)];rfl
     obtain ⟨s1,e1⟩:=no ((seen.add 7).add 16);refine (Ends.step rfl ((Dk ..).trans ((if_neg hs').trans (if_pos h13))) (Ends.step rfl e1 (Ends.step rfl (aEc ..) (Ends.step rfl ((HA ..).trans ((if_neg hs').trans (if_neg h10))) (Ends.step rfl (aF6 ..) (Ends.step rfl ((aEg ..).trans ((if_neg hs').trans (if_pos h13))) (Ends.step rfl (aF9 ..) ?_)))))):Ends 19 _ _);obtain ⟨s2,e2⟩:=noA (s+1) ((((s1.add 16).add 16).add 5));refine (Ends.step rfl e2 (Ends.step rfl (noL ..) (Ends.step rfl (aAo ..) ?_)):Ends 12 _ _);exact (tS ..).le (Nat.le_add_left ..)
 . have h10:(T.getD s 0==10)=true:=by
     unfold hit3 at hh;rw [Bool.not_eq_true] at h13;rw [h13,Bool.or_false] at hh;exact hh
   have hc:¬crlfAt T s=true:=λq=>h13 (by unfold crlfAt at q;simp only [Bool.and_eq_true] at q;exact q.1.1);rw [end3,if_neg hc];refine (Ends.step rfl ((Dk ..).trans ((if_neg hs').trans (if_neg h13))) (Ends.step rfl (aEc ..) (Ends.step rfl ((HA ..).trans ((if_neg hs').trans (if_pos h10))) (Ends.step rfl (aBw ..) ?_))):Ends 19 _ _);exact (tS ..).le (Nat.le_add_left ..)
theorem search3 (T:Array Nat)(s:Nat)(hs:s<=T.size):Ends 20 (forSearch code3 T 0 s T.size false) (nx3 T (T.size-s) s):=by
 by_cases hc:(decide (s > T.size) || decide (T.size-s<1))=true
 . have e:s=T.size:=by simp at hc;lia
   subst e;rw [Nat.sub_self]
   have:∃m,forSearch code3 T 0 T.size T.size false=m/\m.outcome=none/\m.step.outcome=some .failed:=by
     refine ⟨_,rfl,?_,?_⟩
     . show (if (decide (T.size > T.size) || decide (T.size-T.size<1))=true then _ else _:M).outcome=_
       rw [if_pos hc];rfl
     . show (M.step (if (decide (T.size > T.size) || decide (T.size-T.size<1))=true then _ else _)).outcome=_
       rw [if_pos hc];rfl
   obtain ⟨m,e1,e2,e3⟩:=this;rw [e1];exact (Ends.step e2 rfl (Ends.now (r:=none) e3)).le (by decide)
 . let m0:M:={ code:=code3,text:=T,lim:=T.size,start:=s,lastStart:=T.size,pc:=10,pos:=s,handed:=s,marks:=#[],seen:=({}:Seen).add 14 }
   have e0:forSearch code3 T 0 s T.size false=(match M.admitted m0 (T.size+1-s) s m0.seen with
       | .ok (some s,seen)=>M.attemptAt { m0 with mustAdvance:=false,seen } s true
       | .ok (none,seen)=>{ m0 with seen }.say false
       | .error why=>m0.stick why):=by
     show (if (decide (s > T.size) || decide (T.size-s<1))=true then _ else _:M)=_;rw [if_neg hc];rfl
   obtain ⟨seen',e⟩:=xG T m0 rfl rfl rfl (T.size-s) s (T.size+1-s) m0.seen (Nat.add_sub_of_le hs) (Nat.succ_sub hs▸Nat.lt_succ_self _);rw [e0,e,ET]
   cases ha:oH T (T.size-s) s with
   | none=>
     refine (Ends.step rfl rfl (Ends.now (r:=none) ?_):Ends 1 _ _).le (by decide);show M.outcome _=_
     rfl
   | some t=>
     obtain ⟨h1,h2,h3⟩:=vn ha;exact aGn T t true seen' (Nat.add_sub_of_le hs▸h3) h1
end Rx
end
open Nat renaming le_refl→Ab,le_of_eq→Ac,le_add_right→Ad,zero_le→Ae,succ_le_succ→Ag,le_of_lt→Ah,lt_of_le_of_lt→Ai,zero_add→Aj,add_comm→Ak,le_add_left→Al,mod_lt→Am,add_le_add→An,mul_comm→Ao,add_assoc→Ap,pow_add→Aq,le_of_not_lt→Ar,two_pow_pos→As,lt_succ_self→Au,sub_le→Av,mul_le_mul_left→Aw,le_succ→Ax,le_succ_of_le→Ay,lt_irrefl→Az,add_le_add_right→AA,succ_pos→AB,le_of_succ_le→AC,add_le_add_left→AD,lt_add_of_pos_right→AE,div_lt_iff_lt_mul→AF,min_eq_left→AG,min_le_right→AI,pow_succ→AJ,add_lt_add_left→AK,ne_of_gt→AL,mul_assoc→AM,mul_add→AN,add_sub_cancel_left→AO,pow_le_pow_right→AP,le_of_ble_eq_true→AQ,mul_zero→AR,add_zero→AS,lt_succ_of_le→AT,add_right_comm→AU,div_add_mod→AV,mul_le_mul_right→AW,le_add_right_of_le→AX,mul_two→AY,mul_succ→AZ,not_lt_zero→A0,sub_self→A1,add_sub_of_le→A2,mod_mod_of_dvd→A3,ne_of_lt→A4,lt_trans→A5,max_eq_right→A6,le_antisymm→A7,succ_add_eq_add_succ→A8,le_of_add_right_le→A9,add_mul→Ba,one_mul→Bc,min_eq_right→Bd,add_sub_cancel'→Be,le_mul_of_pos_left→Bf,le_of_succ_le_succ→Bg,le_of_lt_succ→Bh,min_le_left→Bi,lt_of_succ_lt_succ→Bj
open List renaming length_map→Bk,length_append→Bl,map_map→Bm,append_assoc→Bn,not_mem_nil→Bo,length_cons→Bp,map_append→Bq,append_nil→Br,map_cons→Bs,length_singleton→Bt,length_replicate→Bu,map_congr_left→Bv,nil_append→Bw,map_take→Bx,mem_map_of_mem→By,cons_ne_nil→Bz,sum_cons→BA,take_of_length_le→BB,eq_of_mem_replicate→BC,flatten_cons→BD,length_drop→BE,length_take→BF,length_range→BG,drop_eq_getElem_cons→BH,foldl_cons→BI,take_left→BK,count_append→BL,map_drop→BM,drop_drop→BN,replicate_succ→BO,length_reverse→BP,drop_of_length_le→BR,range'→BS,drop_left→BU,take_nil→BV,cons_append→BW,map_reverse→BX,mem_of_mem_take→BY,foldl_append→BZ,length_flatten→B1,reverse_cons→B2,reverse_append→B3,count_cons_of_ne→B4,count_le_length→B5,filterMap_cons_some→B6,take_succ_eq_append_getElem→B7,eq_nil_of_length_eq_zero→B8
open Bool renaming false_ne_true→B9,and_eq_true→Ca,or_eq_true→Cb,false_eq_true→Cc
open Int renaming natCast_nonneg→Cd,add_comm→Ce,natCast_add→Cf,le_of_lt→Cg,mul_add→Ch,toNat_natCast→Ci,mul_comm→Cj,sub_add_cancel→Ck,mul_assoc→Cm,fdiv_eq_ediv_of_nonneg→Cn,mul_sub→Co,add_assoc→Cp,natAbs_mul→Cq,lt_of_lt_of_le→Cr,le_trans→Cs,mul_one→Ct,mul_zero→Cu,zero_add→Cv,one_mul→Cw,add_sub_cancel→Cx,natCast_one→Cy,natCast_mul→Cz,ne_of_gt→CA,neg_fdiv_neg→CB,mul_left_comm→CC,ofNat_sub→CD,mul_ne_zero→CE,eq_ofNat_of_zero_le→CF,lt_of_le_of_lt→CG,natAbs_add_le→CH,fmod_eq_emod_of_nonneg→CI,ediv_eq_zero_of_lt→CJ,le_add_of_nonneg_left→CK,add_right_comm→CL
open PySem PySem.W PyProof.Rows
local macro_rules |`(tactic|ext)=>`(tactic|walk_at "w")
local macro_rules |`(∅)=>`((by decide))
open Str renaming ofString→Ω
theorem aF4:looksOpen PySem.Challenge.rw_wc0020_02.row.prog=true:=by
 unfold looksOpen;refine look_both (look_both (look_both (look_both (look_both ?_ ?_) ?_) ?_) ?_) ?_
 all_goals decide +kernel
theorem aAe:OpenRow.wellSaid PySem.Challenge.rw_wc0020_02.row=true:=by
 unfold OpenRow.wellSaid OpenRow.partSaid;rw [aF4]
 decide +kernel
theorem said02:OpenLaw.wellSaid PySem.Challenge.rw_wc0020_02=true:=by
 unfold OpenLaw.wellSaid;rw [aAe]
 decide +kernel
local macro_rules | `(tactic| o_law) => `(tactic| refine holds_law said02 fun said => ?_)
set_option maxHeartbeats 4000000 in
open_top hd02 for PySem.Challenge.rw_wc0020_02
section
set_option compiler.extract_closed false
def nD (k:String)(a:List Lean.Syntax):Lean.Syntax:=.node .none (.str `Lean.Parser.Tactic k) a.toArray
def nL (a:List Lean.Syntax):Lean.Syntax:=.node .none `null a.toArray
def nW (s:String):Lean.Syntax:=.node .none `PyProof.Rows.tacticWalk_at_ #[.atom .none "walk_at",Lean.Syntax.mkStrLit s]
def nQ (a:List Lean.Syntax):Lean.Syntax:=nD "tacticSeq" [nD "tacticSeq1Indented" [nL a]]
def nH (x:Lean.Syntax):Lean.Term:=⟨.node .none `Lean.Parser.Term.syntheticHole #[.atom .none "?",x]⟩
def nS (h:String):List String->Lean.Name->Array Lean.Term->List Lean.Syntax->Lean.Syntax
 | [],_,hs,cs=>.node .none `group #[.atom .none "|",nQ (nD "withReducible" [.atom .none "with_reducible",nQ [nD "refine'" [.atom .none "refine'",Lean.Syntax.mkApp (Lean.mkIdent h.toName) hs]]]::cs)]
 | w::ws,n,hs,cs=>
   if w=="_" then nS h ws n (hs.push (nH (.atom .none "_"))) cs
   else nS h ws (.str n "h") (hs.push (nH (Lean.mkIdent n))) (cs++[.atom .none ";",nD "case" [.atom .none "case",nL [nD "caseArg" [.node .none `Lean.binderIdent #[Lean.mkIdent n],nL []]],.atom .none "=>",nQ [nW w]]])
def nT (n:Lean.Name):List String->List Lean.Syntax
 | []=>[]
 | a::as=>(match a.splitOn " " with | h::ws=>nS h ws n #[] [] | []=>.missing)::nT n as
def nR:List (String×String):=[("m_has","Has.inl m_has|Has.inr m_has|Has.head|Has.h1|Has.h2|Has.h3|Has.h4|Has.h5|Has.h6|Has.h7|Has.t8 m_has"),("m_rep","Rep.inl m_rep|Rep.inr m_rep|Rep.head|Rep.h1|Rep.h2|Rep.h3|Rep.h4|Rep.h5|Rep.h6|Rep.h7|Rep.t8 m_rep"),("kk","Wk.nil|Wk.same _|Wk.drop _|Wk.refl _|Wk.cat _ _"),("mm","Has.mem m_has|Has.ex m_has"),("c_k","dk c_r"),("pk","aGq c_d|aGj c_d|aG9 c_d|aGk c_d c_d"),("pu","aEq|aE9"),("p2","aFa|aEs|aF7|aCm|aHf|aGl|aGw|aGv|aFp|aGo|aFs|aFx|aDi|aEo|aAz|aHd c_r c_r|aDp c_r c_r"),("pe","P_N m_has pk|P_i|aD1 pe pe p2|P_s|aGs pe pu|aFf pe pe p2 c_u|aDm pl c_r c_d|P_n|P_o|P_y"),("pl","aDg|aA6 pe pl"),("pt","aDq pe pe p2 c_u|T_not pt|aBx pe c_i|aD8 pe c_i"),("mw","kK pe _|aDr pt _|yO pl _|wb p2 _|aDo _|aBa _|GD _|aD4 _|aDw _|aAm _|ite_nf _|aBp _|aBe _|Gx _|aE _|jU _|aEm _|l7 _ c_i|gW _ c_i c_i|xa _|pI _|FS _ c_i|il _|EW _|aCa _ c_k c_i|xB _ c_r c_i|uc _ c_d|aFy m_has _|aFm m_has _|aD2 m_has _|aFd m_has _ c_d|aEz m_rep _|aFq m_rep _ c_r|yv _|uL _|p4 _|uZ _|vI _|xe _|Ev_UnaryOp' _|mE _ c_u|z0 _|s4 _|z7 _|xJ _|DJ _|tW _ c_i|p0 _ c_u|wx _ c_r c_d|n9 _|iw _|aBc _|cw c_r c_r _|uD _|DM _|D7 _|aAp m_rep _|C0 _|zw _|aB7 _|ku _|uS _|Tru_none _|z8 _|zP _|yw _|CU _|zz _|yf _|zA _ c_r c_r|nX _ c_r c_r|uV _|uT _|uz _|rh _|ny _|uP _|vD _|y6 _|vB _|CP _|zc _|aBu _|aBd _|wC _|Ej _|Dz _ c_r c_i|zW _ c_r c_i")]
def nA:Lean.Syntax:=nQ [nD "tacticRfl" [.atom .none "rfl"]]
def nB:Lean.Syntax:=nQ [nD "decide" [.atom .none "decide",nD "optConfig" [nL []]]]
def nY:Lean.Syntax:=.node .none `Lean.Parser.Term.byTactic #[.atom .none "by",nB]
def nC:Lean.Syntax:=nQ [nD "intros" [.atom .none "intros",nL []],.atom .none ";",nD "tacticRfl" [.atom .none "rfl"]]
def nE:Lean.Syntax:=nQ [nD "withUnfoldingAll" [.atom .none "with_unfolding_all",nA]]
def nF:Lean.Syntax:=nQ [nD "decide" [.atom .none "decide",nD "optConfig" [nL [nD "configItem" [nD "posConfigItem" [.atom .none "+",Lean.mkIdent `kernel]]]]]]
inductive PV where
 | none
 | bool (b:Bool)
 | int (i:Int)
 | str (s:Str)
 | bytes (b:Array UInt8)
 | tup (xs:List PV)
 | list (xs:List PV)
 | lref (a:Addr)
 | raw (v:Value)
noncomputable abbrev AH:=List (Addr×List PV)
noncomputable abbrev St:=List (Str×NameKind×Option PV)
noncomputable abbrev PQ:=PV->AH->Prop
noncomputable abbrev SQ:=St->AH->Prop
noncomputable abbrev BQ:=Bool->AH->Prop
noncomputable abbrev LQ:=List PV->AH->Prop
noncomputable abbrev IQ:=List PV->AH->AH->Prop
noncomputable abbrev fF (vs:Array Value)(n:Nat):Obj:={ cls:=.type "tuple",dict:=Option.none,data:=.seq vs n,slots:=#[] }
noncomputable abbrev al (vs:Array Value)(n:Nat):Obj:={ cls:=.type "list",dict:=Option.none,data:=.seq vs n,slots:=#[] }
mutual
inductive VR (h:Heap)(T:Addr->Prop):Value->PV->Prop
 | none:VR h T Value.none PV.none
 | bool (b:Bool):VR h T (.bool b) (.bool b)
 | int (i:Int) (t:Tok):VR h T (.int i t) (.int i)
 | str (s:Str) (t:Tok):VR h T (.str s t) (.str s)
 | bytes (b:Array UInt8) (t:Tok):VR h T (.bytes b t) (.bytes b)
 | tup {a:Addr} {vs:Array Value} {n:Nat} {xs:List PV}:h.get? a=some (fF vs n)->¬T a->VRs h T vs.toList xs->VR h T (.ref a) (.tup xs)
 | list {a:Addr} {vs:Array Value} {n:Nat} {xs:List PV}:h.get? a=some (al vs n)->¬T a->VRs h T vs.toList xs->VR h T (.ref a) (.list xs)
 | lref (a:Addr):VR h T (.ref a) (.lref a)
 | raw (v:Value):VR h T v (.raw v)
inductive VRs (h:Heap)(T:Addr->Prop):List Value->List PV->Prop
 | nil:VRs h T [] []
 | cons {v:Value} {p:PV} {vs:List Value} {ps:List PV}:VR h T v p->VRs h T vs ps->VRs h T (v::vs) (p::ps)
end
noncomputable def a9 (o:Obj):Prop:=∃vs n,o.data=.seq vs n
theorem VR.mono {T T':Addr->Prop}{h h':Heap}(hk:∀a o,h.get? a=some o->a9 o->¬T a->h'.get? a=some o)(ht:∀a,a<h.objs.size->T' a->T a){v:Value}{p:PV}(r:VR h T v p):VR h' T' v p:=
 VR.rec (motive_1:=λv p O=>VR h' T' v p) (motive_2:=λvs ps O=>VRs h' T' vs ps) .none .bool .int .str .bytes (λho hn O ih=>.tup (hk _ _ ho ⟨_,_,rfl⟩ hn) (λq=>hn (ht _ (Heap.lt_size ho) q)) ih)
   (λho hn O ih=>.list (hk _ _ ho ⟨_,_,rfl⟩ hn) (λq=>hn (ht _ (Heap.lt_size ho) q)) ih) .lref .raw .nil (λO O a b=>.cons a b) r
theorem VRs.ind {T:Addr->Prop}{h:Heap}{P:List Value->List PV->Prop}(n:P [] [])(c:∀v p vs ps,VR h T v p->VRs h T vs ps->P vs ps->P (v::vs) (p::ps)){vs:List Value}{ps:List PV}(r:VRs h T vs ps):P vs ps:=
 VRs.rec (motive_1:=λO O O=>True) (motive_2:=λvs ps O=>P vs ps) trivial (λO=>trivial) (λO O=>trivial) (λO O=>trivial) (λO O=>trivial) (λO O O O=>trivial) (λO O O O=>trivial) (λO=>trivial) (λO=>trivial) n (λa b O ih=>c _ _ _ _ a b ih) r
theorem VRs.mono {T T':Addr->Prop}{h h':Heap}(hk:∀a o,h.get? a=some o->a9 o->¬T a->h'.get? a=some o)(ht:∀a,a<h.objs.size->T' a->T a){vs:List Value}{ps:List PV}(r:VRs h T vs ps):VRs h' T' vs ps:=
 r.ind .nil λO O O O a O ih=>.cons (a.mono hk ht) ih
noncomputable def aDt (T:Addr->Prop)(h:Heap)(v:Value):PV->Prop
 | .none=>v=.none
 | .bool b=>v=.bool b
 | .int i=>∃t,v=.int i t
 | .str x=>∃t,v=.str x t
 | .bytes b=>∃t,v=.bytes b t
 | .tup xs=>∃a vs n,v=.ref a/\h.get? a=some (fF vs n)/\¬T a/\VRs h T vs.toList xs
 | .list xs=>∃a vs n,v=.ref a/\h.get? a=some (al vs n)/\¬T a/\VRs h T vs.toList xs
 | .lref a=>v=.ref a
 | .raw w=>v=w
theorem VR.inv {T:Addr->Prop}{h:Heap}{v:Value}{p:PV}(r:VR h T v p):aDt T h v p:=
 VR.rec (motive_1:=λv p O=>aDt T h v p) (motive_2:=λO O O=>True) rfl (λO=>rfl) (λO O=>⟨_,rfl⟩) (λO O=>⟨_,rfl⟩) (λO O=>⟨_,rfl⟩) (λho hn hs O=>⟨_,_,_,rfl,ho,hn,hs⟩) (λho hn hs O=>⟨_,_,_,rfl,ho,hn,hs⟩) (λO=>rfl) (λO=>rfl) trivial (λO O O O=>trivial) r
theorem VRs.length {T:Addr->Prop}{h:Heap}{vs:List Value}{ps:List PV}(r:VRs h T vs ps):vs.length=ps.length:=r.ind (P:=λvs ps=>vs.length=ps.length) rfl λO O O O O O ih=>congrArg Nat.succ ih
theorem VRs.append {T:Addr->Prop}{h:Heap}{vs vs':List Value}{ps ps':List PV}(r:VRs h T vs ps)(b:VRs h T vs' ps'):VRs h T (vs++vs') (ps++ps'):=r.ind (P:=λvs ps=>VRs h T (vs++vs') (ps++ps')) b λO O O O a O ih=>.cons a ih
theorem VRs.get {T:Addr->Prop}{h:Heap}{vs:List Value}{ps:List PV}(r:VRs h T vs ps){i:Nat}{p:PV}(e:ps[i]?=some p):∃v,vs[i]?=some v/\VR h T v p:=by
 refine r.ind (P:=λvs ps=>∀i,ps[i]?=some p->∃v,vs[i]?=some v/\VR h T v p) (λi e=>by simp at e) (λv q vs ps a O ih i e=>?_) i e
 cases i with
 | zero=>exact ⟨v,rfl,Option.some.inj e▸a⟩
 | succ i=>exact ih i e
theorem VRs.take {T:Addr->Prop}{h:Heap}{vs:List Value}{ps:List PV}(r:VRs h T vs ps)(i:Nat):VRs h T (vs.take i) (ps.take i):=by
 refine r.ind (P:=λvs ps=>∀i,VRs h T (vs.take i) (ps.take i)) (λi=>by rw [BV,BV];exact .nil) (λv q vs ps a O ih i=>?_) i
 cases i with
 | zero=>exact .nil
 | succ i=>exact .cons a (ih i)
theorem VRs.drop {T:Addr->Prop}{h:Heap}{vs:List Value}{ps:List PV}(r:VRs h T vs ps)(i:Nat):VRs h T (vs.drop i) (ps.drop i):=by
 refine r.ind (P:=λvs ps=>∀i,VRs h T (vs.drop i) (ps.drop i)) (λi=>by rw [List.drop_nil,List.drop_nil];exact .nil) (λv q vs ps a b ih i=>?_) i
 cases i with
 | zero=>exact .cons a b
 | succ i=>exact ih i
theorem VRs.reverse {T:Addr->Prop}{h:Heap}{vs:List Value}{ps:List PV}(r:VRs h T vs ps):VRs h T vs.reverse ps.reverse:=
 r.ind (P:=λvs ps=>VRs h T vs.reverse ps.reverse) .nil λv p vs ps a O ih=>by rw [B2,B2];exact ih.append (.cons a .nil)
set_option genInjectivity false in
set_option genSizeOf false in
structure aJ where
 prog:Program
 w:World
 g:Heap
 mg:Str->Option Value
 mb:Str->Option Value
 K:Frag
 tabs:List (Addr×Addr)
 qn:Addr->Pos->Option Str
 os:OsState
 inK:K.In g
 nsg:g.Ns mainGlobals mg
 nsb:g.Ns builtinsNs mb
 nolimit:g.NoLimit
 boot:∀x:Str,x≠"__name__"->mb x=bootBuiltins x
 tabsHidden:∀q∈tabs,g.get? q.2=Option.none
 low:∀q∈tabs,mainGlobals≠q.2
 hid:List (Addr×Obj):=[]
noncomputable def Trk (H:AH)(B:aJ)(a:Addr):Prop:=a∈H.map (·.1)\/a∈B.tabs.map (·.2)\/a∈B.hid.map (·.1)
inductive aFb (qn:Addr->Pos->Option Str)(q:Addr×Addr)(h:Heap):Prop
 | mk (ps:Array Value) (a:h.get? q.2=some (tabObj ps)) (b:TriplesOk ps.toList) (c:∀pos cv,codeAmong pos ps.toList=some cv->∃n,qn q.2 pos=some n/\h.CodeRec cv n)
set_option genInjectivity false in
set_option genSizeOf false in
structure aDl (g:Heap)(H:AH)(q:Addr×Obj)(h:Heap):Prop where
 a:h.get? q.1=some q.2
 b:a9 q.2
 c:g.get? q.1=Option.none
 d:q.1∉H.map (·.1)
inductive aC8 (g:Heap)(T:Addr->Prop)(p:Addr×List PV)(h:Heap):Prop
 | mk (a:g.get? p.1=Option.none) (vs:Array Value) (n:Nat) (b:h.get? p.1=some (al vs n)) (c:VRs h T vs.toList p.2)
set_option genInjectivity false in
set_option genSizeOf false in
structure Inv (B:aJ)(H:AH)(s:Shared):Prop where
 keep:∀a o,B.g.get? a=some o->s.heap.get? a=some o
 size:B.g.objs.size<=s.heap.objs.size
 tabs:∀q∈B.tabs,aFb B.qn q s.heap
 bare:AllBare s.gens
 os:s.os=B.os
 nodup:(H.map (·.1)).Nodup
 hid:∀q∈B.hid,aDl B.g H q s.heap
 objs:∀p∈H,aC8 B.g (Trk H B) p s.heap
set_option genInjectivity false in
set_option genSizeOf false in
structure mA (T:Addr->Prop)(s s':Shared):Prop where
 heap:∀a o,s.heap.get? a=some o->¬T a->s'.heap.get? a=some o
 size:s.heap.objs.size<=s'.heap.objs.size
 gens:∀(i:Nat) (x:GenState),s.gens[i]?=some x->s'.gens[i]?=some x
theorem mA.refl {T:Addr->Prop}{s:Shared}:mA T s s:=⟨λO O e O=>e,Ab _,λO O e=>e⟩
theorem mA.trans {T T':Addr->Prop}{s s' s'':Shared}(x:mA T s s')(y:mA T' s' s'')(ht:∀a,a<s.heap.objs.size->T' a->T a):mA T s s'':=
 ⟨λa o e n=>y.heap a o (x.heap a o e n) λq=>n (ht a (Heap.lt_size e) q),ntr x.size y.size,λi z e=>y.gens i z (x.gens i z e)⟩
theorem mA.weaken {T T':Addr->Prop}{s s':Shared}(x:mA T s s')(ht:∀a,a<s.heap.objs.size->T a->T' a):mA T' s s':=
 ⟨λa o e n=>x.heap a o e λq=>n (ht a (Heap.lt_size e) q),x.size,x.gens⟩
noncomputable def oT (H:AH)(s:Shared)(H':AH):Prop:=∀a:Addr,a∈H'.map (λp=>p.1)->a∈H.map (λp=>p.1)\/s.heap.objs.size<=a
set_option genInjectivity false in
set_option genSizeOf false in
structure Tr (U:Addr->Prop)(s':Shared)(H':AH)(s:Shared)(H:AH)(B:aJ):Prop where
 inv:Inv B H' s'
 step:mA (λa=>Trk H B a\/U a) s s'
 keys:oT H s H'
noncomputable def noU:Addr->Prop:=λO=>False
theorem Trk.new {B:aJ}{H H':AH}{s:Shared}(k:oT H s H'){a:Addr}(ha:a<s.heap.objs.size)(t:Trk H' B a):Trk H B a:=by
 rcases t with t | t
 . rcases k a t with q | q
   . exact .inl q
   . exact absurd ha (nlr q)
 . exact .inr t
theorem Tr.refl {B:aJ}{U:Addr->Prop}{H:AH}{s:Shared}(I:Inv B H s):Tr U s H s H B:=⟨I,.refl,λO h=>.inl h⟩
theorem Tr.trans {B:aJ}{U:Addr->Prop}{H H' H'':AH}{s s' s'':Shared}(x:Tr U s' H' s H B)(y:Tr U s'' H'' s' H' B):Tr U s'' H'' s H B:=
 ⟨y.inv,x.step.trans y.step λa ha q=>q.imp (Trk.new x.keys ha) id,λa ha=>by
   rcases y.keys a ha with q | q
   . exact x.keys a q
   . exact .inr (ntr x.step.size q)⟩
theorem Tr.up {B:aJ}{U:Addr->Prop}{H H':AH}{s s':Shared}(x:Tr noU s' H' s H B):Tr U s' H' s H B:=
 ⟨x.inv,x.step.weaken λO O q=>q.imp id False.elim,x.keys⟩
theorem VR.tr {B:aJ}{H H':AH}{s s':Shared}{v:Value}{p:PV}(r:VR s.heap (Trk H B) v p)(x:Tr noU s' H' s H B):VR s'.heap (Trk H' B) v p:=
 r.mono (λa o e O n=>x.step.heap a o e λq=>q.elim n False.elim) λO ha t=>Trk.new x.keys ha t
theorem VRs.tr {B:aJ}{H H':AH}{s s':Shared}{v:List Value}{p:List PV}(r:VRs s.heap (Trk H B) v p)(x:Tr noU s' H' s H B):VRs s'.heap (Trk H' B) v p:=
 r.mono (λa o e O n=>x.step.heap a o e λq=>q.elim n False.elim) λO ha t=>Trk.new x.keys ha t
set_option genInjectivity false in
set_option genSizeOf false in
structure aP where
 scope:Scope
 code:Option (Addr×Addr)
 qual:Str
 comp:Str->Bool:=λO=>false
set_option genInjectivity false in
set_option genSizeOf false in
structure aY (B:aJ)(fi:aP)(env:Env):Prop where
 scope:env.scope=fi.scope
 kind:fi.scope.kind=.function
 coro:fi.scope.isCoroutine=false
 globals:env.globals=mainGlobals
 builtins:env.builtins=builtinsNs
 qual:env.qual=fi.qual
 code:∀c P,fi.code=some (c,P)->env.code=.ref c
 above:∀x,fi.comp x=false->∀c,env.kindOf x=some .cell->env.cells.lookup x=some c->@LT.lt Nat _ env.locals c
 free:∀x,fi.comp x=false->∀c,env.kindOf x=some .cell->env.cells.lookup x=some c->B.g.get? c=Option.none
noncomputable def VRo (T:Addr->Prop)(h:Heap)(ov:Option Value):Option PV->Prop
 | Option.none=>True
 | some p=>∃v,ov=some v/\VR h T v p
noncomputable def FY (env:Env)(a:Addr):Prop:=∃x,env.kindOf x=some .cell/\env.cells.lookup x=some a/\@LT.lt Nat _ env.locals a
noncomputable def bJ (env:Env)(a:Addr):Prop:=a=env.locals\/FY env a
noncomputable def aH (B:aJ)(x:Str)(p:PV):Prop:=
 ∃v,(B.mg x=some v\/(B.mg x=Option.none/\bootBuiltins x=some v/\x≠"__name__"))/\∀T h,VR h T v p
inductive aGh (T:Addr->Prop)(env:Env)(σ:St)(h:Heap):Prop
 | mk (m:Str->Option Value) (a:h.Ns env.locals m) (b:∀x p,(x,NameKind.local,some p)∈σ->VRo T h (m x) (some p))
inductive hZ (ov:Option PV)(x:Str)(env:Env)(T:Addr->Prop)(h:Heap):Prop
 | mk (c:Addr) (w:Option Value) (a:env.cells.lookup x=some c) (b:h.IsCell c w) (d:VRo T h w ov)
set_option genInjectivity false in
set_option genSizeOf false in
structure aA (s:Shared)(H:AH)(σ:St)(env:Env)(B:aJ):Prop where
 fresh:B.g.get? env.locals=Option.none
 apart:∀x y c,env.cells.lookup x=some c->env.cells.lookup y=some c->x=y
 keys:σ.map (λe=>(e.1,e.2.1))=env.scope.names
 nodup:(env.scope.names.map (λe=>e.1)).Nodup
 ns:aGh (Trk H B) env σ s.heap
 cell:∀x ov,(x,NameKind.cell,ov)∈σ\/(x,NameKind.free,ov)∈σ->hZ ov x env (Trk H B) s.heap
 glob:∀x p,(x,NameKind.globalImplicit,some p)∈σ->aH B x p
theorem VRo.mono {T T':Addr->Prop}{h h':Heap}(hk:∀a o,h.get? a=some o->a9 o->¬T a->h'.get? a=some o)(ht:∀a,a<h.objs.size->T' a->T a){ov:Option Value} :
   ∀{p:Option PV},VRo T h ov p->VRo T' h' ov p
 | Option.none,_=>trivial
 | some _,⟨v,e,r⟩=>⟨v,e,r.mono hk ht⟩
theorem a0 {α:Type}{l:List (Str×α)}{x:Str}{k:α}(hn:(l.map (λe=>e.1)).Nodup)(hm:(x,k)∈l):l.lookup x=some k:=by
 induction l with
 | nil=>exact (Bo hm).elim
 | cons e r ih=>
   have hn:=ncp hn;rw [List.lookup_cons]
   cases hb:x==e.1 with
   | true=>
     rcases mcp hm with q | hm
     . exact congrArg (λe=>some e.2) q.symm
     . exact (hn.1 (mmr ⟨_,hm,eq_of_beq hb⟩)).elim
   | false=>
     rcases mcp hm with q | hm
     . exact (ne_of_beq_false hb (congrArg (·.1) q)).elim
     . exact ih hn.2 hm
theorem aA.kindOf {B:aJ}{env:Env}{σ:St}{H:AH}{s:Shared}(F:aA s H σ env B){x:Str}{k:NameKind}{ov:Option PV}(hm:(x,k,ov)∈σ):env.kindOf x=some k:=by
 refine a0 F.nodup ?_;rw [<-F.keys];exact By (f:=λe:Str×NameKind×Option PV=>(e.1,e.2.1)) hm
theorem gk {B:aJ}{H:AH}{s:Shared}(I:Inv B H s){a:Addr}{o:Obj}(e:s.heap.get? a=some o)(hd:∀vs n,o.data≠.seq vs n):a∉H.map (·.1):=λq=>by
 obtain ⟨p,hp,rfl⟩:=mmp q;obtain ⟨O,vs,n,e',O⟩:=I.objs p hp;rw [e] at e';cases e';exact hd _ _ rfl
theorem iC {B:aJ}{H:AH}{s:Shared}(I:Inv B H s){a:Addr}{o:Obj}(e:s.heap.get? a=some o)(hd:∀vs,o.data≠.fields vs):a∉B.tabs.map (·.2):=λq=>by
 obtain ⟨p,hp,rfl⟩:=mmp q;obtain ⟨ps,e',O⟩:=I.tabs p hp;rw [e] at e';cases e';exact hd _ rfl
theorem ee {B:aJ}{H:AH}{s:Shared}(I:Inv B H s){a:Addr}{o:Obj}(e:s.heap.get? a=some o)(hd:∀vs n,o.data≠.seq vs n):a∉B.hid.map (·.1):=λq=>by
 obtain ⟨p,hp,rfl⟩:=mmp q;obtain ⟨e',⟨vs,n,hs⟩,O⟩:=I.hid p hp;rw [e] at e';cases e';exact hd _ _ hs
theorem b6 {B:aJ}{H:AH}{s:Shared}(I:Inv B H s){a:Addr}{o:Obj}(e:s.heap.get? a=some o)(hd:∀vs n,o.data≠.seq vs n)(hd':∀vs,o.data≠.fields vs):¬Trk H B a:=
 λq=>q.elim (gk I e hd) λq=>q.elim (iC I e hd') (ee I e hd)
theorem aA.tr {B:aJ}{env:Env}{σ:St}{H H':AH}{s s':Shared}(F:aA s H σ env B)(I:Inv B H s)(x:Tr noU s' H' s H B):aA s' H' σ env B:=by
 have hk:∀a o,s.heap.get? a=some o->¬Trk H B a->s'.heap.get? a=some o:=λa o e n=>x.step.heap a o e λq=>q.elim n False.elim;have ht:∀a,a<s.heap.objs.size->Trk H' B a->Trk H B a:=λa ha t=>Trk.new x.keys ha t;refine ⟨F.fresh,F.apart,F.keys,F.nodup,?_,λy ov hy=>?_,F.glob⟩
 . obtain ⟨m,⟨o,es,ep,ho,hd,r⟩,hm⟩:=F.ns
   exact ⟨m,⟨o,es,ep,hk _ _ ho (b6 I ho (by rw [hd];(intros;first | contradiction | (intro q;cases q))) (by rw [hd];(intros;first | contradiction | (intro q;cases q)))),hd,r⟩,λy p hy=>(hm y p hy).mono (λa o e O n=>hk a o e n) ht⟩
 . obtain ⟨c,w,hc,⟨o,ho,hd⟩,hv⟩:=F.cell y ov hy
   exact ⟨c,w,hc,⟨o,hk _ _ ho (b6 I ho (by rw [hd];(intros;first | contradiction | (intro q;cases q))) (by rw [hd];(intros;first | contradiction | (intro q;cases q)))),hd⟩,hv.mono (λa o e O n=>hk a o e n) ht⟩
set_option genInjectivity false in
set_option genSizeOf false in
structure ah (A:Around)(d:Nat):Prop where
 handled:A.handled=Option.none
 depth:A.depth+d<recursionLimit
 units:A.units+8*d+100<cLine
theorem ah.deeper {A:Around}{d:Nat}(R:ah A (d+1))(env:Env):ah (A.deeper env) d:=
 ⟨R.handled,by have:=R.depth;show A.depth+1+d<_;lia,by have:=R.units;show A.units+3+8*d+100<_;lia⟩
theorem ah.le {A:Around}{d d':Nat}(R:ah A d)(h:d'<=d):ah A d':=
 ⟨R.handled,by have:=R.depth;lia,by have:=R.units;lia⟩
theorem wpm {α:Type}{M:Model}{A:Around}{E:Value->Shared->Prop}{t:Sem α}{P Q:α->Shared->Prop}{s:Shared}(h:wpAny M A t P E s)(k:∀v s',P v s'->Q v s'):wpAny M A t Q E s:=wpAny_mono h k λO O x=>x
theorem wps {α β:Type}{M:Model}{A:Around}{E:Value->Shared->Prop}{m:Sem α}{f:α->Sem β}{P:α->Shared->Prop}{Q:β->Shared->Prop}{s:Shared}(h:wpAny M A m P E s)(k:∀v s',P v s'->wpAny M A (f v) Q E s'):wpAny M A (m >>= f) Q E s:=wpAny_bind (wpm h k)
noncomputable abbrev EP:=Value->Shared->Prop
inductive aN (B:aJ)(H:AH)(s:Shared)(Q:PQ)(r:Value)(s':Shared):Prop
 | mk (v:PV) (H':AH) (t:Tr noU s' H' s H B) (h:VR s'.heap (Trk H' B) r v) (q:Q v H')
theorem wpE {B:aJ}{M:Model}{A:Around}{E:EP}{t:Sem Value}{H:AH}{s:Shared}{Q:PQ}{P:Value->Shared->Prop}(h:wpAny M A t (aN B H s Q) E s)(k:∀r s' v H',Tr noU s' H' s H B->VR s'.heap (Trk H' B) r v->Q v H'->P r s'):wpAny M A t P E s:=
 wpm h λr s' p=>p.casesOn (k r s')
noncomputable def Ev (E:EP)(B:aJ)(d:Nat)(fi:aP)(σ:St)(H:AH)(e:Expr)(Q:PQ):Prop:=
 ∀A s env,aY B fi env->ah A d->Inv B H s->aA s H σ env B->
   wpAny (model B.prog B.w) A (eval e env) (aN B H s Q) E s
inductive PF where
 | brk | cont | ret (v:PV)
noncomputable abbrev FQ:=St->PF->AH->Prop
noncomputable def aAa (T:Addr->Prop)(h:Heap):Flow->PF->Prop
 | .brk,.brk=>True
 | .cont,.cont=>True
 | .ret v,.ret p=>VR h T v p
 | _,_=>False
noncomputable def aGp (B:aJ)(Qn:SQ)(Qf:FQ)(σ':St)(H':AH)(fl:Flow)(s':Shared):Prop:=
 (fl=.next/\Qn σ' H')\/∃pf,aAa (Trk H' B) s'.heap fl pf/\Qf σ' pf H'
inductive fc (B:aJ)(env:Env)(H:AH)(s:Shared)(Qn:SQ)(Qf:FQ)(fl:Flow)(s':Shared):Prop
 | mk (σ':St) (H':AH) (t:Tr (bJ env) s' H' s H B) (F:aA s' H' σ' env B) (q:aGp B Qn Qf σ' H' fl s')
noncomputable def Xs (E:EP)(B:aJ)(d:Nat)(fi:aP)(H:AH)(σ:St)(b:List Stmt)(Qn:SQ)(Qf:FQ):Prop:=
 ∀A s env,aY B fi env->ah A d->Inv B H s->aA s H σ env B->
   wpAny (model B.prog B.w) A (execs b env) (fc B env H s Qn Qf) E s
noncomputable def X (B:aJ)(fi:aP)(d:Nat)(E:EP)(st:Stmt)(σ:St)(H:AH)(Qn:SQ)(Qf:FQ):Prop:=
 ∀A s env,aY B fi env->ah A d->Inv B H s->aA s H σ env B->
   wpAny (model B.prog B.w) A (exec st env) (fc B env H s Qn Qf) E s
end
variable {E:EP}{B:aJ}{d:Nat}{fi:aP}{T:Addr->Prop}{P:Addr->Prop}{S:Setting}{A:Around}{env:Env}{scope:Scope}{H:AH}{Qf:FQ}{Qn:SQ}{σ:St}{H':AH}{D a f l:Addr}{e tgt:Expr}{h h':Heap}{r:List Nat}{xs xs' ys:List PV}{body rest:List Stmt}{vs:List Value}{b i k m:Nat}{o:Obj}{an:Option Addr}{Q:PQ}{p v:PV}{pos:Pos}{s s' s₁:Shared}{σ':St}{x:Str}{cdv dV kV va w:Value}
theorem tO {lo hi:Nat}(h:lo<hi):lo<=(lo+hi)/2:=(Nat.le_div_iff_mul_le (AB 1)).mpr (AY lo▸AD (Ah h) lo)
theorem kU {lo hi:Nat}(h:lo<hi):(lo+hi)/2<hi:=(AF (AB 1)).mpr (AY hi▸Nat.add_lt_add_right h hi)
theorem yr {lo hi:Nat}(h:lo<hi):hi-((lo+hi)/2+1)<hi-lo:=Nat.sub_lt_sub_left h (AT (tO h))
theorem zY {lo hi:Nat}(h:lo<hi):(lo+hi)/2-lo<hi-lo:=Nat.sub_lt_sub_right (tO h) (kU h)
theorem yD {α β:Type}(f:α->β)(l:List α)(a:α):l.map f++[f a]=(l++[a]).map f:=(Bq (l₂:=[a])).symm
inductive ur (B:aJ)(H:AH)(s:Shared)(Q:BQ)(b:Bool)(s':Shared):Prop
 | mk (H':AH) (t:Tr noU s' H' s H B) (q:Q b H')
inductive Go (B:aJ)(H:AH)(s:Shared)(n:Nat)(Q:LQ)(vs:List Value)(s':Shared):Prop
 | mk (ps:List PV) (H':AH) (t:Tr noU s' H' s H B) (l:vs.length=n) (r:VRs s'.heap (Trk H' B) vs ps) (q:Q ps H')
theorem wpT {M:Model}{t:Sem Bool}{Q:BQ}{P:Bool->Shared->Prop}(h:wpAny M A t (ur B H s Q) E s)(k:∀b s' H',Tr noU s' H' s H B->Q b H'->P b s'):wpAny M A t P E s:=
 wpm h λb s' p=>p.casesOn (k b s')
theorem wpL {M:Model}{t:Sem (List Value)}{n:Nat}{Q:LQ}{P:List Value->Shared->Prop}(h:wpAny M A t (Go B H s n Q) E s)(k:∀vs s' ps H',Tr noU s' H' s H B->vs.length=n->VRs s'.heap (Trk H' B) vs ps->Q ps H'->P vs s'):wpAny M A t P E s:=
 wpm h λvs s' p=>p.casesOn (k vs s')
theorem aN.trans {H₁:AH}{r:Value}(t:Tr noU s₁ H₁ s H B)(p:aN B H₁ s₁ Q r s'):aN B H s Q r s':=by
 obtain ⟨v,H',t',r',q⟩:=p;exact ⟨v,H',t.trans t',r',q⟩
theorem aN.mono {Q':PQ}{r:Value}(h:∀v H',Q v H'->Q' v H')(p:aN B H s Q r s'):aN B H s Q' r s':=by
 obtain ⟨v,H',t',r',q⟩:=p;exact ⟨v,H',t',r',h _ _ q⟩
theorem aN.here {H:AH}{r:Value}(I:Inv B H s)(hr:VR s.heap (Trk H B) r v)(q:Q v H):aN B H s Q r s:=
 ⟨v,H,.refl I,hr,q⟩
theorem Inv.tok (I:Inv B H s)(t:Nat):Inv B H { s with toks:=t }:=⟨I.keep,I.size,I.tabs,I.bare,I.os,I.nodup,I.hid,I.objs⟩
theorem Tr.tok (I:Inv B H s)(t:Nat):Tr noU { s with toks:=t } H s H B:=⟨I.tok t,⟨λO O e O=>e,Ab _,λO O e=>e⟩,λO h=>.inl h⟩
theorem Inv.push (I:Inv B H s)(o:Obj):Inv B H { s with heap:=s.heap.push o }:=by
 have hk:∀a ob,s.heap.get? a=some ob->a9 ob->¬Trk H B a->(s.heap.push o).get? a=some ob:=λa ob e O O=>Heap.get?_push_of_some _ e;refine ⟨λa ob e=>Heap.get?_push_of_some _ (I.keep a ob e),?_,λq hq=>?_,I.bare,I.os,I.nodup,λq hq=>let ⟨a,b,c,e⟩:=I.hid q hq;⟨Heap.get?_push_of_some _ a,b,c,e⟩,λp hp=>?_⟩
 . show B.g.objs.size<=(s.heap.push o).objs.size
   rw [Heap.size_push];exact Ay I.size
 . obtain ⟨ps,h1,h2,h3⟩:=I.tabs q hq
   exact ⟨ps,Heap.get?_push_of_some _ h1,h2,λpos cv hc=>let ⟨qn,a,b⟩:=h3 pos cv hc;⟨qn,a,b.keeps λO O e=>Heap.get?_push_of_some _ e⟩⟩
 . obtain ⟨h1,vs,n,h2,h3⟩:=I.objs p hp
   exact ⟨h1,vs,n,Heap.get?_push_of_some _ h2,h3.mono hk λO O t=>t⟩
theorem Tr.push (I:Inv B H s)(o:Obj):Tr noU { s with heap:=s.heap.push o } H s H B:=
 ⟨I.push o,⟨λO O e O=>Heap.get?_push_of_some _ e,by show _<=(s.heap.push o).objs.size;rw [Heap.size_push];exact Ax _,λO O e=>e⟩,λO h=>.inl h⟩
theorem aW (I:Inv B H s):¬Trk H B s.heap.objs.size:=by
 intro q;rcases q with q | q
 . obtain ⟨p,hp,e⟩:=mmp q
   obtain ⟨O,vs,n,h2,O⟩:=I.objs p hp;exact absurd (Heap.lt_size h2) (by rw [e];exact Az _)
 . rcases q with q | q
   . obtain ⟨p,hp,e⟩:=mmp q
     obtain ⟨ps,h2,O⟩:=I.tabs p hp;exact absurd (Heap.lt_size h2) (by rw [e];exact Az _)
   . obtain ⟨p,hp,e⟩:=mmp q
     obtain ⟨h2,O⟩:=I.hid p hp;exact absurd (Heap.lt_size h2) (by rw [e];exact Az _)
theorem Tr.track (I:Inv B H s)(hv:VRs s.heap (Trk H B) vs xs) :
   Tr noU { s with heap:=s.heap.push (al vs.toArray 0) } ((s.heap.objs.size,xs)::H) s H B:=by
 have J:=I.push (al vs.toArray 0);have hn:s.heap.objs.size∉H.map (·.1):=λq=>aW I (.inl q)
 have ht:∀a,a<s.heap.objs.size->Trk ((s.heap.objs.size,xs)::H) B a->Trk H B a:=by
   intro a ha t;rcases t with t | t
   . rcases mcp t with q | q
     . exact absurd ha (by rw [show a=s.heap.objs.size from q];exact Az _)
     . exact .inl q
   . exact .inr t
 have hk:∀a ob,s.heap.get? a=some ob->a9 ob->¬Trk H B a->(s.heap.push (al vs.toArray 0)).get? a=some ob:=λa ob e O O=>Heap.get?_push_of_some _ e;refine ⟨⟨J.keep,J.size,J.tabs,J.bare,J.os,List.nodup_cons.mpr ⟨hn,I.nodup⟩,λq hq=>let ⟨a,b,c,e⟩:=I.hid q hq;⟨Heap.get?_push_of_some _ a,b,c,λt=>(mcp t).elim (λt=>absurd (Heap.lt_size a) (by rw [t];exact Az _)) e⟩,λp hp=>?_⟩,(Tr.push I _).step,λa ha=>?_⟩
 . rcases mcp hp with rfl | hp
   . refine ⟨Heap.get?_none_of_le I.size,vs.toArray,0,Heap.get?_push_size _ rfl,?_⟩
     exact hv.mono hk ht
   . obtain ⟨h1,vs',n,h2,h3⟩:=I.objs p hp
     exact ⟨h1,vs',n,Heap.get?_push_of_some _ h2,h3.mono hk ht⟩
 . rcases mcp ha with q | q
   . exact .inr (Ac q.symm)
   . exact .inl q
theorem dS {α:Type}{M:Model}{c:Prop}[Decidable c]{x y:Sem α}{Q:α->Shared->Prop}(hc:¬c)(h:wpAny M A y Q E s):wpAny M A (if c then x else y) Q E s:=by rw [if_neg hc];exact h
theorem ig {α:Type}{M:Model}{c:Prop}[Decidable c]{x y:Sem α}{Q:α->Shared->Prop}(h1:c->wpAny M A x Q E s)(h2:¬c->wpAny M A y Q E s):wpAny M A (if c then x else y) Q E s:=by
 by_cases h:c
 . rw [if_pos h];exact h1 h
 . rw [if_neg h];exact h2 h
section
theorem Ev.mono {Q':PQ}(h:Ev E B d fi σ H e Q)(hq:∀v H',Q v H'->Q' v H'):Ev E B d fi σ H e Q':=
 λA s env e R I F=>wpm (h A s env e R I F) (λO O p=>aN.mono hq p)
noncomputable def V1 (B:aJ)(d:Nat)(E:EP)(t:Value->Sem Value)(a:PV)(H:AH)(Q:PQ):Prop:=
 ∀A s,ah A d->Inv B H s->∀va,VR s.heap (Trk H B) va a->wpAny (model B.prog B.w) A (t va) (aN B H s Q) E s
noncomputable def V2 (H:AH)(E:EP)(B:aJ)(d:Nat)(b:PV)(a:PV)(t:Value->Value->Sem Value)(Q:PQ):Prop:=
 ∀A s,ah A d->Inv B H s->∀va vb,VR s.heap (Trk H B) va a->VR s.heap (Trk H B) vb b->wpAny (model B.prog B.w) A (t va vb) (aN B H s Q) E s
noncomputable def Tru (B:aJ)(d:Nat)(E:EP)(a:PV)(H:AH)(Q:BQ):Prop:=
 ∀A s,ah A d->Inv B H s->∀va,VR s.heap (Trk H B) va a->wpAny (model B.prog B.w) A (truthy va) (ur B H s Q) E s
noncomputable def dc (T:Addr->Prop)(h:Heap)(kvs:List (Str×Value))(kw:List (Str×PV)):Prop:=VRs h T (kvs.map (·.2)) (kw.map (·.2))/\kvs.map (·.1)=kw.map (·.1)
noncomputable def aM (kw:List (Str×PV))(E:EP)(H:AH)(B:aJ)(d:Nat)(f:PV)(args:List PV)(Q:PQ):Prop:=
 ∀A s,ah A d->Inv B H s->∀fv vs kvs,VR s.heap (Trk H B) fv f->VRs s.heap (Trk H B) vs args->dc (Trk H B) s.heap kvs kw->
   wpAny (model B.prog B.w) A (call fv vs kvs) (aN B H s Q) E s
noncomputable def cQ (B:aJ)(f:PV):Prop:=
 ∀A (E:EP) H s fv,Inv B H s->VR s.heap (Trk H B) fv f->∀Q:Keeper->Shared->Prop,(∀k,Q k s)->wpAny (model B.prog B.w) A (keeperOf fv) Q E s
theorem aM.le {d':Nat}(hd:d'<=d){f:PV}{args:List PV}{kw:List (Str×PV)}(h:aM kw E H B d' f args Q):aM kw E H B d f args Q:=
 λA s R I=>h A s (R.le hd) I
theorem yv {i:Int}(h:Q (.int i) H):Ev E B d fi σ H (.Constant (.int i) k pos) Q:=
 λO s O O O I O=>wpAny_Constant_int ⟨_,_,Tr.tok I _,.int _ _,h⟩
theorem uL (h:Q (.str x) H):Ev E B d fi σ H (.Constant (.str x) k pos) Q:=
 λO s O O O I O=>Calls.Constant_str ⟨_,_,Tr.tok I _,.str _ _,h⟩
theorem p4 {x:List UInt8}(h:Q (.bytes x.toArray) H):Ev E B d fi σ H (.Constant (.bytes x) k pos) Q:=
 λO s O O O I O=>λO O O=>⟨_,_,Tr.tok I _,.bytes _ _,h⟩
theorem vI {b:Bool}(h:Q (.bool b) H):Ev E B d fi σ H (.Constant (.bool b) k pos) Q:=
 λO s O O O I O=>λO O O=>aN.here I (.bool _) h
theorem uZ (h:Q .none H):Ev E B d fi σ H (.Constant .none k pos) Q:=
 λO s O O O I O=>λO O O=>aN.here I .none h
theorem aY.kindF (e:aY B fi env):env.scope.kind=.function:=by rw [e.scope];exact e.kind
noncomputable def Ld (B:aJ)(fi:aP)(d:Nat)(E:EP)(x:Str)(σ:St)(H:AH)(Q:PQ):Prop:=
 ∀A s env,aY B fi env->ah A d->Inv B H s->aA s H σ env B->wpAny (model B.prog B.w) A (loadName env x) (aN B H s Q) E s
theorem CY (hm:(x,NameKind.local,some v)∈σ)(h:Q v H):Ld B fi d E x σ H Q:=λO s env e O I F=>by
 obtain ⟨m,hns,hmm⟩:=F.ns;obtain ⟨v',hv',hr⟩:=hmm x v hm;exact wpAny_loadName_local e.kindF (F.kindOf hm) hns hv' (aN.here I hr h)
theorem Fl (hm:(x,NameKind.cell,some v)∈σ)(h:Q v H):Ld B fi d E x σ H Q:=λO s env e O I F=>by
 obtain ⟨c,ov,hc,ho,v',rfl,hr⟩:=F.cell x _ (.inl hm);exact wpAny_loadName_cell e.kindF (F.kindOf hm) hc ho (aN.here I hr h)
theorem GE (hm:(x,NameKind.free,some v)∈σ)(h:Q v H)
   (hc':autoParam ((x==("__classdict__" : Str))=false) nB):Ld B fi d E x σ H Q:=λO s env e O I F=>by
 obtain ⟨c,ov,hc,ho,v',rfl,hr⟩:=F.cell x _ (.inr hm);exact wpAny_loadName_free e.kindF (F.kindOf hm) hc ho (aN.here I hr h) hc'
theorem xR (hm:(x,NameKind.globalImplicit,some p)∈σ)(h:Q p H):Ld B fi d E x σ H Q:=λA s env e O I F=>by
 obtain ⟨v,hv,hr⟩:=F.glob x p hm;have hg:s.heap.Ns env.globals B.mg:=by rw [e.globals];exact B.nsg.keeps I.keep
 have hk:=F.kindOf hm
 have hb:wpAny (model B.prog B.w) A (loadGlobal env x) (aN B H s Q) E s:=by
   rcases hv with hv | ⟨h1,h2,h3⟩
   . exact Calls.loadGlobal_global hg hv (aN.here I (hr _ _) h)
   . exact Calls.loadGlobal_builtin hg h1 (by rw [e.builtins];exact B.nsb.keeps I.keep) ((B.boot x h3).trans h2) (aN.here I (hr _ _) h)
 exact (loadName_read e.kindF hk).symm▸hb
theorem uc (h:Ld B fi d E x σ H Q)(hd:autoParam ((x==("__debug__" : Str))=false) nB):Ev E B d fi σ H (.Name x pos) Q:=
 λA s env e R I F=>wpAny_Name (h A s env e R I F) hd
theorem rG {l r:Expr}{op:Operator}
   (h:Ev E B d fi σ H l λa H₁=>Ev E B d fi σ H₁ r λb H₂=>V2 H₂ E B d b a (binaryOp op) Q):Ev E B d fi σ H (.BinOp l op r pos) Q:=λA s env e R I F=>by
 refine wpAny_BinOp (wpE (h A s env e R I F) (λva s₁ a H₁ t₁ r₁ h₁=>?_));refine wpE (h₁ A s₁ env e R t₁.inv (F.tr I t₁)) (λvb s₂ b H₂ t₂ r₂ h₂=>?_);exact wpm (h₂ A s₂ R t₂.inv va vb (r₁.tr t₂) r₂) (λO O p=>(p.trans t₂).trans t₁)
theorem sf {x:Expr}{op:UnaryOp}
   (h:Ev E B d fi σ H x λa H₁=>V1 B d E (unaryOp op) a H₁ Q):Ev E B d fi σ H (.UnaryOp op x pos) Q:=λA s env e R I F=>by
 show wpAny _ A (do let v<-eval x env;standAt pos;holding [v] (unaryOp op v)) _ _ s;refine wps (h A s env e R I F) (λva s₁ ⟨a,H₁,t₁,r₁,h₁⟩=>wpAny_bind (wpAny_standAt (wpAny_holding ?_)));exact wpm (h₁ A s₁ R t₁.inv va r₁) (λO O p=>p.trans t₁)
theorem j8 {l r:Expr}{op:CmpOp}
   (h:Ev E B d fi σ H l λa H₁=>Ev E B d fi σ H₁ r λb H₂=>V2 H₂ E B d b a (compareOp op) Q)
   (hm:autoParam (behindInMarks op r=false) nE):Ev E B d fi σ H (.Compare l [op] [r] pos) Q:=λA s env e R I F=>by
 refine wpAny_Compare1 (wpE (h A s env e R I F) (λva s₁ a H₁ t₁ r₁ h₁=>?_)) hm;refine wpE (h₁ A s₁ env e R t₁.inv (F.tr I t₁)) (λvb s₂ b H₂ t₂ r₂ h₂=>?_);exact wpm (h₂ A s₂ R t₂.inv va vb (r₁.tr t₂) r₂) (λO O p=>(p.trans t₂).trans t₁)
noncomputable def Tst (B:aJ)(fi:aP)(d:Nat)(E:EP)(e:Expr)(σ:St)(H:AH)(Q:BQ):Prop:=
 ∀A s env,aY B fi env->ah A d->Inv B H s->aA s H σ env B->
   wpAny (model B.prog B.w) A (isTrue e env (eval e env)) (ur B H s Q) E s
theorem jX {Q:BQ}(h:Ev E B d fi σ H e λv H₁=>Tru B d E v H₁ Q)
   (he:autoParam (∀env w,isTrue e env w=(do let v<-w;standAt e.pos;holding [v] (truthy v))) nC):Tst B fi d E e σ H Q:=λA s env e' R I F=>by
 rw [he];refine wps (h A s env e' R I F) (λva s₁ ⟨a,H₁,t₁,r₁,h₁⟩=>wpAny_bind (wpAny_standAt (wpAny_holding ?_)));exact wpm (h₁ A s₁ R t₁.inv va r₁) (λO O hh1=>by obtain ⟨H',t',q⟩:=hh1;exact ⟨H',t₁.trans t',q⟩)
theorem iy {l r:Expr}{op:CmpOp}{Q:BQ}
   (h:Ev E B d fi σ H l λa H₁=>Ev E B d fi σ H₁ r λb H₂=>V2 H₂ E B d b a (compareOp op) λc H₃=>Tru B d E c H₃ Q)
   (hm:autoParam (behindInMarks op r=false) nE):Tst B fi d E (.Compare l [op] [r] pos) σ H Q:=λA s env e R I F=>by
 refine wpAny_isTrue_Compare1 (wpE (h A s env e R I F) (λva s₁ a H₁ t₁ r₁ h₁=>?_)) hm;refine wpE (h₁ A s₁ env e R t₁.inv (F.tr I t₁)) (λvb s₂ b H₂ t₂ r₂ h₂=>?_);refine wpE (h₂ A s₂ R t₂.inv va vb (r₁.tr t₂) r₂) (λvc s₃ c H₃ t₃ r₃ h₃=>?_);exact wpm (h₃ A s₃ R t₃.inv vc r₃) (λO O hh1=>by obtain ⟨H',t',q⟩:=hh1;exact ⟨H',((t₁.trans t₂).trans t₃).trans t',q⟩)
theorem ku {b:Bool}{Q:BQ}(h:Q b H):Tru B d E (.bool b) H Q:=λA s R I va r=>by
 obtain ⟨O,rfl⟩:=r.inv;exact wpAny_truthy_bool ⟨H,.refl I,h⟩
theorem G0 {x:Expr}{Q:BQ}(h:Tst B fi d E x σ H λb H₁=>Q (!b) H₁):Tst B fi d E (.UnaryOp .Not x pos) σ H Q:=λA s env e R I F=>by
 show wpAny _ A (do return !(<-isTrue x env (eval x env))) _ _ s;exact wps (h A s env e R I F) (λb s₁ hh1=>by obtain ⟨H₁,t₁,q⟩:=hh1;exact wpAny_pure ⟨H₁,t₁,q⟩)
noncomputable def fN (B:aJ)(fi:aP)(d:Nat)(E:EP)(op:BoolOp):List Expr->St->AH->(BQ)->Prop
 | [],_,H,Q=>Q (op==.And) H
 | x::r,σ,H,Q=>Tst B fi d E x σ H λb H₁=>if b=(op==.Or) then Q b H₁ else fN B fi d E op r σ H₁ Q
theorem yz {op:BoolOp}:∀{xs:List Expr} {H:AH} {Q:BQ},fN B fi d E op xs σ H Q->∀A s env,aY B fi env->ah A d->Inv B H s->aA s H σ env B->
   wpAny (model B.prog B.w) A (allTrue op xs env) (ur B H s Q) E s:=by
 intro xs
 induction xs with
 | nil=>
   intro H Q h A s env e R I F;exact wpAny_pure ⟨H,.refl I,h⟩
 | cons x r ih=>
   intro H Q h A s env e R I F;refine wps (h A s env e R I F) (λb s₁ hh1=>?_);obtain ⟨H₁,t₁,h₁⟩:=hh1;cases op <;> cases b
   . exact wpAny_pure ⟨H₁,t₁,h₁⟩
   . have go':fN B fi d E .And r σ H₁ Q:=h₁
     exact wpm (ih go' A s₁ env e R t₁.inv (F.tr I t₁)) (λO O hh1=>by obtain ⟨H',t',q⟩:=hh1;exact ⟨H',t₁.trans t',q⟩)
   . have go':fN B fi d E .Or r σ H₁ Q:=h₁
     exact wpm (ih go' A s₁ env e R t₁.inv (F.tr I t₁)) (λO O hh1=>by obtain ⟨H',t',q⟩:=hh1;exact ⟨H',t₁.trans t',q⟩)
   . exact wpAny_pure ⟨H₁,t₁,h₁⟩
theorem s4 {op:BoolOp}{xs:List Expr}{Q:BQ}(h:fN B fi d E op xs σ H Q):Tst B fi d E (.BoolOp op xs pos) σ H Q:=
 λA s env e R I F=>yz h A s env e R I F
theorem bc {t b o:Expr}(h:Tst B fi d E t σ H λc H₁=>if c then Ev E B d fi σ H₁ b Q else Ev E B d fi σ H₁ o Q) :
   Ev E B d fi σ H (.IfExp t b o pos) Q:=λA s env e R I F=>by
 show wpAny _ A (do if<-isTrue t env (eval t env) then eval b env else eval o env) _ _ s;refine wps (h A s env e R I F) (λc s₁ hh1=>?_);obtain ⟨H₁,t₁,h₁⟩:=hh1
 cases c with
 | true=>
   exact wpm (h₁ A s₁ env e R t₁.inv (F.tr I t₁)) (λO O p=>aN.trans t₁ p)
 | false=>
   exact wpm (h₁ A s₁ env e R t₁.inv (F.tr I t₁)) (λO O p=>aN.trans t₁ p)
noncomputable def EvL (B:aJ)(fi:aP)(d:Nat)(E:EP):List Expr->St->AH->(LQ)->Prop
 | [],_,H,Q=>Q [] H
 | e::r,σ,H,Q=>Ev E B d fi σ H e λv H₁=>EvL B fi d E r σ H₁ λvs H₂=>Q (v::vs) H₂
set_option backward.match.sparseCases false in
noncomputable def ax:Expr->Bool
 | .Starred ..=>false
 | _=>true
theorem f4 {e:Expr}{r:List Expr}(h:ax e=true):starEach (e::r) env=(false,eval e env)::starEach r env:=by
 cases e <;> first | rfl | cases h
theorem ay :∀{es:List Expr} {H:AH} {Q:LQ},EvL B fi d E es σ H Q->es.all ax=true->∀A s env,aY B fi env->ah A d->Inv B H s->aA s H σ env B->
   wpAny (model B.prog B.w) A (spliced (backTo pos (starEach es env))) (Go B H s es.length Q) E s:=by
 intro es
 induction es with
 | nil=>
   intro H Q h _ A s env e R I F;exact Calls.spliced_nil ⟨[],H,.refl I,rfl,.nil,h⟩
 | cons x r ih=>
   intro H Q h hp A s env e R I F;have hp:=Bool.and_eq_true_iff.mp hp;refine args_cons (wpE (h A s env e R I F) (λv s₁ p H₁ t₁ q₁ h₁=>?_)) (f4 hp.1);exact wpm (ih h₁ hp.2 A s₁ env e R t₁.inv (F.tr I t₁)) (λvs s₂ hh1=>by obtain ⟨ps,H₂,t₂,l₂,q₂,h₂⟩:=hh1;exact ⟨p::ps,H₂,t₁.trans t₂,congrArg Nat.succ l₂,.cons (q₁.tr t₂) q₂,h₂⟩)
theorem tD {n:Nat}(h:n<=64):n<=sizeLine:=ntr h (by rw [sizeLine_eq];(exact Al ..))
theorem kS {es:List Expr}(h:EvL B fi d E es σ H λvs H₁=>Q (.tup vs) H₁)(hp:autoParam (es.all ax=true) nA)(hl:autoParam (es.length<=64) nB) :
   Ev E B d fi σ H (.Tuple es k pos) Q:=λA s env e R I F=>by
 refine Tuple_ (wpL (ay h hp A s env e R I F) (λvs s₁ ps H₁ t₁ l₁ q₁ h₁=>?_));refine wpAny_newTuple ⟨_,_,t₁.trans (Tr.push t₁.inv _),?_,h₁⟩ (tD (l₁▸hl));exact .tup (Heap.get?_push_size _ rfl) (aW t₁.inv) (q₁.tr (Tr.push t₁.inv _))
theorem aV {es:List Expr}(h:EvL B fi d E es σ H λvs H₁=>Q (.list vs) H₁)(hp:autoParam (es.all ax=true) nA)(hl:autoParam (es.length<=64) nB) :
   Ev E B d fi σ H (.List es pos) Q:=λA s env e R I F=>by
 refine List_ (wpL (ay h hp A s env e R I F) (λvs s₁ ps H₁ t₁ l₁ q₁ h₁=>?_));refine wpAny_newList ⟨_,_,t₁.trans (Tr.push t₁.inv _),?_,h₁⟩ (tD (l₁▸hl));exact .list (Heap.get?_push_size _ rfl) (aW t₁.inv) (q₁.tr (Tr.push t₁.inv _))
theorem dN {es:List Expr}(h:EvL B fi d E es σ H λvs H₁=>∀a,Q (.lref a) ((a,vs)::H₁))(hp:autoParam (es.all ax=true) nA)(hl:autoParam (es.length<=64) nB) :
   Ev E B d fi σ H (.List es pos) Q:=λA s env e R I F=>by
 refine List_ (wpL (ay h hp A s env e R I F) (λvs s₁ ps H₁ t₁ l₁ q₁ h₁=>?_));exact wpAny_newList ⟨_,_,t₁.trans (Tr.track t₁.inv q₁),.lref _,h₁ _⟩ (tD (l₁▸hl))
theorem bD {fv:Value}{first:List Value}{args:List (Bool×Sem Value)}{kws:List (Option Str×Sem Value)}{Q:Value->Shared->Prop}
   (h:wpAny (model B.prog B.w) A (evalArgs fv true args kws) (λa s₁=>(∀Q':Keeper->Shared->Prop,(∀k,Q' k s₁)->wpAny (model B.prog B.w) A (keeperOf fv) Q' E s₁)/\wpAny (model B.prog B.w) A (call fv (first++a.pos) a.kw) Q E s₁) E s) :
   wpAny (model B.prog B.w) A (callWith pos fv first args kws) Q E s:=by
 unfold callWith;refine wpAny_bind (wpAny_holding (wpm h (λa s₁ h₁=>wpAny_bind (wpAny_standAt ?_))))
 have tail:∀{t:Sem Value},wpAny (model B.prog B.w) A t Q E s₁->wpAny (model B.prog B.w) A (t >>= λr=>holding [r] point >>= λO=>pure r) Q E s₁:=
   λht=>wps ht (λr s₂ hr=>wpAny_bind (wpAny_holding (wpAny_point (wpAny_pure hr))))
 have hop:∀{vs:List Value} {m:Sem Value},wpAny (model B.prog B.w) A m Q E s₁->wpAny (model B.prog B.w) A (operate vs m) Q E s₁:=λhq Γ p hΓ=>by
   rw [Sem.wp_operate];exact hq Γ p hΓ
 dsimp only;refine wpAny_bind (h₁.1 _ λk=>?_);generalize (args.any (·.1) || kws.any (·.1.isNone))=st;have hc:=h₁.2;cases k <;> cases st <;> dsimp only
 . split
   . exact tail hc
   . exact tail (by unfold callMarked;exact Calls.wpAny_keep hc)
 . exact tail (by unfold callMarked;exact Calls.wpAny_keep hc)
 . split
   . exact tail hc
   . exact tail (by unfold callMarked;exact Calls.wpAny_keep hc)
 . exact tail (hop hc)
 . exact tail hc
 . exact tail (hop hc)
 . exact tail (hop hc)
 . exact tail (hop hc)
theorem ar {fv:Value}{es:List Expr}{Q:Args->Shared->Prop}(hp:es.all ax=true)
   (h:wpAny (model B.prog B.w) A (spliced (backTo pos (starEach es env))) (λvs s'=>Q ⟨vs,[]⟩ s') E s):wpAny (model B.prog B.w) A (evalArgs fv true (backTo pos (starEach es env)) []) Q E s:=by
 cases es with
 | nil=>
   unfold evalArgs;show wpAny _ A (spliced [] >>= _) Q E s;refine wps h (λvs s' h'=>?_);refine wpAny_holding ?_;exact wpAny_bind (wpAny_pure (wpAny_bind (wpAny_pure (wpAny_pure h'))))
 | cons x r=>
   simp only [List.all_cons,Ca] at hp;rw [f4 hp.1] at h ⊢;exact Calls.evalArgs_plain h
theorem F9 {func:Expr}{args:List Expr}
   (h:Ev E B d fi σ H func λf H₁=>cQ B f/\EvL B fi d E args σ H₁ λvs H₂=>aM [] E H₂ B d f vs Q)
   (hp:autoParam (args.all ax=true) nA)
   (he:autoParam (∀env,eval (.Call func args [] pos) env=(do callWith pos (<-eval func env) [] (backTo pos (starEach args env)) (backToKw pos (keywordEach [] env)))) nC) :
   Ev E B d fi σ H (.Call func args [] pos) Q:=λA s env e R I F=>by
 refine Call_ (wpm (h A s env e R I F) (λfv s₁ hh1=>?_)) (he env);obtain ⟨f,H₁,t₁,q₁,hk,h₁⟩:=hh1;refine bD (ar hp (wpm (ay h₁ hp A s₁ env e R t₁.inv (F.tr I t₁)) (λvs s₂ ⟨ps,H₂,t₂,l₂,q₂,h₂⟩=>⟨hk A E H₂ s₂ fv t₂.inv (q₁.tr t₂),?_⟩)));refine wpm (h₂ A s₂ R t₂.inv fv vs [] (q₁.tr t₂) q₂ ⟨.nil,rfl⟩) (λO O p=>(p.trans t₂).trans t₁)
end
inductive Rep (x:Str)(p:PV)(k:NameKind):St->St->Prop
 | head {ov:Option PV} {r:St}:Rep x p k ((x,k,ov)::r) ((x,k,some p)::r)
 | tail {e:Str×NameKind×Option PV} {r r':St}:Rep x p k r r'->Rep x p k (e::r) (e::r')
theorem Rep.keys {k:NameKind}(h:Rep x p k σ σ'):σ'.map (λe=>(e.1,e.2.1))=σ.map (λe=>(e.1,e.2.1)):=by
 induction h with
 | head=>rfl
 | tail _ ih=>simp only [Bs,ih]
theorem Rep.has {k:NameKind}(h:Rep x p k σ σ'):∃ov,(x,k,ov)∈σ:=by
 induction h with
 | head=>exact ⟨_,mcs⟩
 | tail _ ih=>exact ⟨ih.choose,mcm _ ih.choose_spec⟩
theorem Rep.all {k:NameKind}{σ':St}(h:Rep x p k σ σ'):(σ.map (λe=>e.1)).Nodup->∀e∈σ',e=(x,k,some p)\/(e.1≠x/\e∈σ):=by
 induction h with
 | head=>
   intro hn;exact fmc ⟨.inl rfl,λe he=>.inr ⟨λq=>(ncp hn).1 (mmr ⟨e,he,q⟩),.tail _ he⟩⟩
 | tail h ih=>
   intro hn;obtain ⟨ov,hx⟩:=h.has;have hn:=ncp hn;exact fmc ⟨.inr ⟨λq=>hn.1 (mmr ⟨_,hx,q.symm⟩),.head _⟩,λe he=>(ih hn.2 e he).imp id λq=>⟨q.1,.tail _ q.2⟩⟩
theorem aA.nodupS (F:aA s H σ env B):(σ.map (λe=>e.1)).Nodup:=by
 have:=F.nodup;rw [<-F.keys,Bm] at this;exact this
theorem Inv.change {t:Nat}(I:Inv B H s)(ho:s.heap.get? a=some o)(hd:∀vs n,o.data≠.seq vs n)(hd':∀vs,o.data≠.fields vs)
   (hg:B.g.get? a=none)(hs:Heap.SameBut a s.heap h'):Inv B H { s with heap:=h',toks:=t }:=by
 have hnt:=b6 I ho hd hd'
 have ne:∀b ob,s.heap.get? b=some ob->(a9 ob\/∃vs,ob.data=.fields vs)->h'.get? b=some ob:=λb ob e q=>by
   refine (hs.2 b λeq=>?_).trans e;rw [eq,ho] at e;cases e;rcases q with ⟨vs,n,q⟩ | ⟨vs,q⟩
   . exact hd _ _ q
   . exact hd' _ q
 have hk:∀b ob,s.heap.get? b=some ob->a9 ob->¬Trk H B b->h'.get? b=some ob:=λb ob e q O=>ne b ob e (.inl q);refine ⟨λb ob e=>?_,?_,λq hq=>?_,I.bare,I.os,I.nodup,λq hq=>let ⟨a,b,c,e⟩:=I.hid q hq;⟨ne _ _ a (.inl b),b,c,e⟩,λp hp=>?_⟩
 . refine (hs.2 b λeq=>?_).trans (I.keep b ob e)
   rw [eq,hg] at e;cases e
 . show B.g.objs.size<=h'.objs.size
   rw [hs.1];exact I.size
 . obtain ⟨ps,h1,h2,h3⟩:=I.tabs q hq
   refine ⟨ps,ne _ _ h1 (.inr ⟨_,rfl⟩),h2,λpos cv hc=>?_⟩;obtain ⟨qn,a1,c,oc,vs,t,e1,e2,e3,e4⟩:=h3 pos cv hc;exact ⟨qn,a1,c,oc,vs,t,e1,ne _ _ e2 (.inr ⟨_,e3⟩),e3,e4⟩
 . obtain ⟨h1,vs,n,h2,h3⟩:=I.objs p hp
   exact ⟨h1,vs,n,ne _ _ h2 (.inl ⟨_,_,rfl⟩),h3.mono hk λO O t=>t⟩
section
noncomputable def bM (fi:aP)(k:NameKind):Prop:=k=.local\/(k=.cell/\fi.comp=λO=>false)
theorem bM.at {k:NameKind}(h:bM fi k)(x:Str):k=.local\/(k=.cell/\fi.comp x=false):=Or.elim h .inl λh=>.inr ⟨h.1,congrFun h.2 x⟩
theorem vS (ho:s.heap.get? a=some o)(hd:∀vs n,o.data≠.seq vs n)(hs:Heap.SameBut a s.heap h'):∀b ob,s.heap.get? b=some ob->a9 ob->¬Trk H B b->h'.get? b=some ob:=λb ob e q O=>(hs.2 b λeq=>by
 obtain ⟨vs,n,q⟩:=q;subst eq
 exact hd vs n (Option.some.inj (ho.symm.trans e)▸q)).trans e
section
variable (F:aA s H σ env B)
include F
theorem aA.cell_ne {c:Addr}{w:Option Value}(h:s.heap.IsCell c w):c≠env.locals:=λeq=>by
 obtain ⟨O,⟨O,O,O,ho,hd,O⟩,O⟩:=F.ns;obtain ⟨O,ho',hd'⟩:=h;subst eq;cases ho.symm.trans ho';exact (by cases (hd.symm.trans hd'))
theorem aA.loc_but (hs:Heap.SameBut env.locals s.heap h'):∀b ob,s.heap.get? b=some ob->a9 ob->¬Trk H B b->h'.get? b=some ob:=by
 obtain ⟨O,⟨O,O,O,ho,hd,O⟩,O⟩:=F.ns;exact vS ho (by rw [hd];(intros;first | contradiction | (intro q;cases q))) hs
theorem Tr.own1 (I:Inv B H s){t:Nat}(hs:Heap.SameBut env.locals s.heap h'):Tr (bJ env) { s with heap:=h',toks:=t } H s H B:=by
 obtain ⟨O,⟨O,O,O,ho,hd,O⟩,O⟩:=F.ns;exact ⟨I.change ho (by rw [hd];(intros;first | contradiction | (intro q;cases q))) (by rw [hd];(intros;first | contradiction | (intro q;cases q))) F.fresh hs,⟨λb ob eb hn=>(hs.2 b λeq=>hn (.inr (.inl eq))).trans eb,Ac hs.1.symm,λO O q=>q⟩,λO h=>.inl h⟩
theorem aA.upd {σ':St}{m':Str->Option Value}(hs:Heap.SameBut env.locals s.heap s'.heap)(hk:σ'.map (λe=>(e.1,e.2.1))=env.scope.names)(hn:s'.heap.Ns env.locals m')(hl:∀x p,(x,NameKind.local,some p)∈σ'->VRo (Trk H B) s'.heap (m' x) (some p))
   (ho:∀e∈σ',e.2.1≠.local->e∈σ):aA s' H σ' env B:=by
 refine ⟨F.fresh,F.apart,hk,F.nodup,⟨_,hn,hl⟩,λy ov hy=>?_,λy q hy=>F.glob y q (ho _ hy (by intros;first | contradiction | (intro q;cases q)))⟩;obtain ⟨c,w,hc,hcell,hv⟩:=F.cell y ov (hy.imp (λh=>ho _ h (by intros;first | contradiction | (intro q;cases q))) λh=>ho _ h (by intros;first | contradiction | (intro q;cases q)));exact ⟨c,w,hc,hcell.sameBut hs (F.cell_ne hcell),hv.mono (F.loc_but hs) λO O t=>t⟩
end
theorem yI {v:Value}{k:NameKind}(e:aY B fi env)(I:Inv B H s)(F:aA s H σ env B)(r:VR s.heap (Trk H B) v p)
   (hr:Rep x p k σ σ')(hk:k=.local\/(k=.cell/\fi.comp x=false)) :
   wpAny (model B.prog B.w) A (storeName env x v) (λO s'=>Tr (bJ env) s' H s H B/\aA s' H σ' env B) E s:=by
 obtain ⟨ov,hx⟩:=hr.has;have hkx:=F.kindOf hx;obtain ⟨m,hns,hm⟩:=F.ns;have all:=hr.all F.nodupS;have hkeys:σ'.map (λe=>(e.1,e.2.1))=env.scope.names:=hr.keys.trans F.keys;rcases hk with rfl | ⟨rfl,hcomp⟩
 . refine wpAny_storeName_local hkx hns (λh' hn' hs'=>⟨Tr.own1 F I hs',F.upd hs' hkeys hn' (λy q hy=>?_) λe he hk=>((all e he).resolve_left λq=>hk (q▸rfl)).2⟩) (by rw [e.kindF];rfl)
   rcases all _ hy with q | q
   . cases q
     rw [if_pos rfl];exact ⟨v,rfl,r.mono (F.loc_but hs') λO O t=>t⟩
   . rw [if_neg q.1]
     exact (hm y _ q.2).mono (F.loc_but hs') λO O t=>t
 . obtain ⟨c,w,hc,hcell,O⟩:=F.cell x ov (.inl hx)
   have hLc:=F.cell_ne hcell;obtain ⟨oc,hoc,hdc⟩:=id hcell;refine wpAny_storeName_cell e.kindF hkx hc hcell λh' hv' hs'=>?_;have hk:=vS (B:=B) (H:=H) hoc (by rw [hdc];(intros;first | contradiction | (intro q;cases q))) hs';refine ⟨⟨I.change (t:=s.toks) hoc (by rw [hdc];(intros;first | contradiction | (intro q;cases q))) (by rw [hdc];(intros;first | contradiction | (intro q;cases q))) (e.free x hcomp c hkx hc) hs',⟨λb ob eb hn=>(hs'.2 b λeq=>hn (.inr (.inr ⟨x,hkx,eq▸hc,eq▸e.above x hcomp c hkx hc⟩))).trans eb,Ac hs'.1.symm,λO O q=>q⟩,λO h=>.inl h⟩,?_⟩;refine ⟨F.fresh,F.apart,hkeys,F.nodup,⟨m,hns.sameBut hs' hLc.symm,λy q hy=>?_⟩,λy ov' hy=>?_,λy q hy=>F.glob y q ((all _ hy).resolve_left λq=>(by cases q)).2⟩
   . exact (hm y q ((all _ hy).resolve_left λq=>(by cases q)).2).mono hk λO O t=>t
   . have old:∀{k'},(y,k',ov')∈σ'->hZ ov' y env (Trk H B) h'\/((y,k',ov')∈σ/\y≠x):=λhy=>(all _ hy).imp (λq=>by cases q;exact ⟨c,_,hc,hv',v,rfl,r.mono hk λO O t=>t⟩) λq=>⟨q.2,q.1⟩
     have go:((y,NameKind.cell,ov')∈σ\/(y,NameKind.free,ov')∈σ)->y≠x->hZ ov' y env (Trk H B) h':=λhy' hyx=>by
       obtain ⟨c',w',hc',hcell',hw⟩:=F.cell y ov' hy';exact ⟨c',w',hc',hcell'.sameBut hs' λeq=>hyx (F.apart y x c' hc' (eq▸hc)),hw.mono hk λO O t=>t⟩
     exact hy.elim (λh=>(old h).elim id λq=>go (.inl q.1) q.2) λh=>(old h).elim id λq=>go (.inr q.1) q.2
theorem dM {v:Value}{k:NameKind}(e:aY B fi env)(I:Inv B H s)(F:aA s H σ env B)(r:VR s.heap (Trk H B) v p)
   (hr:Rep x p k σ σ')(hk:bM fi k):wpAny (model B.prog B.w) A (storeName env x v) (λO s'=>Tr (bJ env) s' H s H B/\aA s' H σ' env B) E s:=yI e I F r hr (hk.at x)
theorem jU (h:Qn σ H):Xs E B d fi H σ [] Qn Qf:=λA s env e R I F=>
 wpAny_execs_nil ⟨σ,H,.refl I,F,.inl ⟨rfl,h⟩⟩
theorem E3 {st:Stmt}(h:X B fi d E st σ H (λσ' H'=>Xs E B d fi H' σ' rest Qn Qf) Qf) :
   Xs E B d fi H σ (st::rest) Qn Qf:=λA s env e R I F=>by
 refine wpAny_execs_cons (wpm (h A s env e R I F) (λfl s₁ hh1=>?_));obtain ⟨σ₁,H₁,t₁,F₁,q⟩:=hh1;rcases q with ⟨rfl,q⟩ | ⟨pf,hf,q⟩
 . exact wpm (q A s₁ env e R t₁.inv F₁) (λfl' s₂ hh1=>by obtain ⟨σ₂,H₂,t₂,F₂,q₂⟩:=hh1;exact ⟨σ₂,H₂,t₁.trans t₂,F₂,q₂⟩)
 . cases fl with
   | next=>cases pf <;> exact hf.elim
   | brk=>exact ⟨σ₁,H₁,t₁,F₁,.inr ⟨pf,hf,q⟩⟩
   | cont=>exact ⟨σ₁,H₁,t₁,F₁,.inr ⟨pf,hf,q⟩⟩
   | ret v=>exact ⟨σ₁,H₁,t₁,F₁,.inr ⟨pf,hf,q⟩⟩
theorem ly {pos':Pos}{value:Expr}
   (h:Ev E B d fi σ H value λv H₁=>∃k σ',Rep x v k σ σ'/\bM fi k/\Qn σ' H₁)
   (hs:autoParam (∀env,swapsWith value (some (.Name x pos')) pos.line env=pure false) nC):X B fi d E (.Assign [.Name x pos'] value pos) σ H Qn Qf:=λA s env e R I F=>by
 refine wpAny_Assign_Name (wpm (h A s env e R I F) (λv s₁ hh1=>?_)) (hs env);obtain ⟨p,H₁,t₁,r₁,k,σ',hr,hk,q⟩:=hh1;exact wpm (dM e t₁.inv (F.tr I t₁) r₁ hr hk) (λO s₂ hh1=>by obtain ⟨t₂,F₂⟩:=hh1;exact ⟨σ',H₁,t₁.up.trans t₂,F₂,.inl ⟨rfl,q⟩⟩)
theorem rc (h:Ev E B d fi σ H e λv H₁=>Qf σ (.ret v) H₁):X B fi d E (.Return (some e) pos) σ H Qn Qf:=λA s env e' R I F=>
 wpAny_Return_some (wpm (h A s env e' R I F) (λv s₁ hh1=>by obtain ⟨p,H₁,t₁,r₁,q⟩:=hh1;exact ⟨σ,H₁,t₁.up,F.tr I t₁,.inr ⟨.ret p,r₁,q⟩⟩))
theorem pI (h:Qf σ (.ret .none) H):X B fi d E (.Return none pos) σ H Qn Qf:=λA s env e' R I F=>
 wpAny_Return_none ⟨σ,H,.refl I,F,.inr ⟨.ret .none,.none,h⟩⟩
theorem EW (h:Qf σ .brk H):X B fi d E (.Break pos) σ H Qn Qf:=λA s env e' R I F=>
 λO O O=>⟨σ,H,.refl I,F,.inr ⟨.brk,trivial,h⟩⟩
theorem aCw (h:Ev E B d fi σ H e λO H₁=>Qn σ H₁)
   (hs:autoParam (∀env,swapsWith e none pos.line env=pure false) nC):X B fi d E (.Expr e pos) σ H Qn Qf:=λA s env e' R I F=>by
 have hi:interactive env=false:=by unfold interactive;rw [e'.kindF];rfl
 rw [exec_Expr env e pos hi (hs env)];refine wpAny_bind (wpAny_standAt (wps (h A s env e' R I F) (λv s₁ hh1=>?_)));obtain ⟨p,H₁,t₁,r₁,q⟩:=hh1;exact wpAny_dropValue ⟨σ,H₁,t₁.up,F.tr I t₁,.inl ⟨rfl,q⟩⟩
theorem aGu {t:Expr}{b o:List Stmt}
   (h:Tst B fi d E t σ H λc H₁=>if c then Xs E B d fi H₁ σ b Qn Qf else Xs E B d fi H₁ σ o Qn Qf):X B fi d E (.If t b o pos) σ H Qn Qf:=λA s env e R I F=>by
 refine wpAny_If (wpT (h A s env e R I F) (λc s₁ H₁ t₁ q=>?_))
 have go:∀body,Xs E B d fi H₁ σ body Qn Qf->wpAny (model B.prog B.w) A (execs body env) (fc B env H s Qn Qf) E s₁:=λbody hb=>
   wpm (hb A s₁ env e R t₁.inv (F.tr I t₁)) (λfl s₂ hh1=>by obtain ⟨σ₂,H₂,t₂,F₂,q₂⟩:=hh1;exact ⟨σ₂,H₂,t₁.up.trans t₂,F₂,q₂⟩)
 cases c with
 | true=>exact go b q
 | false=>exact go o q
theorem jY {pos':Pos}{op:Operator}{value:Expr}
   (h:Ld B fi d E x σ H λa H₁=>Ev E B d fi σ H₁ value λv H₂=>V2 H₂ E B d v a (inplaceOp op) λr H₃=>∃k σ',Rep x r k σ σ'/\bM fi k/\Qn σ' H₃) :
   X B fi d E (.AugAssign (.Name x pos') op value pos) σ H Qn Qf:=λA s env e R I F=>by
 refine wpAny_AugAssign_Name (wpE (h A s env e R I F) (λa s₁ p H₁ t₁ r₁ h₁=>?_));refine wpE (h₁ A s₁ env e R t₁.inv (F.tr I t₁)) (λv s₂ p₂ H₂ t₂ r₂ h₂=>?_);refine wpm (h₂ A s₂ R t₂.inv a v (r₁.tr t₂) r₂) (λw s₃ hh1=>?_);obtain ⟨p₃,H₃,t₃,r₃,k,σ',hr,hk,q⟩:=hh1;have t:=(t₁.trans t₂).trans t₃;exact wpm (dM e t₃.inv (F.tr I t) r₃ hr hk) (λO s₄ hh1=>by obtain ⟨t₄,F₄⟩:=hh1;exact ⟨σ',H₃,t.up.trans t₄,F₄,.inl ⟨rfl,q⟩⟩)
end
theorem Inv.ext (I:Inv B H s)(hk:∀a o,s.heap.get? a=some o->s'.heap.get? a=some o)(hz:s.heap.objs.size<=s'.heap.objs.size)(hb:AllBare s'.gens)(ho:s'.os=s.os):Inv B H s':=by
 refine ⟨λa o e=>hk _ _ (I.keep a o e),ntr I.size hz,λq hq=>?_,hb,ho.trans I.os,I.nodup,λq hq=>let ⟨a,b,c,e⟩:=I.hid q hq;⟨hk _ _ a,b,c,e⟩,λp hp=>?_⟩
 . obtain ⟨ps,h1,h2,h3⟩:=I.tabs q hq
   exact ⟨ps,hk _ _ h1,h2,λpos cv hc=>let ⟨qn,a,b⟩:=h3 pos cv hc;⟨qn,a,b.keeps hk⟩⟩
 . obtain ⟨h1,vs,n,h2,h3⟩:=I.objs p hp
   exact ⟨h1,vs,n,hk _ _ h2,h3.mono (λa o e O O=>hk a o e) λO O t=>t⟩
theorem Tr.ext {U:Addr->Prop}(I:Inv B H s)(hk:∀a o,s.heap.get? a=some o->s'.heap.get? a=some o)(hz:s.heap.objs.size<=s'.heap.objs.size)(hg:s'.gens=s.gens)(ho:s'.os=s.os):Tr U s' H s H B:=
 ⟨I.ext hk hz (hg▸I.bare) ho,⟨λa o e O=>hk a o e,hz,λi x e=>hg▸e⟩,λO h=>.inl h⟩
noncomputable def eh (k:NameKind):Prop:=k=.local\/k=.cell
noncomputable abbrev aAu (B:aJ)(bs:List (Str×PV))(e:Str×NameKind×Option PV):Prop:=∀p,e.2.2=some p->((e.1,p)∈bs/\eh e.2.1)\/(e.2.1=.globalImplicit/\aH B e.1 p)
noncomputable def Ini (B:aJ)(bs:List (Str×PV))(ns:List (Str×NameKind))(σ:St):Prop:=σ.map (λe=>(e.1,e.2.1))=ns/\∀e∈σ,aAu B bs e
section
variable {bs:List (Str×PV)}{ns:List (Str×NameKind)}
theorem Ini.keys (h:Ini B bs ns σ):σ.map (λe=>(e.1,e.2.1))=ns:=h.1
theorem Ini.all (h:Ini B bs ns σ):∀e∈σ,aAu B bs e:=h.2
theorem Ini.nil:Ini B bs [] []:=⟨rfl,λO h=>absurd h Bo⟩
theorem Ini.cons {k:NameKind}{ov:Option PV}(q:aAu B bs (x,k,ov))(h:Ini B bs ns σ):Ini B bs ((x,k)::ns) ((x,k,ov)::σ):=⟨congrArg (List.cons _) h.1,fmc ⟨q,h.2⟩⟩
theorem Ini.arg {k:NameKind}(h1:(x,p)∈bs)(h2:eh k)(h:Ini B bs ns σ):Ini B bs ((x,k)::ns) ((x,k,some p)::σ):=.cons (λp e=>.inl ⟨Option.some.inj e▸h1,h2⟩) h
theorem Ini.unset {k:NameKind}(h:Ini B bs ns σ):Ini B bs ((x,k)::ns) ((x,k,Option.none)::σ):=.cons (λO e=>(by cases e)) h
theorem Ini.glob (h1:aH B x p)(h:Ini B bs ns σ):Ini B bs ((x,.globalImplicit)::ns) ((x,.globalImplicit,some p)::σ):=.cons (λp e=>.inr ⟨rfl,Option.some.inj e▸h1⟩) h
end
noncomputable def cI (B:aJ)(fd:FuncData)(args:List PV)(kw:List (Str×PV))(H:AH)(bs:List (Str×PV)):Prop:=
 ∀A s,Inv B H s->∀vs kvs,VRs s.heap (Trk H B) vs args->dc (Trk H B) s.heap kvs kw->∀(E:EP) (Q:List (Str×Value)->Shared->Prop),
   (∀bv,dc (Trk H B) s.heap bv bs->Q bv s)->wpAny (model B.prog B.w) A (bindArgs fd ⟨vs,kvs⟩) Q E s
theorem VRs.un {ps:List PV}(r:VRs h T vs (p::ps)):∃v ws,vs=v::ws/\VR h T v p/\VRs h T ws ps:=by cases r with | cons a b=>exact ⟨_,_,rfl,a,b⟩
theorem VRs.zip_mem {bs:List (Str×PV)}:∀{bv:List (Str×Value)},VRs h T (bv.map (·.2)) (bs.map (·.2))->bv.map (·.1)=bs.map (·.1)->∀e∈bs,∃v,(e.1,v)∈bv/\VR h T v e.2:=by
 induction bs with
 | nil=>exact λO O O h=>absurd h Bo
 | cons b bs ih=>
   intro bv hr he
   cases bv with
   | nil=>exact (by cases he)
   | cons c bv=>
     obtain ⟨v,ws,e,h1,h2⟩:=hr.un;have e:=List.cons.inj e;have n:=List.cons.inj he;have e1:c.2=v:=e.1;have n1:c.1=b.1:=n.1;exact fmc ⟨⟨c.2,n1▸.head _,e1▸h1⟩,λx hx=>(ih (e.2▸h2) n.2 x hx).imp λO q=>⟨.tail _ q.1,q.2⟩⟩
theorem xU {kindOf:Str->Option NameKind}{r:List (Str×Value)}:∀{m:Str->Option Value},x∉r.map (λe=>e.1)->bindL kindOf r m x=m x:=by
 induction r with
 | nil=>exact λO=>rfl
 | cons e r ih=>
   intro m hx;refine (ih λq=>hx (.tail _ q)).trans ?_;split
   . exact if_neg λq:x=e.1=>hx (q▸.head _)
   . rfl
theorem vZ {kindOf:Str->Option NameKind}{r:List (Str×Value)}:∀{m:Str->Option Value},x∉r.map (λe=>e.1)->bindC kindOf r m x=m x:=by
 induction r with
 | nil=>exact λO=>rfl
 | cons e r ih=>
   intro m hx;refine (ih λq=>hx (.tail _ q)).trans ?_;split
   . rfl
   . exact if_neg λq:x=e.1=>hx (q▸.head _)
theorem wt {kindOf:Str->Option NameKind}{v:Value}(hk:kindOf x=some .local){bv:List (Str×Value)}:∀{m:Str->Option Value},(bv.map (λe=>e.1)).Nodup->(x,v)∈bv->bindL kindOf bv m x=some v:=by
 induction bv with
 | nil=>exact λO h=>absurd h Bo
 | cons e r ih=>
   intro m hn hm;have hn:=ncp hn;rcases mcp hm with q | q
   . subst q
     exact (xU hn.1).trans (by rw [if_pos hk];exact if_pos rfl)
   . exact ih hn.2 q
theorem xL {kindOf:Str->Option NameKind}{v:Value}(hk:kindOf x≠some .local){bv:List (Str×Value)}:∀{m:Str->Option Value},(bv.map (λe=>e.1)).Nodup->(x,v)∈bv->bindC kindOf bv m x=some v:=by
 induction bv with
 | nil=>exact λO h=>absurd h Bo
 | cons e r ih=>
   intro m hn hm;have hn:=ncp hn;rcases mcp hm with q | q
   . subst q
     exact (vZ hn.1).trans (by rw [if_neg hk];exact if_pos rfl)
   . exact ih hn.2 q
theorem Tr.back {H₁:AH}(I:Inv B H s)(t₁:Tr noU s₁ H₁ s H B)(t:Tr (bJ env) s' H' s₁ H₁ B)(hf:∀a,bJ env a->s.heap.objs.size<=a):Tr noU s' H' s H B:=
 ⟨t.inv,⟨λa o e hn=>by
     have ha:=Heap.lt_size e;refine t.step.heap a o (t₁.step.heap a o e hn) λq=>?_;rcases q with q | q
     . exact hn (.inl (Trk.new t₁.keys ha q))
     . exact absurd ha (nlr (hf a q)),
   ntr t₁.step.size t.step.size,λi x e=>t.step.gens i x (t₁.step.gens i x e)⟩,λa ha=>by
   rcases t.keys a ha with q | q
   . exact t₁.keys a q
   . exact .inr (ntr t₁.step.size q)⟩
noncomputable def PX (Q:PQ):FQ
 | _,.ret v,H=>Q v H
 | _,_,_=>False
section
noncomputable def yZ:Flow->Value
 | .ret v=>v
 | _=>.none
set_option genInjectivity false in
set_option genSizeOf false in
structure GS (B:aJ)(H:AH)(s:Shared)(fi:aP)(σ₀:St)(env:Env)(s₁:Shared):Prop where
 loc:env.locals=s.heap.objs.size
 fr:env.frame=some env.locals
 eok:aY B fi env
 tr:Tr noU s₁ H s H B
 frm:aA s₁ H σ₀ env B
 fresh:∀a,bJ env a->s.heap.objs.size<=a
 keep:∀b o,s.heap.get? b=some o->s₁.heap.get? b=some o
section
variable {sc:Scope}{cp:Option (Addr×Addr)}{qual:Str}{bs:List (Str×PV)}{σ₀:St}{bv:List (Str×Value)}(hloc:env.locals=s.heap.objs.size)(hscope:env.scope=sc)(hcells:env.cells=cellsFrom (s.heap.objs.size+1) sc.names [])
 (I:Inv B H s)(ic:InCallC s env.locals (bindL env.kindOf bv λO=>none) env.cells (bindC env.kindOf bv λO=>none) s₁)(hsn:(sc.names.map (λe=>e.1)).Nodup)(hfree:∀e∈sc.names,e.2≠.free)(hi:Ini B bs sc.names σ₀)(hbn:(bs.map (λe=>e.1)).Nodup)(hbv:dc (Trk H B) s.heap bv bs)(t₁:Tr noU s₁ H s H B)
include hloc hscope hcells I ic hsn hfree hi hbn hbv t₁
theorem C7:aA s₁ H σ₀ env B:=by
 have mk:∀{x:Str} {k:NameKind} {ov:Option PV},(x,k,ov)∈σ₀->(x,k)∈sc.names:=λhm=>hi.keys▸By (f:=λe:Str×NameKind×Option PV=>(e.1,e.2.1)) hm;have hkind:∀{x:Str} {k:NameKind} {ov:Option PV},(x,k,ov)∈σ₀->env.kindOf x=some k:=λhm=>(congrArg (λq:Scope=>q.names.lookup _) hscope).trans (a0 hsn (mk hm));have hn1:(bv.map (λe=>e.1)).Nodup:=hbv.2.symm▸hbn;refine ⟨Heap.get?_none_of_le (hloc▸I.size),λx y c hx hy=>name_of_addr ic.apart (mem_of_lookup hx) (mem_of_lookup hy),hi.keys.trans (hscope▸rfl),hscope▸hsn,⟨_,ic.toInCall.ns,λx p hm=>?_⟩,λx ov hm=>?_,λx p hm=>?_⟩
 . rcases hi.all _ hm p rfl with q | q
   . obtain ⟨v,hv,hr⟩:=VRs.zip_mem hbv.1 hbv.2 _ q.1
     exact ⟨v,wt (hkind hm) hn1 hv,hr.tr t₁⟩
   . exact (by cases (q.1))
 . rcases hm with hm | hm
   . obtain ⟨c,hc⟩:=Option.isSome_iff_exists.mp (cellsFrom_some sc.names (s.heap.objs.size+1) [] (.inl (a0 hsn (mk hm))))
     rw [<-hcells] at hc;refine ⟨c,_,hc,ic.cell x c hc,?_⟩
     cases ov with
     | none=>trivial
     | some p=>
       rcases hi.all _ hm p rfl with q | q
       . obtain ⟨v,hv,hr⟩:=VRs.zip_mem hbv.1 hbv.2 _ q.1
         exact ⟨v,xL (λe=>(by cases ((hkind hm).symm.trans e))) hn1 hv,hr.tr t₁⟩
       . exact (by cases (q.1))
   . exact absurd rfl (hfree _ (mk hm))
 . rcases hi.all _ hm p rfl with q | q
   . exact q.2.elim (λq=>(by cases q)) λq=>(by cases q)
   . exact q.2
omit t₁ in
theorem Ga (hfr:env.frame=some env.locals)(hgl:env.globals=mainGlobals)(hbu:env.builtins=builtinsNs)(hq:env.qual=qual)(hcp:∀c P,cp=some (c,P)->env.code=.ref c)(hk:sc.kind=.function)(hco:sc.isCoroutine=false):GS B H s ⟨sc,cp,qual,λO=>false⟩ σ₀ env s₁:=by
 obtain ⟨h',tk,hs₁,O⟩:=ic.toInCall.done;have t₁:Tr noU s₁ H s H B:=Tr.ext I ic.toInCall.keep (Ah (Ai ic.toInCall.fresh ic.toInCall.ns.lt)) (by rw [hs₁]) (by rw [hs₁]);have le:∀{x c},env.cells.lookup x=some c->s.heap.objs.size<=c:=λh=>ntr (Ac hloc.symm) (Ah (ic.above _ _ (mem_of_lookup h)));refine ⟨hloc,hfr,⟨hscope,hk,hco,hgl,hbu,hq,hcp,λx O c O hc=>ic.above x c (mem_of_lookup hc),λx O c O hc=>Heap.get?_none_of_le (ntr I.size (le hc))⟩,t₁,C7 hloc hscope hcells I ic hsn hfree hi hbn hbv t₁,λa ha=>?_,ic.toInCall.keep⟩;rcases ha with rfl | ⟨x,_,hc,_⟩
 . exact Ac hloc.symm
 . exact le hc
end
theorem kG {f:Addr}{oc:Value}{od:Option Addr}{osl:Array (Option Value)}{fd:FuncData}{cp:Option (Addr×Addr)}{args:List PV}{kw:List (Str×PV)}{bs:List (Str×PV)}{σ₀:St}
   (ho:∀s,Inv B H s->s.heap.get? f=some ⟨oc,od,.func fd,osl⟩)(hbody:fd.body=.stmts body)(hcl:fd.closure=[])(hcr:∀s,Inv B H s->s.heap.CodeRec fd.code fd.qualname)
   (hk:fd.scope.kind=.function)(hco:fd.scope.isCoroutine=false)(hge:fd.scope.isGenerator=false)(hgl:fd.globals=mainGlobals)(hbu:fd.builtins=builtinsNs)
   (hcp:∀c P,cp=some (c,P)->fd.code=.ref c)
   (hb:cI B fd args kw H bs)(hbn:(bs.map (λe=>e.1)).Nodup)(hbk:∀e∈bs,∃k,(e.1,k)∈fd.scope.names/\eh k)(hsn:(fd.scope.names.map (λe=>e.1)).Nodup)(hfree:∀e∈fd.scope.names,e.2≠.free)
   (hi:Ini B bs fd.scope.names σ₀)
   {s:Shared}(R:ah A (d+1))(I:Inv B H s){kvs:List (Str×Value)}(h2:VRs s.heap (Trk H B) vs args)(h3:dc (Trk H B) s.heap kvs kw){Q:Value->Shared->Prop}
   (h:∀env s₁,GS B H s ⟨fd.scope,cp,fd.qualname++".<locals>.",λO=>false⟩ σ₀ env s₁->wpAny (model B.prog B.w) (A.deeper env) (execs body env) (λf s'=>Q (yZ f) s') (λe s'=>wpAny (model B.prog B.w) (A.deeper env) (leaving env e) (λO s''=>E e s'') (λe' s''=>E e' s'') s') s₁) :
   wpAny (model B.prog B.w) A (call (.ref f) vs kvs) Q E s:=by
 refine wpAny_call (codeAny_call_function (by have:=R.depth;lia) (ho s I) rfl hco hge hbody (hcr s I) (hb _ s I vs kvs h2 h3 _ _ λbv hbv=>?_));rw [hcl];refine wpAny_newFunctionEnv_cells hk (λx hx=>?_) λenv he s₁ ic=>⟨(B.nolimit.keeps I.keep).keeps ic.toInCall.keep,codeAny_func ?_⟩
 . obtain ⟨e',he',hee⟩:=mmp (hbv.2▸By (f:=λe:Str×Value=>e.1) hx:x.1∈bs.map (λe=>e.1))
   obtain ⟨k,hk1,hk2⟩:=hbk e' he';have:=a0 hsn (hee▸hk1);rcases hk2 with rfl | rfl
   . exact .inl this
   . exact .inr ⟨this,cellsFrom_some _ _ _ (.inl this)⟩
 . subst he
   exact h _ s₁ (Ga rfl rfl rfl I ic hsn hfree hi hbn hbv rfl hgl hbu rfl hcp hk hco)
theorem qb {fl:Flow}(I:Inv B H s)(t₁:Tr noU s₁ H s H B)(fr:∀a,bJ env a->s.heap.objs.size<=a)(p:fc B env H s₁ (λO H'=>Q .none H') (PX Q) fl s'):aN B H s Q (yZ fl) s':=by
 obtain ⟨σ',H',t,F',q⟩:=p;have tb:=Tr.back I t₁ t fr;rcases q with ⟨e,q⟩ | ⟨pf,hf,q⟩
 . subst e
   exact ⟨.none,H',tb,.none,q⟩
 . cases pf with
   | brk=>exact q.elim
   | cont=>exact q.elim
   | ret p=>
     cases fl with
     | ret v=>exact ⟨p,H',tb,hf,q⟩
     | next=>exact hf.elim
     | brk=>exact hf.elim
     | cont=>exact hf.elim
theorem vC {σ₀:St}{fl:Flow}(I:Inv B H s)(x:GS B H s fi σ₀ env s₁)(p:fc B env H s₁ (λO H'=>Q .none H') (PX Q) fl s'):aN B H s Q (yZ fl) s':=qb I x.tr x.fresh p
theorem qF {oc:Value}{od:Option Addr}{osl:Array (Option Value)}{fd:FuncData}{cp:Option (Addr×Addr)}{args:List PV}{kw:List (Str×PV)}{bs:List (Str×PV)}{σ₀:St}
   (ho:∀s,Inv B H s->s.heap.get? f=some ⟨oc,od,.func fd,osl⟩)(hbody:fd.body=.stmts body)(hcl:fd.closure=[])(hcr:∀s,Inv B H s->s.heap.CodeRec fd.code fd.qualname)
   (hk:fd.scope.kind=.function)(hco:fd.scope.isCoroutine=false)(hge:fd.scope.isGenerator=false)(hgl:fd.globals=mainGlobals)(hbu:fd.builtins=builtinsNs)
   (hcp:∀c P,cp=some (c,P)->fd.code=.ref c)
   (hb:cI B fd args kw H bs)(hbn:(bs.map (λe=>e.1)).Nodup)(hbk:∀e∈bs,∃k,(e.1,k)∈fd.scope.names/\eh k)(hsn:(fd.scope.names.map (λe=>e.1)).Nodup)(hfree:∀e∈fd.scope.names,e.2≠.free)
   (hi:Ini B bs fd.scope.names σ₀)
   (h:Xs (λO O=>False) B d ⟨fd.scope,cp,fd.qualname++".<locals>.",λO=>false⟩ H σ₀ body (λO H'=>Q .none H') (PX Q)) :
   aM kw (λO O=>False) H B (d+1) (.raw (.ref f)) args Q:=λA s R I fv vs kvs h1 h2 h3=>by
 cases h1
 exact kG ho hbody hcl hcr hk hco hge hgl hbu hcp hb hbn hbk hsn hfree hi R I h2 h3 λenv s₁ x=>
   wpAny_mono (h (A.deeper env) s₁ env x.eok (R.deeper env) x.tr.inv x.frm) (λO O p=>vC I x p) λO O x=>x.elim
end
noncomputable abbrev NoE:EP:=λO O=>False
section
theorem aa {M:Model}{E':EP}{α:Type}{t:Sem α}{Q:α->Shared->Prop}(h:wpAny M A t Q NoE s):wpAny M A t Q (notedBy M A env E') s:=
 wpAny_mono h (λO O x=>x) λO O x=>x.elim
inductive aE7 (B:aJ)(env:Env)(H:AH)(s:Shared)(Iv:Nat->SQ)(n:Nat)(s':Shared):Prop
 | mk (σ':St) (H':AH) (t:Tr (bJ env) s' H' s H B) (F:aA s' H' σ' env B) (q:Iv n σ' H')
theorem oS {test:Expr}{orelse:List Stmt}(Iv:Nat->SQ){n:Nat}(h0:Iv n σ H)
   (turn:∀n σ H,Iv n σ H->Tst B fi d NoE test σ H λb H₁=>if b then
       Xs NoE B d fi H₁ σ body (λσ' H'=>∃m,m<n/\Iv m σ' H') (λσ' pf H'=>match pf with | .brk=>Qn σ' H' | .cont=>∃m,m<n/\Iv m σ' H' | .ret v=>Qf σ' (.ret v) H')
     else Xs NoE B d fi H₁ σ orelse Qn Qf):X B fi d E (.While test body orelse pos) σ H Qn Qf:=λA s env e R I F=>by
 refine wpAny_While ?_;refine codeAny_whileLoop (aE7 B env H s Iv) ?_ n ⟨σ,H,.refl I,F,h0⟩
 rintro n s₁ ⟨σ₁,H₁,t₁,F₁,hI⟩
 refine wpAny_mono (turn n σ₁ H₁ hI A s₁ env e R t₁.inv F₁) (λb s₂ hh1=>?_) λO O x=>x.elim;obtain ⟨H₂,t₂,q⟩:=hh1;have F₂:=F₁.tr t₁.inv t₂;have T₂:=t₁.trans t₂.up
 cases b with
 | true=>
   refine aa (wpm (q A s₂ env e R t₂.inv F₂) (λfl s₃ hh1=>?_));obtain ⟨σ₃,H₃,t₃,F₃,q₃⟩:=hh1;have T₃:=T₂.trans t₃;rcases q₃ with ⟨rfl,m,hm,hI'⟩ | ⟨pf,hf,q₃⟩
   . exact ⟨m,hm,σ₃,H₃,T₃,F₃,hI'⟩
   . cases pf <;> cases fl <;> first | exact hf.elim | skip
     . exact ⟨σ₃,H₃,T₃,F₃,.inl ⟨rfl,q₃⟩⟩
     . obtain ⟨m,hm,hI'⟩:=q₃;exact ⟨m,hm,σ₃,H₃,T₃,F₃,hI'⟩
     . exact ⟨σ₃,H₃,T₃,F₃,.inr ⟨_,hf,q₃⟩⟩
 | false=>
   exact aa (wpm (q A s₂ env e R t₂.inv F₂) (λfl s₃ hh1=>by obtain ⟨σ₃,H₃,t₃,F₃,q₃⟩:=hh1;exact ⟨σ₃,H₃,T₂.trans t₃,F₃,q₃⟩))
set_option genInjectivity false in
set_option genSizeOf false in
structure Evo (B:aJ)(P:Addr->Prop)(G:Nat->Prop)(deps:AH)(H:AH)(s:Shared)(H':AH)(s':Shared):Prop where
 inv:Inv B H' s'
 seq:∀a o,s.heap.get? a=some o->a9 o->¬Trk H B a->s'.heap.get? a=some o
 own:∀a o,s.heap.get? a=some o->P a->s'.heap.get? a=some o
 size:s.heap.objs.size<=s'.heap.objs.size
 keys:oT H s H'
 deps:∀p∈deps,p∈H'
 gens:∀(i:Nat) (x:GenState),G i->s.gens[i]?=some x->s'.gens[i]?=some x
set_option genInjectivity false in
set_option genSizeOf false in
structure cL (s':Shared)(G:Nat->Prop)(s:Shared)(H:AH)(B:aJ)(P:Addr->Prop):Prop where
 inv:Inv B H s'
 heap:∀a o,s.heap.get? a=some o->¬P a->s'.heap.get? a=some o
 size:s.heap.objs.size<=s'.heap.objs.size
 gens:∀(i:Nat) (x:GenState),s.gens[i]?=some x->¬G i->s'.gens[i]?=some x
 gsize:s.gens.size<=s'.gens.size
set_option genInjectivity false in
set_option genSizeOf false in
structure oU (B:aJ)(deps:AH)(tgt:Expr)(it:Value)(P:Addr->Prop)(G:Nat->Prop)(J:List PV->AH->Shared->Prop):Prop where
 self:∀items H s A (E:EP) (Q:Value->Shared->Prop),J items H s->Q it s->wpAny (model B.prog B.w) A (pyIter it) Q E s
 notseq:∀items H s,J items H s->∀p,P p->∀o,s.heap.get? p=some o->¬a9 o
 stable:∀items H s H' s',J items H s->Evo B P G deps H s H' s'->J items H' s'
 next:∀items H s A,J items H s->ah A 3->Inv B H s->wpAny (model B.prog B.w) A (pyNext it) (λr s₁=>match items with
   | []=>r=none/\cL s₁ G s H B P
   | x::xs=>∃v,r=some v/\wpAny (model B.prog B.w) A (letOwnedTupleGo tgt it v) (λO s₂=>cL s₂ G s H B P/\VR s₂.heap (Trk H B) v x/\J xs H s₂) NoE s₁) NoE s
set_option genInjectivity false in
set_option genSizeOf false in
structure qH (B:aJ)(A:Around)(deps:AH)(tgt:Expr)(it:Value)(G:Nat->Prop)(J:(Addr->Prop)->List PV->AH->Shared->Prop):Prop where
 self:∀W items H s (E:EP) (Q:Value->Shared->Prop),J W items H s->Q it s->wpAny (model B.prog B.w) A (pyIter it) Q E s
 notseq:∀W items H s,J W items H s->∀p,W p->∀o,s.heap.get? p=some o->¬a9 o
 stable:∀W items H s H' s',J W items H s->Evo B W G deps H s H' s'->J W items H' s'
 next:∀W items H s,J W items H s->ah A 3->Inv B H s->wpAny (model B.prog B.w) A (pyNext it) (λr s₁=>match items with
   | []=>r=none/\cL s₁ G s H B W
   | x::xs=>∃v,r=some v/\wpAny (model B.prog B.w) A (letOwnedTupleGo tgt it v) (λO s₂=>cL s₂ G s H B W/\VR s₂.heap (Trk H B) v x/\
       ∃W':Addr->Prop,(∀p,W' p->W p\/(s.heap.objs.size<=p/\p<s₂.heap.objs.size))/\J W' xs H s₂) NoE s₁) NoE s
theorem oU.toW {deps:AH}{it:Value}{G:Nat->Prop}{J:List PV->AH->Shared->Prop}(I:oU B deps tgt it P G J):qH B A deps tgt it G (λW items H s=>W=P/\J items H s) where
 self:=λW items H s E Q h q=>I.self items H s A E Q h.2 q
 notseq:=λW items H s h p hp=>I.notseq items H s h.2 p (h.1▸hp)
 stable:=λW items H s H' s' h e=>⟨h.1,I.stable items H s H' s' h.2 (h.1▸e)⟩
 next:=λW items H s h R i=>by
   obtain ⟨rfl,h⟩:=h;refine wpm (I.next items H s A h R i) (λr s₁ q=>?_)
   cases items with
   | nil=>exact q
   | cons x xs=>
     obtain ⟨v,e,q⟩:=q;exact ⟨v,e,wpm q (λO s₂ hh1=>by obtain ⟨a,b,c⟩:=hh1;exact ⟨a,b,W,λp hp=>.inl hp,rfl,c⟩)⟩
theorem d2 (I:Inv B H s)(q:Trk H B a):a<s.heap.objs.size:=by
 rcases q with q | q | q
 . obtain ⟨p,hp,rfl⟩:=mmp q
   obtain ⟨O,O,O,e,O⟩:=I.objs p hp;exact Heap.lt_size e
 . obtain ⟨p,hp,rfl⟩:=mmp q
   obtain ⟨O,e,O⟩:=I.tabs p hp;exact Heap.lt_size e
 . obtain ⟨p,hp,rfl⟩:=mmp q
   exact Heap.lt_size (I.hid p hp).1
inductive je (B:aJ)(tgt:Expr)(H₀:AH)(s:Shared)(Q:IQ)(it:Value)(s':Shared):Prop
 | mk (items:List PV) (deps:AH) (H':AH) (P:Addr->Prop) (G:Nat->Prop) (J:List PV->AH->Shared->Prop) (t:Tr noU s' H' s H₀ B) (I:oU B deps tgt it P G J) (j:J items H' s') (p:∀p,P p->s.heap.objs.size<=p/\p<s'.heap.objs.size/\¬Trk H' B p)
     (g:∀i,G i->s.gens.size<=i/\i<s'.gens.size) (dp:∀p∈deps,p∈H') (q:Q items deps H')
inductive pX (B:aJ)(A:Around)(tgt:Expr)(H₀:AH)(s:Shared)(Q:IQ)(it:Value)(s':Shared):Prop
 | mk (items:List PV) (deps:AH) (H':AH) (W:Addr->Prop) (G:Nat->Prop) (J:(Addr->Prop)->List PV->AH->Shared->Prop) (t:Tr noU s' H' s H₀ B) (I:qH B A deps tgt it G J) (j:J W items H' s') (p:∀p,W p->s.heap.objs.size<=p/\p<s'.heap.objs.size/\¬Trk H' B p)
     (g:∀i,G i->s.gens.size<=i/\i<s'.gens.size) (dp:∀p∈deps,p∈H') (q:Q items deps H')
theorem je.made {H₀:AH}{Q:IQ}{it:Value}(m:je B tgt H₀ s Q it s'):pX B A tgt H₀ s Q it s':=by
 obtain ⟨items,deps,H',P,G,J,t',a,b,c,c',e,f⟩:=m;exact ⟨items,deps,H',P,G,_,t',a.toW,⟨rfl,b⟩,c,c',e,f⟩
theorem pX.trans {H₀ H₁:AH}{Q:IQ}{it:Value}(t:Tr noU s₁ H₁ s H₀ B)(hg:s.gens.size<=s₁.gens.size)(m:pX B A tgt H₁ s₁ Q it s'):pX B A tgt H₀ s Q it s':=by
 obtain ⟨items,deps,H',P,G,J,t',a,b,c,c',e,f⟩:=m;exact ⟨items,deps,H',P,G,J,t.trans t',a,b,λp hp=>⟨ntr t.step.size (c p hp).1,(c p hp).2⟩,λi hi=>⟨ntr hg (c' i hi).1,(c' i hi).2⟩,e,f⟩
noncomputable def sE (B:aJ)(d:Nat)(E:EP)(tgt:Expr)(v:PV)(H:AH)(Q:IQ):Prop:=
 ∀A s,ah A d->Inv B H s->∀va,VR s.heap (Trk H B) va v->wpAny (model B.prog B.w) A (pyIter va) (pX B A tgt H s Q) E s
noncomputable def EvI (B:aJ)(fi:aP)(d:Nat)(E:EP)(tgt e:Expr)(σ:St)(H:AH)(Q:IQ):Prop:=
 ∀A s env,aY B fi env->ah A d->Inv B H s->aA s H σ env B->
   wpAny (model B.prog B.w) A (eval e env) (λx s₁=>wpAny (model B.prog B.w) A (pyIter x) (pX B A tgt H s Q) E s₁) E s
theorem jJ {U:Addr->Prop}(t:Tr U s' H' s H B):s.gens.size<=s'.gens.size:=by
 rcases Nat.lt_or_ge s'.gens.size s.gens.size with h | h
 . have h1:s.gens[s'.gens.size]?=some (s.gens[s'.gens.size]'h):=Array.getElem?_eq_getElem h
   have:=t.step.gens _ _ h1;simp at this
 . exact h
theorem cB {Q:IQ}(h:Ev E B d fi σ H e λv H₁=>sE B d E tgt v H₁ Q):EvI B fi d E tgt e σ H Q:=λA s env e' R I F=>
 wpm (h A s env e' R I F) (λva s₁ hh1=>by obtain ⟨v,H₁,t₁,r₁,h₁⟩:=hh1;exact wpm (h₁ A s₁ R t₁.inv va r₁) (λit s₂ m=>m.trans t₁ (jJ t₁)))
inductive Gn (B:aJ)(env:Env)(H:AH)(s:Shared)(Q:SQ)(s':Shared):Prop
 | mk (σ':St) (H':AH) (t:Tr (bJ env) s' H' s H B) (F:aA s' H' σ' env B) (q:Q σ' H')
noncomputable def Asg (B:aJ)(fi:aP)(d:Nat)(E:EP)(tgt:Expr)(v:PV)(σ:St)(H:AH)(Q:SQ):Prop:=
 ∀A s env,aY B fi env->ah A d->Inv B H s->aA s H σ env B->∀va,VR s.heap (Trk H B) va v->
   wpAny (model B.prog B.w) A (assign tgt env va) (λO s'=>Gn B env H s Q s') E s
theorem rj {Q:SQ}(h:∃k σ',Rep x v k σ σ'/\bM fi k/\Q σ' H):Asg B fi d E (.Name x pos) v σ H Q:=λA s env e R I F va r=>by
 obtain ⟨k,σ',hr,hk,q⟩:=h;show wpAny _ A (do standAt pos;bindName env x va) _ _ s;exact wpAny_bind (wpAny_standAt (wpAny_bindName (wpm (dM e I F r hr hk) (λO s₂ hh1=>by obtain ⟨t₂,F₂⟩:=hh1;exact ⟨σ',H,t₂,F₂,q⟩))))
noncomputable def d6 (B:aJ)(fi:aP)(d:Nat)(tgt:Expr)(body:List Stmt)(deps:AH):List PV->St->AH->(SQ)->(FQ)->Prop
 | [],σ,H,Qn,_=>Qn σ H
 | x::xs,σ,H,Qn,Qf=>Asg B fi d NoE tgt x σ H λσ₁ H₁=>Xs NoE B d fi H₁ σ₁ body (λσ₂ H₂=>(∀p∈deps,p∈H₂)/\d6 B fi d tgt body deps xs σ₂ H₂ Qn Qf)
     (λσ₂ pf H₂=>match pf with
       | .cont=>(∀p∈deps,p∈H₂)/\d6 B fi d tgt body deps xs σ₂ H₂ Qn Qf
       | .brk=>Qn σ₂ H₂
       | .ret v=>Qf σ₂ (.ret v) H₂)
theorem hZ.look {ov:Option PV}(q:hZ ov x env T h):∃c,env.cells.lookup x=some c/\c<h.objs.size:=by
 obtain ⟨c,w,a,b,d⟩:=q;exact ⟨c,a,b.lt⟩
theorem aA.own_at (F:aA s H σ env B)(ha:bJ env a):∃o,s.heap.get? a=some o/\(∀vs n,o.data≠.seq vs n)/\∀vs,o.data≠.fields vs:=by
 rcases ha with rfl | ⟨x,hx,hc,_⟩
 . obtain ⟨O,⟨o,O,O,ho,hd,O⟩,O⟩:=F.ns
   exact ⟨o,ho,(λO O q=>(by cases (hd.symm.trans q))),λO q=>(by cases (hd.symm.trans q))⟩
 . obtain ⟨⟨y,k,ov⟩,he,heq⟩:=mmp (F.keys▸mem_of_lookup hx:(x,NameKind.cell)∈σ.map _)
   cases heq;obtain ⟨O,O,hc',⟨o,ho,hd⟩,O⟩:=F.cell _ ov (.inl he);exact ⟨o,Option.some.inj (hc'.symm.trans hc)▸ho,(λO O q=>(by cases (hd.symm.trans q))),λO q=>(by cases (hd.symm.trans q))⟩
theorem aA.own_lt (F:aA s H σ env B)(ha:bJ env a):a<s.heap.objs.size:=by
 obtain ⟨o,e,O⟩:=F.own_at ha;exact Heap.lt_size e
theorem aA.own_not (F:aA s H σ env B)(ha:bJ env a)(ho:s.heap.get? a=some o):(∀vs n,o.data≠.seq vs n)/\∀vs,o.data≠.fields vs:=by
 obtain ⟨o',e,q⟩:=F.own_at ha;exact Option.some.inj (e.symm.trans ho)▸q
theorem aA.own_data (F:aA s H σ env B)(ha:bJ env a)(ho:s.heap.get? a=some o):¬a9 o:=λq=>by
 obtain ⟨vs,n,q⟩:=q;exact (F.own_not ha ho).1 vs n q
theorem cL.tr {G:Nat->Prop}{U:Addr->Prop}{H₀:AH}{s₀:Shared}(t:Tr U s H s₀ H₀ B)(o:cL s' G s H B P)(hP:∀p,P p->s₀.heap.objs.size<=p)(hG:∀i,G i->s₀.gens.size<=i):Tr U s' H s₀ H₀ B:=
 ⟨o.inv,⟨λa ob e hn=>o.heap a ob (t.step.heap a ob e hn) λq=>absurd (Heap.lt_size e) (nlr (hP a q)),ntr t.step.size o.size,
   λi x e=>o.gens i x (t.step.gens i x e) λq=>by
     have hlt:i<s₀.gens.size:=by
       rcases Nat.lt_or_ge i s₀.gens.size with h | h
       . exact h
       . rw [Array.getElem?_eq_none h] at e;cases e
     exact absurd hlt (nlr (hG i q))⟩,t.keys⟩
theorem cL.frame {G:Nat->Prop}{σ₀:St}{H₀:AH}{s₀:Shared}(F₀:aA s₀ H₀ σ₀ env B)(F:aA s H σ env B)(o:cL s' G s H B P)(hP:∀p,P p->s₀.heap.objs.size<=p)(hS:∀p,P p->∀ob,s.heap.get? p=some ob->¬a9 ob) :
   aA s' H σ env B:=by
 have hk:∀a ob,s.heap.get? a=some ob->a9 ob->¬Trk H B a->s'.heap.get? a=some ob:=λa ob e q O=>o.heap a ob e λp=>hS a p ob e q;refine ⟨F.fresh,F.apart,F.keys,F.nodup,?_,λy ov hy=>?_,F.glob⟩
 . obtain ⟨m,⟨ob,es,ep,ho,hd,r⟩,hm⟩:=F.ns
   exact ⟨m,⟨ob,es,ep,o.heap _ _ ho λp=>absurd (F₀.own_lt (.inl rfl)) (nlr (hP _ p)),hd,r⟩,λy p hy=>(hm y p hy).mono hk λO O t=>t⟩
 . have find:∀{k},(y,k,ov)∈σ->∃ov',(y,k,ov')∈σ₀:=λhm=>by
     obtain ⟨⟨y',k',ov'⟩,he,heq⟩:=mmp ((F₀.keys.trans F.keys.symm)▸By (f:=λe:Str×NameKind×Option PV=>(e.1,e.2.1)) hm);cases heq;exact ⟨ov',he⟩
   obtain ⟨c,w,hc,⟨ob,ho,hd⟩,hv⟩:=F.cell y ov hy;obtain ⟨c',hc',hlt⟩:∃c',env.cells.lookup y=some c'/\c'<s₀.heap.objs.size:=hy.elim (λh=>(find h).elim λO h=>(F₀.cell _ _ (.inl h)).look) λh=>(find h).elim λO h=>(F₀.cell _ _ (.inr h)).look;exact ⟨c,w,hc,⟨ob,o.heap _ _ ho λp=>absurd (Option.some.inj (hc'.symm.trans hc)▸hlt) (nlr (hP _ p)),hd⟩,hv.mono hk λO O t=>t⟩
theorem Evo.of_tr {G:Nat->Prop}{deps:AH}{σ₀:St}{H₀:AH}{s₀:Shared}(F₀:aA s₀ H₀ σ₀ env B)(F:aA s H σ env B)(t:Tr (bJ env) s' H' s H B)(hP:∀p,P p->s₀.heap.objs.size<=p/\¬Trk H B p)(hd:∀p∈deps,p∈H'):Evo B P G deps H s H' s':=
 ⟨t.inv,λa ob e hq hn=>t.step.heap a ob e λq=>q.elim hn λu=>F.own_data u e hq,
   λa ob e hp=>t.step.heap a ob e λq=>q.elim (hP a hp).2 λu=>absurd (F₀.own_lt u) (nlr (hP a hp).1),t.step.size,t.keys,hd,λi x O e=>t.step.gens i x e⟩
noncomputable def XN (k:Nat)(B:aJ)(fi:aP)(d:Nat)(E:EP)(st:Stmt)(σ:St)(H:AH)(Qn:SQ)(Qf:FQ):Prop:=
 ∀A s env,aY B fi env->ah A d->Inv B H s->aA s H σ env B->k<=s.toks->wpAny (model B.prog B.w) A (exec st env) (fc B env H s Qn Qf) E s
noncomputable def XsN (k:Nat)(B:aJ)(fi:aP)(d:Nat)(E:EP)(b:List Stmt)(σ:St)(H:AH)(Qn:SQ)(Qf:FQ):Prop:=
 ∀A s env,aY B fi env->ah A d->Inv B H s->aA s H σ env B->k<=s.toks->wpAny (model B.prog B.w) A (execs b env) (fc B env H s Qn Qf) E s
noncomputable def my (k:Nat)(B:aJ)(fi:aP)(d:Nat)(tgt:Expr)(body:List Stmt)(deps:AH):List PV->St->AH->(SQ)->(FQ)->Prop
 | [],σ,H,Qn,_=>Qn σ H
 | x::xs,σ,H,Qn,Qf=>Asg B fi d NoE tgt x σ H λσ₁ H₁=>XsN k B fi d NoE body σ₁ H₁ (λσ₂ H₂=>(∀p∈deps,p∈H₂)/\my k B fi d tgt body deps xs σ₂ H₂ Qn Qf)
     (λσ₂ pf H₂=>match pf with
       | .cont=>(∀p∈deps,p∈H₂)/\my k B fi d tgt body deps xs σ₂ H₂ Qn Qf
       | .brk=>Qn σ₂ H₂
       | .ret v=>Qf σ₂ (.ret v) H₂)
inductive ue (k:Nat)(B:aJ)(fi:aP)(d:Nat)(env:Env)(H:AH)(s:Shared)(J:(Addr->Prop)->List PV->AH->Shared->Prop)(deps:AH)(tgt:Expr)(body:List Stmt)(Qn:SQ)(Qf:FQ)(n:Nat)(s':Shared):Prop
 | mk (W:Addr->Prop) (items:List PV) (σ':St) (H'':AH) (hn:n=items.length) (t:Tr (bJ env) s' H'' s H B) (F:aA s' H'' σ' env B) (j:J W items H'' s') (p:∀p,W p->s.heap.objs.size<=p/\¬Trk H'' B p/\p<s'.heap.objs.size) (dp:∀p∈deps,p∈H'') (q:my k B fi d tgt body deps items σ' H'' Qn Qf) (tk:k<=s'.toks)
theorem aAw {it:Expr}
   (h:EvI B fi d E tgt it σ H λitems deps H₁=>my k B fi d tgt body deps items σ H₁ Qn Qf)(hd:autoParam (3<=d) nB)(hs:autoParam (∀env x,foldedSetIterable it env x=pure x) nC) :
   XN k B fi d E (.For tgt it body [] pos) σ H Qn Qf:=λA s env e R I F hk=>by
 show wpAny _ A (do standAt pos;let x<-foldedSetIterable it env (<-eval it env);standAt it.pos;runOwn (.forLoop tgt (<-holding [x] (pyIter x)) body [] env) env) _ _ s;refine wpAny_bind (wpAny_standAt (wpAny_bind (wpAny_mono (wpAny_toks_of hk (h A s env e R I F)) (λx s₁ h₁=>?_) λO O x=>x.2)));refine wpAny_bind (wpAny_of_eq (hs env x) (wpAny_bind (wpAny_standAt (wpAny_bind (wpAny_holding (wpAny_mono (wpAny_toks_of h₁.1 h₁.2) (λitv s₂ m=>?_) λO O x=>x.2))))));obtain ⟨hk₂,items,deps,H',P,G,J,t,IT,hJ,hP,hG,hdep,q⟩:=m;refine wpAny_runOwn ?_;have F':=F.tr I t;have R3:ah A 3:=R.le hd;refine codeAny_forLoop_any (ue k B fi d env H s J deps tgt body Qn Qf)
   ?_ items.length ⟨P,items,σ,H',rfl,t.up,F',hJ,λp hp=>⟨(hP p hp).1,(hP p hp).2.2,(hP p hp).2.1⟩,hdep,q,hk₂⟩
 rintro n s₃ ⟨W,items,σ₃,H₃,rfl,t₃,F₃,hJ₃,hP₃,hd₃,q₃,hk₃⟩
 have hPa:∀p,W p->s.heap.objs.size<=p:=λp hp=>(hP₃ p hp).1;refine wpAny_mono (wpAny_toks_of hk₃ (IT.next W items H₃ s₃ hJ₃ R3 t₃.inv)) (λr s₄ hr=>?_) λO O x=>x.2.elim;obtain ⟨hk₄,hr⟩:=hr
 cases items with
 | nil=>
   obtain ⟨rfl,o⟩:=hr;dsimp only;refine aa (wpAny_execs_nil ⟨σ₃,H₃,o.tr t₃ hPa λi hi=>(hG i hi).1,o.frame F F₃ hPa λp hp=>IT.notseq _ _ _ _ hJ₃ p hp,.inl ⟨rfl,q₃⟩⟩)
 | cons x xs=>
   obtain ⟨v,rfl,hv⟩:=hr;dsimp only;refine aa (wpAny_mono (wpAny_toks_of hk₄ hv) (λO s₅ hh1=>?_) λO O x=>x.2);obtain ⟨hk₅,o,hvr,W',hW',hJ₅⟩:=hh1;have t₅:Tr (bJ env) s₅ H₃ s H B:=o.tr t₃ hPa λi hi=>(hG i hi).1;have F₅:aA s₅ H₃ σ₃ env B:=o.frame F F₃ hPa λp hp=>IT.notseq _ _ _ _ hJ₃ p hp
   have hP₅:∀p,W' p->s.heap.objs.size<=p/\¬Trk H₃ B p/\p<s₅.heap.objs.size:=λp hp=>by
     rcases hW' p hp with q | ⟨q1,q2⟩
     . exact ⟨(hP₃ p q).1,(hP₃ p q).2.1,nlt (hP₃ p q).2.2 o.size⟩
     . exact ⟨ntr t₃.step.size q1,λq=>absurd (d2 t₃.inv q) (nlr q1),q2⟩
   refine aa (wpAny_mono (wpAny_toks_of hk₅ (q₃ A s₅ env e R t₅.inv F₅ v hvr)) (λO s₆ hh1=>?_) λO O x=>x.2);obtain ⟨hk₆,σ₆,H₆,t₆,F₆,q₆⟩:=hh1;refine aa (wpAny_mono (wpAny_toks_of hk₆ (q₆ A s₆ env e R t₆.inv F₆ hk₆)) (λfl s₇ hh1=>?_) λO O x=>x.2);obtain ⟨hk₇,σ₇,H₇,t₇,F₇,q₇⟩:=hh1;have T₇:=t₆.trans t₇
   have again:((∀p∈deps,p∈H₇)/\my k B fi d tgt body deps xs σ₇ H₇ Qn Qf)->∃m,m<(x::xs).length/\ue k B fi d env H s J deps tgt body Qn Qf m s₇:=by
     rintro ⟨hd₇,q₇⟩
     refine ⟨xs.length,Au _,W',xs,σ₇,H₇,rfl,t₅.trans T₇,F₇,IT.stable _ _ _ _ _ _ hJ₅ (Evo.of_tr F F₅ T₇ (λp hp=>⟨(hP₅ p hp).1,(hP₅ p hp).2.1⟩) hd₇),λp hp=>⟨(hP₅ p hp).1,λq=>(hP₅ p hp).2.1 (Trk.new T₇.keys (hP₅ p hp).2.2 q),nlt (hP₅ p hp).2.2 T₇.step.size⟩,hd₇,q₇,hk₇⟩
   rcases q₇ with ⟨rfl,q₇⟩ | ⟨pf,hf,q₇⟩
   . exact again q₇
   . cases pf <;> cases fl <;> first | exact hf.elim | skip
     . exact ⟨σ₇,H₇,t₅.trans T₇,F₇,.inl ⟨rfl,q₇⟩⟩
     . exact again q₇
     . exact ⟨σ₇,H₇,t₅.trans T₇,F₇,.inr ⟨_,hf,q₇⟩⟩
theorem d6.toN {deps:AH}{xs:List PV}:∀{σ:St} {H:AH},d6 B fi d tgt body deps xs σ H Qn Qf->my 0 B fi d tgt body deps xs σ H Qn Qf:=by
 induction xs with
 | nil=>exact λh=>h
 | cons x xs ih=>
   intro σ H h A s env e R I F va r;refine wpm (h A s env e R I F va r) (λO s' p=>?_);obtain ⟨σ₁,H₁,t₁,F₁,q⟩:=p;refine ⟨σ₁,H₁,t₁,F₁,λA s env e R I F O=>wpm (q A s env e R I F) (λfl s' p=>?_)⟩;obtain ⟨σ₂,H₂,t₂,F₂,q₂⟩:=p;refine ⟨σ₂,H₂,t₂,F₂,?_⟩;rcases q₂ with ⟨a,b,c⟩ | ⟨pf,a,b⟩
   . exact .inl ⟨a,b,ih c⟩
   . refine .inr ⟨pf,a,?_⟩
     cases pf with
     | cont=>exact ⟨b.1,ih b.2⟩
     | brk=>exact b
     | ret v=>exact b
theorem aE2 {it:Expr}
   (h:EvI B fi d E tgt it σ H λitems deps H₁=>d6 B fi d tgt body deps items σ H₁ Qn Qf)(hd:autoParam (3<=d) nB)(hs:autoParam (∀env x,foldedSetIterable it env x=pure x) nC) :
   X B fi d E (.For tgt it body [] pos) σ H Qn Qf:=λA s env e R I F=>by
 refine aAw (k:=0) (λA s env e R I F=>wpm (h A s env e R I F) (λx s₁ m=>wpm m (λit s₂ m=>?_))) hd hs A s env e R I F (Ae _);obtain ⟨items,deps,H',P,G,J,t,IT,hJ,hP,hG,hdep,q⟩:=m;exact ⟨items,deps,H',P,G,J,t,IT,hJ,hP,hG,hdep,q.toN⟩
end
section
open Sem (wp)
theorem p8 (h:Heap)(a:Addr)(f:Obj->Obj):(h.update a f).objs.size=h.objs.size:=by
 obtain ⟨o,l⟩:=h;simp [Heap.update]
theorem runs_grow {M:Model}{Γ:Ctx}{p:Pos}{t:Sem Fin}{fs:List Frame}{e:End}(h:Runs M Γ p t fs s e s'):s.heap.objs.size<=s'.heap.objs.size:=by
 induction h <;> (try simp only [Shared.setGen,p8,Heap.size_push] at *) <;> (first | exact Ab _ | assumption | lia)
theorem oI {M:Model}{Γ:Ctx}{p:Pos}{r:Result}(h:Returns M Γ p s r s'):s.heap.objs.size<=s'.heap.objs.size:=runs_grow h
theorem tZ {M:Model}{Γ:Ctx}{p:Pos}{g:Nat}{r:Resume}{res:GenResult}(h:Wakes M Γ p g r s res s'):s.heap.objs.size<=s'.heap.objs.size:=by
 have go:∀{Γ p t fs},(∃e₁ s₁,Runs M Γ p t fs (s.setGen g .running) e₁ s₁/\e₁.quiet=true/\res=e₁.result/\s'=s₁.setGen g e₁.genState)->s.heap.objs.size<=s'.heap.objs.size:=λq=>by
   obtain ⟨e₁,s₁,hr,O,O,rfl⟩:=q;exact (runs_grow hr:(s.setGen g .running).heap.objs.size<=s₁.heap.objs.size)
 have st:s'=s->s.heap.objs.size<=s'.heap.objs.size:=λe=>e▸Ab _;unfold Wakes at h;generalize s.gens[g]?=x at h
 cases x with
 | none=>exact h.elim
 | some x=>
   cases x with
   | fresh c=>
     cases r with
     | send v=>cases v with
       | none=>exact go h
       | _=>exact st h.2
     | throw x=>exact h.2▸Ab _
   | suspended=>exact go h
   | running=>exact st h.2
   | finished=>exact st h.2
theorem GT {α:Type}(M:Model)(Γ:Ctx)(n:Nat)(t:Sem α):∀(Q:α->Pos->Shared->Prop) (E:Value->Pos->Shared->Prop) (p:Pos) (s:Shared),n<=s.heap.objs.size->wp M Γ t Q E p s->
   wp M Γ t (λa p' s'=>n<=s'.heap.objs.size/\Q a p' s') (λe p' s'=>n<=s'.heap.objs.size/\E e p' s') p s:=by
 induction t with
 | pure a=>intro Q E p s hn h;exact ⟨hn,h⟩
 | raise e=>intro Q E p s hn h;exact ⟨hn,h⟩
 | unsupported _=>intro Q E p s _ h;exact h
 | finish _=>intro Q E p s _ h;exact h
 | rule _ k ih=>intro Q E p s hn h;exact ih () Q E p s hn h
 | «at» p' k ih=>intro Q E p s hn h;exact ih () Q E p' s hn h
 | load a _ k ih=>intro Q E p s hn h;obtain ⟨o,ho,h⟩:=h;exact ⟨o,ho,ih o Q E p s hn h⟩
 | update a _ f k ih=>intro Q E p s hn h;exact ⟨h.1,ih () Q E p _ (by show n<=(s.heap.update a f).objs.size;rw [p8];exact hn) h.2⟩
 | loadIfAlive a k ih=>intro Q E p s hn h;exact ih _ Q E p s hn h
 | point _ k ih=>intro Q E p s hn h;exact ih () Q E p s hn h
 | register _ _=>intro Q E p s _ h;exact h
 | alloc o k ih=>intro Q E p s hn h;exact ih _ Q E p _ (by show n<=(s.heap.push o).objs.size;rw [Heap.size_push];exact Ay hn) h
 | fresh k ih=>intro Q E p s hn h;exact ih _ Q E p { s with toks:=s.toks+1 } hn h
 | ask k ih=>intro Q E p s hn h;exact ih _ Q E p s hn h
 | choose src m k ih=>intro Q E p s hn h;exact ⟨h.1,ih _ Q E p { s with drawn:=_ } hn h.2⟩
 | os q _ k ih=>intro Q E p s hn h;exact ih _ Q E p { s with os:=_ } hn h
 | call c hd _ _ k ih=>intro Q E p s hn h;obtain ⟨r,s',hr,h⟩:=h;exact ⟨r,s',hr,ih r Q E p s' (ntr hn (oI hr)) h⟩
 | handled own k ih=>intro Q E p s hn h;exact ih _ Q E p s hn h
 | genState g k ih=>intro Q E p s hn h;obtain ⟨st,hs,h⟩:=h;exact ⟨st,hs,ih _ Q E p s hn h⟩
 | newGen c k ih=>intro Q E p s hn h;exact ih _ Q E p { s with gens:=_ } hn h
 | resume g r _ k ih=>intro Q E p s hn h;obtain ⟨res,s',hw,h⟩:=h;exact ⟨res,s',hw,ih res Q E p s' (ntr hn (tZ hw)) h⟩
 | yield _ _ _ _=>intro Q E p s _ h;exact h
 | stack k ih=>intro Q E p s hn h;exact ih _ Q E p s hn h
 | fork _ _=>intro Q E p s _ h;exact h
 | thread k ih=>intro Q E p s hn h;exact ih _ Q E p s hn h
 | await _ _ _ _ _=>intro Q E p s _ h;exact h
theorem aX {α:Type}{M:Model}{t:Sem α}{Q:α->Shared->Prop}{E:Value->Shared->Prop}
   (h:wpAny M A t (λa s'=>s.heap.objs.size<=s'.heap.objs.size->Q a s') (λe s'=>s.heap.objs.size<=s'.heap.objs.size->E e s') s):wpAny M A t Q E s:=
 λΓ p hΓ=>Sem.wp_mono M Γ t (λO O O x=>x.2 x.1) (λO O O x=>x.2 x.1) p s (GT M Γ _ t _ _ p s (Ab _) (h Γ p hΓ))
end
noncomputable def bT (o:Obj):Prop:=¬a9 o/\∀vs q t,o.data=.fields vs->vs[1]?≠some (.str q t)
section
theorem cL.make {G:Nat->Prop}(I:Inv B H s)(hk:∀a o,s.heap.get? a=some o->¬P a->s'.heap.get? a=some o)(hz:s.heap.objs.size<=s'.heap.objs.size)
   (hP:∀p,P p->B.g.objs.size<=p/\¬Trk H B p)(hL:∀p,P p->∀o,s.heap.get? p=some o->bT o)
   (hg:∀(i:Nat) (x:GenState),s.gens[i]?=some x->¬G i->s'.gens[i]?=some x)(hgz:s.gens.size<=s'.gens.size)(hb:AllBare s'.gens)(ho:s'.os=s.os):cL s' G s H B P:=by
 have hs:∀a o,s.heap.get? a=some o->a9 o->¬Trk H B a->s'.heap.get? a=some o:=λa o e q O=>hk a o e λp=>(hL a p o e).1 q;refine ⟨⟨λa o e=>hk a o (I.keep a o e) λp=>absurd (Heap.lt_size e) (nlr (hP a p).1),ntr I.size hz,λq hq=>?_,hb,ho.trans I.os,I.nodup,λq hq=>let ⟨a,b,c,e⟩:=I.hid q hq;⟨hk _ _ a λp=>(hL _ p _ a).1 b,b,c,e⟩,λp hp=>?_⟩,hk,hz,hg,hgz⟩
 . obtain ⟨ps,h1,h2,h3⟩:=I.tabs q hq
   refine ⟨ps,hk _ _ h1 λp=>(hP _ p).2 (.inr (.inl (mmr ⟨q,hq,rfl⟩))),h2,λpos cv hc=>?_⟩;obtain ⟨qn,a1,c,oc,vs,t,e1,e2,e3,e4⟩:=h3 pos cv hc;exact ⟨qn,a1,c,oc,vs,t,e1,hk _ _ e2 λp=>(hL c p oc e2).2 vs _ _ e3 e4,e3,e4⟩
 . obtain ⟨h1,vs,n,h2,h3⟩:=I.objs p hp
   exact ⟨h1,vs,n,hk _ _ h2 λq=>(hP _ q).2 (.inl (mmr ⟨p,hp,rfl⟩)),h3.mono hs λO O t=>t⟩
theorem bt {it:Addr}(x:h.IsListIter it l i):∀o,h.get? it=some o->bT o:=by
 obtain ⟨o',ho',hc,hd⟩:=x;intro o ho;rw [ho'] at ho;cases ho;refine ⟨λ⟨vs,n,q⟩=>(by rw [hd] at q;cases q),λvs q t e=>?_⟩;rw [hd] at e;cases e;simp
inductive JL (B:aJ)(it l:Addr)(items:List PV)(H:AH)(s:Shared):Prop
 | mk (vs:Array Value) (n i:Nat) (a:s.heap.IsListIter it l i) (b:s.heap.get? l=some (al vs n)) (c:VRs s.heap (Trk H B) (vs.toList.drop i) items) (d:¬Trk H B l) (e:B.g.objs.size<=it) (f:¬Trk H B it)
inductive JT (B:aJ)(it l:Addr)(xs:List PV)(items:List PV)(H:AH)(s:Shared):Prop
 | mk (i:Nat) (a:s.heap.IsListIter it l i) (b:(l,xs)∈H) (c:items=xs.drop i) (d:B.g.objs.size<=it) (e:¬Trk H B it)
theorem aS {vs:Array Value}{n:Nat}(e:h.get? l=some (al vs n)):h.IsList l vs:=⟨_,e,rfl,n,rfl⟩
theorem VRs.head {x:PV}(r:VRs h T vs (x::xs)):∃v ws,vs=v::ws/\VR h T v x/\VRs h T ws xs:=by
 cases r with | cons a b=>exact ⟨_,_,rfl,a,b⟩
theorem VRs.isnil (r:VRs h T vs []):vs=[]:=by cases r;rfl
set_option tactic.hygienic true in
theorem dQ {tgt:Expr}{it:Addr}{v:Value}{Q:Unit->Shared->Prop}{n:String}(ho:s.heap.get? it=some o)(hn:o.cls=.type n)
   (hc:["enumerate","zip","dict_itemiterator","dict_reverseitemiterator","odict_iterator","itertools.zip_longest","itertools.pairwise"].contains n=false)(q:Q () s):wpAny (model B.prog B.w) A (letOwnedTupleGo tgt (.ref it) v) Q E s:=by
 have p:wpAny (model B.prog B.w) A (pure ()) Q E s:=wpAny_pure q;cases tgt
 case Tuple | List=>
   cases v
   case ref a=>
     refine wpAny_bind (wpAny_load ho ?_);rw [hn];cases o.data
     case fields vs=>exact dS (by rw [hc];exact B9) p
     all_goals exact p
   all_goals exact p
 all_goals exact p
theorem nK {it:Addr}{vs:Array Value}{n:Nat}{items:List PV}{J:List PV->AH->Shared->Prop}(R:ah A 3)(I:Inv B H s)
   (hit:s.heap.IsListIter it l i)(hl:s.heap.get? l=some (al vs n))(hv:VRs s.heap (Trk H B) (vs.toList.drop i) items)(hg:B.g.objs.size<=it)(ht:¬Trk H B it)
   (hJ:∀x xs s',items=x::xs->s'.heap.IsListIter it l (i+1)->cL s' (λO=>False) s H B (·=it)->J xs H s') :
   wpAny (model B.prog B.w) A (pyNext (.ref it)) (λr s₁=>match items with
     | []=>r=none/\cL s₁ (λO=>False) s H B (·=it)
     | x::xs=>∃v,r=some v/\wpAny (model B.prog B.w) A (letOwnedTupleGo tgt (.ref it) v) (λO s₂=>cL s₂ (λO=>False) s H B (·=it)/\VR s₂.heap (Trk H B) v x/\J xs H s₂) NoE s₁) NoE s:=by
 have hLo:=bt hit
 have mk:∀(h':Heap),(∀a o,s.heap.get? a=some o->a≠it->h'.get? a=some o)->s.heap.objs.size<=h'.objs.size->cL { s with heap:=h' } (λO=>False) s H B (·=it):=λh' hk hz=>
   cL.make I (λa o e hp=>hk a o e hp) hz (λp hp=>by subst hp;exact ⟨hg,ht⟩) (λp hp o ho=>by subst hp;exact hLo o ho) (λO O e O=>e) (Ab _) I.bare rfl
 cases items with
 | nil=>
   have hnil:=hv.isnil
   have hx:vs[i]?=none:=by
     rw [<-Array.getElem?_toList];exact List.getElem?_eq_none (List.drop_eq_nil_iff.mp hnil)
   exact aX (wpAny_pyNext_list_end R.handled hit (aS hl) hx λh' hx' hz=>⟨rfl,mk h' (λa o e hne=>hx' a o hne e) hz⟩)
 | cons x xs=>
   obtain ⟨v,ws,hd,hr,hrs⟩:=hv.head
   have hx:vs[i]?=some v:=by
     rw [<-Array.getElem?_toList];have:=congrArg (λl=>l[0]?) hd;simpa using this
   refine wpAny_pyNext_list_item hit (aS hl) hx λh' hit' hs'=>⟨v,rfl,?_⟩;have o:=mk h' (λa o e hne=>(hs'.2 a hne).trans e) (by rw [hs'.1];exact Ab _);obtain ⟨ob,ho,hc,O⟩:=id hit';refine dQ ho hc rfl ⟨o,hr.mono (λa ob e q O=>o.heap a ob e λeq=>(hLo ob (eq▸e)).1 q) λO O t=>t,hJ x xs _ rfl hit' o⟩
theorem Evo.trk {G:Nat->Prop}{deps:AH}(e:Evo B P G deps H s H' s')(ha:a<s.heap.objs.size)(hn:¬Trk H B a):¬Trk H' B a:=λq=>hn (Trk.new e.keys ha q)
theorem Evo.vrs {G:Nat->Prop}{deps:AH}(e:Evo B P G deps H s H' s'){ps:List PV}(r:VRs s.heap (Trk H B) vs ps):VRs s'.heap (Trk H' B) vs ps:=
 r.mono e.seq λa ha t=>Trk.new e.keys ha t
theorem lP {G:Nat->Prop}{deps:AH}(e:Evo B P G deps H s H' s'){it:Addr}(hp:P it)(x:s.heap.IsListIter it l i):s'.heap.IsListIter it l i:=by
 obtain ⟨o,ho,r⟩:=x;exact ⟨o,e.own _ _ ho hp,r⟩
theorem sY {it:Addr}(x:s.heap.IsListIter it l i):it<s.heap.objs.size:=by
 obtain ⟨o,ho,O⟩:=x;exact Heap.lt_size ho
theorem GZ (tgt:Expr)(it l:Addr):oU B [] tgt (.ref it) (·=it) (λO=>False) (JL B it l) where
 self:=λitems H s A E Q ⟨vs,n,i,hit,_,_,_,_,_⟩ q=>wpAny_pyIter_listiter hit q
 notseq:=λitems H s ⟨vs,n,i,hit,_,_,_,_,_⟩ p hp o ho=>by subst hp;exact (bt hit o ho).1
 stable:=λitems H s H' s' ⟨vs,n,i,hit,hl,hv,hn,hg,ht⟩ e=>
   ⟨vs,n,i,lP e rfl hit,e.seq _ _ hl ⟨_,_,rfl⟩ hn,e.vrs hv,e.trk (Heap.lt_size hl) hn,hg,e.trk (sY hit) ht⟩
 next:=λitems H s A ⟨vs,n,i,hit,hl,hv,hn,hg,ht⟩ R I=>by
   refine nK R I hit hl hv hg ht λx xs s' hi hit' o=>?_;subst hi;obtain ⟨v,ws,hd,hr,hrs⟩:=hv.head;refine ⟨vs,n,i+1,hit',o.heap _ _ hl λeq=>(bt hit _ (eq▸hl)).1 ⟨_,_,rfl⟩,?_,hn,hg,ht⟩;have:vs.toList.drop (i+1)=ws:=by rw [<-BN,hd];rfl
   rw [this];exact hrs.mono (λa ob e q O=>o.heap a ob e λeq=>(bt hit ob (eq▸e)).1 q) λO O t=>t
theorem Fc (tgt:Expr)(it l:Addr)(xs₀:List PV):oU B [(l,xs₀)] tgt (.ref it) (·=it) (λO=>False) (JT B it l xs₀) where
 self:=λitems H s A E Q ⟨i,hit,_,_,_,_⟩ q=>wpAny_pyIter_listiter hit q
 notseq:=λitems H s ⟨i,hit,_,_,_,_⟩ p hp o ho=>by subst hp;exact (bt hit o ho).1
 stable:=λitems H s H' s' ⟨i,hit,hm,hi,hg,ht⟩ e=>⟨i,lP e rfl hit,e.deps _ mcs,hi,hg,e.trk (sY hit) ht⟩
 next:=λitems H s A ⟨i,hit,hm,hi,hg,ht⟩ R I=>by
   obtain ⟨O,vs,n,hl,hv⟩:=I.objs _ hm;refine nK R I hit hl (hi▸hv.drop i) hg ht λx xs s' hi' hit' o=>⟨i+1,hit',hm,?_,hg,ht⟩;have:(xs₀.drop i).drop 1=xs₀.drop (i+1):=BN;rw [<-this,<-hi,hi'];rfl
theorem ux :({ s with heap:=s.heap.push { cls:=.type "list_iterator",data:=.fields #[.ref l,.int 0 0] } }:Shared).heap.IsListIter s.heap.objs.size l 0:=
 ⟨_,Heap.get?_push_size _ rfl,rfl,rfl⟩
theorem cZ :s.heap.objs.size<({ s with heap:=s.heap.push o }:Shared).heap.objs.size:=by
 show _<(s.heap.push o).objs.size;rw [Heap.size_push];exact Au _
set_option tactic.hygienic true in
theorem bS {Q:IQ}(h:Q xs [] H):sE B d E tgt (.list xs) H Q:=λA s R I va r=>by
 cases r with
 | list ho hn hs=>
   rename_i a vs n;refine wpAny_pyIter_list (aS ho) ?_;have t:=Tr.push I { cls:=.type "list_iterator",data:=.fields #[.ref a,.int 0 0] }
   exact je.made ⟨xs,[],H,_,_,_,t,GZ tgt s.heap.objs.size a,⟨vs,n,0,ux,Heap.get?_push_of_some _ ho,hs.tr t,hn,I.size,aW I⟩,
     λp hp=>by subst hp;exact ⟨Ab _,cZ,aW I⟩,λ_ f=>f.elim,(λ_ hm=>(by cases hm)),h⟩
theorem db {Q:IQ}(hm:(a,xs)∈H)(h:Q xs [(a,xs)] H):sE B d E tgt (.lref a) H Q:=λA s R I va r=>by
 obtain ⟨O,rfl⟩:=r.inv;obtain ⟨O,vs,n,ho,hs⟩:=I.objs _ hm;refine wpAny_pyIter_list (aS ho) ?_;have t:=Tr.push I { cls:=.type "list_iterator",data:=.fields #[.ref a,.int 0 0] }
 exact je.made ⟨xs,[(a,xs)],H,_,_,_,t,Fc tgt s.heap.objs.size a xs,⟨0,ux,hm,rfl,I.size,aW I⟩,
     λp hp=>by subst hp;exact ⟨Ab _,cZ,aW I⟩,λO f=>f.elim,(λp hp=>by rcases mcp hp with rfl | hp;exact hm;cases hp),h⟩
end
inductive Upd (a:Addr)(xs xs':List PV):AH->AH->Prop
 | head {r:AH}:Upd a xs xs' ((a,xs)::r) ((a,xs')::r)
 | tail {e:Addr×List PV} {r r':AH}:Upd a xs xs' r r'->Upd a xs xs' (e::r) (e::r')
theorem Upd.keys (u:Upd a xs xs' H H'):H'.map (λp=>p.1)=H.map (λp=>p.1):=by
 induction u with
 | head=>rfl
 | tail _ ih=>simp only [Bs,ih]
theorem Upd.has (u:Upd a xs xs' H H'):(a,xs)∈H:=by
 induction u with
 | head=>exact mcs
 | tail _ ih=>exact mcm _ ih
theorem Upd.mem (u:Upd a xs xs' H H'):(H.map (λp=>p.1)).Nodup->∀{p:Addr×List PV},p∈H'->p=(a,xs')\/(p∈H/\p.1≠a):=by
 induction u with
 | @head r=>
   intro hn p hp;rw [Bs,List.nodup_cons] at hn;rcases mcp hp with e | hp
   . exact .inl e
   . exact .inr ⟨mcm _ hp,λe=>hn.1 (mmr ⟨p,hp,e⟩)⟩
 | @tail e r r' u ih=>
   intro hn p hp;rw [Bs,List.nodup_cons] at hn;rcases mcp hp with e' | hp
   . subst e'
     exact .inr ⟨mcs,λq=>hn.1 (mmr ⟨_,u.has,q.symm⟩)⟩
   . rcases ih hn.2 hp with q | ⟨q1,q2⟩
     . exact .inl q
     . exact .inr ⟨mcm _ q1,q2⟩
section
theorem Trk.congr (h:H'.map (λp=>p.1)=H.map (λp=>p.1)):Trk H' B a↔Trk H B a:=by
 unfold Trk;have:(H'.map (·.1))=H.map (·.1):=h;rw [this]
theorem Tr.upd {t:Nat}{vs':Array Value}{n':Nat}(u:Upd a xs xs' H H')(I:Inv B H s)(hs:Heap.SameBut a s.heap h')(ho':h'.get? a=some (al vs' n'))
   (hv:VRs s.heap (Trk H B) vs'.toList xs'):Tr noU { s with heap:=h',toks:=t } H' s H B:=by
 have hta:Trk H B a:=.inl (mmr ⟨_,u.has,rfl⟩);have htr:∀b,Trk H' B b↔Trk H B b:=λb=>Trk.congr u.keys;obtain ⟨hg,vs,n,ho,O⟩:=I.objs _ u.has;have ne:∀b ob,s.heap.get? b=some ob->¬Trk H B b->h'.get? b=some ob:=λb ob e hn=>(hs.2 b λq=>hn (q▸hta)).trans e;have hk:∀b ob,s.heap.get? b=some ob->a9 ob->¬Trk H B b->h'.get? b=some ob:=λb ob e O hn=>ne b ob e hn
 refine ⟨⟨λb ob e=>(hs.2 b λq=>by rw [q,hg] at e;cases e).trans (I.keep b ob e),by show _<=h'.objs.size;rw [hs.1];exact I.size,λq hq=>?_,I.bare,I.os,?_,λq hq=>?_,λp hp=>?_⟩,
   ⟨λb ob e hn=>ne b ob e λq=>hn (.inl q),by show _<=h'.objs.size;rw [hs.1];exact Ab _,λO O e=>e⟩,λb hb=>?_⟩
 . obtain ⟨ps,h1,h2,h3⟩:=I.tabs q hq
   have hne:q.2≠a:=λe=>by rw [e,ho] at h1;cases h1
   refine ⟨ps,(hs.2 _ hne).trans h1,h2,λpos cv hc=>?_⟩;obtain ⟨qn,a1,c,oc,vs,t,e1,e2,e3,e4⟩:=h3 pos cv hc;exact ⟨qn,a1,c,oc,vs,t,e1,(hs.2 c λq=>by rw [q,ho] at e2;cases e2;cases e3).trans e2,e3,e4⟩
 . have:H'.map (·.1)=H.map (·.1):=u.keys
   rw [this];exact I.nodup
 . obtain ⟨h1,h2,h3,h4⟩:=I.hid q hq
   have hk':H'.map (·.1)=H.map (·.1):=u.keys;exact ⟨(hs.2 _ λe=>h4 (by rw [e];exact mmr ⟨_,u.has,rfl⟩)).trans h1,h2,h3,by rw [hk'];exact h4⟩
 . rcases u.mem I.nodup hp with rfl | ⟨hp,hne⟩
   . exact ⟨hg,vs',n',ho',hv.mono hk λO O t=>(htr _).mp t⟩
   . obtain ⟨h1,vs,n,h2,h3⟩:=I.objs p hp
     exact ⟨h1,vs,n,(hs.2 _ hne).trans h2,h3.mono hk λO O t=>(htr _).mp t⟩
 . left
   have:H'.map (λp=>p.1)=H.map (λp=>p.1):=u.keys;rw [this] at hb;exact hb
theorem mx {f:Array Value->Array Value}(u:Upd a xs xs' H H')(I:Inv B H s)(hz:xs.length<=sizeLine)(hz':xs'.length<=sizeLine+1)
   (hf:∀vs n,s.heap.get? a=some (al vs n)->VRs s.heap (Trk H B) vs.toList xs->VRs s.heap (Trk H B) (f vs).toList xs') :
   wpAny (model B.prog B.w) A (updateSeq a f) (λO s'=>Tr noU s' H' s H B) E s:=by
 obtain ⟨hg,vs,n,ho,hv⟩:=I.objs _ u.has;have hv':=hf vs n ho hv;have l1:=hv.length;have l2:=hv'.length;simp only [Array.length_toList] at l1 l2;refine wpAny_updateSeq ho rfl ?_ (by rw [l1];exact hz) (by rw [l2];exact hz');exact Tr.upd (t:=s.toks) u I (Heap.SameBut.update ..) (vs':=f vs) (n':=if (f vs).size==vs.size then n else n+1) (Heap.get?_update_self _ ho rfl) hv'
theorem gB {v:Value}(u:Upd a xs (xs++[p]) H H')(I:Inv B H s)(r:VR s.heap (Trk H B) v p)(hz:xs.length<=sizeLine) :
   wpAny (model B.prog B.w) A (call (.builtin "list.append") [.ref a,v]) (λr s'=>r=.none/\Tr noU s' H' s H B) E s:=by
 obtain ⟨hg,vs,n,ho,hv⟩:=I.objs _ u.has;refine wpAny_call_entry slot_list_append (aS ho).typeIs entry_list_append ?_ (args_list_append _ _);show wpAny _ _ (updateSeq a (·.push v) >>= λO=>ret .none) _ _ s;refine wps (mx u I hz (by simp;exact hz) λvs n O hv=>?_) (λO s' t=>wpAny_pure ⟨.none,rfl,rfl,t⟩);rw [Array.toList_push];exact hv.append (.cons r .nil)
theorem VRs.drop_key {e:Addr×List PV}{ps:List PV}(r:VRs s.heap (Trk (e::H) B) vs ps):VRs s.heap (Trk H B) vs ps:=
 r.mono (λO O e O O=>e) λO O t=>t.imp (mcm _) id
theorem VR.drop_key {e:Addr×List PV}{v:Value}(r:VR s.heap (Trk (e::H) B) v p):VR s.heap (Trk H B) v p:=
 r.mono (λO O e O O=>e) λO O t=>t.imp (mcm _) id
theorem Inv.drop_key {e:Addr×List PV}(I:Inv B (e::H) s):Inv B H s:=
 ⟨I.keep,I.size,I.tabs,I.bare,I.os,(ncp I.nodup).2,λq hq=>let ⟨a,b,c,e⟩:=I.hid q hq;⟨a,b,c,λt=>e (mcm _ t)⟩,λp hp=>let ⟨a,vs,n,b,c⟩:=I.objs p (mcm _ hp);⟨a,vs,n,b,c.drop_key⟩⟩
theorem Inv.freeze (I:Inv B ((a,xs)::H) s):VR s.heap (Trk H B) (.ref a) (.list xs):=by
 obtain ⟨O,vs,n,ho,hv⟩:=I.objs _ mcs;refine .list ho (λq=>?_) hv.drop_key;rcases q with q | q
 . exact (ncp I.nodup).1 q
 . rcases q with q | q
   . exact iC I ho (by (intros;first | contradiction | (intro q;cases q))) q
   . obtain ⟨p,hp,e⟩:=mmp q
     exact (I.hid p hp).4 (by rw [e];exact mcs)
theorem Tr.drop_key {U:Addr->Prop}{H₀:AH}{e:Addr×List PV}{s₀:Shared}(t:Tr U s (e::H) s₀ H₀ B):Tr U s H s₀ H₀ B:=
 ⟨t.inv.drop_key,t.step,λa ha=>t.keys a (mcm _ ha)⟩
theorem yP (h:env.kindOf x=some .cell)(hk:env.scope.kind=.function):(if (NameKind.free==NameKind.free && env.scope.kind==.function && env.kindOf x==some .cell) then (x,NameKind.cell) else (x,NameKind.free))=(x,NameKind.cell):=by rw [h,hk];rfl
noncomputable def C2 (B:aJ)(T:Addr->Prop)(env:Env)(h:Heap)(names:List (Str×NameKind))(e:Str×NameKind×Option PV):Prop:=match e.2.1 with
 | .local=>e.2.2=none
 | .globalImplicit=>∀p,e.2.2=some p->aH B e.1 p
 | _=>hZ e.2.2 e.1 env T h/\(e.1,NameKind.free)∈names
theorem C2.up {names:List (Str×NameKind)}{e:Str×NameKind×Option PV}{n:Str×NameKind}(q:C2 B T env h names e):C2 B T env h (n::names) e:=by
 obtain ⟨x,k,ov⟩:=e;cases k <;> first | exact q | exact ⟨q.1,.tail _ q.2⟩
noncomputable abbrev Gs (env:Env)(e:Str×NameKind):Str×NameKind:=match e with
 | (n,k)=>if (k==NameKind.free && env.scope.kind==.function && env.kindOf n==some .cell) then (n,NameKind.cell) else (n,k)
set_option genInjectivity false in
set_option genSizeOf false in
structure CSt (B:aJ)(σ:St)(names:List (Str×NameKind))(σ':St):Prop where
 fst:σ'.map (λe=>e.1)=names.map λe=>e.1
 nocell:∀x∈names,x.2≠NameKind.cell
 keys:∀{env H s},aA s H σ env B->env.scope.kind=.function->σ'.map (λe=>(e.1,e.2.1))=names.map (Gs env)
 mem:∀{env H s},aA s H σ env B->∀e∈σ',C2 B (Trk H B) env s.heap names e
 free:∀{env H s},aA s H σ env B->∀e∈names,e.2=.free->∃c,env.cells.lookup e.1=some c/\c<s.heap.objs.size
section
variable {names:List (Str×NameKind)}{ov:Option PV}
theorem CSt.nil:CSt B σ [] []:=⟨rfl,λO h=>absurd h Bo,λO O=>rfl,λO O h=>absurd h Bo,λO O h=>absurd h Bo⟩
theorem CSt.cons {k k':NameKind}(hk:k≠.cell)(h1:∀{env H s},aA s H σ env B->env.scope.kind=.function->(x,k')=Gs env (x,k))(h2:∀{env H s},aA s H σ env B->C2 B (Trk H B) env s.heap ((x,k)::names) (x,k',ov))
   (h3:∀{env H s},aA s H σ env B->k=.free->∃c,env.cells.lookup x=some c/\c<s.heap.objs.size)(c:CSt B σ names σ'):CSt B σ ((x,k)::names) ((x,k',ov)::σ'):=
 ⟨congrArg (List.cons x) c.fst,fmc ⟨hk,c.nocell⟩,λF q=>(congrArg (List.cons _) (c.keys F q)).trans (congrArg (·::_) (h1 F q)),λF=>fmc ⟨h2 F,λe he=>(c.mem F e he).up⟩,λF=>fmc ⟨h3 F,c.free F⟩⟩
theorem CSt.loc (c:CSt B σ names σ'):CSt B σ ((x,.local)::names) ((x,.local,Option.none)::σ'):=.cons (λq=>by cases q) (λO O=>rfl) (λO=>rfl) (λO q=>by cases q) c
theorem CSt.capC (h:(x,NameKind.cell,ov)∈σ)(c:CSt B σ names σ'):CSt B σ ((x,.free)::names) ((x,.cell,ov)::σ'):=.cons (λq=>by cases q) (λF q=>(yP (F.kindOf h) q).symm) (λF=>⟨F.cell _ _ (.inl h),.head _⟩) (λF O=>(F.cell _ _ (.inl h)).look) c
theorem CSt.glob (h:aH B x p)(c:CSt B σ names σ'):CSt B σ ((x,.globalImplicit)::names) ((x,.globalImplicit,some p)::σ'):=.cons (λq=>by cases q) (λO O=>rfl) (λO O e=>Option.some.inj e▸h) (λO q=>by cases q) c
theorem CSt.globS (h:(x,NameKind.globalImplicit,some p)∈σ)(c:CSt B σ names σ'):CSt B σ ((x,.globalImplicit)::names) ((x,.globalImplicit,some p)::σ'):=.cons (λq=>by cases q) (λO O=>rfl) (λF O e=>F.glob _ _ (Option.some.inj e▸h)) (λO q=>by cases q) c
end
theorem nh {n:Str}{c:Addr}(h:env.cells.lookup n=some c):cellOf env n=pure c:=by unfold cellOf;rw [h]
theorem sb (names:List (Str×NameKind)):∀acc:List (Str×Addr),(∀e∈names,e.2=.free->∃c,env.cells.lookup e.1=some c)->
   ∃cl,(forIn names acc λ(x:Str×NameKind) (r:List (Str×Addr))=>(match x with
     | (name,kind)=>if kind==NameKind.free then do let c<-cellOf env name;pure (ForInStep.yield ((name,c)::r)) else pure (ForInStep.yield r):Sem (ForInStep (List (Str×Addr)))))=pure cl/\
     ∀x,((x,NameKind.free)∈names/\cl.lookup x=env.cells.lookup x)\/((x,NameKind.free)∉names/\cl.lookup x=acc.lookup x):=by
 induction names with
 | nil=>exact λacc O=>⟨acc,rfl,λx=>.inr ⟨(by intros;first | contradiction | (intro q;cases q)),rfl⟩⟩
 | cons e r ih=>
   obtain ⟨n,k⟩:=e;intro acc h1;have h2:=List.forall_mem_cons.mp h1;by_cases hk:k=.free
   . subst hk
     obtain ⟨c,hc⟩:=h2.1 rfl;obtain ⟨cl,e,p⟩:=ih ((n,c)::acc) h2.2;refine ⟨cl,?_,λx=>?_⟩
     . rw [List.forIn_cons]
       show ((cellOf env n >>= λc=>pure (ForInStep.yield ((n,c)::acc))) >>= _)=_;rw [nh hc];exact e
     . rcases p x with q | q
       . exact .inl ⟨.tail _ q.1,q.2⟩
       . by_cases hx:x=n
         . subst hx
           exact .inl ⟨.head _,q.2.trans (List.lookup_cons_self.trans hc.symm)⟩
         . exact .inr ⟨λm=>(mcp m).elim (λe=>hx (congrArg Prod.fst e)) q.1,q.2.trans (by rw [List.lookup_cons,beq_eq_false_iff_ne.mpr hx])⟩
   . obtain ⟨cl,e,p⟩:=ih acc h2.2
     refine ⟨cl,?_,λx=>(p x).imp (λq=>⟨.tail _ q.1,q.2⟩) λq=>⟨λm=>(mcp m).elim (λe=>hk (congrArg Prod.snd e).symm) q.1,q.2⟩⟩;rw [List.forIn_cons];show ((if (k==NameKind.free)=true then (cellOf env n >>= λc=>pure (ForInStep.yield ((n,c)::acc))) else pure (ForInStep.yield acc)) >>= _)=_;rw [if_neg λq=>hk (eq_of_beq q)];exact e
set_option genInjectivity false in
set_option genSizeOf false in
structure k9 (env:Env)(scope:Scope)(s:Shared)(cl:List (Str×Addr)):Prop where
 e:closureFor scope env=pure cl
 sub:∀x c,cl.lookup x=some c->env.cells.lookup x=some c
 get:∀x,(x,NameKind.free)∈scope.names->cl.lookup x=env.cells.lookup x
 lt:∀y c,cl.lookup y=some c->c<s.heap.objs.size
theorem k9.of {scope:Scope}(h:∀e∈scope.names,e.2=.free->∃c,env.cells.lookup e.1=some c/\c<s.heap.objs.size):∃cl,k9 env scope s cl:=by
 obtain ⟨cl,e,p⟩:=sb (env:=env) scope.names [] λe he hf=>(h e he hf).imp λO q=>q.1;have q:∀x c,cl.lookup x=some c->(x,NameKind.free)∈scope.names/\cl.lookup x=env.cells.lookup x:=λx c hc=>(p x).elim id λq=>(by cases (hc.symm.trans q.2));refine ⟨cl,?_,λx c hc=>(q x c hc).2.symm.trans hc,λx hx=>(p x).elim (λq=>q.2) λq=>(q.1 hx).elim,λy c' hy=>?_⟩
 . unfold closureFor
   rw [<-e];exact bind_pure _
 . obtain ⟨c,h1,h2⟩:=h _ (q y c' hy).1 rfl
   exact Option.some.inj (hy.symm.trans ((q y c' hy).2.trans h1))▸h2
theorem CSt.clos (c:CSt B σ scope.names σ')(F:aA s H σ env B):∃cl,k9 env scope s cl:=k9.of (c.free F)
end
theorem qj (elt target iter c:Expr)(scope:Scope)(pos:Pos)(it acc:Value)(env:Env) :
   compTurn (.ListComp elt [⟨target,iter,[c],0⟩] scope pos) 0 it acc env=(standAt iter.pos >>= λO=>pyNext it >>= λr=>match r with
     | none=>pure (.done .next)
     | some v=>letOwnedTupleGo target it v >>= λO=>assign target env v >>= λO=>isTrue c env (eval c env) >>= λok=>
       if ok=true then (eval elt env >>= λx=>call (.builtin "list.append") [acc,x] >>= λO=>again (.compLoop (.ListComp elt [⟨target,iter,[c],0⟩] scope pos) 0 it acc env))
       else again (.compLoop (.ListComp elt [⟨target,iter,[c],0⟩] scope pos) 0 it acc env)):=by
 unfold compTurn;simp only [List.getElem?_cons_zero,List.forIn_cons,List.forIn_nil];simp
 rfl
section
noncomputable def aAi (B:aJ)(fi:aP)(d:Nat):List Expr->St->AH->(BQ)->Prop
 | [],_,H,Q=>Q true H
 | c::_,σ,H,Q=>Tst B fi d NoE c σ H Q
noncomputable abbrev aJ.hids (B:aJ)(l:List (Addr×Obj)):aJ:={ B with hid:=l }
theorem aY.hids {l:List (Addr×Obj)}(e:aY B fi env):aY (B.hids l) fi env:=⟨e.scope,e.kind,e.coro,e.globals,e.builtins,e.qual,e.code,e.above,e.free⟩
inductive F8 (D:Addr)(acc:List PV)(deps:AH)(H₃:AH)(K:AH->Prop):Prop
 | mk (H₄:AH) (e:H₃=(D,acc)::H₄) (dp:∀p∈deps,p∈H₄) (q:K H₄)
noncomputable def pZ {ι:Type}(B:aJ)(hf:ι->List (Addr×Obj))(fi:aP)(d:Nat)(tgt:Expr)(ifs:List Expr)(elt:Expr)(D:Addr)(deps:AH):List PV->List PV->St->AH->(LQ)->Prop
 | [],acc,_,H,Q=>Q acc H
 | x::xs,acc,σ,H,Q=>∀o,Asg (B.hids (hf o)) fi d NoE tgt x σ ((D,acc)::H) λσ₁ H₁=>aAi (B.hids (hf o)) fi d ifs σ₁ H₁ λok H₂=>
     if ok then Ev NoE (B.hids (hf o)) d fi σ₁ H₂ elt λv H₃=>acc.length<=sizeLine/\F8 D acc deps H₃ λH₄=>pZ B hf fi d tgt ifs elt D deps xs (acc++[v]) σ₁ H₄ Q
     else F8 D acc deps H₂ λH₄=>pZ B hf fi d tgt ifs elt D deps xs acc σ₁ H₄ Q
noncomputable abbrev xX (B:aJ)(fi:aP)(d:Nat)(tgt:Expr)(ifs:List Expr)(elt:Expr)(D:Addr)(deps:AH):List PV->List PV->St->AH->(LQ)->Prop:=pZ (ι:=Unit) B (λO=>B.hid) fi d tgt ifs elt D deps
theorem cL.frame' {G:Nat->Prop}(F:aA s H σ env B)(o:cL s' G s H B P)(hL:¬P env.locals)(hC:∀y c,env.cells.lookup y=some c->¬P c)(hS:∀p,P p->∀ob,s.heap.get? p=some ob->¬a9 ob) :
   aA s' H σ env B:=by
 have hk:∀a ob,s.heap.get? a=some ob->a9 ob->¬Trk H B a->s'.heap.get? a=some ob:=λa ob e q O=>o.heap a ob e λp=>hS a p ob e q;refine ⟨F.fresh,F.apart,F.keys,F.nodup,?_,λy ov hy=>?_,F.glob⟩
 . obtain ⟨m,⟨ob,es,ep,ho,hd,r⟩,hm⟩:=F.ns
   exact ⟨m,⟨ob,es,ep,o.heap _ _ ho hL,hd,r⟩,λy p hy=>(hm y p hy).mono hk λO O t=>t⟩
 . obtain ⟨c,w,hc,⟨ob,ho,hd⟩,hv⟩:=F.cell y ov hy
   exact ⟨c,w,hc,⟨ob,o.heap _ _ ho (hC y c hc),hd⟩,hv.mono hk λO O t=>t⟩
theorem Evo.of_tr' {G:Nat->Prop}{deps:AH}(F:aA s H σ env B)(t:Tr (bJ env) s' H' s H B)(hP:∀p,P p->¬bJ env p/\¬Trk H B p)(hd:∀p∈deps,p∈H'):Evo B P G deps H s H' s':=
 ⟨t.inv,λa ob e hq hn=>t.step.heap a ob e λq=>q.elim hn λu=>F.own_data u e hq,
   λa ob e hp=>t.step.heap a ob e λq=>q.elim (hP a hp).2 λu=>(hP a hp).1 u,t.step.size,t.keys,hd,λi x O e=>t.step.gens i x e⟩
theorem qW (hL:¬P env.locals)(hC:∀y c,env.cells.lookup y=some c->¬P c):∀p,P p->¬bJ env p:=λp hp u=>by
 rcases u with rfl | ⟨x,_,hc,_⟩
 . exact hL hp
 . exact hC x p hc hp
theorem Trk.cons {e:Addr×List PV}(h:Trk (e::H) B a):a=e.1\/Trk H B a:=by
 rcases h with h | h
 . rcases mcp h with q | q
   . exact .inl q
   . exact .inr (.inl q)
 . exact .inr (.inr h)
noncomputable def yF {β:Type}(ifs:List Expr)(env:Env)(k:Bool->Sem β):Sem β:=
 match ifs with
 | []=>k true
 | c::_=>isTrue c env (eval c env) >>= k
theorem GA {ifs:List Expr}{Q:BQ}(h1:ifs.length<=1)(h:aAi B fi d ifs σ H Q)(e:aY B fi env)(R:ah A d)(I:Inv B H s)(F:aA s H σ env B){β:Type}{k:Bool->Sem β}{K:β->Shared->Prop}
   (hk:∀b H' s',Tr noU s' H' s H B->Q b H'->wpAny (model B.prog B.w) A (k b) K NoE s') :
   wpAny (model B.prog B.w) A (yF ifs env k) K NoE s:=by
 cases ifs with
 | nil=>exact hk true H s (.refl I) h
 | cons c r=>exact wps (h A s env e R I F) (λb s' hh1=>by obtain ⟨H',t,q⟩:=hh1;exact hk b H' s' t q)
theorem pC (elt target iter:Expr)(ifs:List Expr)(h:ifs.length<=1)(scope:Scope)(pos:Pos)(it acc:Value)(env:Env) :
   compTurn (.ListComp elt [⟨target,iter,ifs,0⟩] scope pos) 0 it acc env=(standAt iter.pos >>= λO=>pyNext it >>= λr=>match r with
     | none=>pure (.done .next)
     | some v=>letOwnedTupleGo target it v >>= λO=>assign target env v >>= λO=>yF ifs env λok:Bool=>
         if ok=true then (eval elt env >>= λx=>call (.builtin "list.append") [acc,x] >>= λO=>again (.compLoop (.ListComp elt [⟨target,iter,ifs,0⟩] scope pos) 0 it acc env))
           else again (.compLoop (.ListComp elt [⟨target,iter,ifs,0⟩] scope pos) 0 it acc env)):=by
 cases ifs with
 | nil=>rw [compTurn_list1];simp -iota only [bind_assoc,pure_bind];rfl
 | cons c r=>
   cases r with
   | nil=>rw [qj];rfl
   | cons _ _=>simp at h
section
variable {ι:Type}(B:aJ)(hf:ι->List (Addr×Obj))(A:Around)(deps:AH)(tgt:Expr)(itv:Value)(cenv:Env)(H₀:AH)(s₀:Shared)(J:List PV->ι->AH->Shared->Prop)
inductive aE4 (σ:St)(H:AH)(v:Value)(x:PV)(xs:List PV)(s:Shared):Prop
 | mk (o:ι) (i:Inv (B.hids (hf o)) H s) (f:aA s H σ cenv (B.hids (hf o))) (r:VR s.heap (Trk H (B.hids (hf o))) v x)
     (st:∀H' s',Tr (bJ cenv) s' H' s H (B.hids (hf o))->(∀p∈deps,p∈H')->Tr noU s' H' s₀ H₀ B/\J xs o H' s')
inductive aDu (σ:St)(H:AH)(items:List PV)(r:Option Value)(s:Shared):Prop
 | done (hi:items=[]) (hr:r=none) (t:Tr noU s H s₀ H₀ B) (f:aA s H σ cenv B)
 | one (v:Value) (x:PV) (xs:List PV) (hi:items=x::xs) (hr:r=some v) (w:wpAny (model B.prog B.w) A (letOwnedTupleGo tgt itv v) (λO s₄=>aE4 B hf deps cenv H₀ s₀ J σ H v x xs s₄) NoE s)
set_option genInjectivity false in
set_option genSizeOf false in
structure rO:Prop where
 self:∀items o H s (E:EP) (Q:Value->Shared->Prop),J items o H s->Q itv s->wpAny (model B.prog B.w) A (pyIter itv) Q E s
 next:∀items o σ H s,J items o H s->Tr noU s H s₀ H₀ B->aA s H σ cenv (B.hids (hf o))->wpAny (model B.prog B.w) A (pyNext itv) (aDu B hf A deps tgt itv cenv H₀ s₀ J σ H items) NoE s
inductive vO (fi:aP)(d:Nat)(D:Addr)(ifs:List Expr)(elt:Expr)(Q:LQ)(n:Nat)(s':Shared):Prop
 | mk (o:ι) (items acc:List PV) (σ':St) (H':AH) (hn:n=items.length) (t:Tr noU s' ((D,acc)::H') s₀ H₀ B) (F:aA s' ((D,acc)::H') σ' cenv (B.hids (hf o))) (j:J items o ((D,acc)::H') s')
     (q:pZ B hf fi d tgt ifs elt D deps items acc σ' H' Q)
end
theorem w5 {ι:Type}{hf:ι->List (Addr×Obj)}{iter elt:Expr}{ifs:List Expr}{itv:Value}{cenv:Env}{deps:AH}{J:List PV->ι->AH->Shared->Prop}{Q:LQ}
   {R:Result->Shared->Prop}{σ₀:St}{H₁:AH}{s₀:Shared}{o:ι}{items:List PV}(Rm:ah A d)(hifs:ifs.length<=1)(ek:aY B fi cenv)(TT:rO B hf A deps tgt itv cenv H s₀ J)(T₁:Tr noU s₁ ((D,[])::H₁) s₀ H B)
   (F₁:aA s₁ ((D,[])::H₁) σ₀ cenv (B.hids (hf o)))(hJ:J items o ((D,[])::H₁) s₁)(hgo:pZ B hf fi d tgt ifs elt D deps items [] σ₀ H₁ Q)
   (hR:∀acc σ' H' s',Tr noU s' ((D,acc)::H') s₀ H B->aA s' ((D,acc)::H') σ' cenv B->Q acc H'->R (.ok .next) s') :
   codeAny (model B.prog B.w) A (.compStart (.ListComp elt [⟨tgt,iter,ifs,0⟩] scope pos) 0 itv (.ref D) cenv) R s₁:=by
 have hloop:codeAny (model B.prog B.w) A (.compLoop (.ListComp elt [⟨tgt,iter,ifs,0⟩] scope pos) 0 itv (.ref D) cenv) R s₁:=by
   refine codeAny_loop rfl (vO B hf deps tgt cenv H s₀ J fi d D ifs elt Q) ?_ items.length ⟨o,items,[],σ₀,H₁,rfl,T₁,F₁,hJ,hgo⟩;intro n s₂ hi;obtain ⟨o,items,acc,σ₂,H₂,rfl,T₂,F₂,hJ₂,q₂⟩:=hi;show wpAny _ _ ((compTurn (.ListComp elt [⟨tgt,iter,ifs,0⟩] scope pos) 0 itv (.ref D) cenv).onRaise (λx=>do noteFrame x cenv;theTreesLotGoes x)) _ _ s₂;refine wpAny_noted ?_;rw [pC _ _ _ _ hifs,show A.under (.compLoop (.ListComp elt [⟨tgt,iter,ifs,0⟩] scope pos) 0 itv (.ref D) cenv)=A from Around.under_of_weight rfl rfl];refine aa (wpAny_bind (wpAny_standAt (wps (TT.next items o σ₂ _ s₂ hJ₂ T₂ F₂) (λr s₃ hr=>?_))))
   cases hr with
   | done hi hr t f=>
     subst hi;subst hr;exact wpAny_pure (hR acc σ₂ H₂ s₃ t f q₂)
   | one v x xs hi hr hv=>
     subst hi;subst hr;refine wps hv (λO s₄ hh1=>?_);obtain ⟨o',I₄,F₄,hvr,st⟩:=hh1;have ek':aY (B.hids (hf o')) fi cenv:=ek.hids;refine wps (q₂ o' A s₄ cenv ek' Rm I₄ F₄ v hvr) (λO s₅ hh1=>?_);obtain ⟨σ₅,H₅,t₅,F₅,q₅⟩:=hh1;refine GA hifs q₅ ek' Rm t₅.inv F₅ λb H₆ s₆ t₆ q₆=>?_;have F₆:=F₅.tr t₅.inv t₆
     have done:∀{acc' s₉ H₈},Tr noU s₉ ((D,acc')::H₈) s₆ H₆ (B.hids (hf o'))->(∀p∈deps,p∈H₈)->pZ B hf fi d tgt ifs elt D deps xs acc' σ₅ H₈ Q->∃m,m<(x::xs).length/\vO B hf deps tgt cenv H s₀ J fi d D ifs elt Q m s₉:=λt hd q=>
       have z:=st _ _ ((t₅.trans t₆.up).trans t.up) λp hp=>mcm _ (hd p hp)
       ⟨xs.length,Au _,o',xs,_,σ₅,_,rfl,z.1,F₆.tr t₆.inv t,z.2,q⟩
     cases b with
     | true=>
       refine wps (q₆ A s₆ cenv ek' Rm t₆.inv F₆) (λw s₇ hh1=>?_);obtain ⟨p,H₇,t₇,r₇,hz,H₈,e₇,hdep₇,q₇⟩:=hh1;subst e₇;exact wps (gB (B:=B.hids (hf o')) (xs:=acc) (H':=(D,acc++[p])::H₈) .head t₇.inv r₇ hz) (λO s₈ hh1=>wpAny_pure ⟨rfl,done (t₇.trans hh1.2) hdep₇ q₇⟩)
     | false=>
       obtain ⟨H₈,e₆,hdep₆,q₇⟩:=q₆;subst e₆;exact wpAny_pure ⟨rfl,done (.refl t₆.inv) hdep₆ q₇⟩
 exact codeAny_compStart_list hloop (TT.self items o _ s₁ _ _ hJ hloop)
end
section
noncomputable abbrev cfi (fi:aP)(scope:Scope)(σ':St):aP:=⟨{ scope with names:=σ'.map λe=>(e.1,e.2.1) },none,fi.qual,λO=>true⟩
theorem Evo.of_tr0 {G:Nat->Prop}{deps:AH}(t:Tr noU s' H' s H B)(hP:∀p,P p->¬Trk H B p)(hd:∀p∈deps,p∈H'):Evo B P G deps H s H' s':=
 ⟨t.inv,λa ob e hq hn=>t.step.heap a ob e λq=>q.elim hn False.elim,λa ob e hp=>t.step.heap a ob e λq=>q.elim (hP a hp) False.elim,t.step.size,t.keys,hd,λi x O e=>t.step.gens i x e⟩
theorem Tr.turned {s₀:Shared}(t:Tr noU s H' s₀ H B)(I₀:Inv B H s₀)(ho:s.heap.get? a=some o)(hd:∀vs n,o.data≠.seq vs n)(hd':∀vs,o.data≠.fields vs)(ha:s₀.heap.objs.size<=a)(hs:Heap.SameBut a s.heap h') :
   Tr noU { s with heap:=h' } H' s₀ H B:=
 ⟨t.inv.change (t:=s.toks) ho hd hd' (Heap.get?_none_of_le (ntr I₀.size ha)) hs,⟨λb ob e hn=>(hs.2 b λq=>absurd (Heap.lt_size e) (by rw [q];exact nlr ha)).trans (t.step.heap b ob e hn),by show _<=h'.objs.size;rw [hs.1];exact t.step.size,t.step.gens⟩,t.keys⟩
theorem Tr.fresh {s₂ s₄:Shared}(I:Inv B H s₂)(hk:∀b o,(s₂.heap.push (al #[] 0)).get? b=some o->s₄.heap.get? b=some o)(hz:(s₂.heap.push (al #[] 0)).objs.size<=s₄.heap.objs.size)(hg:s₄.gens=s₂.gens)(ho:s₄.os=s₂.os) :
   Tr noU s₄ ((s₂.heap.objs.size,[])::H) s₂ H B:=
 have t:=Tr.track (xs:=[]) I .nil
 t.trans (Tr.ext t.inv hk hz hg ho)
theorem rQ {s₂:Shared}{scope:Scope}{cl:List (Str×Addr)}{P:Value->Env->Shared->Prop}(hc:∀x∈scope.names,x.2≠NameKind.cell)(hk:scope.kind=.function)
   (k:∀s₄:Shared,(∀b o,(s₂.heap.push (al #[] 0)).get? b=some o->s₄.heap.get? b=some o)->s₄.heap.Ns (s₂.heap.push (al #[] 0)).objs.size (λx=>([]:List (Str×Value)).reverse.lookup x)->s₄.gens=s₂.gens->s₄.os=s₂.os->
     P (.ref s₂.heap.objs.size) (newEnv scope (s₂.heap.push (al #[] 0)).objs.size env.globals cl env.qual none .none (some env) builtinsNs) s₄) :
   wpAny (model B.prog B.w) A (newList []) (λacc s₃=>wpAny (model B.prog B.w) A (newFunctionEnv scope env.globals cl [] env.qual none .none (some env)) (λcenv s₄=>P acc cenv s₄) E s₃) E s₂:=
 wpAny_newList (wpAny_newFunctionEnv hc (λy hy=>(by cases hy)) (λh₄ hns hsb=>by exact k ⟨h₄,s₂.gens,s₂.drawn,s₂.toks+0,s₂.os⟩ (λb o e=>hsb.extBut b o (A4 (Heap.lt_size e)) (Heap.get?_push_of_some _ e)) hns rfl rfl) hk) (by rw [sizeLine_eq];exact Ae _)
theorem lQ {s₄:Shared}{cl:List (Str×Addr)}{C:Addr}{l:List (Addr×Obj)}(I:Inv B H s)(F:aA s H σ env B)(hk:env.scope.kind=.function)(hc:CSt B σ scope.names σ')(hn:(scope.names.map λe=>e.1).Nodup)
   (K:k9 env scope s cl)(T:Tr noU s₄ H' s H B)(hC:s.heap.objs.size<=C)(hns:s₄.heap.Ns C (λx=>([]:List (Str×Value)).reverse.lookup x))(ht:∀a,a<s.heap.objs.size->Trk H' (B.hids l) a->Trk H B a):aA s₄ H' σ' (compEnvC scope cl C env) (B.hids l):=by
 have kept:∀b o,s.heap.get? b=some o->¬Trk H B b->s₄.heap.get? b=some o:=λb o eb hnt=>T.step.heap b o eb λq=>q.elim hnt False.elim;refine ⟨Heap.get?_none_of_le (ntr I.size hC),λx y c hx hy=>F.apart x y c (K.sub x c hx) (K.sub y c hy),hc.keys F hk,?_,⟨_,hns,λx p hm=>(by cases ((hc.mem F _ hm:some p=none)))⟩,λx ov hm=>?_,λx p hm=>hc.mem F _ hm p rfl⟩
 . show ((relabel scope env).names.map _).Nodup
   rw [show (relabel scope env).names=_ from (hc.keys F hk).symm,Bm];exact (hc.fst.symm▸hn:(σ'.map λe=>e.1).Nodup)
 . obtain ⟨⟨c,w,hc',⟨oc,hoc,hdc⟩,hw⟩,hf⟩:=(hm.elim (λm=>hc.mem F _ m) λm=>hc.mem F _ m:hZ ov x env (Trk H B) s.heap/\(x,NameKind.free)∈scope.names)
   exact ⟨c,w,(K.get x hf).trans hc',⟨oc,kept _ _ hoc (b6 I hoc (by rw [hdc];(intros;first | contradiction | (intro q;cases q))) (by rw [hdc];(intros;first | contradiction | (intro q;cases q)))),hdc⟩,hw.mono (λa o ea O hna=>kept a o ea hna) ht⟩
inductive qA (B:aJ)(A:Around)(tgt:Expr)(H:AH)(s:Shared)(q:(ι:Type)->(ι->List (Addr×Obj))->IQ)(itv:Value)(s₂:Shared):Prop
 | mk (ι:Type) (hf:ι->List (Addr×Obj)) (o:ι) (items:List PV) (deps H₁:AH) (t:Tr noU s₂ H₁ s H B) (i:Inv (B.hids (hf o)) H₁ s₂) (ht:∀a,a<s.heap.objs.size->Trk H₁ (B.hids (hf o)) a->Trk H B a)
     (go:∀cenv D s₄,Tr noU s₄ ((D,[])::H₁) s₂ H₁ (B.hids (hf o))->s₂.heap.objs.size<=cenv.locals->(∀y c,cenv.cells.lookup y=some c->c<s.heap.objs.size)->(∀a,bJ cenv a->s.heap.objs.size<=a)->
       ∃J,rO B hf A deps tgt itv cenv H s J/\J items o ((D,[])::H₁) s₄) (hq:q ι hf items deps H₁)
theorem jK {iter elt:Expr}{ifs:List Expr}{Q:LQ}{use:Option (Value->Sem Unit)}{K:Value->Shared->Prop}
   (e:aY B fi env)(R:ah A d)(I:Inv B H s)(F:aA s H σ env B)(hifs:ifs.length<=1)
   (hi:wpAny (model B.prog B.w) A (eval iter env) (λx s₁=>wpAny (model B.prog B.w) A (pyIter x) (qA B A tgt H s λι hf items deps H₁=>∀D,pZ B hf (cfi fi scope σ') d tgt ifs elt D deps items [] σ' H₁ Q) NoE s₁) NoE s)
   (hc:CSt B σ scope.names σ')(hn:(scope.names.map λe=>e.1).Nodup)(hk:scope.kind=.function)(hco:scope.isCoroutine=false)(hs:∀x,foldedSetIterable iter env x=pure x)
   (hK:∀D acc H' C s',Tr noU s' ((D,acc)::H') s H B->(∃m,s'.heap.Ns C m)->s.heap.objs.size<=C->Q acc H'->compPost (model B.prog B.w) A NoE use K (.ref D) C (.ok .next) s') :
   wpAny (model B.prog B.w) A (comprehension (.ListComp elt [⟨tgt,iter,ifs,0⟩] scope pos) scope env (firstIterPos [⟨tgt,iter,ifs,0⟩] pos) (newList []) (firstAsync [⟨tgt,iter,ifs,0⟩]) (firstIter [⟨tgt,iter,ifs,0⟩] env) use) K NoE s:=by
 obtain ⟨cl,L⟩:=hc.clos F;refine wpAny_comprehension_free (gs:=[]) rfl hs L.e hk (λx hx hl=>a0 hn (by rw [<-hl];exact hx)) (wpm hi (λx s₁ h₁=>wpm h₁ (λitv s₂ m=>rQ hc.nocell hk λs₄ keep hns hg ho=>?_)));obtain ⟨ι,hf,o,items,deps,H₁,t₂,I₂,ht,go,q⟩:=m;have T:=t₂.trans (Tr.fresh t₂.inv keep (Ah hns.lt) hg ho);have hC:s₂.heap.objs.size<=(s₂.heap.push (al #[] 0)).objs.size:=by rw [Heap.size_push];exact Ax _
 have hCs:=ntr t₂.step.size hC
 obtain ⟨J,TJ,hJ⟩:=go (compEnvC scope cl (s₂.heap.push (al #[] 0)).objs.size env) _ s₄ (Tr.fresh I₂ keep (Ah hns.lt) hg ho) hC L.lt λa u=>by
   rcases u with rfl | ⟨x,_,hx,hlt⟩
   . exact hCs
   . exact absurd (A5 (nlt (L.lt x a hx) hCs) hlt) (Az _)
 have ek:aY B (cfi fi scope σ') (compEnvC scope cl (s₂.heap.push (al #[] 0)).objs.size env):=⟨congrArg (λn=>({ scope with names:=n }:Scope)) (hc.keys F e.kindF).symm,hk,hco,e.globals,e.builtins,e.qual,(λc P h=>(by cases h)),(λO h=>(by cases h)),(λO h=>(by cases h))⟩;refine w5 R hifs ek TJ T (lQ I F e.kindF hc hn L T hCs hns λa ha x=>?_) hJ (q _) λacc σ'' H' s' T' F' hq=>?_
 . exact x.cons.elim (λe=>absurd ha (nlr (e▸t₂.step.size))) (ht a ha)
 . obtain ⟨m,hns,O⟩:=F'.ns
   exact hK _ acc H' _ s' T' ⟨m,hns⟩ hCs hq
inductive WJ (B:aJ)(J:(Addr->Prop)->List PV->AH->Shared->Prop)(cenv:Env)(s₀:Shared)(items:List PV)(H:AH)(s':Shared):Prop
 | mk (W:Addr->Prop) (j:J W items H s') (p:∀p,W p->s₀.heap.objs.size<=p/\p<s'.heap.objs.size/\¬Trk H B p/\p≠cenv.locals)
theorem rT {deps:AH}{itv:Value}{cenv:Env}{s₀:Shared}{G:Nat->Prop}{J:(Addr->Prop)->List PV->AH->Shared->Prop}(Rm:ah A 3)(I₀:Inv B H s₀)(IT:qH B A deps tgt itv G J)(hG:∀i,G i->s₀.gens.size<=i)
   (hCl:∀y c,cenv.cells.lookup y=some c->c<s₀.heap.objs.size)(hU:∀a,bJ cenv a->s₀.heap.objs.size<=a):rO B (λ_:Unit=>B.hid) A deps tgt itv cenv H s₀ (λitems O H' s'=>WJ B J cenv s₀ items H' s') where
 self:=λitems O H s E Q j q=>by
   obtain ⟨W,j,O⟩:=j;exact IT.self W items H s E Q j q
 next:=λitems O σ H₂ s₂ j T₂ F₂=>by
   obtain ⟨W,j,hP⟩:=j;have hPa:∀p,W p->s₀.heap.objs.size<=p:=λp hp=>(hP p hp).1;have hC:∀{W:Addr->Prop},(∀p,W p->s₀.heap.objs.size<=p)->∀y c,cenv.cells.lookup y=some c->¬W c:=λhw y c hy hp=>absurd (hCl y c hy) (nlr (hw c hp));have fr:∀{s₃},cL s₃ G s₂ H₂ B W->aA s₃ H₂ σ cenv B:=λo=>o.frame' F₂ (λhp=>(hP _ hp).2.2.2 rfl) (hC hPa) λp hp=>IT.notseq _ _ _ _ j p hp;refine wpm (IT.next W items H₂ s₂ j Rm T₂.inv) (λr s₃ hr=>?_)
   cases items with
   | nil=>exact .done rfl hr.1 (hr.2.tr T₂ hPa hG) (fr hr.2)
   | cons x xs=>
     obtain ⟨v,e,hv⟩:=hr;refine .one v x xs rfl e (wpm hv (λO s₄ hh1=>?_));obtain ⟨o,hvr,W',hW',j₄⟩:=hh1;have T₄:=o.tr T₂ hPa hG;have hlt:cenv.locals<s₂.heap.objs.size:=by obtain ⟨m,hns,O⟩:=F₂.ns;exact hns.lt
     have hP₄:∀p,W' p->s₀.heap.objs.size<=p/\p<s₄.heap.objs.size/\¬Trk H₂ B p/\p≠cenv.locals:=λp hp=>by
       rcases hW' p hp with q | q
       . exact ⟨(hP p q).1,nlt (hP p q).2.1 o.size,(hP p q).2.2⟩
       . exact ⟨ntr T₂.step.size q.1,q.2,λt=>absurd (d2 T₂.inv t) (nlr q.1),λe=>absurd (e▸q.1) (Nat.not_le.mpr hlt)⟩
     exact ⟨(),T₄.inv,fr o,hvr,λH' s' t hd=>⟨Tr.back I₀ T₄ t hU,W',IT.stable _ _ _ _ _ _ j₄ (Evo.of_tr' (fr o) t (λp hp=>⟨qW (P:=W') (λhp=>(hP₄ _ hp).2.2.2 rfl) (hC λp hp=>(hP₄ p hp).1) p hp,(hP₄ p hp).2.2.1⟩) hd),
       λp hp=>⟨(hP₄ p hp).1,nlt (hP₄ p hp).2.1 t.step.size,λq=>(hP₄ p hp).2.2.1 (Trk.new t.keys (hP₄ p hp).2.1 q),(hP₄ p hp).2.2.2⟩⟩⟩
theorem qA.of {q:(ι:Type)->(ι->List (Addr×Obj))->IQ}{itv:Value}{s₂:Shared}(Rm:ah A 3)(I:Inv B H s)(m:pX B A tgt H s (q Unit λO=>B.hid) itv s₂):qA B A tgt H s q itv s₂:=by
 obtain ⟨items,deps,H₁,W,G,J,t,IT,j,p,g,dp,hq⟩:=m
 exact ⟨_,_,(),items,deps,H₁,t,t.inv,λa ha x=>Trk.new t.keys ha x,λcenv D s₄ T hL hC hU=>⟨_,rT Rm I IT (λi hi=>(g i hi).1) hC hU,W,IT.stable _ _ _ _ _ _ j (Evo.of_tr0 T (λa ha=>(p a ha).2.2) λx hx=>.tail _ (dp x hx)),
   λa ha=>⟨(p a ha).1,nlt (p a ha).2.1 T.step.size,λq=>(p a ha).2.2 (Trk.new T.keys (p a ha).2.1 q),λe=>absurd (p a ha).2.1 (nlr (e▸hL))⟩⟩,hq⟩
theorem EvI.madeC {iter:Expr}{q:(ι:Type)->(ι->List (Addr×Obj))->IQ}(hi:EvI B fi d NoE tgt iter σ H (q Unit λO=>B.hid))(hd:3<=d)(e:aY B fi env)(R:ah A d)(I:Inv B H s)(F:aA s H σ env B) :
   wpAny (model B.prog B.w) A (eval iter env) (λx s₁=>wpAny (model B.prog B.w) A (pyIter x) (qA B A tgt H s q) NoE s₁) NoE s:=
 wpm (hi A s env e R I F) (λO O h=>wpm h (λO O m=>.of (R.le hd) I m))
theorem Tr.turnedC {s₀:Shared}{C:Addr}{m:Str->Option Value}(t:Tr noU s H' s₀ H B)(I₀:Inv B H s₀)(hn:s.heap.Ns C m)(hC:s₀.heap.objs.size<=C)(hs:Heap.SameBut C s.heap h'):Tr noU { s with heap:=h' } H' s₀ H B:=by
 obtain ⟨o,es,ep,ho,hd,O⟩:=hn;exact t.turned I₀ ho (by rw [hd];(intros;first | contradiction | (intro q;cases q))) (by rw [hd];(intros;first | contradiction | (intro q;cases q))) hC hs
theorem bB {iter elt:Expr}{ifs:List Expr}(σ':St)
   (hc:CSt B σ scope.names σ')
   (hi:EvI B fi d NoE tgt iter σ H λitems deps H₁=>∀D,xX B (cfi fi scope σ') d tgt ifs elt D deps items [] σ' H₁ λacc H'=>Q (.list acc) H')
   (hn:autoParam ((scope.names.map λe=>e.1).Nodup) nF)(hk:autoParam (scope.kind=.function) nA)(hco:autoParam (scope.isCoroutine=false) nA)(hs:autoParam (∀env x,foldedSetIterable iter env x=pure x) nC)
   (hd:autoParam (3<=d) nB)(hifs:autoParam (ifs.length<=1) nB):Ev E B d fi σ H (.ListComp elt [⟨tgt,iter,ifs,0⟩] scope pos) Q:=λA s env e R I F=>by
 show wpAny _ A (comprehension (.ListComp elt [⟨tgt,iter,ifs,0⟩] scope pos) scope env (firstIterPos [⟨tgt,iter,ifs,0⟩] pos) (newList []) (firstAsync [⟨tgt,iter,ifs,0⟩]) (firstIter [⟨tgt,iter,ifs,0⟩] env)) _ _ s;refine wpAny_mono (jK (K:=aN B H s Q) e R I F hifs (hi.madeC hd e R I F) hc hn hk hco (hs env) ?_) (λO O x=>x) λO O x=>x.elim
 rintro D acc H' C s' t ⟨m,hns⟩ hC q
 refine ⟨m,hns,λh' hsb=>?_⟩;have t':=t.turnedC I hns hC hsb;exact ⟨.list acc,H',t'.drop_key,t'.inv.freeze,q⟩
theorem d9 {p:Pos}{elt:Expr}{gens:List Comprehension}{cp:Pos}{line:Nat}(hb:env.scope.kind=.function)(hk:env.kindOf x=some .local)(hl:(p.line==cp.line)=true)
   (hno:(scope.names.any λ(n,k)=>n==x && (k==.local || k==.cell))=false):swapsWith (.ListComp elt gens scope cp) (some (.Name x p)) line env=pure true:=by
 show (pure (env.blockKind==.function && env.kindOf x==some .local && p.line==cp.line && !(scope.names.any λ(n,k)=>n==x && (k==.local || k==.cell))):Sem Bool)=pure true;have:env.blockKind=.function:=by unfold Env.blockKind;rw [hb];rfl
 rw [this,hk,hl,hno]
 rfl
theorem aA.turned {s₀:Shared}{σ₀:St}{H₀:AH}{C:Addr}{m:Str->Option Value}(F₀:aA s₀ H₀ σ₀ env B)(F:aA s H σ env B)(hn:s.heap.Ns C m)(hC:s₀.heap.objs.size<=C)(hs:Heap.SameBut C s.heap h'):aA { s with heap:=h' } H σ env B:=by
 obtain ⟨o,es,ep,ho,hd,O⟩:=hn;have hk:∀a ob,s.heap.get? a=some ob->a9 ob->¬Trk H B a->h'.get? a=some ob:=λa ob e ⟨vs,n,q⟩ _=>(hs.2 a λeq=>by rw [eq,ho] at e;cases e;rw [hd] at q;cases q).trans e;refine ⟨F.fresh,F.apart,F.keys,F.nodup,?_,λy ov hy=>?_,F.glob⟩
 . obtain ⟨m',hns',hm⟩:=F.ns
   exact ⟨m',hns'.sameBut hs λq=>absurd (F₀.own_lt (.inl rfl)) (nlr (q▸hC)),λy p hy=>(hm y p hy).mono hk λO O t=>t⟩
 . obtain ⟨c,w,hc,⟨oc,hoc,hdc⟩,hv⟩:=F.cell y ov hy
   exact ⟨c,w,hc,⟨oc,(hs.2 c λeq=>by rw [eq,ho] at hoc;cases hoc;rw [hd] at hdc;cases hdc).trans hoc,hdc⟩,hv.mono hk λO O t=>t⟩
theorem jQ {pos':Pos}{C:Addr}{acc:List PV}{H':AH}{s':Shared}{σ₂:St}(e:aY B fi env)(I:Inv B H s)(F:aA s H σ env B)(t:Tr noU s' ((D,acc)::H') s H B)(hns:∃m,s'.heap.Ns C m)(hC:s.heap.objs.size<=C)(hr:Rep x (.list acc) .local σ σ₂)(q:Qn σ₂ H') :
   compPost (model B.prog B.w) A NoE (some (assign (.Name x pos') env)) (λO s'=>∃σ₂ H',Tr (bJ env) s' H' s H B/\aA s' H' σ₂ env B/\Qn σ₂ H') (.ref D) C (.ok .next) s':=by
 obtain ⟨m,hns⟩:=hns;show wpAny _ A (do standAt pos';bindName env x (.ref D)) _ _ s';refine wpAny_bind (wpAny_standAt (wpAny_bindName ?_));have F':=F.tr I t.drop_key;refine wpm (dM e t.inv.drop_key F' t.inv.freeze hr (.inl rfl)) (λO s'' hh1=>?_);obtain ⟨t₂,F₂⟩:=hh1
 have hns':s''.heap.Ns C m:=by
   obtain ⟨o,es,ep,ho,hd',r⟩:=hns;refine ⟨o,es,ep,t₂.step.heap _ _ ho λq=>?_,hd',r⟩;rcases q with q | q
   . exact b6 t.inv.drop_key ho (by rw [hd'];(intros;first | contradiction | (intro q;cases q))) (by rw [hd'];(intros;first | contradiction | (intro q;cases q))) q
   . exact absurd (F.own_lt (by rcases q with q | ⟨y,a,b,c⟩;exact .inl q;exact .inr ⟨y,a,b,c⟩)) (nlr hC)
 refine ⟨m,hns',λh' hsb=>⟨σ₂,H',?_,F.turned F₂ hns' hC hsb,q⟩⟩;have T₂:Tr (bJ env) s'' H' s H B:=t.drop_key.up.trans t₂;obtain ⟨o,es,ep,ho,hd',O⟩:=hns';exact ⟨T₂.inv.change (t:=s''.toks) ho (by rw [hd'];(intros;first | contradiction | (intro q;cases q))) (by rw [hd'];(intros;first | contradiction | (intro q;cases q))) (Heap.get?_none_of_le (ntr I.size hC)) hsb,⟨λb ob eb hnb=>(hsb.2 b λqq=>absurd (Heap.lt_size eb) (by rw [qq];exact nlr hC)).trans (T₂.step.heap b ob eb hnb),by show _<=h'.objs.size;rw [hsb.1];exact T₂.step.size,T₂.step.gens⟩,T₂.keys⟩
theorem ff {x:Str}{pos':Pos}{iter elt:Expr}{ifs:List Expr}{cpos:Pos}(σ':St)
   (hc:CSt B σ scope.names σ')
   (hi:EvI B fi d NoE tgt iter σ H λitems deps H₁=>∀D,xX B (cfi fi scope σ') d tgt ifs elt D deps items [] σ' H₁ λacc H'=>∃σ₂,Rep x (.list acc) .local σ σ₂/\Qn σ₂ H')
   (hx:∃ov,(x,NameKind.local,ov)∈σ)(hl:autoParam ((pos'.line==cpos.line)=true) nA)(hno:autoParam ((scope.names.any λ(n,k)=>n==x && (k==.local || k==.cell))=false) nF)
   (hn:autoParam ((scope.names.map λe=>e.1).Nodup) nF)(hk:autoParam (scope.kind=.function) nA)(hco:autoParam (scope.isCoroutine=false) nA)(hs:autoParam (∀env x,foldedSetIterable iter env x=pure x) nC)
   (hd:autoParam (3<=d) nB)(hifs:autoParam (ifs.length<=1) nB):X B fi d E (.Assign [.Name x pos'] (.ListComp elt [⟨tgt,iter,ifs,0⟩] scope cpos) pos) σ H Qn Qf:=λA s env e R I F=>by
 obtain ⟨ov,hx⟩:=hx;rw [exec_Assign_Name_used x pos' _ pos (d9 e.kindF (F.kindOf hx) hl hno)];refine wpAny_bind (wpAny_standAt (wpAny_bind ?_));show wpAny _ A (do let _<-comprehension (.ListComp elt [⟨tgt,iter,ifs,0⟩] scope cpos) scope env (firstIterPos [⟨tgt,iter,ifs,0⟩] cpos) (newList []) (firstAsync [⟨tgt,iter,ifs,0⟩]) (firstIter [⟨tgt,iter,ifs,0⟩] env) (some (assign (.Name x pos') env))) _ _ s;refine wpAny_bind (wpAny_mono (jK (K:=λO s'=>∃σ₂ H',Tr (bJ env) s' H' s H B/\aA s' H' σ₂ env B/\Qn σ₂ H') e R I F hifs (hi.madeC hd e R I F) hc hn hk hco (hs env) ?_) (λO s' hh1=>by obtain ⟨σ₂,H',t,F',q⟩:=hh1;exact wpAny_pure (wpAny_pure ⟨σ₂,H',t,F',.inl ⟨rfl,q⟩⟩)) λO O x=>x.elim);exact λD acc H' C s' t hns hC hh1=>by obtain ⟨σ₂,hr,q⟩:=hh1;exact jQ e I F t hns hC hr q
end
noncomputable def bK (s:Shared)(fs:List Frame)(M:Model)(A:Around)(c:Code)(Φ:End->Shared->Prop)(t:Sem Fin):Prop:=
 ∀Γ p,Γ.code=c->Γ.Woken A->∃e s',Runs M Γ p t fs s e s'/\Φ e s'
section
variable {M:Model}{Φ:End->Shared->Prop}{c:Code}{fs:List Frame}
 {K:Flow->Sem Fin}{Hh:Value->Sem Fin}{gd:Bool->Bool}{lv:List Value->List Value}
theorem ck {α:Type}{m:Sem α}{K:α->Sem Fin}{H:Value->Sem Fin}{gd:Bool->Bool}{lv:List Value->List Value}
   (h:wpAny M (A.over c fs) m (λa s'=>bK s' fs M A c Φ (K a)) (λx s'=>bK s' fs M A c Φ (H x)) s):bK s fs M A c Φ (m.wrap K H gd lv):=by
 rintro Γ p rfl hΓ
 exact runs_wrap_of_wp K H gd lv m (h (Γ.over fs) p (hΓ.over fs)) (λa p' s' h'=>h' Γ p' rfl hΓ) (λx p' s' h'=>h' Γ p' rfl hΓ)
theorem HE {p':Pos}{k:Unit->Sem Fin}(h:bK s fs M A c Φ (k ())):bK s fs M A c Φ (.at p' k):=
 ck (m:=standAt p') (K:=k) (H:=.raise) (gd:=id) (lv:=id) (wpAny_standAt h)
theorem zb {l:List Value}{k:Unit->Sem Fin}(h:bK s fs M A c Φ (k ())):bK s fs M A c Φ (.point l k):=
 ck (m:=point) (K:=k) (H:=.raise) (gd:=id) (lv:=λO=>l) (wpAny_point h)
theorem EU {c':Code}{h:Option Value}{g:Bool}{l:List Value}{k:Result->Sem Fin}(hc:∀p,bK s (.ret k h g l c p []::fs) M A c' Φ (M.den c')):bK s fs M A c Φ (.call c' h g l k):=by
 rintro Γ p rfl hΓ
 obtain ⟨e,s',hr,he⟩:=hc p (Γ.goto c') p rfl (hΓ.goto c');exact ⟨e,s',runs_call_seg hr,he⟩
theorem Es {k:Result->Sem Fin}{h:Option Value}{g:Bool}{l:List Value}{c₁:Code}{p₁:Pos}{kp:List Value}(r:Result)(hk:bK s fs M A c₁ Φ (k r)):bK s (.ret k h g l c₁ p₁ kp::fs) M A c Φ (leafOf r):=by
 rintro Γ p rfl hΓ
 obtain ⟨e,s',hr,he⟩:=hk (Γ.goto c₁) p₁ rfl (hΓ.goto c₁);exact ⟨e,s',Runs.pop r hr,he⟩
theorem i7 {c':Code}(hq:c'.quiet=true)(hc:bK s fs M A c' Φ (M.den c')):bK s fs M A c Φ (.pure (.again c')):=by
 rintro Γ p rfl hΓ
 obtain ⟨e,s',hr,he⟩:=hc (Γ.goto c') p rfl (hΓ.goto c');exact ⟨e,s',Runs.head (c₁:=c') (λO O x=>.again hq x) hr,he⟩
theorem zp (r:Result)(h:Φ (.ret r) s):bK s [] M A c Φ (leafOf r):=by
 rintro Γ p rfl _
 exact ⟨.ret r,s,Runs.leaf r,h⟩
theorem zL {v:Value}{g:Bool}{l:List Value}{k:Resume->Sem Fin}(hfs:splitAtGen fs=none)(h:∀p,Φ (.susp v g l k c p fs) s):bK s fs M A c Φ (.yield v g l k):=by
 rintro Γ p rfl _
 exact ⟨_,s,Runs.yield' fs hfs,h p⟩
theorem c6 {st:Stmt}(h:bK s fs M A c Φ ((exec st env).wrap (λf=>match f with | .next=>(execs rest env).wrap K Hh gd lv | f=>K f) Hh gd lv)) :
   bK s fs M A c Φ ((execs (st::rest) env).wrap K Hh gd lv):=by rw [execs_cons_wrap];exact h
theorem FH {st:Stmt}(h:wpAny M (A.over c fs) (exec st env) (λf s'=>bK s' fs M A c Φ (K f)) NoE s):bK s fs M A c Φ ((exec st env).wrap K Hh gd lv):=
 ck (wpAny_mono h (λO O x=>x) λO O x=>x.elim)
theorem aFi {t:Expr}{b o:List Stmt}(h:wpAny M (A.over c fs) (isTrue t env (eval t env)) (λv s'=>bK s' fs M A c Φ ((execs (if v then b else o) env).wrap K Hh gd lv)) NoE s) :
   bK s fs M A c Φ ((exec (.If t b o pos) env).wrap K Hh gd lv):=by
 have e:exec (.If t b o pos) env=(standAt pos >>= λO=>isTrue t env (eval t env) >>= λv=>if v=true then execs b env else execs o env):=rfl;rw [e,Sem.bind_eq_wrap',Sem.wrap_wrap];refine ck (wpAny_standAt ?_);rw [Sem.bind_eq_wrap',Sem.wrap_wrap];refine ck (wpAny_mono h (λv s' h'=>?_) λO O x=>x.elim);cases v
 . simpa using h'
 . simpa using h'
theorem Dx {ypos:Pos}(hfs:splitAtGen fs=none)(hgd:gd false=false)(hfg:fs.any Frame.guarded=false)
   (h:wpAny M (A.over c fs) (eval e env) (λv s'=>∀g l p k,(∀Φ' s'',bK s'' fs M A c Φ' (K .next)->bK s'' fs M A c Φ' (k (.send .none)))->(End.susp v g l k c p fs).quiet=true->Φ (.susp v g l k c p fs) s') NoE s)(hco:env.scope.isCoroutine=false)(hi:interactive env=false) :
   bK s fs M A c Φ ((exec (.Expr (.Yield (some e) ypos) pos) env).wrap K Hh gd lv):=by
 rw [exec_Expr env _ pos hi rfl];show bK s fs M A c Φ (.at pos λO=>((eval e env >>= λv=>(standAt ypos >>= λO=>yieldOut env v)) >>= λx=>dropValue (.Yield (some e) ypos) pos x).wrap K Hh gd lv);have hy:∀v,yieldOut env v=yieldValue v:=λv=>by simp only [yieldOut,hco,Cc,if_false]
 simp only [hy];refine HE ?_;rw [Sem.bind_eq_wrap',Sem.bind_eq_wrap',Sem.wrap_wrap,Sem.wrap_wrap];refine ck (wpAny_mono h (λv s' h'=>?_) λO O x=>x.elim);refine HE (zL hfs λp=>?_);refine h' _ _ p _ (λΦ' s'' hs=>?_) (by simp [End.quiet,hgd,hfg]);exact hs
noncomputable def u7 (env:Env)(r:Result):Sem Flow:=(match r with | .ok f=>(.pure f:Sem Flow) | .error e=>.raise e).onRaise λ(x:Value)=>do
       if (<-field x 1)==Value.none then unsupported "frame.own-activation:exception-without-traceback"
       setFlight x env.frame
theorem v5 {c':Code}(h:∀p,bK s (.ret (λr=>(u7 env r).wrap K Hh gd lv) none (gd false) (lv []) c p []::fs) M A c' Φ (M.den c')) :
   bK s fs M A c Φ ((runOwn c' env).wrap K Hh gd lv):=EU h
theorem aA7 {it:Expr}(hs:∀x,foldedSetIterable it env x=pure x)
   (h:wpAny M (A.over c fs) (eval it env) (λx s₁=>wpAny M (A.over c fs) (pyIter x) (λitv s₂=>∀p,bK s₂ (.ret (λr=>(u7 env r).wrap K Hh gd lv) none (gd false) (lv []) c p []::fs) M A (.forLoop tgt itv body [] env) Φ (M.den (.forLoop tgt itv body [] env))) NoE s₁) NoE s):bK s fs M A c Φ ((exec (.For tgt it body [] pos) env).wrap K Hh gd lv):=by
 have e:exec (.For tgt it body [] pos) env=((standAt pos >>= λO=>eval it env >>= λx=>foldedSetIterable it env x >>= λx=>standAt it.pos >>= λO=>holding [x] (pyIter x)) >>= λitv=>runOwn (.forLoop tgt itv body [] env) env):=by
   show (do standAt pos;let x<-foldedSetIterable it env (<-eval it env);standAt it.pos;runOwn (.forLoop tgt (<-holding [x] (pyIter x)) body [] env) env)=_;simp only [bind_assoc]
 rw [e,Sem.bind_eq_wrap',Sem.wrap_wrap];refine ck (wpAny_bind (wpAny_standAt (wpAny_bind (wpAny_mono h (λx s₁ h₁=>?_) λO O x=>x.elim))));refine wpAny_bind (wpAny_of_eq (hs x) (wpAny_bind (wpAny_standAt (wpAny_holding (wpAny_mono h₁ (λitv s₂ h₂=>?_) λO O x=>x.elim)))));exact v5 h₂
end
section
variable {prog:Program}{w:World}{Φ:End->Shared->Prop}{c:Code}{fs:List Frame}
noncomputable def Gr (tgt:Expr)(itv:Value)(body:List Stmt)(env:Env):Flow->Sem Fin
 | .next | .cont=>.pure (.again (.forLoop tgt itv body [] env))
 | .brk=>.pure (.done .next)
 | .ret v=>.pure (.done (.ret v))
noncomputable def G9 (env:Env)(e:Value):Sem Fin:=(do noteFrame e env;theTreesLotGoes e:Sem Unit).wrap (λO=>.raise e) .raise id id
theorem lX {itv:Value}
   (h:wpAny (model prog w) (A.over (.forLoop tgt itv body [] env) fs) (pyNext itv) (λr s₁=>match r with
     | none=>bK s₁ fs (model prog w) A (.block [] env) Φ (leafOf (.ok .next))
     | some v=>wpAny (model prog w) (A.over (.forLoop tgt itv body [] env) fs) (letOwnedTupleGo tgt itv v) (λO s₂=>wpAny (model prog w) (A.over (.forLoop tgt itv body [] env) fs) (assign tgt env v) (λO s₃=>
         bK s₃ fs (model prog w) A (.forLoop tgt itv body [] env) Φ ((execs body env).wrap (Gr tgt itv body env) (G9 env) id id)) NoE s₂) NoE s₁) NoE s) :
   bK s fs (model prog w) A (.forLoop tgt itv body [] env) Φ ((model prog w).den (.forLoop tgt itv body [] env)):=by
 show bK s fs _ A _ Φ ((forTurn tgt itv body [] env).onRaise (λx=>do noteFrame x env;theTreesLotGoes x));unfold forTurn;rw [Sem.onRaise_eq_wrap,Sem.bind_eq_wrap',Sem.wrap_wrap];refine ck (wpAny_standAt ?_);rw [Sem.bind_eq_wrap',Sem.wrap_wrap];refine ck (m:=(pyNext itv).onRaise λO=>standAt { tgt.pos with line:=0 }) ?_
 have hon:∀{α:Type} {m:Sem α} {f:Value->Sem Unit} {Q:α->Shared->Prop} {E:EP} {s:Shared} {A:Around},wpAny (model prog w) A m Q NoE s->wpAny (model prog w) A (m.onRaise f) Q E s:=by
   intro α m f Q E s A hm;exact wpAny_onRaise (wpAny_mono hm (λO O x=>x) λO O x=>x.elim)
 refine hon (wpm h (λr s₁ h₁=>?_))
 cases r with
 | none=>exact i7 rfl h₁
 | some v=>
   dsimp only at h₁ ⊢;rw [Sem.bind_eq_wrap',Sem.wrap_wrap];refine ck (wpAny_mono h₁ (λO s₂ h₂=>?_) λO O x=>x.elim);rw [Sem.bind_eq_wrap',Sem.wrap_wrap];refine ck (wpAny_mono h₂ (λO s₃ h₃=>?_) λO O x=>x.elim);rw [Sem.bind_eq_wrap',Sem.wrap_wrap]
   rw [Sem.wrap_congr (execs body env) _ _ (K':=Gr tgt itv body env) (H':=G9 env) (λf=>by cases f <;> rfl) (λe=>by
     first | exact Sem.bind_eq_wrap _ _ | (show (do noteFrame e env;theTreesLotGoes e:Sem Unit).bind (λO=>.raise e)=_;rw [Sem.bind_eq_wrap];rfl))]
   exact h₃
theorem Fh 
   (h:bK s fs (model prog w) A (.func body env) Φ ((execs body env).wrap (λf=>.pure (.done (.ret (match f with | .ret v=>v | _=>.none))))
     (λe=>(leaving env e).wrap (λO=>.raise e) .raise id id) id id)) :
   bK s fs (model prog w) A (.func body env) Φ ((model prog w).den (.func body env)):=by
 show bK s fs _ A _ Φ (.point [] λO=>((execs body env).onRaise (leaving env)) >>= _);refine zb ?_;rw [Sem.onRaise_eq_wrap,Sem.bind_eq_wrap',Sem.wrap_wrap]
 rw [Sem.wrap_congr (execs body env) _ _ (K':=λf=>.pure (.done (.ret (match f with | .ret v=>v | _=>.none))))
   (H':=λe=>(leaving env e).wrap (λO=>.raise e) .raise id id) (λf=>by cases f <;> rfl)
   (λe=>by rw [Sem.bind_eq_wrap,Sem.wrap_wrap];rfl)]
 exact h
noncomputable def vU (M:Model)(A:Around)(Φ:End->Shared->Prop)(gs:GenState)(s:Shared):Prop:=
 match gs with
 | .fresh c=>bK s [] M A c Φ (M.den c)
 | .suspended k _ c _ fs _=>bK s fs M A c Φ (k (.send .none))
 | _=>False
theorem xi {M:Model}{g:Nat}{gs:GenState}{l:List Value}{α:Type}{k:GenResult->Sem α}{Q:α->Shared->Prop}(hg:s.gens[g]?=some gs)
   (hgo:vU M A Φ gs (s.setGen g .running))(hq:∀e s',Φ e s'->e.quiet=true)
   (hR:∀e s₁,Φ e s₁->wpAny M A (k e.result) Q E (s₁.setGen g e.genState)):wpAny M A (.resume g (.send .none) l k) Q E s:=by
 intro Γ p hΓ;rw [Sem.wp_resume];have hB:∀c,(Γ.wake c p).Woken A:=λc=>hΓ.wake c p
 cases gs with
 | fresh c=>
   obtain ⟨e₁,s₁,hr,he⟩:=hgo (Γ.wake c p) p rfl (hB c);exact ⟨_,_,by unfold Wakes;rw [hg];exact ⟨e₁,s₁,hr,hq e₁ s₁ he,rfl,rfl⟩,hR e₁ s₁ he Γ p hΓ⟩
 | suspended k₀ l₀ c₀ p₀ fs₀ cl=>
   obtain ⟨e₁,s₁,hr,he⟩:=hgo (Γ.wake c₀ p) p₀ rfl (hB c₀);exact ⟨_,_,by unfold Wakes;rw [hg];exact ⟨e₁,s₁,hr,hq e₁ s₁ he,rfl,rfl⟩,hR e₁ s₁ he Γ p hΓ⟩
 | running=>exact hgo.elim
 | finished=>exact hgo.elim
theorem Fv {g:Nat}{gs:GenState}{Q:Option Value->Shared->Prop}(hh:A.handled=none)(hl:s.heap.NoLimit)(hroom:A.depth<recursionLimit)
   (hg:s.heap.IsGen a g)(hgs:s.gens[g]?=some gs)(hgo:vU (model prog w) A.in1 Φ gs (s.setGen g .running))(hq:∀e s',Φ e s'->e.quiet=true)
   (hR:∀e s₁,Φ e s₁->(e=.ret (.ok (.ret .none))/\∀h',(∀b o,s₁.heap.get? b=some o->h'.get? b=some o)->s₁.heap.objs.size<=h'.objs.size->Q none { s₁.setGen g .finished with heap:=h' })\/(∃v g₀ l k c p fs,e=.susp v g₀ l k c p fs/\Q (some v) (s₁.setGen g e.genState))) :
   wpAny (model prog w) A (pyNext (.ref a)) Q E s:=by
 unfold pyNext
 refine wpAny_bind (wpAny_attempt (wpAny_callSpecial?_slot (name:=Ω "__next__") hg.typeIs slot_gen_next
   (wpAny_call_entry slot_gen_next hg.typeIs entry_gen_next ?_ (args_gen_next _))))
 show wpAny _ _ (Builtin.Generator.genWake (.ref a) (.send .none)) _ _ s;unfold Builtin.Generator.genWake;refine wpAny_bind (wpAny_holding (wpAny_genNumber hg (wpAny_bind (wpAny_genState hgs ?_))))
 cases gs with
 | running=>exact hgo.elim
 | finished=>exact hgo.elim
 | _=>
   refine wpAny_bind (wpAny_roomToWake hl hroom ?_);show wpAny _ _ (.resume g (.send .none) [] _) _ _ s;refine xi hgs hgo hq λe s₁ he=>?_;rcases hR e s₁ he with ⟨rfl,hp⟩ | ⟨v,g₀,l,k,c,p,fs,rfl,hv⟩
   . show wpAny _ _ (newExc (.type "StopIteration") [] >>= _) _ _ _
     refine wpAny_bind ?_;simp only [newExc,newTuple];refine wpAny_bind (wpAny_newObj_type ?_ (by size_fits));refine wpAny_bind (m:=firstArgMember _ _) (wpAny_of_eq (a:=Value.none) (by first | rfl | (simp only [firstArgMember];rfl)) ?_);refine wpAny_newObj_type ?_ (by size_fits);unfold raiseNew;refine wpAny_bind (wpAny_bind (wpAny_handled ?_));rw [show A.in1.handled=none from hh];refine wpAny_throw ?_;refine wpAny_bind (wpAny_isInstance (T:="StopIteration") (b:=true) ⟨_,Heap.get?_push_size _ rfl,rfl⟩ isSubtype_stop ?_);exact wpAny_pure (hp _ (λb o hb=>Heap.get?_push_of_some _ (Heap.get?_push_of_some _ hb)) (by rw [Heap.size_push,Heap.size_push];show s₁.heap.objs.size<=s₁.heap.objs.size+1+1;lia))
   . exact wpAny_pure ⟨v,rfl,wpAny_pure hv⟩
end
noncomputable def aT (H:AH)(v:PV)(xs:List PV):Prop:=v=.list xs\/∃a,v=.lref a/\(a,xs)∈H
theorem aT.list :aT H (.list xs) xs:=.inl rfl
theorem aT.lref (h:(a,xs)∈H):aT H (.lref a) xs:=.inr ⟨a,rfl,h⟩
section
theorem aT.at (h:aT H v xs)(I:Inv B H s)(r:VR s.heap (Trk H B) va v) :
   ∃a vs n,va=.ref a/\s.heap.get? a=some (al vs n)/\VRs s.heap (Trk H B) vs.toList xs:=by
 rcases h with rfl | ⟨a,rfl,hm⟩
 . cases r with | list ho hn hs=>exact ⟨_,_,_,rfl,ho,hs⟩
 . obtain ⟨O,rfl⟩:=r.inv
   obtain ⟨O,vs,n,ho,hv⟩:=I.objs _ hm;exact ⟨a,vs,n,rfl,ho,hv⟩
theorem VRs.asize {vs:Array Value}(r:VRs h T vs.toList xs):vs.size=xs.length:=by
 have:=r.length;simpa using this
theorem ny {a b:Int}(h:Q (.int (a+b)) H):V2 H E B d (.int b) (.int a) (binaryOp .Add) Q:=λA s R I va vb r1 r2=>by
 obtain ⟨O,rfl⟩:=r1.inv;obtain ⟨O,rfl⟩:=r2.inv;exact P.add_int ⟨_,_,Tr.tok I _,.int _ _,h⟩
theorem uP {a b:Int}(h:Q (.int (a-b)) H):V2 H E B d (.int b) (.int a) (binaryOp .Sub) Q:=λA s R I va vb r1 r2=>by
 obtain ⟨O,rfl⟩:=r1.inv;obtain ⟨O,rfl⟩:=r2.inv;exact P.sub_int ⟨_,_,Tr.tok I _,.int _ _,h⟩
theorem bH {a b:Int}(hm:IntMulOk a b)(h:Q (.int (a*b)) H):V2 H E B d (.int b) (.int a) (binaryOp .Mult) Q:=λA s R I va vb r1 r2=>by
 obtain ⟨O,rfl⟩:=r1.inv;obtain ⟨O,rfl⟩:=r2.inv;exact P.mul_int ⟨_,_,Tr.tok I _,.int _ _,h⟩ hm
theorem aHe {a b:Int}(hb:b.natAbs<2 ^ 9000):Builtin.divisionGoesByPylong a b=false:=by
 unfold Builtin.divisionGoesByPylong
 have:¬((if b==0 then 0 else b.natAbs.log2/30+1) > 300):=by
   by_cases h0:(b==0)=true
   . rw [if_pos h0];lia
   . rw [if_neg h0]
     have hne:b.natAbs≠0:=by
       intro q;apply h0;simp;(clear h0 hb;lia)
     have:=(Nat.log2_lt hne).mpr hb
     lia
 simp only [decide_eq_false this,Bool.false_and]
theorem dT {a b:Int}(hb:b≠0)(hp:Builtin.divisionGoesByPylong a b=false)(h:Q (.int (a.fdiv b)) H):V2 H E B d (.int b) (.int a) (binaryOp .FloorDiv) Q:=λA s R I va vb r1 r2=>by
 obtain ⟨O,rfl⟩:=r1.inv;obtain ⟨O,rfl⟩:=r2.inv;exact floordiv_int hb ⟨_,_,Tr.tok I _,.int _ _,h⟩ (.inl hp)
theorem dZ {a b:Int}(hb:b≠0)(h:Q (.int (a.fmod b)) H):V2 H E B d (.int b) (.int a) (binaryOp .Mod) Q:=λA s R I va vb r1 r2=>by
 obtain ⟨O,rfl⟩:=r1.inv;obtain ⟨O,rfl⟩:=r2.inv;exact mod_int' hb ⟨_,_,Tr.tok I _,.int _ _,h⟩
theorem pL {a n:Int}(hn:0<=n)(h:Q (.int (a.fdiv (2 ^ n.toNat))) H):V2 H E B d (.int n) (.int a) (binaryOp .RShift) Q:=λA s R I va vb r1 r2=>by
 obtain ⟨O,rfl⟩:=r1.inv;obtain ⟨O,rfl⟩:=r2.inv;exact rshift_int hn ⟨_,_,Tr.tok I _,.int _ _,h⟩
theorem vD {a b:Int}(h:Q (.int (Builtin.bitAnd a b)) H):V2 H E B d (.int b) (.int a) (binaryOp .BitAnd) Q:=λA s R I va vb r1 r2=>by
 obtain ⟨O,rfl⟩:=r1.inv;obtain ⟨O,rfl⟩:=r2.inv;exact and_int ⟨_,_,Tr.tok I _,.int _ _,h⟩
theorem y6 {a b:Int}(h:Q (.int (Builtin.bitOr a b)) H):V2 H E B d (.int b) (.int a) (binaryOp .BitOr) Q:=λA s R I va vb r1 r2=>by
 obtain ⟨O,rfl⟩:=r1.inv;obtain ⟨O,rfl⟩:=r2.inv;exact or_int ⟨_,_,Tr.tok I _,.int _ _,h⟩
theorem vB {a b:Int}(h:Q (.int (Builtin.bitXor a b)) H):V2 H E B d (.int b) (.int a) (binaryOp .BitXor) Q:=λA s R I va vb r1 r2=>by
 obtain ⟨O,rfl⟩:=r1.inv;obtain ⟨O,rfl⟩:=r2.inv;exact xor_int ⟨_,_,Tr.tok I _,.int _ _,h⟩
theorem CP {a:Int}(h:Q (.int (-a)) H):V1 B d E (unaryOp .USub) (.int a) H Q:=λA s R I va r1=>by
 obtain ⟨O,rfl⟩:=r1.inv;exact P.neg_int ⟨_,_,Tr.tok I _,.int _ _,h⟩
theorem zc {a:Int}(h:Q (.int (Builtin.bitNot a)) H):V1 B d E (unaryOp .Invert) (.int a) H Q:=λA s R I va r1=>by
 obtain ⟨O,rfl⟩:=r1.inv;exact invert_int ⟨_,_,Tr.tok I _,.int _ _,h⟩
theorem aBu {a b:Int}(h:Q (.int (a+b)) H):V2 H E B d (.int b) (.int a) (inplaceOp .Add) Q:=λA s R I va vb r1 r2=>by
 obtain ⟨O,rfl⟩:=r1.inv;obtain ⟨O,rfl⟩:=r2.inv;exact P.iadd_int ⟨_,_,Tr.tok I _,.int _ _,h⟩
theorem aBd {a b:Int}(h:Q (.int (a-b)) H):V2 H E B d (.int b) (.int a) (inplaceOp .Sub) Q:=λA s R I va vb r1 r2=>by
 obtain ⟨O,rfl⟩:=r1.inv;obtain ⟨O,rfl⟩:=r2.inv;exact P.isub_int ⟨_,_,Tr.tok I _,.int _ _,h⟩
theorem zz {a b:Int}(h:Q (.bool (a==b)) H):V2 H E B d (.int b) (.int a) (compareOp .Eq) Q:=λA s R I va vb r1 r2=>by
 obtain ⟨O,rfl⟩:=r1.inv;obtain ⟨O,rfl⟩:=r2.inv;exact P.eq_int (aN.here I (.bool _) h)
theorem yf {a b:Int}(h:Q (.bool (a != b)) H):V2 H E B d (.int b) (.int a) (compareOp .NotEq) Q:=λA s R I va vb r1 r2=>by
 obtain ⟨O,rfl⟩:=r1.inv;obtain ⟨O,rfl⟩:=r2.inv;exact P.ne_int (aN.here I (.bool _) h)
theorem z8 {a b:Int}(h:Q (.bool (decide (a<b))) H):V2 H E B d (.int b) (.int a) (compareOp .Lt) Q:=λA s R I va vb r1 r2=>by
 obtain ⟨O,rfl⟩:=r1.inv;obtain ⟨O,rfl⟩:=r2.inv;exact P.lt_int (aN.here I (.bool _) h)
theorem zP {a b:Int}(h:Q (.bool (decide (a<=b))) H):V2 H E B d (.int b) (.int a) (compareOp .LtE) Q:=λA s R I va vb r1 r2=>by
 obtain ⟨O,rfl⟩:=r1.inv;obtain ⟨O,rfl⟩:=r2.inv;exact P.le_int (aN.here I (.bool _) h)
theorem yw {a b:Int}(h:Q (.bool (decide (a > b))) H):V2 H E B d (.int b) (.int a) (compareOp .Gt) Q:=λA s R I va vb r1 r2=>by
 obtain ⟨O,rfl⟩:=r1.inv;obtain ⟨O,rfl⟩:=r2.inv;exact P.gt_int (aN.here I (.bool _) h)
theorem CU {a b:Int}(h:Q (.bool (decide (a ≥ b))) H):V2 H E B d (.int b) (.int a) (compareOp .GtE) Q:=λA s R I va vb r1 r2=>by
 obtain ⟨O,rfl⟩:=r1.inv;obtain ⟨O,rfl⟩:=r2.inv;exact P.ge_int (aN.here I (.bool _) h)
theorem uS {a:Int}{Q:BQ}(h:Q (a != 0) H):Tru B d E (.int a) H Q:=λA s R I va r=>by
 obtain ⟨O,rfl⟩:=r.inv;exact P.truthy_int ⟨H,.refl I,h⟩
noncomputable def iM:PV->Bool
 | .none | .bool _=>true
 | _=>false
noncomputable def cP:PV->Bool
 | .raw _=>false
 | _=>true
noncomputable def iE:PV->PV->Bool
 | .none,.none=>true
 | .bool a,.bool b=>a==b
 | _,_=>false
theorem HB {a:PV}(w:Value)(p:PV)(hn:plainIs .none w=true/\(Value.none==w)=iE .none p)(hb:∀x,plainIs (.bool x) w=true/\(Value.bool x==w)=iE (.bool x) p)
   (hi:∀x t,plainIs (.int x t) w=true/\(Value.int x t==w)=false)(hs:∀x t,plainIs (.str x t) w=true/\(Value.str x t==w)=false)(hy:∀x t,plainIs (.bytes x t) w=true/\(Value.bytes x t==w)=false)(hr:∀x,plainIs (.ref x) w=true/\(Value.ref x==w)=false)
   (r:VR h T va a)(ha:cP a=true):plainIs va w=true/\(va==w)=iE a p:=
 VR.rec (motive_1:=λva a O=>cP a=true->plainIs va w=true/\(va==w)=iE a p) (motive_2:=λO O O=>True) (λO=>hn) (λx O=>hb x) (λx t O=>hi x t) (λx t O=>hs x t) (λx t O=>hy x t) (λO O O O O=>hr _) (λO O O O O=>hr _) (λO O=>hr _) (λO q=>Bool.noConfusion q) trivial (λO O O O=>trivial) r ha
theorem qw {a b:PV}(hb:iM b=true)(ha:cP a=true){vb:Value}(r1:VR h T va a)(r2:VR h T vb b):plainIs va vb=true/\(va==vb)=iE a b:=by
 cases b with
 | none=>
   obtain rfl:vb=.none:=r2.inv;exact HB _ _ ⟨rfl,rfl⟩ (λO=>⟨rfl,rfl⟩) (λO O=>⟨rfl,rfl⟩) (λO O=>⟨rfl,rfl⟩) (λO O=>⟨rfl,rfl⟩) (λO=>⟨rfl,rfl⟩) r1 ha
 | bool y=>
   obtain rfl:vb=.bool y:=r2.inv;exact HB _ _ ⟨rfl,rfl⟩ (λx=>⟨rfl,by cases x <;> cases y <;> rfl⟩) (λO O=>⟨rfl,rfl⟩) (λO O=>⟨rfl,rfl⟩) (λO O=>⟨rfl,rfl⟩) (λO=>⟨rfl,rfl⟩) r1 ha
 | _=>exact (Bool.noConfusion hb)
theorem zA {a b:PV}(h:Q (.bool (iE a b)) H)(hb:autoParam (iM b=true) nA)(ha:autoParam (cP a=true) nA):V2 H E B d b a (compareOp .Is) Q:=λA s R I va vb r1 r2=>by
 obtain ⟨p,e⟩:=qw hb ha r1 r2;exact wpAny_is_plain p (by rw [e];exact aN.here I (.bool _) h)
theorem nX {a b:PV}(h:Q (.bool (!iE a b)) H)(hb:autoParam (iM b=true) nA)(ha:autoParam (cP a=true) nA):V2 H E B d b a (compareOp .IsNot) Q:=λA s R I va vb r1 r2=>by
 obtain ⟨p,e⟩:=qw hb ha r1 r2;exact wpAny_isNot_plain p (by rw [e];exact aN.here I (.bool _) h)
noncomputable def z6 (B:aJ)(o:PV):Prop:=
 ∀A (E:EP) H s ov,Inv B H s->VR s.heap (Trk H B) ov o->∀Q:Bool->Shared->Prop,Q false s->wpAny (model B.prog B.w) A (getitemInPython ov) Q E s
theorem kM {o:Value}{T id:String}(hT:s.TypeIs o T)(hl:typeLookup (.type T) "__getitem__" = pure (some (.builtin id))){Q:Bool->Shared->Prop}(h:Q false s):wpAny (model B.prog B.w) A (getitemInPython o) Q E s:=by
 rw [getitemInPython_of_ne hT.not_modules];exact wpAny_bind (wpAny_specialOf hT hl (wpAny_pure h))
theorem vy :z6 B (.tup xs):=λA E H s ov I r Q q=>by
 cases r with | tup ho hn hs=>exact kM (show s.TypeIs (.ref _) "tuple" from ⟨_,ho,rfl⟩) slot_tuple_getitem.lookup q
theorem cS :z6 B (.str x):=λA E H s ov I r Q q=>by
 obtain ⟨O,rfl⟩:=r.inv;exact kM (typeIs_str _ _ _) F.slot_str_getitem.lookup q
set_option tactic.hygienic true in
theorem qx {value slice:Expr}{ov iv:Value}{Q:Value->Shared->Prop}(h:wpAny (model B.prog B.w) A (getItem ov iv) Q E s):wpAny (model B.prog B.w) A (subscripted slice false ov iv >>= λr=>letTemporaryGo value ov r >>= λO=>pure r) Q E s:=by
 have go:wpAny (model B.prog B.w) A (getItem ov iv) (λr s₃=>wpAny (model B.prog B.w) A (letTemporaryGo value ov r >>= λO=>pure r) Q E s₃) E s:=wpm h (λr s₃ p=>wpAny_bind (wpAny_letTemporaryGo (wpAny_pure p)))
 have hop:∀vs,wpAny (model B.prog B.w) A (operate vs (getItem ov iv)) (λr s₃=>wpAny (model B.prog B.w) A (letTemporaryGo value ov r >>= λO=>pure r) Q E s₃) E s:=λvs Γ p hΓ=>by
   rw [Sem.wp_operate];exact go Γ p hΓ
 refine wpAny_bind ?_;cases slice
 case Slice lo hi st p=>cases st <;> exact hop _
 all_goals exact hop _
end
section
theorem fS {k:Int}(hv:aT H v xs)(h0:0<=k)(hfit:k<2 ^ 63)(hx:xs[k.toNat]?=some p)(h:Q p H):V2 H E B d (.int k) v getItem Q:=λA s R I va vb r1 r2=>by
 obtain ⟨a,vs,n,rfl,ho,hr⟩:=hv.at I r1;obtain ⟨O,rfl⟩:=r2.inv;obtain ⟨v',hv',hr'⟩:=hr.get hx;exact wpAny_getItem_list (aS ho) h0 hfit (by rw [<-Array.getElem?_toList];exact hv') (aN.here I hr' h)
theorem ei {k:Int}(hv:aT H v xs)(h0:k<0)(h1:-(xs.length:Int)<=k)(hfit:-(2 ^ 63)<=k)(hx:xs[(k+xs.length).toNat]?=some p)(h:Q p H):V2 H E B d (.int k) v getItem Q:=λA s R I va vb r1 r2=>by
 obtain ⟨a,vs,n,rfl,ho,hr⟩:=hv.at I r1;obtain ⟨O,rfl⟩:=r2.inv;obtain ⟨v',hv',hr'⟩:=hr.get hx;exact wpAny_getItem_list_neg (aS ho) h0 (by rw [hr.asize];exact h1) hfit (by rw [<-Array.getElem?_toList,hr.asize];exact hv') (aN.here I hr' h)
theorem Ey {k:Int}{j:Nat}(hlo:-(2 ^ 63)<=k)(hhi:k<2 ^ 63)(hj:seqIndex? k xs.length=some j)(hx:xs[j]?=some p)(h:Q p H):V2 H E B d (.int k) (.tup xs) getItem Q:=λA s R I va vb r1 r2=>by
 obtain ⟨O,rfl⟩:=r2.inv
 cases r1 with
 | tup ho hn hr=>
   obtain ⟨v',hv',hr'⟩:=hr.get hx;exact getItem_tuple ⟨_,ho,rfl,_,rfl⟩ hlo hhi (by rw [hr.asize];exact hj) (by rw [<-Array.getElem?_toList];exact hv') (aN.here I hr' h)
noncomputable def mY (B:aJ)(o:PV)(H:AH):Prop:=
 ∀A (E:EP) s ov,Inv B H s->VR s.heap (Trk H B) ov o->∀Q:Bool->Shared->Prop,Q false s->wpAny (model B.prog B.w) A (getitemInPython ov) Q E s
theorem c5 {o:PV}(h:z6 B o):mY B o H:=λA E s ov I r Q q=>h A E H s ov I r Q q
theorem aB (hv:aT H v xs):mY B v H:=λA E s ov I r Q q=>by
 obtain ⟨a,vs,n,rfl,ho,O⟩:=hv.at I r;exact kM (aS ho).typeIs slot_list_getitem.lookup q
theorem aBf {value slice:Expr}
   (h:Ev E B d fi σ H value λo H₁=>Ev E B d fi σ H₁ slice λi H₂=>mY B o H₂/\V2 H₂ E B d i o getItem Q):Ev E B d fi σ H (.Subscript value slice pos) Q:=λA s env e R I F=>by
 refine Subscript_ (wpE (h A s env e R I F) (λov s₁ o H₁ t₁ r₁ h₁=>?_));refine wpm (h₁ A s₁ env e R t₁.inv (F.tr I t₁)) (λiv s₂ hh1=>?_);obtain ⟨i,H₂,t₂,r₂,hs,h₂⟩:=hh1;unfold subscriptTail;refine wpAny_bind (hs A E s₂ ov t₂.inv (r₁.tr t₂) _ ?_);exact qx (wpm (h₂ A s₂ R t₂.inv ov iv (r₁.tr t₂) r₂) (λO O p=>(p.trans t₂).trans t₁))
theorem aK {id:String}:cQ B (.raw (.builtin id)):=λA E H s fv I r Q h=>by
 obtain ⟨O,rfl⟩:=r.inv;exact wpAny_pure (h _)
theorem aq {id:String}:cQ B (.raw (.type id)):=λA E H s fv I r Q h=>by
 obtain ⟨O,rfl⟩:=r.inv;exact wpAny_pure (h _)
theorem ml {fd:FuncData}(ho:B.g.get? f=some o)(hd:o.data=.func fd):cQ B (.raw (.ref f)):=λA E H s fv I r Q h=>by
 obtain ⟨O,rfl⟩:=r.inv;unfold keeperOf;refine wpAny_bind (wpAny_load (I.keep _ _ ho) ?_);rw [hd];exact wpAny_pure (h _)
theorem ab (hv:aT H v xs)(hfit:xs.length<2 ^ 60)(h:Q (.int xs.length) H):aM [] E H B d (.raw (.builtin "len")) [v] Q:=λA s R I fv vs kvs h1 h2 h3=>by
 cases h1
 cases kvs with
 | cons _ _=>cases h3.1
 | nil=>
   cases h2 with | cons r h2=>cases h2 with | nil=>
   obtain ⟨a,vs,n,rfl,ho,hr⟩:=hv.at I r;refine len_list (aS ho) (by rw [hr.asize];lia) ?_;rw [hr.asize];exact ⟨_,_,Tr.tok I _,.int _ _,h⟩
theorem ip (hfit:x.length<2 ^ 60)(h:Q (.int x.length) H):aM [] E H B d (.raw (.builtin "len")) [.str x] Q:=λA s R I fv vs kvs h1 h2 h3=>by
 cases h1
 cases kvs with
 | cons _ _=>cases h3.1
 | nil=>
   cases h2 with | cons r h2=>cases h2 with | nil=>
   obtain ⟨O,rfl⟩:=r.inv;exact PyProof.Rows.len_str (by lia) ⟨_,_,Tr.tok I _,.int _ _,h⟩
end
inductive Has {α:Type}(e:α):List α->Prop
 | head {l:List α}:Has e (e::l)
 | tail {x:α} {l:List α}:Has e l->Has e (x::l)
theorem Has.mem {α:Type}{e:α}{l:List α}(h:Has e l):e∈l:=by
 induction h with
 | head=>exact mcs
 | tail _ ih=>exact mcm _ ih
theorem Has.ex {k:NameKind}{ov:Option PV}(h:Has (x,k,ov) σ):∃ov,(x,k,ov)∈σ:=⟨ov,h.mem⟩
section
theorem aFy (hm:Has (x,NameKind.local,some v) σ)(h:Q v H):Ld B fi d E x σ H Q:=CY hm.mem h
theorem aD2 (hm:Has (x,NameKind.cell,some v) σ)(h:Q v H):Ld B fi d E x σ H Q:=Fl hm.mem h
theorem aFd (hm:Has (x,NameKind.free,some v) σ)(h:Q v H)(hc':autoParam ((x==("__classdict__" : Str))=false) nB):Ld B fi d E x σ H Q:=GE hm.mem h hc'
theorem aFm (hm:Has (x,NameKind.globalImplicit,some v) σ)(h:Q v H):Ld B fi d E x σ H Q:=xR hm.mem h
theorem Gc:bM fi .local:=.inl rfl
theorem aFr (h:autoParam ((fi.comp=λO=>false)) nA):bM fi .cell:=.inr ⟨rfl,h⟩
theorem aEz {σ':St}{K:St->Prop}(hr:Rep x v .local σ σ')(h:K σ'):∃k σ',Rep x v k σ σ'/\bM fi k/\K σ':=⟨_,_,hr,Gc,h⟩
theorem aFq {σ':St}{K:St->Prop}(hr:Rep x v .cell σ σ')(h:K σ')(hc:autoParam ((fi.comp=λO=>false)) nA):∃k σ',Rep x v k σ σ'/\bM fi k/\K σ':=⟨_,_,hr,aFr hc,h⟩
end
theorem dc.nil {kvs:List (Str×Value)}(r:dc T h kvs []):kvs=[]:=by
 cases kvs with
 | nil=>rfl
 | cons _ _=>cases r.1
theorem VRs.one (r:VRs h T vs [p]):∃v,vs=[v]/\VR h T v p:=by
 obtain ⟨v,ws,rfl,a,b⟩:=r.head;rw [b.isnil];exact ⟨v,rfl,a⟩
theorem VRs.two {q:PV}(r:VRs h T vs [p,q]):∃v w,vs=[v,w]/\VR h T v p/\VR h T w q:=by
 obtain ⟨v,ws,rfl,a,b⟩:=r.head;obtain ⟨w,rfl,c⟩:=b.one;exact ⟨v,w,rfl,a,c⟩
theorem VRs.three {q r:PV}(x:VRs h T vs [p,q,r]):∃v w u,vs=[v,w,u]/\VR h T v p/\VR h T w q/\VR h T u r:=by
 obtain ⟨v,ws,rfl,a,b⟩:=x.head;obtain ⟨w,u,rfl,c,e⟩:=b.two;exact ⟨v,w,u,rfl,a,c,e⟩
theorem VRs.four {q r t:PV}(x:VRs h T vs [p,q,r,t]):∃v w u z,vs=[v,w,u,z]/\VR h T v p/\VR h T w q/\VR h T u r/\VR h T z t:=by
 obtain ⟨v,ws,rfl,a,b⟩:=x.head;obtain ⟨w,u,z,rfl,c,e,f⟩:=b.three;exact ⟨v,w,u,z,rfl,a,c,e,f⟩
section
theorem VRs.own {v:List Value}{p:List PV}(F:aA s H σ env B)(r:VRs s.heap (Trk H B) v p)(x:Tr (bJ env) s' H' s H B):VRs s'.heap (Trk H' B) v p:=
 r.mono (λa o e q n=>x.step.heap a o e λy=>y.elim n λu=>F.own_data u e q) λO ha t=>Trk.new x.keys ha t
theorem mL {n:Nat}{Q:List Value->Shared->Prop}(hh:A.handled=none)(I:Inv B H s)(hv:v=.tup xs\/aT H v xs)(r:VR s.heap (Trk H B) va v)(hn:n=xs.length)
   (h:∀vs s',Tr noU s' H s H B->VRs s'.heap (Trk H B) vs xs->Q vs s'):wpAny (model B.prog B.w) A (unpackItems va n none) Q E s:=by
 have mk:∀h':Heap,Heap.ExtBut s.heap.objs.size s.heap h'->s.heap.objs.size<=h'.objs.size->Tr noU { s with heap:=h' } H s H B:=λh' he hz=>
   Tr.ext I (λa o e=>he a o (A4 (Heap.lt_size e)) e) hz rfl rfl
 rcases hv with rfl | hv
 . cases r with
   | tup ho hnt hs=>
     have hn':n=Array.size _:=hn.trans hs.asize.symm;subst hn';refine aX (unpackItems_tuple hh ⟨_,ho,rfl,_,rfl⟩ λh' he hz=>h _ _ (mk h' he hz) (hs.tr (mk h' he hz)))
 . obtain ⟨a,vs,m,rfl,ho,hs⟩:=hv.at I r
   have hn':n=Array.size _:=hn.trans hs.asize.symm;subst hn';refine aX (kun_itemsOf hh (aS ho) λh' he hz=>h _ _ (mk h' he hz) (hs.tr (mk h' he hz)))
noncomputable def tF (B:aJ)(fi:aP)(d:Nat)(E:EP):List Expr->List PV->St->AH->(SQ)->Prop
 | [],[],σ,H,Q=>Q σ H
 | t::ts,v::vs,σ,H,Q=>Asg B fi d E t v σ H λσ₁ H₁=>tF B fi d E ts vs σ₁ H₁ Q
 | _,_,_,_,_=>False
theorem eM {t:Expr}{r:List Expr}(h:ax t=true):assignEach (t::r) env=(false,assign t env)::assignEach r env:=by
 cases t <;> first | rfl | cases h
theorem En:∀{ts:List Expr} {ps:List PV} {σ:St} {H:AH} {Q:SQ},tF B fi d E ts ps σ H Q->ts.all ax=true->∀A s env,aY B fi env->ah A d->Inv B H s->aA s H σ env B->∀vs,VRs s.heap (Trk H B) vs ps->
   wpAny (model B.prog B.w) A (assignInOrder ((assignEach ts env).map (·.2)) vs) (λO s'=>Gn B env H s Q s') E s:=by
 intro ts
 induction ts with
 | nil=>
   intro ps σ H Q h _ A s env e R I F vs r
   cases ps with
   | nil=>cases r;exact wpAny_pure ⟨σ,H,.refl I,F,h⟩
   | cons p ps=>exact h.elim
 | cons t ts ih=>
   intro ps σ H Q h hp A s env e R I F vs r
   cases ps with
   | nil=>exact h.elim
   | cons p ps=>
     obtain ⟨hp1,hp2⟩:=Bool.and_eq_true_iff.mp hp;obtain ⟨v,ws,rfl,r1,r2⟩:=r.head;rw [eM hp1];show wpAny _ A (do holding ws (assign t env v);assignInOrder ((assignEach ts env).map (·.2)) ws) _ _ _;refine wpAny_bind (wpAny_holding (wpm (h A s env e R I F v r1) (λO s₁ hh1=>?_)));obtain ⟨σ₁,H₁,t₁,F₁,q₁⟩:=hh1;exact wpm (ih q₁ hp2 A s₁ env e R t₁.inv F₁ ws (r2.own F t₁)) (λO s₂ hh1=>by obtain ⟨σ₂,H₂,t₂,F₂,q₂⟩:=hh1;exact ⟨σ₂,H₂,t₁.trans t₂,F₂,q₂⟩)
theorem zg :∀{ts:List Expr},ts.all ax=true->(assignEach ts env).length=ts.length/\(assignEach ts env).findIdx? (·.1)=none:=by
 intro ts
 induction ts with
 | nil=>
   intro _;exact ⟨rfl,rfl⟩
 | cons t ts ih=>
   intro hp;simp only [List.all_cons,Ca] at hp;obtain ⟨h1,h2⟩:=ih hp.2;rw [eM hp.1];exact ⟨by simp [h1],by rw [List.findIdx?_cons,h2];rfl⟩
theorem eW {ts:List Expr}{Q:SQ}(hv:v=.tup xs\/aT H v xs)(hl:ts.length=xs.length)(h:tF B fi d E ts xs σ H Q)(hp:autoParam (ts.all ax=true) nA) :
   Asg B fi d E (.Tuple ts k pos) v σ H Q:=λA s env e R I F va r=>by
 obtain ⟨l1,l2⟩:=zg (env:=env) hp;show wpAny _ A (do standAt pos;unpack va (assignEach ts env)) _ _ s;refine wpAny_bind (wpAny_standAt ?_);unfold unpack;rw [l2,l1];refine wpAny_bind (wpAny_holding (mL R.handled I hv r hl λvs s' t rs=>?_));exact wpm (En h hp A s' env e R t.inv (F.tr I t) vs rs) (λO s₂ hh1=>by obtain ⟨σ₂,H₂,t₂,F₂,q₂⟩:=hh1;exact ⟨σ₂,H₂,t.up.trans t₂,F₂,q₂⟩)
theorem pJ {ts:List Expr}{tpos:Pos}{value:Expr}
   (h:Ev E B d fi σ H value λv H₁=>Asg B fi d E (.Tuple ts k tpos) v σ H₁ Qn)
   (hs:autoParam (∀env,swapsWithSole [.Tuple ts k tpos] value pos.line env=pure false) nC)
   (hw:autoParam (∀env,aY B fi env->swappedStores [.Tuple ts k tpos] value env=pure none) nC):X B fi d E (.Assign [.Tuple ts k tpos] value pos) σ H Qn Qf:=λA s env e R I F=>by
 refine Assign_Tuple (wpE (h A s env e R I F) (λv s₁ p H₁ t₁ r₁ h₁=>?_)) (hs env) (hw env e);exact wpm (h₁ A s₁ env e R t₁.inv (F.tr I t₁) v r₁) (λO s₂ hh1=>by obtain ⟨σ₂,H₂,t₂,F₂,q₂⟩:=hh1;exact ⟨σ₂,H₂,t₁.up.trans t₂,F₂,.inl ⟨rfl,q₂⟩⟩)
noncomputable def pV (fi:aP):List Str->List PV->St->(St->Prop)->Prop
 | [],[],σ,Q=>Q σ
 | x::xs,v::vs,σ,Q=>∃k σ',Rep x v k σ σ'/\bM fi k/\pV fi xs vs σ' Q
 | _,_,_,_=>False
theorem FP :∀{xs:List Str} {ps:List PV} {σ:St} {H:AH} {Q:St->Prop},pV fi xs ps σ Q->∀A s,aY B fi env->Inv B H s->aA s H σ env B->∀vs,VRs s.heap (Trk H B) vs ps->
   wpAny (model B.prog B.w) A (assignInOrder (xs.map λn=>bindName env n) vs) (λO s'=>∃σ',Tr (bJ env) s' H s H B/\aA s' H σ' env B/\Q σ') E s:=by
 intro xs
 induction xs with
 | nil=>
   intro ps σ H Q h A s e I F vs r
   cases ps with
   | nil=>cases r;exact wpAny_pure ⟨σ,.refl I,F,h⟩
   | cons p ps=>exact h.elim
 | cons x xs ih=>
   intro ps σ H Q h A s e I F vs r
   cases ps with
   | nil=>exact h.elim
   | cons p ps=>
     obtain ⟨k,σ',hr,hk,h⟩:=h;obtain ⟨v,ws,rfl,r1,r2⟩:=r.head;show wpAny _ A (do holding ws (bindName env x v);assignInOrder (xs.map λn=>bindName env n) ws) _ _ _;refine wpAny_bind (wpAny_holding (wpAny_bindName (wpm (dM e I F r1 hr hk) (λO s₁ hh1=>?_))));obtain ⟨t₁,F₁⟩:=hh1;exact wpm (ih h A s₁ e t₁.inv F₁ ws (r2.own F t₁)) (λO s₂ hh1=>by obtain ⟨σ₂,t₂,F₂,q₂⟩:=hh1;exact ⟨σ₂,t₁.trans t₂,F₂,q₂⟩)
theorem gY (names:List Str){ts:List Expr}{tpos:Pos}{es:List Expr}{k':Nat}{epos:Pos}
   (hw:∀env,aY B fi env->swappedStores [.Tuple ts k tpos] (.Tuple es k' epos) env=pure (some names))
   (h:EvL B fi d E es σ H λvs H₁=>names.length=vs.length/\pV fi names.reverse vs.reverse σ λσ'=>Qn σ' H₁)
   (hs:autoParam (∀env,swapsWithSole [.Tuple ts k tpos] (.Tuple es k' epos) pos.line env=pure false) nC)
   (hp:autoParam (es.all ax=true) nA)(hl:autoParam (es.length<=64) nB):X B fi d E (.Assign [.Tuple ts k tpos] (.Tuple es k' epos) pos) σ H Qn Qf:=λA s env e R I F=>by
 have hv:Ev E B d fi σ H (.Tuple es k' epos) λv H₁=>∃vs,v=.tup vs/\names.length=vs.length/\pV fi names.reverse vs.reverse σ λσ'=>Qn σ' H₁:=
   kS (by
     have mono:∀{es:List Expr} {H:AH} {Q Q':LQ},(∀vs H',Q vs H'->Q' vs H')->EvL B fi d E es σ H Q->EvL B fi d E es σ H Q':=by
       intro es
       induction es with
       | nil=>intro H Q Q' hq h;exact hq _ _ h
       | cons x r ih=>intro H Q Q' hq h;exact Ev.mono h λv H' h'=>ih (λvs H'' h''=>hq _ _ h'') h'
     exact mono (λvs H' q=>⟨vs,rfl,q⟩) h) hp hl
 refine Assign_Tuple_swapped (wpm (hv A s env e R I F) (λv s₁ hh1=>?_)) (hs env) (hw env e);obtain ⟨p,H₁,t₁,r₁,vs,hvs,hlen,h₁⟩:=hh1;subst hvs;refine mL (xs:=vs) R.handled t₁.inv (.inl rfl) r₁ hlen λws s₂ t₂ rs=>?_;have t:=t₁.trans t₂;exact wpm (FP h₁ A s₂ e t₂.inv (F.tr I t) ws.reverse rs.reverse) (λO s₃ hh1=>by obtain ⟨σ₃,t₃,F₃,q₃⟩:=hh1;exact ⟨σ₃,_,t.up.trans t₃,F₃,.inl ⟨rfl,q₃⟩⟩)
inductive aDy (B:aJ)(H:AH)(s:Shared)(Q:AH->Prop)(s':Shared):Prop
 | mk (H':AH) (t:Tr noU s' H' s H B) (q:Q H')
noncomputable def aBo (B:aJ)(d:Nat)(E:EP)(o i v:PV)(H:AH)(Q:AH->Prop):Prop:=
 ∀A s,ah A d->Inv B H s->∀vo vi va,VR s.heap (Trk H B) vo o->VR s.heap (Trk H B) vi i->VR s.heap (Trk H B) va v->
   wpAny (model B.prog B.w) A (setItem vo vi va) (λO s'=>aDy B H s Q s') E s
theorem o8 {o i:Expr}{pos':Pos}{value:Expr}
   (h:Ev E B d fi σ H value λv H₁=>Ev E B d fi σ H₁ o λov H₂=>Ev E B d fi σ H₂ i λiv H₃=>aBo B d E ov iv v H₃ λH₄=>Qn σ H₄)
   (hs:autoParam (∀env,swapsWith value (some (.Subscript o i pos')) pos.line env=pure false) nC):X B fi d E (.Assign [.Subscript o i pos'] value pos) σ H Qn Qf:=λA s env e R I F=>by
 refine wpAny_Assign_Subscript (wpE (h A s env e R I F) (λv s₁ p H₁ t₁ r₁ h₁=>?_)) (hs env);refine wpE (h₁ A s₁ env e R t₁.inv (F.tr I t₁)) (λov s₂ p₂ H₂ t₂ r₂ h₂=>?_);refine wpE (h₂ A s₂ env e R t₂.inv (F.tr I (t₁.trans t₂))) (λiv s₃ p₃ H₃ t₃ r₃ h₃=>?_);have T:=(t₁.trans t₂).trans t₃;exact wpm (h₃ A s₃ R t₃.inv ov iv v (r₂.tr t₃) r₃ ((r₁.tr t₂).tr t₃)) (λO s₄ hh1=>by obtain ⟨H₄,t₄,q⟩:=hh1;exact ⟨σ,H₄,(T.trans t₄).up,F.tr I (T.trans t₄),.inl ⟨rfl,q⟩⟩)
theorem jt {o i:Expr}{pos':Pos}{op:Operator}{value:Expr}
   (h:Ev E B d fi σ H o λov H₁=>Ev E B d fi σ H₁ i λiv H₂=>V2 H₂ E B d iv ov getItem λold H₃=>Ev E B d fi σ H₃ value λv H₄=>V2 H₄ E B d v old (inplaceOp op) λnew H₅=>aBo B d E ov iv new H₅ λH₆=>Qn σ H₆)
   (ha:autoParam (∀ov iv new,augStore i ov iv new=(do holding [new,ov,iv] (setItem ov iv new);release [new,ov,iv] [];pure .next)) nC):X B fi d E (.AugAssign (.Subscript o i pos') op value pos) σ H Qn Qf:=λA s env e R I F=>by
 refine wpAny_AugAssign_Subscript_any (wpE (h A s env e R I F) (λov s₁ p H₁ t₁ r₁ h₁=>?_)) ha;refine wpE (h₁ A s₁ env e R t₁.inv (F.tr I t₁)) (λiv s₂ p₂ H₂ t₂ r₂ h₂=>?_);refine wpE (h₂ A s₂ R t₂.inv ov iv (r₁.tr t₂) r₂) (λold s₃ p₃ H₃ t₃ r₃ h₃=>?_);have T₃:=(t₁.trans t₂).trans t₃;refine wpE (h₃ A s₃ env e R t₃.inv (F.tr I T₃)) (λv s₄ p₄ H₄ t₄ r₄ h₄=>?_);refine wpE (h₄ A s₄ R t₄.inv old v (r₃.tr t₄) r₄) (λnew s₅ p₅ H₅ t₅ r₅ h₅=>?_);have T₅:=(T₃.trans t₄).trans t₅;exact wpm (h₅ A s₅ R t₅.inv ov iv new ((((r₁.tr t₂).tr t₃).tr t₄).tr t₅) (((r₂.tr t₃).tr t₄).tr t₅) r₅) (λO s₆ hh1=>by obtain ⟨H₆,t₆,q⟩:=hh1;exact ⟨σ,H₆,(T₅.trans t₆).up,F.tr I (T₅.trans t₆),.inl ⟨rfl,q⟩⟩)
theorem VRs.set {v:Value}(r:VR h T v p){ps:List PV}(q:VRs h T vs ps)(i:Nat):VRs h T (vs.set i v) (ps.set i p):=by
 induction i generalizing vs ps with
 | zero=>cases q with
   | nil=>exact .nil
   | cons a b=>exact .cons r b
 | succ i ih=>cases q with
   | nil=>exact .nil
   | cons a b=>exact .cons a (ih b)
theorem rI {k:Int}{Q:AH->Prop}(u:Upd a xs (xs.set k.toNat v) H H')(h0:0<=k)(hfit:k<2 ^ 63)(hn:k<xs.length)(h:Q H') :
   aBo B d E (.lref a) (.int k) v H Q:=λA s R I vo vi va r1 r2 r3=>by
 obtain ⟨O,rfl⟩:=r1.inv;obtain ⟨O,rfl⟩:=r2.inv;obtain ⟨hg,vs,n,ho,hv⟩:=I.objs _ u.has;have hsz:=hv.asize;refine ki_setAt ho h0 hfit (by rw [hsz];exact hn) ?_;refine ⟨H',Tr.upd (t:=s.toks) u I (Heap.SameBut.update ..) (vs':=vs.setIfInBounds k.toNat va) (n':=if (vs.setIfInBounds k.toNat va).size==vs.size then n else n+1) (Heap.get?_update_self _ ho rfl) ?_,h⟩;rw [Array.toList_setIfInBounds];exact VRs.set r3 hv _
noncomputable def dI (B:aJ)(H:AH)(name:Str)(id:String)(ov:PV):Prop:=
 ∀A (E:EP) s va,Inv B H s->VR s.heap (Trk H B) va ov->∀(pl:Sem Bool) (Q:Value×List Value->Shared->Prop),Q (.builtin id,[va]) s->wpAny (model B.prog B.w) A (getMethod va name pl) Q E s
theorem Dz {o:Expr}{name:Str}{apos:Pos}{args:List Expr}
   (h:Ev E B d fi σ H o λov H₁=>∃id,dI B H₁ name id ov/\EvL B fi d E args σ H₁ λvs H₂=>aM [] E H₂ B d (.raw (.builtin id)) (ov::vs) Q)
   (hp:autoParam (args.all ax=true) nA)
   (he:autoParam (∀env,eval (.Call (.Attribute o name apos) args [] pos) env=(do
     let ov<-eval o env
     standAt apos.atName
     let (f,first)<-holding [ov] (getMethod ov name (do return (<-importBound o env).getD true))
     callWith pos f first (backTo pos (starEach args env)) [])) nC) :
   Ev E B d fi σ H (.Call (.Attribute o name apos) args [] pos) Q:=λA s env e R I F=>by
 refine MethodCall_ (wpm (h A s env e R I F) (λov s₁ hh1=>?_)) (he env);obtain ⟨p,H₁,t₁,r₁,id,hm,h₁⟩:=hh1;refine hm A E s₁ ov t₁.inv r₁ _ _ ?_;refine bD (ar hp (wpL (ay h₁ hp A s₁ env e R t₁.inv (F.tr I t₁)) (λvs s₂ ps H₂ t₂ l₂ q₂ h₂=>?_)));refine ⟨λQ' hQ'=>wpAny_pure (hQ' _),?_⟩;refine wpm (h₂ A s₂ R t₂.inv (.builtin id) (ov::vs) [] (.raw _) (.cons (r₁.tr t₂) q₂) ⟨.nil,rfl⟩) (λO O p=>(p.trans t₂).trans t₁)
theorem aM.at {f:PV}{args:List PV}(h:∀A s,ah A d->Inv B H s->∀vs,VRs s.heap (Trk H B) vs args->∀fv,VR s.heap (Trk H B) fv f->wpAny (model B.prog B.w) A (call fv vs []) (aN B H s Q) E s):aM [] E H B d f args Q:=
 λA s R I fv vs kvs h1 h2 h3=>by rw [h3.nil];exact h A s R I vs h2 fv h1
end
section
noncomputable def ju (Q:PQ)(xs:List PV)(H:AH):Prop:=Q (.list xs) H\/∀a,Q (.lref a) ((a,xs)::H)
theorem aN.newL (I:Inv B H s)(hv:VRs s.heap (Trk H B) vs xs)(h:ju Q xs H):aN B H s Q (.ref s.heap.objs.size) { s with heap:=s.heap.push (al vs.toArray 0) }:=by
 rcases h with h | h
 . exact ⟨_,_,Tr.push I _,.list (Heap.get?_push_size _ rfl) (aW I) (hv.tr (Tr.push I _)),h⟩
 . exact ⟨_,_,Tr.track I hv,.lref _,h _⟩
theorem aN.newL' {vs:Array Value}(t:Tr noU s' H s H B)(hv:VRs s'.heap (Trk H B) vs.toList xs)(h:ju Q xs H):aN B H s Q (.ref s'.heap.objs.size) { s' with heap:=s'.heap.push { cls:=.type "list",data:=.seq vs } }:=
 (aN.newL (vs:=vs.toList) t.inv hv h).trans t
theorem sF {y:Str}(hs:x.length+y.length<=sizeLine)(h:Q (.str (x++y)) H):V2 H E B d (.str y) (.str x) (binaryOp .Add) Q:=λA s R I va vb r1 r2=>by
 obtain ⟨O,rfl⟩:=r1.inv;obtain ⟨O,rfl⟩:=r2.inv;exact SB.add (λt' k=>⟨_,_,Tr.tok I _,.str _ _,h⟩) hs
theorem CS {n:Int}(hok:MulOk x n)(h:Q (.str (Txt.mul x n)) H):V2 H E B d (.int n) (.str x) (binaryOp .Mult) Q:=λA s R I va vb r1 r2=>by
 obtain ⟨O,rfl⟩:=r1.inv;obtain ⟨O,rfl⟩:=r2.inv;exact SB.mul hok (λt' k=>⟨_,_,Tr.tok I _,.str _ _,h⟩)
theorem Str.toList_beq (x y:Str):(x.cps.toList==y.cps.toList)=decide (x=y):=by
 have:(x=y)↔x.cps.toList=y.cps.toList:=⟨λh=>by rw [h],λh=>by obtain ⟨⟨a⟩⟩:=x;obtain ⟨⟨b⟩⟩:=y;simp at h;subst h;rfl⟩;by_cases h:x=y
 . subst h;simp
 . rw [decide_eq_false h]
   exact beq_eq_false_iff_ne.mpr λq=>h (this.mpr q)
theorem uV {y:Str}(h:Q (.bool (decide (x=y))) H):V2 H E B d (.str y) (.str x) (compareOp .Eq) Q:=λA s R I va vb r1 r2=>by
 obtain ⟨O,rfl⟩:=r1.inv;obtain ⟨O,rfl⟩:=r2.inv;exact P.eq_str (by rw [Str.toList_beq];exact aN.here I (.bool _) h)
theorem uT {y:Str}(h:Q (.bool (!decide (x=y))) H):V2 H E B d (.str y) (.str x) (compareOp .NotEq) Q:=λA s R I va vb r1 r2=>by
 obtain ⟨O,rfl⟩:=r1.inv;obtain ⟨O,rfl⟩:=r2.inv;exact P.ne_str (by rw [bne,Str.toList_beq];exact aN.here I (.bool _) h)
theorem uz {y:Str}(h:Q (.bool (Txt.contains x y)) H):V2 H E B d (.str x) (.str y) (compareOp .In) Q:=λA s R I va vb r1 r2=>by
 obtain ⟨O,rfl⟩:=r1.inv;obtain ⟨O,rfl⟩:=r2.inv;exact SB.contains (aN.here I (.bool _) h)
theorem rh {y:Str}(h:Q (.bool (!Txt.contains x y)) H):V2 H E B d (.str x) (.str y) (compareOp .NotIn) Q:=λA s R I va vb r1 r2=>by
 obtain ⟨O,rfl⟩:=r1.inv;obtain ⟨O,rfl⟩:=r2.inv;exact SB.notContains (aN.here I (.bool _) h)
theorem iW {name:Str}{id:String}(hm:∀{A:Around} {E:EP} {s:Shared} {t:Tok} {pl:Sem Bool} {Q:Value×List Value->Shared->Prop},Q (.builtin id,[.str x t]) s->wpAny (model B.prog B.w) A (getMethod (.str x t) name pl) Q E s):dI B H name id (.str x):=
 λA E s va I r pl Q q=>by obtain ⟨O,rfl⟩:=r.inv;exact hm q
theorem cT :dI B H "join" "str.join" (.str x):=iW GM.join
theorem de :dI B H "split" "str.split" (.str x):=iW GM.split
theorem rE :dI B H "encode" "str.encode" (.str x):=iW λh=>GM.of (.str _ _) (typeIs_str _ _ _) PySem.F.slot_str_encode PySem.F.type_str_encode GM.noRef h
theorem fj :dI B H "count" "str.count" (.str x):=iW GM.count
theorem dP {i:Int}:dI B H "bit_length" "int.bit_length" (.int i):=λA E s va I r pl Q q=>by obtain ⟨O,rfl⟩:=r.inv;exact getMethod_int_bit_length q
theorem lJ {ys:List Str}:∀{vs:List Value},VRs h T vs (ys.map PV.str)->StrsAre vs ys:=by
 induction ys with
 | nil=>intro vs r;rw [r.isnil];exact .nil
 | cons y ys ih=>
   intro vs r;obtain ⟨v,ws,rfl,a,b⟩:=r.head;obtain ⟨O,rfl⟩:=a.inv;exact .cons _ _ (ih b)
theorem bu {ys:List Str}(hv:v=.tup (ys.map PV.str)\/aT H v (ys.map PV.str))(hok:(ys.map (·.length)).sum+ys.length*x.length<=16777216)(h:Q (.str (Txt.join x ys)) H) :
   aM [] E H B d (.raw (.builtin "str.join")) [.str x,v] Q:=aM.at λA s R I vs r fv rf=>by
 obtain ⟨a,b,rfl,r1,r2⟩:=r.two;obtain ⟨O,rfl⟩:=rf.inv;obtain ⟨O,rfl⟩:=r1.inv;rcases hv with rfl | hv
 . cases r2 with | tup ho hn hs=>exact join_tuple ⟨_,ho,rfl,_,rfl⟩ (lJ hs) hok (λt' k=>⟨_,_,Tr.tok I _,.str _ _,h⟩)
 . obtain ⟨l,vs,n,rfl,ho,hs⟩:=hv.at I r2
   exact join_list (aS ho) (lJ hs) hok (λt' k=>⟨_,_,Tr.tok I _,.str _ _,h⟩)
theorem f6 {y:Str}(h:Q (.int (Txt.count x y)) H):aM [] E H B d (.raw (.builtin "str.count")) [.str x,.str y] Q:=aM.at λA s R I vs r fv rf=>by
 obtain ⟨a,b,rfl,r1,r2⟩:=r.two;obtain ⟨O,rfl⟩:=rf.inv;obtain ⟨O,rfl⟩:=r1.inv;obtain ⟨O,rfl⟩:=r2.inv;exact SC.count ⟨_,_,Tr.tok I _,.int _ _,h⟩
theorem dU {i:Int}(h:Q (.int (Builtin.Int.intBits i)) H):aM [] E H B d (.raw (.builtin "int.bit_length")) [.int i] Q:=aM.at λA s R I vs r fv rf=>by
 obtain ⟨a,rfl,r1⟩:=r.one;obtain ⟨O,rfl⟩:=rf.inv;obtain ⟨O,rfl⟩:=r1.inv;exact call_int_bit_length ⟨_,_,Tr.tok I _,.int _ _,h⟩
theorem VRs.strs :∀(l:List (Str×Tok)),VRs h T (strValues l) ((l.map (·.1)).map PV.str)
 | []=>.nil
 | (y,t)::r=>.cons (.str y t) (VRs.strs r)
theorem Tr.pushTok (I:Inv B H s)(o:Obj)(k:Nat):Tr noU { s with heap:=s.heap.push o,toks:=k } H s H B:=(Tr.tok I k).trans (Tr.push (I.tok k) o)
open Builtin.Str Builtin in
set_option tactic.hygienic true in
theorem dg {y:Str}(hy:(y.length==0)=false)(hx:x.length<=16777214)(h:ju Q ((Txt.split x y).map PV.str) H) :
   aM [] E H B d (.raw (.builtin "str.split")) [.str x,.str y] Q:=aM.at λA s R I vs r fv rf=>by
 obtain ⟨a,b,rfl,r1,r2⟩:=r.two;obtain ⟨_,rfl⟩:=rf.inv;obtain ⟨_,rfl⟩:=r1.inv;obtain ⟨_,rfl⟩:=r2.inv;rename_i t u;have hsz:x.length<=sizeLine:=by rw [sizeLine_eq];(exact ntr ‹_› ∅)
 have hsz2:(partsBetween x (occurrences x y 0 x.length (x.length+1)) y.length).length<=sizeLine:=by
   have h1:=StrLaws.occ_length_le x y 0 x.length (x.length+1)
   have h2:(partsBetween x (occurrences x y 0 x.length (x.length+1)) y.length).length=(occurrences x y 0 x.length (x.length+1)).length+1:=by
     simp [partsBetween]
   rw [h2,sizeLine_eq];have:=StrLaws.occ_length_le_len x y 0 x.length (x.length+1)
   lia
 have fin:∀(l:List (Str×Tok)) k,l.map (·.1)=Txt.split x y->aN B H s Q (.ref s.heap.objs.size) { s with heap:=s.heap.push { cls:=.type "list",data:=.seq (strValues l).toArray },toks:=k }:=λl k hl=>by
   have:=aN.newL' (s:=s) (s':={ s with toks:=k }) (vs:=(strValues l).toArray) (Q:=Q) (Tr.tok I k) (VRs.strs l) (by rw [hl];exact h);exact this
 cases h1:(decide (x.length<y.length) || decide (strKind x<strKind y))
 . cases hf:(occurrences x y 0 x.length (x.length+1)).isEmpty
   . refine call_meets PySem.F.slot_str_split (typeIs_str _ _ _) PySem.F.entry_str_split (PySem.F.args_str_split_2 _ _) (meets_str_split_sep x y t u h1 hy hf hsz hsz2) ?_
     show wants _ E _ { s with toks:=_,heap:=s.heap.push { cls:=.type "list",data:=.seq (strsFrom s.toks (partsBetween x (occurrences x y 0 x.length (x.length+1)) y.length)).toArray } };rw [strsFrom_eq];exact fin (numbered s.toks _) _ ((numbered_texts _ _).trans ((if_neg (ne_true_of_eq_false h1)).trans (if_neg (ne_true_of_eq_false hf))).symm)
   . exact call_meets PySem.F.slot_str_split (typeIs_str _ _ _) PySem.F.entry_str_split (PySem.F.args_str_split_2 _ _) (meets_str_split_not_found x y t u h1 hy hf)
       (fin [(x,t)] s.toks ((if_neg (ne_true_of_eq_false h1)).trans (if_pos hf)).symm)
 . exact call_meets PySem.F.slot_str_split (typeIs_str _ _ _) PySem.F.entry_str_split (PySem.F.args_str_split_2 _ _) (meets_str_split_cannot_occur x y t u h1)
     (fin [(x,t)] s.toks (if_pos h1).symm)
end
section
theorem Tr.made {a:Addr}{vs:Array Value}{n:Nat}(I:Inv B H s)(hk:∀a o,s.heap.get? a=some o->s'.heap.get? a=some o)(hz:s.heap.objs.size<=s'.heap.objs.size)(hg:s'.gens=s.gens)(ho:s'.os=s.os)
   (ha:s.heap.objs.size<=a)(hD:s'.heap.get? a=some (al vs n))(hv:VRs s.heap (Trk H B) vs.toList xs):Tr noU s' ((a,xs)::H) s H B:=by
 have J:Inv B H s':=I.ext hk hz (hg▸I.bare) ho
 have lt_of:∀{b:Addr},Trk H B b->b<s.heap.objs.size:=λq=>by
   rcases q with q | q
   . obtain ⟨p,hp,rfl⟩:=mmp q
     obtain ⟨O,O,O,h2,O⟩:=I.objs p hp;exact Heap.lt_size h2
   . rcases q with q | q
     . obtain ⟨p,hp,rfl⟩:=mmp q
       obtain ⟨O,h2,O⟩:=I.tabs p hp;exact Heap.lt_size h2
     . obtain ⟨p,hp,rfl⟩:=mmp q
       exact Heap.lt_size (I.hid p hp).1
 have hn:a∉H.map (·.1):=λq=>absurd (lt_of (.inl q)) (nlr ha)
 have ht:∀b,b<s.heap.objs.size->Trk ((a,xs)::H) B b->Trk H B b:=by
   intro b hb t;rcases t with t | t
   . rcases mcp t with q | q
     . exact absurd hb (by rw [show b=a from q];exact nlr ha)
     . exact .inl q
   . exact .inr t
 refine ⟨⟨J.keep,J.size,J.tabs,J.bare,J.os,List.nodup_cons.mpr ⟨hn,I.nodup⟩,λq hq=>let ⟨x,b,c,e⟩:=I.hid q hq;⟨hk _ _ x,b,c,λt=>(mcp t).elim (λt=>absurd (Heap.lt_size x) (by rw [t];exact nlr ha)) e⟩,λp hp=>?_⟩,⟨λb o e O=>hk b o e,hz,λi x e=>hg▸e⟩,λb hb=>?_⟩
 . rcases mcp hp with rfl | hp
   . exact ⟨Heap.get?_none_of_le (ntr I.size ha),vs,n,hD,hv.mono (λa o e O O=>hk a o e) ht⟩
   . obtain ⟨h1,vs',n',h2,h3⟩:=I.objs p hp
     exact ⟨h1,vs',n',hk _ _ h2,h3.mono (λa o e O O=>hk a o e) ht⟩
 . rcases mcp hb with q | q
   . exact .inr (by rw [show b=a from q];exact ha)
   . exact .inl q
theorem aN.made {a:Addr}{vs:Array Value}{n:Nat}(I:Inv B H s)(hk:∀a o,s.heap.get? a=some o->s'.heap.get? a=some o)(hz:s.heap.objs.size<=s'.heap.objs.size)(hg:s'.gens=s.gens)(ho:s'.os=s.os)
   (ha:s.heap.objs.size<=a)(hD:s'.heap.get? a=some (al vs n))(hv:VRs s.heap (Trk H B) vs.toList xs)(h:ju Q xs H):aN B H s Q (.ref a) s':=by
 rcases h with h | h
 . have t:=Tr.made I hk hz hg ho ha hD hv
   exact ⟨_,_,t.drop_key,t.inv.freeze,h⟩
 . exact ⟨_,_,Tr.made I hk hz hg ho ha hD hv,.lref _,h _⟩
noncomputable def EvO (B:aJ)(fi:aP)(d:Nat)(E:EP):Option Expr->St->AH->(Option Int->AH->Prop)->Prop
 | none,_,H,Q=>Q none H
 | some e,σ,H,Q=>Ev E B d fi σ H e λv H₁=>(∃i,v=.int i/\Q (some i) H₁)\/(v=.none/\Q none H₁)
inductive Gj (B:aJ)(H:AH)(s:Shared)(Q:Option Int->AH->Prop)(v:Value)(s':Shared):Prop
 | mk (i:Option Int) (H':AH) (t:Tr noU s' H' s H B) (p:IsPart v i) (q:Q i H')
theorem wpO {M:Model}{t:Sem Value}{Q:Option Int->AH->Prop}{P:Value->Shared->Prop}(h:wpAny M A t (Gj B H s Q) E s)(k:∀v s' i H',Tr noU s' H' s H B->IsPart v i->Q i H'->P v s'):wpAny M A t P E s:=
 wpm h λv s' p=>p.casesOn (k v s')
theorem t5 {o:Option Expr}{Q:Option Int->AH->Prop}(h:EvO B fi d E o σ H Q):∀A s env,aY B fi env->ah A d->Inv B H s->aA s H σ env B->
   wpAny (model B.prog B.w) A (evalPart o env) (Gj B H s Q) E s:=λA s env e R I F=>by
 cases o with
 | none=>exact wpAny_pure ⟨none,H,.refl I,.none,h⟩
 | some x=>
   refine wpE (h A s env e R I F) (λv s' p H' t r q=>?_);rcases q with ⟨i,rfl,q⟩ | ⟨rfl,q⟩
   . obtain ⟨O,rfl⟩:=r.inv;exact ⟨some i,H',t,.int _ _,q⟩
   . obtain ⟨O,rfl⟩:=r.inv;exact ⟨none,H',t,.none,q⟩
noncomputable def mS (B:aJ)(d:Nat)(E:EP)(o:PV)(l u k:Option Int)(H:AH)(Q:PQ):Prop:=
 ∀A s,ah A d->Inv B H s->∀vo sl vl vu vk,VR s.heap (Trk H B) vo o->s.heap.IsSliceOf sl vl vu vk->IsPart vl l->IsPart vu u->IsPart vk k->wpAny (model B.prog B.w) A (getItem vo (.ref sl)) (aN B H s Q) E s
theorem yC {value:Expr}{lo hi st:Option Expr}{spos:Pos}
   (h:Ev E B d fi σ H value λo H₁=>EvO B fi d E lo σ H₁ λl H₂=>EvO B fi d E hi σ H₂ λu H₃=>EvO B fi d E st σ H₃ λk H₄=>mY B o H₄/\mS B d E o l u k H₄ Q) :
   Ev E B d fi σ H (.Subscript value (.Slice lo hi st spos) pos) Q:=λA s env e R I F=>by
 refine Subscript_ (wpE (h A s env e R I F) (λov s₁ o H₁ t₁ r₁ h₁=>?_));refine wpAny_Slice (wpO (t5 h₁ A s₁ env e R t₁.inv (F.tr I t₁)) (λvl s₂ l H₂ t₂ p₂ h₂=>?_));have T₂:=t₁.trans t₂;refine wpO (t5 h₂ A s₂ env e R t₂.inv (F.tr I T₂)) (λvu s₃ u H₃ t₃ p₃ h₃=>?_);have T₃:=T₂.trans t₃;refine wpO (t5 h₃ A s₃ env e R t₃.inv (F.tr I T₃)) (λvk s₄ k H₄ t₄ p₄ h₄=>?_);have t₅:=Tr.push t₄.inv { cls:=.type "slice",data:=.fields #[vl,vu,vk] };have T:=(T₃.trans t₄).trans t₅;have r₅:=(((r₁.tr t₂).tr t₃).tr t₄).tr t₅;refine wpAny_bind (h₄.1 A E _ ov t₅.inv r₅ _ ?_);exact qx (wpm (h₄.2 A _ R t₅.inv ov _ vl vu vk r₅ (Heap.IsSliceOf.new ..) p₂ p₃ p₄) (λO O p=>p.trans T))
noncomputable def pick {α:Type}(xs:List α)(lo hi st:Option Int):List α:=
 (sliceRange (sliceBounds lo hi st xs.length).1 (sliceBounds lo hi st xs.length).2.1 (sliceBounds lo hi st xs.length).2.2).filterMap (xs[·]?)
theorem VRs.at (r:VRs h T vs xs)(i:Nat):(vs[i]?=none/\xs[i]?=none)\/∃v p,vs[i]?=some v/\xs[i]?=some p/\VR h T v p:=by
 rcases Nat.lt_or_ge i xs.length with hi | hi
 . obtain ⟨v,e,q⟩:=r.get (List.getElem?_eq_getElem hi)
   exact .inr ⟨v,_,e,List.getElem?_eq_getElem hi,q⟩
 . exact .inl ⟨List.getElem?_eq_none (by rw [r.length];exact hi),List.getElem?_eq_none hi⟩
theorem VRs.places (r:VRs h T vs xs):∀l:List Nat,VRs h T (l.filterMap (vs[·]?)) (l.filterMap (xs[·]?))
 | []=>.nil
 | i::l=>by
   rcases r.at i with ⟨e1,e2⟩ | ⟨v,p,e1,e2,q⟩
   . rw [List.filterMap_cons_none e1,List.filterMap_cons_none e2];exact VRs.places r l
   . rw [B6 e1,B6 e2];exact .cons q (VRs.places r l)
theorem VRs.pick {vs:Array Value}(r:VRs h T vs.toList xs)(lo hi st:Option Int):VRs h T (slicePick vs lo hi st).toList (pick xs lo hi st):=by
 have e:(slicePick vs lo hi st).toList=(sliceRange (sliceBounds lo hi st xs.length).1 (sliceBounds lo hi st xs.length).2.1 (sliceBounds lo hi st xs.length).2.2).filterMap (vs.toList[·]?):=by
   unfold slicePick;rw [r.asize];simp [Array.getElem?_toList]
 rw [e];exact r.places _
theorem kD {l u k:Option Int}(hv:aT H v xs)(h0:k≠some 0)(hz:xs.length<=sizeLine)(h:ju Q (pick xs l u k) H):mS B d E v l u k H Q:=λA s R I vo sl vl vu vk r hs pl pu pk=>by
 obtain ⟨a,vs,n,rfl,ho,hr⟩:=hv.at I r;exact wpAny_getItem_list_slice (aS ho) hs pl pu pk h0 (aN.newL' (.refl I) (hr.pick l u k) h) (by rw [hr.asize];exact hz)
noncomputable def aw (x:Str)(l u k:Option Int):Str:=if (k.getD 1==1 && (Builtin.Str.strSliceIndices l u (k.getD 1) x.length).length==x.length)=true then x else ⟨((Builtin.Str.strSliceIndices l u (k.getD 1) x.length).filterMap (x.cps[·]?)).toArray⟩
theorem iA (x:Str)(l u k:Option Int)(h0:k≠some 0):(aw x l u k).length<=x.length:=by
 unfold aw;split
 . exact Ab _
 . show (List.filterMap _ _).toArray.size<=x.length
   rw [List.size_toArray];refine ntr (List.length_filterMap_le _ _) (sliceIndicesBy_le _ _ _ ?_ x.length)
   cases k with
   | none=>decide
   | some k=>exact λq=>h0 (by simpa using q)
theorem k7 {v:Value}{i:Option Int}(p:IsPart v i):∃j:Option (Int×Tok),v=partValue j/\j.map (·.1)=i:=by
 cases p with
 | none=>exact ⟨none,rfl,rfl⟩
 | int i t=>exact ⟨some (i,t),rfl,rfl⟩
theorem f8 {l u k:Option Int}(h0:k≠some 0)(hz:x.length<=sizeLine)(h:Q (.str (aw x l u k)) H):mS B d E (.str x) l u k H Q:=λA s R I vo sl vl vu vk r hs pl pu pk=>by
 obtain ⟨O,rfl⟩:=r.inv;obtain ⟨l,rfl,rfl⟩:=k7 pl;obtain ⟨u,rfl,rfl⟩:=k7 pu;obtain ⟨k,rfl,rfl⟩:=k7 pk
 have hk:((k.map (·.1)).getD 1==0)=false:=by
   cases k with
   | none=>rfl
   | some k=>simpa using λq:k.1=0=>h0 (by simp [q])
 refine wpAny_getItem_str_slice (l:=l) (u:=u) (st:=k) hs hk ?_;exact post_val_or_str ⟨ntr (iA x (l.map (·.1)) (u.map (·.1)) (k.map (·.1)) h0) hz,λt' c=>⟨_,_,Tr.tok I c,.str _ _,h⟩⟩
theorem iq {a b:PV}(ha:aT H a xs)(hb:aT H b ys)(hz:xs.length+ys.length<=sizeLine)(h:ju Q (xs++ys) H):V2 H E B d b a (binaryOp .Add) Q:=λA s R I va vb r1 r2=>by
 obtain ⟨l,vs,n,rfl,ho,hr⟩:=ha.at I r1;obtain ⟨l',ws,m,rfl,ho',hr'⟩:=hb.at I r2;refine P.add_list ho ho' (aN.newL' (.refl I) (vs:=vs++ws) ?_ h) (by rw [hr.asize,hr'.asize];exact hz);rw [Array.toList_append];exact hr.append hr'
theorem VRs.rep (r:VRs h T vs xs):∀n:Nat,VRs h T (List.replicate n vs).flatten (List.replicate n xs).flatten
 | 0=>.nil
 | n+1=>by rw [BO,BO,BD,BD];exact r.append (VRs.rep r n)
open PySem.F in
set_option tactic.hygienic true in
theorem qm {a:PV}{x:Int}(ha:aT H a xs)(hlo:-(2 ^ 63:Int)<=x)(hhi:x<2 ^ 63)(hsz:xs.length*x.toNat<=2 ^ 24)(h:ju Q (List.replicate x.toNat xs).flatten H):V2 H E B d (.int x) a (binaryOp .Mult) Q:=λA s R I va vb r1 r2=>by
 obtain ⟨l,vs,n,rfl,ho,hr⟩:=ha.at I r1;obtain ⟨_,rfl⟩:=r2.inv;rename_i u;have hsz':vs.size*x.toNat<=2 ^ 24:=by rw [hr.asize];exact hsz
 obtain ⟨vs⟩:=vs;have hsz'':vs.length*x.toNat<=16777216:=by simpa using hsz'
 refine wpAny_binaryOp_repeat_ref (T:="list") (U:="int") ∅ ⟨_,ho,rfl⟩ (λs'=>typeIs_int s' x u) noFill_list_mul PySem.F.fills_int_mul PySem.F.slot_int_rmul repeat_list PySem.F.slot_int_index.lookup
   (call_meets PySem.F.slot_int_rmul (typeIs_int s x u) PySem.F.entry_int_rmul (PySem.F.args_int_rmul_2 _ _) (lm_int_rmul_list_any x u l vs.toArray n none #[])
     ⟨ho,rfl,⟨_,ho,rfl⟩,call_meets PySem.F.slot_list_mul ⟨_,ho,rfl⟩ PySem.F.entry_list_mul (PySem.F.args_list_mul_2 _ _)
       (lm_list_mul_any l vs.toArray n none #[] x u (by simp [Builtin.List.listFitsIndex];(exact ⟨‹_›,‹_›⟩)) (by rw [List.size_toArray];(clear hsz' hsz;lia)) (by simp [Builtin.List.listTooLong,sizeLine];omega))
       ⟨ho,?_⟩⟩)
 rw [listMul_foldl_if];exact aN.newL' (.refl I) (vs:=(List.replicate x.toNat vs).flatten.toArray) (hr.rep _) h
theorem jE {name:Str}{id:String}(hv:aT H v xs)(slot:Slot "list" name id)(hty:typeOf (.builtin id)=pure (.type "method_descriptor")):dI B H name id v:=λA E s va I r pl Q q=>by
 obtain ⟨a,vs,n,rfl,ho,O⟩:=hv.at I r;exact getMethod_list_of slot hty (aS ho) ⟨_,ho,rfl⟩ q
theorem b5 (hv:aT H v xs):dI B H "append" "list.append" v:=jE hv PySem.F.slot_list_append PySem.F.type_list_append
theorem ji (hv:aT H v xs):dI B H "insert" "list.insert" v:=jE hv PySem.F.slot_list_insert PySem.F.type_list_insert
theorem pW (hv:aT H v xs):dI B H "reverse" "list.reverse" v:=jE hv PySem.F.slot_list_reverse PySem.F.type_list_reverse
theorem bo {H':AH}(u:Upd a xs (xs++[p]) H H')(hz:xs.length<=sizeLine)(h:Q .none H'):aM [] E H B d (.raw (.builtin "list.append")) [.lref a,p] Q:=aM.at λA s R I vs r fv rf=>by
 obtain ⟨v,w,rfl,r1,r2⟩:=r.two;obtain ⟨O,rfl⟩:=rf.inv;obtain ⟨O,rfl⟩:=r1.inv;exact wpm (gB u I r2 hz) (λr s' hh1=>by obtain ⟨e,t⟩:=hh1;exact ⟨.none,H',t,e▸.none,h⟩)
theorem l8 {H':AH}{vs vs':Array Value}{n n':Nat}(u:Upd a xs xs' H H')(I:Inv B H s)(hs:Heap.SameBut a s.heap h')(ho':h'.get? a=some (al vs' n'))
   (hv:VRs s.heap (Trk H B) vs'.toList xs')(h:Q .none H'){t:Nat}:aN B H s Q .none { s with heap:=h',toks:=t }:=⟨.none,H',Tr.upd u I hs ho' hv,.none,h⟩
noncomputable def c9 {α:Type}(xs:List α)(k:Nat)(x:α):List α:=xs.take k++x::xs.drop k
set_option tactic.hygienic true in
theorem jg {i:Int}(h0:0<=i)(h1:i<2 ^ 63)(u:Upd a xs (c9 xs (min i.toNat xs.length) p) H H')(hz:xs.length<=sizeLine)(h:Q .none H'):aM [] E H B d (.raw (.builtin "list.insert")) [.lref a,.int i,p] Q:=aM.at λA s R I vs r fv rf=>by
 obtain ⟨v,w,y,rfl,r1,r2,r3⟩:=r.three;obtain ⟨_,rfl⟩:=rf.inv;obtain ⟨_,rfl⟩:=r1.inv;obtain ⟨_,rfl⟩:=r2.inv;rename_i t;obtain ⟨hg,vs,n,ho,hv⟩:=I.objs _ u.has;have hsz:vs.size=xs.length:=hv.asize;refine call_meets PySem.F.slot_list_insert ⟨_,ho,rfl⟩ PySem.F.entry_list_insert (PySem.F.args_list_insert_3 _ _ _) (PySem.AutoSeq1.list_insert_list_int_val_1 a vs n i t y (by simp [Builtin.List.listFitsIndex];lia) (by rw [hsz];exact hz)) ⟨ho,?_⟩;refine l8 u I (Heap.SameBut.update ..) (vs:=vs) (vs':=_) (n:=n) (n':=_) (Heap.get?_update_self _ ho rfl) ?_ h;simp only [show ¬i<0 by exact Int.not_lt.mpr ‹_›,if_false]
 have:((vs.extract 0 (min i.toNat vs.size)).push y++vs.extract (min i.toNat vs.size)).toList=vs.toList.take (min i.toNat xs.length)++y::vs.toList.drop (min i.toNat xs.length):=by
   have hl:vs.toList.length=xs.length:=by simpa using hsz
   rw [hsz];simp;rw [BB (by rw [BE,hl];exact Ab _)]
 rw [this];exact (hv.take _).append (.cons r3 (hv.drop _))
theorem oX (u:Upd a xs xs.reverse H H')(hz:xs.length<=sizeLine)(h:Q .none H'):aM [] E H B d (.raw (.builtin "list.reverse")) [.lref a] Q:=aM.at λA s R I vs r fv rf=>by
 obtain ⟨v,rfl,r1⟩:=r.one;obtain ⟨O,rfl⟩:=rf.inv;obtain ⟨O,rfl⟩:=r1.inv;obtain ⟨hg,vs,n,ho,hv⟩:=I.objs _ u.has;have hsz:vs.size=xs.length:=hv.asize;refine call_meets PySem.F.slot_list_reverse ⟨_,ho,rfl⟩ PySem.F.entry_list_reverse (PySem.F.args_list_reverse_1 _) (PySem.AutoSeq1.list_reverse_list_0 a vs n (by rw [hsz];exact hz)) ⟨ho,?_⟩;refine l8 u I (Heap.SameBut.update ..) (vs:=vs) (vs':=_) (n:=n) (n':=_) (Heap.get?_update_self _ ho rfl) ?_ h;simp only [Array.toList_reverse];exact hv.reverse
theorem vz (hv:v=.tup xs\/aT H v xs)(hz:xs.length<=sizeLine)(h:ju Q xs H):aM [] E H B d (.raw (.type "list")) [v] Q:=aM.at λA s R I vs r fv rf=>by
 obtain ⟨x,rfl,r1⟩:=r.one;obtain ⟨O,rfl⟩:=rf.inv;rcases hv with rfl | hv
 . cases r1 with
   | tup ho hn hr=>
     exact aX (call_list_seq (hsz:=by rw [hr.asize];exact hz) _ (.inr rfl) ho rfl rfl λh' c' hk hD hz'=>aN.made I hk hz' rfl rfl (Ab _) hD hr h)
 . obtain ⟨b,ws,m,rfl,ho',hr'⟩:=hv.at I r1
   exact aX (call_list_seq (hsz:=by rw [hr'.asize];exact hz) b (.inl rfl) ho' rfl rfl λh' c' hk hD hz'=>aN.made I hk hz' rfl rfl (Ab _) hD hr' h)
theorem tG {ns:List Int}:∀{vs:List Value},VRs h T vs (ns.map PV.int)->IntsAre vs ns:=by
 induction ns with
 | nil=>intro vs r;rw [r.isnil];exact .nil
 | cons y ys ih=>
   intro vs r;obtain ⟨v,ws,rfl,a,b⟩:=r.head;obtain ⟨O,rfl⟩:=a.inv;exact .cons _ _ (ih b)
theorem Tr.kept {t:Nat}(I:Inv B H s)(hk:∀b o,s.heap.get? b=some o->h'.get? b=some o)(hz:s.heap.objs.size<=h'.objs.size):Tr noU { s with heap:=h',toks:=t } H s H B:=Tr.ext I hk hz rfl rfl
theorem kN {ns:List Int}(hv:aT H v (ns.map PV.int))(h:Q (.int ns.sum) H):aM [] E H B d (.raw (.builtin "sum")) [v] Q:=aM.at λA s R I vs r fv rf=>by
 obtain ⟨x,rfl,r1⟩:=r.one;obtain ⟨O,rfl⟩:=rf.inv;obtain ⟨l,ws,m,rfl,ho,hr⟩:=hv.at I r1;have hi:=tG hr;obtain ⟨xs,hx⟩:=hi.allInts.items;rw [Array.toArray_toList] at hx;subst hx;refine aX (sum_intListG R.handled (aS ho) λh' tk t' hk hz=>?_);have e1:ns=xs.toList.map (·.1):=by rw [<-nums_intItems];exact hi.numsOf.symm
 have e2:preSum (numAt xs) xs.size=ns.sum:=by rw [preSum_eq,BB (by simp),e1]
 rw [e2];exact ⟨_,_,Tr.kept I hk hz,.int _ _,h⟩
theorem xQ {a b:Int}(h:Q (.int (max a b)) H):aM [] E H B d (.raw (.builtin "max")) [.int a,.int b] Q:=aM.at λA s R I vs r fv rf=>by
 obtain ⟨x,y,rfl,r1,r2⟩:=r.two;obtain ⟨O,rfl⟩:=rf.inv;obtain ⟨O,rfl⟩:=r1.inv;obtain ⟨O,rfl⟩:=r2.inv;refine aX (max_two_ints R.handled λh' tk hk hz=>⟨_,_,Tr.kept I hk hz,?_,h⟩);by_cases hc:b > a
 . rw [if_pos hc,show max a b=b by lia];exact .int _ _
 . rw [if_neg hc,show max a b=a by lia];exact .int _ _
theorem mN {a b:Int}(h:Q (.int (min a b)) H):aM [] E H B d (.raw (.builtin "min")) [.int a,.int b] Q:=aM.at λA s R I vs r fv rf=>by
 obtain ⟨x,y,rfl,r1,r2⟩:=r.two;obtain ⟨O,rfl⟩:=rf.inv;obtain ⟨O,rfl⟩:=r1.inv;obtain ⟨O,rfl⟩:=r2.inv;refine aX (min_two_ints R.handled λh' tk hk hz=>⟨_,_,Tr.kept I hk hz,?_,h⟩);by_cases hc:b<a
 . rw [if_pos hc,show min a b=b by lia];exact .int _ _
 . rw [if_neg hc,show min a b=a by lia];exact .int _ _
theorem CW {a:Int}(h:Q (.int a.natAbs) H):aM [] E H B d (.raw (.builtin "abs")) [.int a] Q:=aM.at λA s R I vs r fv rf=>by
 obtain ⟨x,rfl,r1⟩:=r.one;obtain ⟨O,rfl⟩:=rf.inv;obtain ⟨O,rfl⟩:=r1.inv;refine call_abs_int λu tk=>⟨_,_,Tr.tok I _,?_,h⟩;by_cases hc:a<0
 . rw [if_pos hc,show ((a.natAbs:Nat):Int)=-a by lia];exact .int _ _
 . rw [if_neg hc,show ((a.natAbs:Nat):Int)=a by lia];exact .int _ _
end
section
noncomputable def iO (B:aJ)(d:Nat)(E:EP)(tgt:Expr)(f:PV)(args:List PV)(H:AH)(Q:IQ):Prop:=
 ∀A s,ah A d->Inv B H s->∀fv vs,VR s.heap (Trk H B) fv f->VRs s.heap (Trk H B) vs args->wpAny (model B.prog B.w) A (call fv vs []) (λx s₁=>wpAny (model B.prog B.w) A (pyIter x) (pX B A tgt H s Q) E s₁) E s
theorem DK {func:Expr}{args:List Expr}{Q:IQ}
   (h:Ev E B d fi σ H func λf H₁=>cQ B f/\EvL B fi d E args σ H₁ λvs H₂=>iO B d E tgt f vs H₂ Q)
   (hp:autoParam (args.all ax=true) nA)
   (he:autoParam (∀env,eval (.Call func args [] pos) env=(do callWith pos (<-eval func env) [] (backTo pos (starEach args env)) (backToKw pos (keywordEach [] env)))) nC) :
   EvI B fi d E tgt (.Call func args [] pos) σ H Q:=λA s env e R I F=>by
 refine Call_ (wpm (h A s env e R I F) (λfv s₁ hh1=>?_)) (he env);obtain ⟨f,H₁,t₁,q₁,hk,h₁⟩:=hh1;refine bD (ar hp (wpL (ay h₁ hp A s₁ env e R t₁.inv (F.tr I t₁)) (λvs s₂ ps H₂ t₂ l₂ q₂ h₂=>?_)));refine ⟨hk A E H₂ s₂ fv t₂.inv (q₁.tr t₂),?_⟩;refine wpm (h₂ A s₂ R t₂.inv fv vs (q₁.tr t₂) q₂) (λO O p=>wpm p (λit s₄ m=>m.trans (t₁.trans t₂) (jJ (t₁.trans t₂))))
noncomputable def Src (B:aJ)(deps H:AH)(s:Shared)(l:Addr)(xs:List PV):Prop:=
 (∃vs n,s.heap.get? l=some (al vs n)/\VRs s.heap (Trk H B) vs.toList xs)/\(¬Trk H B l\/((l,xs)∈deps/\(l,xs)∈H))
theorem Src.stable {G:Nat->Prop}{deps:AH}(h:Src B deps H s l xs)(e:Evo B P G deps H s H' s'):Src B deps H' s' l xs:=by
 obtain ⟨⟨vs,n,hl,hv⟩,h | ⟨h1,h2⟩⟩:=h
 . exact ⟨⟨vs,n,e.seq _ _ hl ⟨_,_,rfl⟩ h,e.vrs hv⟩,.inl (e.trk (Heap.lt_size hl) h)⟩
 . have hm:=e.deps _ h1
   obtain ⟨O,vs',n',ho,hv'⟩:=e.inv.objs _ hm;exact ⟨⟨vs',n',ho,hv'⟩,.inr ⟨h1,hm⟩⟩
theorem Src.only {G:Nat->Prop}{deps:AH}(h:Src B deps H s l xs)(hS:∀p,P p->∀o,s.heap.get? p=some o->¬a9 o)(o:cL s' G s H B P):Src B deps H s' l xs:=by
 obtain ⟨⟨vs,n,hl,hv⟩,h⟩:=h;exact ⟨⟨vs,n,o.heap _ _ hl λp=>hS _ p _ hl ⟨_,_,rfl⟩,hv.mono (λa ob e q O=>o.heap a ob e λp=>hS _ p _ e q) λO O t=>t⟩,h⟩
noncomputable def cC:PV->List PV->AH
 | .lref a,xs=>[(a,xs)]
 | _,_=>[]
theorem Src.of {v:PV}{xs:List PV}(hv:aT H v xs)(I:Inv B H s)(r:VR s.heap (Trk H B) va v):∃l,va=.ref l/\Src B (cC v xs) H s l xs/\(∀p∈cC v xs,p∈H):=by
 rcases hv with rfl | ⟨a,rfl,hm⟩
 . cases r with | list ho hn hs=>exact ⟨_,rfl,⟨⟨_,_,ho,hs⟩,.inl hn⟩,(by intros;first | contradiction | (intro q;cases q))⟩
 . obtain ⟨O,rfl⟩:=r.inv
   obtain ⟨O,vs,n,ho,hs⟩:=I.objs _ hm;exact ⟨a,rfl,⟨⟨vs,n,ho,hs⟩,.inr ⟨mcs,hm⟩⟩,λp hp=>by rcases mcp hp with rfl | hp;exact hm;cases hp⟩
noncomputable def Own (B:aJ)(H:AH)(a:Addr):Prop:=B.g.objs.size<=a/\¬Trk H B a
end
section
theorem dW {ws:List Addr}{t:Nat}(I:Inv B H s)(hk:∀a o,s.heap.get? a=some o->a∉ws->h'.get? a=some o)(hz:s.heap.objs.size<=h'.objs.size)(ho:∀p∈ws,Own B H p)(hL:∀p∈ws,∀o,s.heap.get? p=some o->bT o):cL { s with heap:=h',toks:=t } (λO=>False) s H B (·∈ws):=
 cL.make I hk hz ho hL (λO O e O=>e) (Ab _) I.bare rfl
theorem fB {G:Nat->Prop}{deps:AH}(e:Evo B P G deps H s H' s')(h:Own B H a)(ha:a<s.heap.objs.size):Own B H' a:=⟨h.1,e.trk ha h.2⟩
theorem VR.ow {G:Nat->Prop}{v:Value}{p:PV}(r:VR s.heap (Trk H B) v p)(o:cL s' G s H B P)(hS:∀p,P p->∀o,s.heap.get? p=some o->¬a9 o):VR s'.heap (Trk H B) v p:=
 r.mono (λa ob e q O=>o.heap a ob e λp=>hS _ p _ e q) λO O t=>t
theorem d5 {vs:Array Value}(hd:o.data=.fields vs)(h:∀q t,vs[1]?≠some (.str q t)):bT o:=by
 refine ⟨λq=>?_,λws q t e=>?_⟩
 . obtain ⟨O,O,q⟩:=q;rw [hd] at q;cases q
 . rw [hd] at e;cases e;exact h q t
noncomputable def d3 (step:Int):Int->Nat->List PV
 | _,0=>[]
 | x,n+1=>.int x::d3 step (x+step) n
inductive JR (B:aJ)(it:Addr)(c:Int)(items:List PV)(H:AH)(s:Shared):Prop
 | mk (x:Int) (n:Nat) (a:IsRangeIter s.heap it x (n:Nat) c) (b:items=d3 c x n) (d:Own B H it)
theorem mv {it:Addr}{x l c:Int}(e:IsRangeIter h it x l c):∀o,h.get? it=some o->bT o:=λo ho=>by
 rw [e] at ho;cases ho;exact d5 rfl (by intro q t;simp [rawInt])
theorem Eh (tgt:Expr)(it:Addr)(c:Int):oU B [] tgt (.ref it) (·∈[it]) (λO=>False) (JR B it c) where
 self:=λitems H s A E Q ⟨x,n,hit,_,_⟩ q=>wpAny_pyIter_slot ⟨_,hit,rfl⟩ PySem.F.slot_range_iterator_iter (wpAny_call_entry PySem.F.slot_range_iterator_iter ⟨_,hit,rfl⟩ PySem.F.entry_range_iterator_iter
     (show wpAny _ _ (ret (.ref it)) _ _ s from wpAny_pure ⟨_,rfl,"range_iterator",_,⟨_,hit,rfl⟩,PySem.F.slot_range_iterator_next.lookup,q⟩) (PySem.F.args_range_iterator_iter_1 _))
 notseq:=λitems H s ⟨x,n,hit,_,_⟩ p hp o ho=>by rw [msp hp] at ho;exact (mv hit o ho).1
 stable:=λitems H s H' s' ⟨x,n,hit,hi,ho⟩ e=>⟨x,n,e.own _ _ hit (List.mem_singleton.mpr rfl),hi,fB e ho (Heap.lt_size hit)⟩
 next:=λitems H s A ⟨x,n,hit,hi,ho⟩ R I=>by
   have hL:∀p∈[it],∀o,s.heap.get? p=some o->bT o:=λp hp o e=>mv hit o (by rw [<-msp hp];exact e);have hO:∀p∈[it],Own B H p:=λp hp=>by rw [msp hp];exact ho
   subst hi
   cases n with
   | zero=>exact aX (wpAny_pyNext_range_end R.handled hit (by simp) λh' hx hz=>⟨rfl,dW (t:=s.toks) I (λa o e hn=>hx a o (λq=>hn (by simp [q])) e) hz hO hL⟩)
   | succ n=>
     refine wpAny_pyNext_range_item hit (by lia) λh' hit' hs=>⟨_,rfl,dQ hit' rfl rfl ?_⟩;have o:=dW (t:=s.toks+1) I (λa o e hn=>(hs.2 a λq=>hn (by simp [q])).trans e) (by rw [hs.1];exact Ab _) hO hL;exact ⟨o,.int _ _,x+c,n,by rw [show ((n+1:Nat):Int)-1=(n:Nat) by lia] at hit';exact hit',rfl,ho⟩
noncomputable def rangeLen (a b:Int):Nat:=(b-a).toNat
theorem g5 (a b:Int):Builtin.Range.rangeSize a b 1=(rangeLen a b:Nat):=by
 unfold rangeLen;rw [rangeSize_one];split <;> lia
theorem lj {r:Addr}{a b c:Int}{t u v:Tok}{n:Nat}{Q:IQ}{s₀:Shared}(I:Inv B H s)(hr:IsRange s.heap r a b c t u v)(hsm:Builtin.Range.small a b c=true)(hn:Builtin.Range.rangeSize a b c=(n:Nat))(h:Q (d3 c a n) [] H)
   (t₀:Tr noU s H s₀ H B)(hg:s₀.gens.size<=s.gens.size):wpAny (model B.prog B.w) A (pyIter (.ref r)) (pX B A tgt H s₀ Q) E s:=by
 refine wpAny_pyIter_range hr hsm ?_;rw [hn];have t:=Tr.push I { cls:=.type "range_iterator",data:=.fields #[rawInt a,rawInt (n:Nat),rawInt c] };refine je.made ⟨_,[],H,_,_,_,t₀.trans t,Eh tgt s.heap.objs.size c,⟨a,n,Heap.get?_push_size _ rfl,rfl,I.size,aW I⟩,λp hp=>?_,λO f=>f.elim,(λO hm=>(by cases hm)),h⟩;rw [msp hp];exact ⟨t₀.step.size,cZ,aW I⟩
set_option tactic.hygienic true in
theorem io {b:Int}{Q:IQ}(hlo:-(2 ^ 62)<=b)(hhi:b<2 ^ 62)(h:Q (d3 1 0 b.toNat) [] H):iO B d E tgt (.raw (.type "range")) [.int b] H Q:=λA s R I fv vs r1 r2=>by
 obtain ⟨_,rfl⟩:=r1.inv;obtain ⟨v,rfl,r⟩:=r2.one;obtain ⟨_,rfl⟩:=r.inv;rename_i tb;refine call_range_1 ?_;have t:=Tr.pushTok I { cls:=.type "range",data:=.fields #[.int 0 s.toks,.int b tb,.int 1 (s.toks+1)] } (s.toks+1+1);exact lj t.inv (Heap.get?_push_size _ rfl) (small_one ∅ ∅ hlo hhi) (g5 0 b) (by simpa [rangeLen] using h) t (Ab _)
set_option tactic.hygienic true in
theorem o7 {a b:Int}{Q:IQ}(hlo:-(2 ^ 62)<=b)(hhi:b<2 ^ 62)(hlo':-(2 ^ 62)<=a)(hhi':a<2 ^ 62)(h:Q (d3 1 a (b-a).toNat) [] H):iO B d E tgt (.raw (.type "range")) [.int a,.int b] H Q:=λA s R I fv vs r1 r2=>by
 obtain ⟨_,rfl⟩:=r1.inv;obtain ⟨v,w,rfl,r,r'⟩:=r2.two;obtain ⟨_,rfl⟩:=r.inv;cases r';rename_i ta tb;refine call_range_2 ?_;have t:=Tr.pushTok I { cls:=.type "range",data:=.fields #[.int a ta,.int b tb,.int 1 s.toks] } (s.toks+1);exact lj t.inv (Heap.get?_push_size _ rfl) (small_one hlo' hhi' hlo hhi) (g5 a b) h t (Ab _)
noncomputable def dC:Nat->List PV->List PV
 | _,[]=>[]
 | i,x::r=>.tup [.int i,x]::dC (i+1) r
inductive JE (B:aJ)(deps:AH)(e it l:Addr)(xs:List PV)(items:List PV)(H:AH)(s:Shared):Prop
 | mk (i:Nat) (old:Value) (a:IsEnum s.heap e it (i:Nat) old) (b:s.heap.IsListIter it l i) (c:Src B deps H s l xs) (d:items=dC i (xs.drop i)) (f:Own B H e) (g:Own B H it) (h:e≠it)
theorem fC {e it:Addr}{i:Int}{old:Value}(x:IsEnum h e it i old):∀o,h.get? e=some o->bT o:=λo ho=>by
 rw [x] at ho;cases ho;exact d5 rfl (by intro q t;simp)
theorem EB (elts:List Expr)(k:Nat)(pos:Pos)(deps:AH)(e it l:Addr)(xs:List PV):oU B deps (.Tuple elts k pos) (.ref e) (·∈[e,it]) (λO=>False) (JE B deps e it l xs) where
 self:=λitems H s A E Q ⟨i,old,he,_,_,_,_,_,_⟩ q=>wpAny_pyIter_enum he q
 notseq:=λitems H s ⟨i,old,he,hit,_,_,_,_,_⟩ p hp o ho=>by
   rcases mcp hp with rfl | hp
   . exact (fC he o ho).1
   . rw [msp hp] at ho;exact (bt hit o ho).1
 stable:=λitems H s H' s' ⟨i,old,he,hit,hs,hi,ho,ho',hne⟩ ev=>
   ⟨i,old,ev.own _ _ he (by simp),lP ev (by simp) hit,hs.stable ev,hi,fB ev ho (Heap.lt_size he),fB ev ho' (sY hit),hne⟩
 next:=λitems H s A ⟨i,old,he,hit,hs,hi,ho,ho',hne⟩ R I=>by
   have hL:∀p∈[e,it],∀o,s.heap.get? p=some o->bT o:=λp hp o eq=>by
     rcases mcp hp with rfl | hp
     . exact fC he o eq
     . rw [msp hp] at eq;exact bt hit o eq
   have hO:∀p∈[e,it],Own B H p:=λp hp=>by
     rcases mcp hp with rfl | hp
     . exact ho
     . rw [msp hp];exact ho'
   have hS:∀p,p∈[e,it]->∀o,s.heap.get? p=some o->¬a9 o:=λp hp o eq=>(hL p hp o eq).1;obtain ⟨⟨vs,n,hl,hv⟩,O⟩:=id hs;subst hi;rcases hv.at i with ⟨e1,e2⟩ | ⟨v,p,e1,e2,hr⟩
   . have hd:xs.drop i=[]:=List.drop_eq_nil_iff.mpr (List.getElem?_eq_none_iff.mp e2)
     rw [hd];exact aX (wpAny_pyNext_enum_end R.handled he hit (aS hl) (by rw [<-Array.getElem?_toList];exact e1) λh' hx hz=>⟨rfl,dW (t:=s.toks) I (λa o eq hn=>hx a o (λq=>hn (by simp [q])) eq) hz hO hL⟩)
   . have hd:xs.drop i=p::xs.drop (i+1):=by
       obtain ⟨hi,e3⟩:=List.getElem?_eq_some_iff.mp e2;rw [<-e3];exact (BH hi)
     rw [hd];refine wpAny_pyNext_enum_item he hit (aS hl) (by rw [<-Array.getElem?_toList];exact e1) hne λh' ho1 hit' hT hsz hk=>⟨_,rfl,?_⟩;refine wpAny_letOwnedTupleGo_enum ho1 λh₂ he₂ hs₂=>?_;have hz:s.heap.objs.size<=h₂.objs.size:=by rw [hs₂.1,hsz];exact Ax _
     have o:=dW (t:=s.toks+1) I (h':=h₂) (λa o eq hn=>(hs₂.2 a λq=>hn (by simp [q])).trans (hk a o (λq=>hn (by simp [q])) (λq=>hn (by simp [q])) eq)) hz hO hL;have helt:=Heap.lt_size he;refine ⟨o,?_,i+1,v,by simpa using he₂,?_,hs.only hS o,rfl,ho,ho',hne⟩
     . refine .tup (vs:=#[.int i s.toks,v]) (n:=0) ((hs₂.2 _ (AL helt)).trans hT) (aW I) ?_
       exact .cons (.int _ _) (.cons (hr.ow o hS) .nil)
     . obtain ⟨oi,a,b⟩:=hit'
       exact ⟨oi,(hs₂.2 _ (Ne.symm hne)).trans a,b⟩
theorem iF {elts:List Expr}{Q:IQ}(hv:aT H v xs)(h:Q (dC 0 xs) (cC v xs) H):iO B d E (.Tuple elts k pos) (.raw (.type "enumerate")) [v] H Q:=λA s R I fv vs r1 r2=>by
 obtain ⟨O,rfl⟩:=r1.inv;obtain ⟨va,rfl,r⟩:=r2.one;obtain ⟨l,rfl,hs,hd⟩:=Src.of hv I r;obtain ⟨⟨ws,n,hl,hr⟩,O⟩:=id hs;refine call_enumerate_list (aS hl) λh' he hit hsz hk=>?_;refine wpAny_pyIter_enum he ?_;have hz:s.heap.objs.size<=h'.objs.size:=by rw [hsz];exact Ad _ _
 have t:=Tr.kept (t:=s.toks) I hk hz
 have hn:∀{b:Addr},s.heap.objs.size<=b->Own B H b:=λ{b} hb=>⟨ntr I.size hb,λq=>absurd (nlt (by
     rcases q with q | q | q
     . obtain ⟨p,hp,rfl⟩:=mmp q
       obtain ⟨O,O,O,e,O⟩:=I.objs p hp;exact Heap.lt_size e
     . obtain ⟨p,hp,rfl⟩:=mmp q
       obtain ⟨O,e,O⟩:=I.tabs p hp;exact Heap.lt_size e
     . obtain ⟨p,hp,rfl⟩:=mmp q
       exact Heap.lt_size (I.hid p hp).1) hb) (Az _)⟩
 refine je.made ⟨dC 0 xs,cC v xs,H,_,_,_,t,EB elts k pos (cC v xs) _ _ l xs,⟨0,.none,he,hit,?_,rfl,hn (Ax _),hn (Ab _),Nat.succ_ne_self _⟩,λp hp=>?_,λO f=>f.elim,hd,h⟩
 . exact ⟨⟨ws,n,hk _ _ hl,hr.tr t⟩,hs.2⟩
 . rcases mcp hp with rfl | hp
   . exact ⟨Ax _,by show _<h'.objs.size;rw [hsz];exact Au _,(hn (Ax _)).2⟩
   . rw [msp hp]
     exact ⟨Ab _,by show _<h'.objs.size;rw [hsz];exact AE ∅,(hn (Ab _)).2⟩
inductive JV (B:aJ)(deps:AH)(it l:Addr)(xs:List PV)(items:List PV)(H:AH)(s:Shared):Prop
 | mk (i:Nat) (a:i<=xs.length) (b:s.heap.IsRevIter it l ((i:Int)-1)) (c:Src B deps H s l xs) (d:items=(xs.take i).reverse) (e:Own B H it)
theorem mj {it:Addr}{i:Int}(x:h.IsRevIter it l i):∀o,h.get? it=some o->bT o:=λo ho=>by
 obtain ⟨o',e,O,hd⟩:=x;rw [e] at ho;cases ho;exact d5 hd (by intro q t;simp [rawInt])
theorem aAl {it:Addr}{i:Int}(x:h.IsRevIter it l i):it<h.objs.size:=by obtain ⟨o',e,O⟩:=x;exact Heap.lt_size e
theorem GP (tgt:Expr)(deps:AH)(it l:Addr)(xs:List PV):oU B deps tgt (.ref it) (·∈[it]) (λO=>False) (JV B deps it l xs) where
 self:=λitems H s A E Q ⟨i,_,hit,_,_,_⟩ q=>wpAny_pyIter_revIter hit q
 notseq:=λitems H s ⟨i,_,hit,_,_,_⟩ p hp o ho=>by rw [msp hp] at ho;exact (mj hit o ho).1
 stable:=λitems H s H' s' ⟨i,hi,hit,hs,hx,ho⟩ e=>⟨i,hi,hit.at λo q=>e.own _ _ q (List.mem_singleton.mpr rfl),hs.stable e,hx,fB e ho (aAl hit)⟩
 next:=λitems H s A ⟨i,hi,hit,hs,hx,ho⟩ R I=>by
   have hL:∀p∈[it],∀o,s.heap.get? p=some o->bT o:=λp hp o e=>mj hit o (by rw [<-msp hp];exact e);have hO:∀p∈[it],Own B H p:=λp hp=>by rw [msp hp];exact ho
   have hS:∀p,p∈[it]->∀o,s.heap.get? p=some o->¬a9 o:=λp hp o eq=>(hL p hp o eq).1;subst hx
   cases i with
   | zero=>exact aX (wpAny_pyNext_rev_end R.handled (by simpa using hit) λh' hx hz=>⟨rfl,dW (t:=s.toks) I (λa o e hn=>hx a o (λq=>hn (by simp [q])) e) hz hO hL⟩)
   | succ i=>
     obtain ⟨⟨vs,n,hl,hv⟩,O⟩:=id hs;have hlt:i<xs.length:=hi;obtain ⟨v,e1,hr⟩:=hv.get (List.getElem?_eq_getElem hlt);have ht:(xs.take (i+1)).reverse=xs[i]::(xs.take i).reverse:=by rw [B7 hlt];simp
     rw [ht];rw [show ((i+1:Nat):Int)-1=(i:Nat) by lia] at hit;refine wpAny_pyNext_rev_item hit (aS hl) (by rw [<-Array.getElem?_toList];exact e1) λh' hit' hs'=>⟨_,rfl,?_⟩;have o:=dW (t:=s.toks) I (λa o e hn=>(hs'.2 a λq=>hn (by simp [q])).trans e) (by rw [hs'.1];exact Ab _) hO hL;obtain ⟨oo,a1,a2,a3⟩:=id hit';refine dQ a1 a2 rfl ⟨o,hr.ow o hS,i,Ah hlt,hit',hs.only hS o,rfl,ho⟩
theorem xf {Q:IQ}(hv:aT H v xs)(h:Q xs.reverse (cC v xs) H):iO B d E tgt (.raw (.type "reversed")) [v] H Q:=λA s R I fv vs r1 r2=>by
 obtain ⟨O,rfl⟩:=r1.inv;obtain ⟨va,rfl,r⟩:=r2.one;obtain ⟨l,rfl,hs,hd⟩:=Src.of hv I r;obtain ⟨⟨ws,n,hl,hr⟩,O⟩:=id hs;refine call_reversed_list (aS hl) ?_;have t:=Tr.push I (revObj l ((ws.size:Int)-1));have hit:({ s with heap:=s.heap.push (revObj l ((ws.size:Int)-1)) }:Shared).heap.IsRevIter s.heap.objs.size l ((xs.length:Int)-1):=⟨_,Heap.get?_push_size _ rfl,rfl,by rw [<-hr.asize];rfl⟩;refine wpAny_pyIter_revIter hit (je.made ⟨xs.reverse,cC v xs,H,_,_,_,t,GP tgt (cC v xs) s.heap.objs.size l xs,⟨xs.length,Ab _,hit,⟨⟨ws,n,Heap.get?_push_of_some _ hl,hr.tr t⟩,hs.2⟩,by simp,I.size,aW I⟩,λp hp=>?_,λO f=>f.elim,hd,h⟩);rw [msp hp];exact ⟨Ab _,cZ,aW I⟩
end
section
mutual
noncomputable def pd:PV->PyData
 | .none=>.none
 | .bool b=>.bool b
 | .int i=>.int i
 | .str s=>.str s
 | .tup xs=>.tuple (pds xs)
 | .list xs=>.list (pds xs)
 | .bytes _=>.dict []
 | .lref _=>.dict []
 | .raw _=>.dict []
noncomputable def pds:List PV->List PyData
 | []=>[]
 | x::xs=>pd x::pds xs
end
theorem rX {a b:Bool}(h:(a && b)=true):a=true/\b=true:=(Bool.and_eq_true_iff).mp h
theorem VR.reads {v:Value}(r:VR h T v p):(pd p).canLay0=true->∃as,Reads h v (pd p) as:=
 VR.rec (motive_1:=λv p O=>(pd p).canLay0=true->∃as,Reads h v (pd p) as) (motive_2:=λvs ps O=>PyData.canLayAll0 (pds ps)=true->∃as,ReadsAll h vs (pds ps) as)
   (λO=>⟨_,.none⟩) (λb O=>⟨_,.bool b⟩) (λi t O=>⟨_,.int i t⟩) (λs t O=>⟨_,.str s t⟩) (λO O c=>(B9 c).elim) (λho O O ih c=>(ih c).elim λO r=>⟨_,.tuple ho rfl rfl r⟩)
   (λho O O ih c=>(ih c).elim λO r=>⟨_,.list ho rfl rfl r⟩) (λO c=>(B9 c).elim) (λO c=>(B9 c).elim) (λO=>⟨_,.nil⟩) (λO O ih1 ih2 c=>by
     obtain ⟨c1,c2⟩:=rX c;obtain ⟨as,r1⟩:=ih1 c1;obtain ⟨bs,r2⟩:=ih2 c2
     exact ⟨_,.cons r1 r2⟩) r
theorem VRs.reads {ps:List PV}(r:VRs h T vs ps):PyData.canLayAll0 (pds ps)=true->∃as,ReadsAll h vs (pds ps) as:=
 r.ind (P:=λvs ps=>PyData.canLayAll0 (pds ps)=true->∃as,ReadsAll h vs (pds ps) as) (λO=>⟨_,.nil⟩) λO O O O a O ih c=>by
   obtain ⟨c1,c2⟩:=rX c;obtain ⟨as,r1⟩:=a.reads c1;obtain ⟨bs,r2⟩:=ih c2;exact ⟨_,.cons r1 r2⟩
noncomputable def IsD (H:AH)(v p:PV):Prop:=v=p\/∃xs,aT H v xs/\p=.list xs
theorem IsD.items (h:aT H v xs):IsD H v (.list xs):=.inr ⟨xs,h,rfl⟩
theorem IsD.reads (h:IsD H v p)(I:Inv B H s)(r:VR s.heap (Trk H B) va v)(c:(pd p).canLay0=true):∃as,Reads s.heap va (pd p) as:=by
 rcases h with rfl | ⟨xs,hv,rfl⟩
 . exact r.reads c
 . obtain ⟨a,vs,n,rfl,ho,hr⟩:=hv.at I r
   obtain ⟨as,q⟩:=hr.reads c;exact ⟨_,.list ho rfl rfl q⟩
noncomputable def okD (p:PV):Bool:=SeqAt.shaped (pd p)
theorem z2 (R:ah A d):A.units+64<cLine:=by have:=R.units;lia
theorem uh {a b pa pb:PV}(ha:IsD H a pa)(hb:IsD H b pb)(oa:okD pa=true)(ob:okD pb=true)(h:Q (.bool (PyData.eqv (pd pa) (pd pb))) H):V2 H E B d b a (compareOp .Eq) Q:=λA s R I va vb r1 r2=>by
 obtain ⟨O,q1⟩:=ha.reads I r1 (SeqAt.canLay_of_shaped oa);obtain ⟨O,q2⟩:=hb.reads I r2 (SeqAt.canLay_of_shaped ob);exact SeqAt.compareEq_shaped q1 q2 oa ob (z2 R) (aN.here I (.bool _) h)
theorem uy {a b pa pb:PV}(ha:IsD H a pa)(hb:IsD H b pb)(oa:okD pa=true)(ob:okD pb=true)(h:Q (.bool (!PyData.eqv (pd pa) (pd pb))) H):V2 H E B d b a (compareOp .NotEq) Q:=λA s R I va vb r1 r2=>by
 obtain ⟨O,q1⟩:=ha.reads I r1 (SeqAt.canLay_of_shaped oa);obtain ⟨O,q2⟩:=hb.reads I r2 (SeqAt.canLay_of_shaped ob);exact SeqAt.compareNe_shaped q1 q2 oa ob (z2 R) (aN.here I (.bool _) h)
theorem iz {α:Type}(f:α->PV):∀l:List α,pds (l.map f)=l.map λa=>pd (f a)
 | []=>rfl
 | a::l=>congrArg (pd (f a)::·) (iz f l)
theorem lR {α:Type}(f:α->PV):∀l:List α,(∀a∈l,(pd (f a)).canLay0=true)->PyData.canLayAll0 (pds (l.map f))=true
 | [],_=>rfl
 | a::l,h=>Bool.and_eq_true_iff.mpr ⟨h a mcs,lR f l λb hb=>h b (mcm _ hb)⟩
theorem mI {α:Type}(f:α->PV)(n:Nat):∀l:List α,(∀a∈l,(pd (f a)).depth<=n)->PyData.depthAll (pds (l.map f))<=n
 | [],_=>Ae _
 | a::l,h=>Nat.max_le.mpr ⟨h a mcs,mI f n l λb hb=>h b (mcm _ hb)⟩
theorem qh {α:Type}{f:α->PV}{l:List α}(n:Nat)(hn:n<=63)(hc:∀a∈l,(pd (f a)).canLay0=true)(hd:∀a∈l,(pd (f a)).depth<=n):okD (.list (l.map f))=true:=by
 have h2:=mI f n l hd;exact Bool.and_eq_true_iff.mpr ⟨lR f l hc,decide_eq_true (show PyData.depthAll (pds (l.map f))+1<=64 by lia)⟩
theorem ij (ns:List Int):okD (.list (ns.map PV.int))=true:=qh 0 ∅ (λO O=>rfl) (λO O=>Ab _)
theorem iJ (ns:List Str)(h:∀x∈ns,PyData.strOk x=true):okD (.list (ns.map PV.str))=true:=qh 0 ∅ (λx hx=>h x hx) (λO O=>Ab _)
theorem l4 {α:Type}[DecidableEq α](f:α->PyData)(hf:∀a b,PyData.eqv (f a) (f b)=decide (a=b))(l:List α):∀m:List α,PyData.eqvAll (l.map f) (m.map f)=decide (l=m):=by
 induction l with
 | nil=>intro m;cases m <;> rfl
 | cons a r ih=>
   intro m
   cases m with
   | nil=>rfl
   | cons b t=>
     show (PyData.eqv (f a) (f b) && PyData.eqvAll (r.map f) (t.map f))=_;rw [hf,ih t,<-Bool.decide_and];exact decide_eq_decide.mpr ⟨λh=>h.1▸h.2▸rfl,λh=>List.cons.inj h⟩
theorem kA {α:Type}[DecidableEq α](a b:α):(a==b)=decide (a=b):=rfl
theorem sU (ns ms:List Int):PyData.eqv (pd (.list (ns.map PV.int))) (pd (.list (ms.map PV.int)))=decide (ns=ms):=by
 show PyData.eqvAll (pds (ns.map PV.int)) (pds (ms.map PV.int))=_;rw [iz,iz];exact l4 PyData.int (λa b=>kA a b) ns ms
theorem sP (ns ms:List Str):PyData.eqv (pd (.list (ns.map PV.str))) (pd (.list (ms.map PV.str)))=decide (ns=ms):=by
 show PyData.eqvAll (pds (ns.map PV.str)) (pds (ms.map PV.str))=_;rw [iz,iz];exact l4 PyData.str (λa b=>kA a b) ns ms
theorem EI {a b:PV}{ns ms:List Int}(ha:aT H a (ns.map .int))(hb:aT H b (ms.map .int))(h:Q (.bool (decide (ns=ms))) H):V2 H E B d b a (compareOp .Eq) Q:=
 uh (.items ha) (.items hb) (ij _) (ij _) (by rw [sU];exact h)
theorem pR {a b:PV}{ns ms:List Int}(ha:aT H a (ns.map .int))(hb:aT H b (ms.map .int))(h:Q (.bool (!decide (ns=ms))) H):V2 H E B d b a (compareOp .NotEq) Q:=
 uy (.items ha) (.items hb) (ij _) (ij _) (by rw [sU];exact h)
theorem yE {a b:PV}{ns ms:List Str}(ha:aT H a (ns.map .str))(hb:aT H b (ms.map .str))(h1:∀x∈ns,PyData.strOk x=true)(h2:∀x∈ms,PyData.strOk x=true)(h:Q (.bool (decide (ns=ms))) H):V2 H E B d b a (compareOp .Eq) Q:=
 uh (.items ha) (.items hb) (iJ _ h1) (iJ _ h2) (by rw [sP];exact h)
theorem qQ {a b:PV}{ns ms:List Str}(ha:aT H a (ns.map .str))(hb:aT H b (ms.map .str))(h1:∀x∈ns,PyData.strOk x=true)(h2:∀x∈ms,PyData.strOk x=true)(h:Q (.bool (!decide (ns=ms))) H):V2 H E B d b a (compareOp .NotEq) Q:=
 uy (.items ha) (.items hb) (iJ _ h1) (iJ _ h2) (by rw [sP];exact h)
theorem wA {xs:List PV}{Q:BQ}(hv:aT H v xs)(hfit:xs.length<2 ^ 60)(h:Q (!xs.isEmpty) H):Tru B d E v H Q:=λA s R I va r=>by
 obtain ⟨a,vs,n,rfl,ho,hr⟩:=hv.at I r;refine wpAny_truthy_list (aS ho) (by rw [hr.asize];lia) ⟨H,Tr.tok I _,?_⟩
 have:vs.isEmpty=xs.isEmpty:=by
   have h1:=hr.asize
   cases xs with
   | nil=>simpa using h1
   | cons y ys=>
     have h2:vs.size≠0:=by rw [h1];simp
     simp only [Array.isEmpty,List.isEmpty_cons];exact decide_eq_false h2
 rw [this];exact h
theorem oC {a n:Int}(hn:0<=n)(hsz:(Builtin.Int.intBits a:Int)+n<=2 ^ 27)(h:Q (.int (a*2 ^ n.toNat)) H):V2 H E B d (.int n) (.int a) (binaryOp .LShift) Q:=λA s R I va vb r1 r2=>by
 obtain ⟨O,rfl⟩:=r1.inv;obtain ⟨O,rfl⟩:=r2.inv;exact lshift_int hn hsz ⟨_,_,Tr.tok I _,.int _ _,h⟩
theorem aC1 {a n:Int}(hn:0<=n)(hsz:(Builtin.Int.intBits a:Int)+n<=2 ^ 27)(h:Q (.int (a*2 ^ n.toNat)) H):V2 H E B d (.int n) (.int a) (inplaceOp .LShift) Q:=λA s R I va vb r1 r2=>by
 obtain ⟨O,rfl⟩:=r1.inv;obtain ⟨O,rfl⟩:=r2.inv;exact ilshift_int hn hsz ⟨_,_,Tr.tok I _,.int _ _,h⟩
theorem aAr {a n:Int}(hn:0<=n)(h:Q (.int (a.fdiv (2 ^ n.toNat))) H):V2 H E B d (.int n) (.int a) (inplaceOp .RShift) Q:=λA s R I va vb r1 r2=>by
 obtain ⟨O,rfl⟩:=r1.inv;obtain ⟨O,rfl⟩:=r2.inv;exact irshift_int hn ⟨_,_,Tr.tok I _,.int _ _,h⟩
theorem q0 {a b:Int}(hb:b≠0)(hp:Builtin.divisionGoesByPylong a b=false)(h:Q (.tup [.int (a.fdiv b),.int (a.fmod b)]) H):aM [] E H B d (.raw (.builtin "divmod")) [.int a,.int b] Q:=aM.at λA s R I vs r fv rf=>by
 obtain ⟨x,y,rfl,r1,r2⟩:=r.two;obtain ⟨O,rfl⟩:=rf.inv;obtain ⟨O,rfl⟩:=r1.inv;obtain ⟨O,rfl⟩:=r2.inv;refine divmod_int hb ?_ (.inl hp);have t:=Tr.pushTok I (fF #[.int (a.fdiv b) s.toks,.int (a.fmod b) (s.toks+1)] 0) (s.toks+1+1);exact ⟨_,_,t,.tup (vs:=#[.int (a.fdiv b) s.toks,.int (a.fmod b) (s.toks+1)]) (n:=0) (Heap.get?_push_size _ rfl) (aW I) (.cons (.int _ _) (.cons (.int _ _) .nil)),h⟩
end
section
theorem iw {Q:LQ}(h:Q [] H):EvL B fi d E [] σ H Q:=h
theorem zt {r:List Expr}{Q:LQ}(h:Ev E B d fi σ H e λv H₁=>EvL B fi d E r σ H₁ λvs H₂=>Q (v::vs) H₂):EvL B fi d E (e::r) σ H Q:=h
theorem DJ {op:BoolOp}{Q:BQ}(h:Q (op==.And) H):fN B fi d E op [] σ H Q:=h
theorem G6 {x:Expr}{r:List Expr}{Q:BQ}(h:Tst B fi d E x σ H λb H₁=>if b=true then Q true H₁ else fN B fi d E .Or r σ H₁ Q):fN B fi d E .Or (x::r) σ H Q:=by
 show Tst B fi d E x σ H λb H₁=>if b=(BoolOp.Or==BoolOp.Or) then Q b H₁ else fN B fi d E .Or r σ H₁ Q;intro A s env e R I F;refine wpm (h A s env e R I F) (λb s' ⟨H',t,q⟩=>⟨H',t,?_⟩);cases b <;> exact q
theorem CM {x:Expr}{r:List Expr}{Q:BQ}(h:Tst B fi d E x σ H λb H₁=>if b=true then fN B fi d E .And r σ H₁ Q else Q false H₁):fN B fi d E .And (x::r) σ H Q:=by
 show Tst B fi d E x σ H λb H₁=>if b=(BoolOp.And==BoolOp.Or) then Q b H₁ else fN B fi d E .And r σ H₁ Q;intro A s env e R I F;refine wpm (h A s env e R I F) (λb s' ⟨H',t,q⟩=>⟨H',t,?_⟩);cases b <;> exact q
theorem DM {Q:SQ}(h:Q σ H):tF B fi d E [] [] σ H Q:=h
theorem D7 {Q:St->Prop}(h:Q σ):pV fi [] [] σ Q:=h
theorem aAp {xs:List Str}{vs:List PV}{Q:St->Prop}(hr:Rep x v .local σ σ')(h:pV fi xs vs σ' Q):pV fi (x::xs) (v::vs) σ Q:=⟨_,_,hr,Gc,h⟩
theorem C0 {Q:Option Int->AH->Prop}(h:Q none H):EvO B fi d E none σ H Q:=h
theorem GO {Q:Option Int->AH->Prop}(h:Ev E B d fi σ H e λv H₁=>∃i,v=.int i/\Q (some i) H₁):EvO B fi d E (some e) σ H Q:=Ev.mono h λv H' q=>.inl q
theorem aB7 {i:Int}{P:Int->Prop}(h:P i):∃j,PV.int i=.int j/\P j:=⟨i,rfl,h⟩
theorem kq {Q:SQ}(h:∃k σ',Rep x v k σ σ'/\bM fi k/\Q σ' H):Asg B fi d E (.Name x pos) v σ H Q:=rj h
theorem cw {ts:List Expr}{Q:SQ}(hl:ts.length=xs.length)(hp:ts.all ax=true)(h:tF B fi d E ts xs σ H Q):Asg B fi d E (.Tuple ts k pos) (.tup xs) σ H Q:=eW (.inl rfl) hl h hp
theorem bp {deps:AH}(h:Qn σ H):d6 B fi d tgt body deps [] σ H Qn Qf:=h
theorem ao {deps:AH}{x:PV}
   (h:Asg B fi d NoE tgt x σ H λσ₁ H₁=>Xs NoE B d fi H₁ σ₁ body (λσ₂ H₂=>(∀p∈deps,p∈H₂)/\d6 B fi d tgt body deps xs σ₂ H₂ Qn Qf)
     (λσ₂ pf H₂=>match pf with
       | .cont=>(∀p∈deps,p∈H₂)/\d6 B fi d tgt body deps xs σ₂ H₂ Qn Qf
       | .brk=>Qn σ₂ H₂
       | .ret v=>Qf σ₂ (.ret v) H₂)):d6 B fi d tgt body deps (x::xs) σ H Qn Qf:=h
theorem V2.mono {t:Value->Value->Sem Value}{a b:PV}{Q':PQ}(h:V2 H E B d b a t Q)(hq:∀v H',Q v H'->Q' v H'):V2 H E B d b a t Q':=
 λA s R I va vb r1 r2=>wpm (h A s R I va vb r1 r2) (λO O p=>aN.mono hq p)
theorem km {a b:Int}(h:b.natAbs<2 ^ 64):Builtin.divisionGoesByPylong a b=false:=aHe (nlt h (AP ∅ ∅))
end
theorem ifp {c:Prop}[Decidable c]{a b:Prop}(h:c)(q:a):if c then a else b:=(if_pos h).symm▸q
theorem dk {n:Nat}(h:Nat.ble n k=true):n<=d+k:=ntr (AQ h) (Al k d)
theorem aDh {j n:Nat}(h:j<n)(hn:n<2 ^ 60):(j:Int)<2 ^ 63:=by lia
theorem bl {a:Nat}(h:Nat.ble a b=true):a<=b:=AQ h
theorem ifn {c:Prop}[Decidable c]{a b:Prop}(h:¬c)(q:b):if c then a else b:=(if_neg h).symm▸q
theorem jq {c:Prop}[Decidable c]{a b:Prop}(h:c)(q:a):if decide c=true then a else b:=ifp (decide_eq_true h) q
theorem iD {c:Prop}[Decidable c]{a b:Prop}(h:¬c)(q:b):if decide c=true then a else b:=ifn (λe=>h (of_decide_eq_true e)) q
theorem aD5 {c:Prop}[Decidable c]{a b:Prop}(h:c)(q:b):if (!decide c)=true then a else b:=ifn (by rw [decide_eq_true h];exact B9) q
theorem aEy {c:Prop}[Decidable c]{a b:Prop}(h:¬c)(q:a):if (!decide c)=true then a else b:=ifp (by rw [decide_eq_false h];rfl) q
section
variable {α:Type}{e a b c x0 x1 x2 x3 x4 x5 x6 x7:α}{l:List α}
theorem Has.h1:Has e (x0::e::l):=.tail .head
theorem Has.h2:Has e (x0::x1::e::l):=.tail .h1
theorem Has.h3:Has e (x0::x1::x2::e::l):=.tail .h2
theorem Has.h4:Has e (x0::x1::x2::x3::e::l):=.tail .h3
theorem Has.h5:Has e (x0::x1::x2::x3::x4::e::l):=.tail .h4
theorem Has.h6:Has e (x0::x1::x2::x3::x4::x5::e::l):=.tail .h5
theorem Has.h7:Has e (x0::x1::x2::x3::x4::x5::x6::e::l):=.tail .h6
theorem Has.t8 (h:Has e l):Has e (x0::x1::x2::x3::x4::x5::x6::x7::l):=.tail (.tail (.tail (.tail (.tail (.tail (.tail (.tail h)))))))
end
section
variable {k:NameKind}{ov:Option PV}{e0 e1 e2 e3 e4 e5 e6 e7:Str×NameKind×Option PV}{r r':St}
theorem Rep.h1:Rep x p k (e0::(x,k,ov)::r) (e0::(x,k,some p)::r):=.tail .head
theorem Rep.h2:Rep x p k (e0::e1::(x,k,ov)::r) (e0::e1::(x,k,some p)::r):=.tail .h1
theorem Rep.h3:Rep x p k (e0::e1::e2::(x,k,ov)::r) (e0::e1::e2::(x,k,some p)::r):=.tail .h2
theorem Rep.h4:Rep x p k (e0::e1::e2::e3::(x,k,ov)::r) (e0::e1::e2::e3::(x,k,some p)::r):=.tail .h3
theorem Rep.h5:Rep x p k (e0::e1::e2::e3::e4::(x,k,ov)::r) (e0::e1::e2::e3::e4::(x,k,some p)::r):=.tail .h4
theorem Rep.h6:Rep x p k (e0::e1::e2::e3::e4::e5::(x,k,ov)::r) (e0::e1::e2::e3::e4::e5::(x,k,some p)::r):=.tail .h5
theorem Rep.h7:Rep x p k (e0::e1::e2::e3::e4::e5::e6::(x,k,ov)::r) (e0::e1::e2::e3::e4::e5::e6::(x,k,some p)::r):=.tail .h6
theorem Rep.t8 (h:Rep x p k r r'):Rep x p k (e0::e1::e2::e3::e4::e5::e6::e7::r) (e0::e1::e2::e3::e4::e5::e6::e7::r'):=.tail (.tail (.tail (.tail (.tail (.tail (.tail (.tail h)))))))
end
section
noncomputable def PE (σ:St)(e:Expr)(v:PV):Prop:=∀B fi d E H Q,Q v H->Ev E B d fi σ H e Q
noncomputable def PL (σ:St)(e:List Expr)(v:List PV):Prop:=∀B fi d E H Q,Q v H->EvL B fi d E e σ H Q
noncomputable def PT (σ:St)(e:Expr)(c:Bool):Prop:=∀B fi d E H Q,Q c H->Tst B fi d E e σ H Q
noncomputable def P2 (t:Value->Value->Sem Value)(a b v:PV):Prop:=∀B d E H Q,Q v H->V2 H E B d b a t Q
noncomputable def P1 (t:Value->Sem Value)(a v:PV):Prop:=∀B d E H Q,Q v H->V1 B d E t a H Q
theorem bN {w:PV}(h:v=w)(q:Q w H):Q v H:=h▸q
theorem iT {t:Value->Value->Sem Value}{a b c:PV}(h:b=c)(q:V2 H E B d c a t Q):V2 H E B d b a t Q:=h▸q
theorem fX {t:Value->Value->Sem Value}{a b c:PV}(h:a=c)(q:V2 H E B d b c t Q):V2 H E B d b a t Q:=h▸q
theorem kK (p:PE σ e v)(q:Q v H):Ev E B d fi σ H e Q:=p _ _ _ _ _ _ q
theorem yO {e:List Expr}{v:List PV}{Q:LQ}(p:PL σ e v)(q:Q v H):EvL B fi d E e σ H Q:=p _ _ _ _ _ _ q
theorem aDr {c:Bool}{Q:BQ}(p:PT σ e c)(q:Q c H):Tst B fi d E e σ H Q:=p _ _ _ _ _ _ q
theorem wb {t:Value->Value->Sem Value}{a b:PV}(p:P2 t a b v)(q:Q v H):V2 H E B d b a t Q:=p _ _ _ _ _ q
theorem aF2 {t:Value->Sem Value}{a:PV}(p:P1 t a v)(q:Q v H):V1 B d E t a H Q:=p _ _ _ _ _ q
noncomputable def PK (x:Str)(k:NameKind):Prop:=(k=.local\/k=.globalImplicit\/k=.cell\/(k=.free/\(x==("__classdict__" : Str))=false))/\(x==("__debug__" : Str))=false
theorem aGq (h:(x==("__debug__" : Str))=false):PK x .local:=⟨.inl rfl,h⟩
theorem aGj (h:(x==("__debug__" : Str))=false):PK x .globalImplicit:=⟨.inr (.inl rfl),h⟩
theorem aG9 (h:(x==("__debug__" : Str))=false):PK x .cell:=⟨.inr (.inr (.inl rfl)),h⟩
theorem aGk (h:(x==("__debug__" : Str))=false)(h2:(x==("__classdict__" : Str))=false):PK x .free:=⟨.inr (.inr (.inr ⟨rfl,h2⟩)),h⟩
theorem P_N {k0:NameKind}{x0:Str}{z:PV}{τ:St}(h:Has (x0,k0,some z) τ)(hk:PK x0 k0){ps:Pos}:PE τ (.Name x0 ps) z:=λO O O O O Q q=>by
 obtain ⟨hk,hd⟩:=hk;refine uc ?_ hd;rcases hk with rfl | rfl | rfl | ⟨rfl,h2⟩
 . exact aFy h q
 . exact aFm h q
 . exact aD2 h q
 . exact aFd h q h2
theorem P_i {i:Int}{τ:St}:PE τ (.Constant (.int i) k pos) (.int i):=λO O O O O O q=>yv q
theorem P_s {τ:St}:PE τ (.Constant (.str x) k pos) (.str x):=λO O O O O O q=>uL q
theorem P_y {x:List UInt8}{τ:St}:PE τ (.Constant (.bytes x) k pos) (.bytes x.toArray):=λO O O O O O q=>p4 q
theorem P_o {b:Bool}{τ:St}:PE τ (.Constant (.bool b) k pos) (.bool b):=λO O O O O O q=>vI q
theorem P_n {τ:St}:PE τ (.Constant .none k pos) .none:=λO O O O O O q=>uZ q
theorem aD1 {l r:Expr}{op:Operator}{a b:PV}{τ:St}(h1:PE τ l a)(h2:PE τ r b)(h3:P2 (binaryOp op) a b v):PE τ (.BinOp l op r pos) v:=λO O O O O O q=>rG (kK h1 (kK h2 (wb h3 q)))
theorem aFf {l r:Expr}{op:CmpOp}{a b:PV}{τ:St}(h1:PE τ l a)(h2:PE τ r b)(h3:P2 (compareOp op) a b v)(hm:behindInMarks op r=false):PE τ (.Compare l [op] [r] pos) v:=λO O O O O O q=>j8 (kK h1 (kK h2 (wb h3 q))) hm
theorem aGs {l:Expr}{op:UnaryOp}{a:PV}{τ:St}(h1:PE τ l a)(h3:P1 (unaryOp op) a v):PE τ (.UnaryOp op l pos) v:=λO O O O O O q=>sf (kK h1 (aF2 h3 q))
theorem aDg {τ:St}:PL τ [] []:=λO O O O O O q=>iw q
theorem aA6 {r:List Expr}{τ:St}{z:PV}{zs:List PV}(h1:PE τ e z)(h2:PL τ r zs):PL τ (e::r) (z::zs):=λO O O O O O q=>zt (kK h1 (yO h2 q))
theorem aDm {es:List Expr}{vs:List PV}{τ:St}(h:PL τ es vs)(hp:es.all ax=true)(hl:es.length<=64):PE τ (.Tuple es k pos) (.tup vs):=λO O O O O O q=>kS (yO h q) hp hl
theorem aFa {a b:Int}:P2 (binaryOp .Add) (.int a) (.int b) (.int (a+b)):=λO O O O O q=>ny q
theorem aEs {a b:Int}:P2 (binaryOp .Sub) (.int a) (.int b) (.int (a-b)):=λO O O O O q=>uP q
theorem aFp {a b:Int}:P2 (binaryOp .BitAnd) (.int a) (.int b) (.int (Builtin.bitAnd a b)):=λO O O O O q=>vD q
theorem aGo {a b:Int}:P2 (binaryOp .BitOr) (.int a) (.int b) (.int (Builtin.bitOr a b)):=λO O O O O q=>y6 q
theorem aFs {a b:Int}:P2 (binaryOp .BitXor) (.int a) (.int b) (.int (Builtin.bitXor a b)):=λO O O O O q=>vB q
theorem aEq {a:Int}:P1 (unaryOp .USub) (.int a) (.int (-a)):=λO O O O O q=>CP q
theorem aE9 {a:Int}:P1 (unaryOp .Invert) (.int a) (.int (Builtin.bitNot a)):=λO O O O O q=>zc q
theorem aF7 {a b:Int}:P2 (compareOp .Eq) (.int a) (.int b) (.bool (a==b)):=λO O O O O q=>zz q
theorem aGv {a b:Int}:P2 (compareOp .NotEq) (.int a) (.int b) (.bool (a != b)):=λO O O O O q=>yf q
theorem aCm {a b:Int}:P2 (compareOp .Lt) (.int a) (.int b) (.bool (decide (a<b))):=λO O O O O q=>z8 q
theorem aHf {a b:Int}:P2 (compareOp .LtE) (.int a) (.int b) (.bool (decide (a<=b))):=λO O O O O q=>zP q
theorem aGl {a b:Int}:P2 (compareOp .Gt) (.int a) (.int b) (.bool (decide (a > b))):=λO O O O O q=>yw q
theorem aGw {a b:Int}:P2 (compareOp .GtE) (.int a) (.int b) (.bool (decide (a ≥ b))):=λO O O O O q=>CU q
theorem aHd {a b:PV}(hb:iM b=true)(ha:cP a=true):P2 (compareOp .Is) a b (.bool (iE a b)):=λO O O O O q=>zA q hb ha
theorem aDp {a b:PV}(hb:iM b=true)(ha:cP a=true):P2 (compareOp .IsNot) a b (.bool (!iE a b)):=λO O O O O q=>nX q hb ha
theorem aFx {y:Str}:P2 (compareOp .Eq) (.str x) (.str y) (.bool (decide (x=y))):=λO O O O O q=>uV q
theorem aDi {y:Str}:P2 (compareOp .NotEq) (.str x) (.str y) (.bool (!decide (x=y))):=λO O O O O q=>uT q
theorem aEo {y:Str}:P2 (compareOp .In) (.str y) (.str x) (.bool (Txt.contains x y)):=λO O O O O q=>uz q
theorem aAz {y:Str}:P2 (compareOp .NotIn) (.str y) (.str x) (.bool (!Txt.contains x y)):=λO O O O O q=>rh q
theorem aDq {l r:Expr}{op:CmpOp}{a b:PV}{c:Bool}{τ:St}(h1:PE τ l a)(h2:PE τ r b)(h3:P2 (compareOp op) a b (.bool c))(hm:behindInMarks op r=false):PT τ (.Compare l [op] [r] pos) c:=
 λO O O O O O q=>iy (kK h1 (kK h2 (wb h3 (ku q)))) hm
theorem aD8 {a:Int}{τ:St}(h:PE τ e (.int a))(he:∀env w,isTrue e env w=(do let v<-w;standAt e.pos;holding [v] (truthy v))):PT τ e (a != 0):=λO O O O O O q=>jX (kK h (uS q)) he
theorem aBx {c:Bool}{τ:St}(h:PE τ e (.bool c))(he:∀env w,isTrue e env w=(do let v<-w;standAt e.pos;holding [v] (truthy v))):PT τ e c:=λO O O O O O q=>jX (kK h (ku q)) he
end
section
noncomputable abbrev qB2 (B:aJ)(d:Nat)(E:EP)(op:Operator)(a:PV)(Q:PQ):PQ:=λb H₂=>V2 H₂ E B d b a (binaryOp op) Q
noncomputable abbrev qB1 (B:aJ)(fi:aP)(d:Nat)(E:EP)(op:Operator)(r:Expr)(σ:St)(Q:PQ):PQ:=λa H₁=>Ev E B d fi σ H₁ r (qB2 B d E op a Q)
noncomputable abbrev qC2 (B:aJ)(d:Nat)(E:EP)(op:CmpOp)(a:PV)(Q:PQ):PQ:=λb H₂=>V2 H₂ E B d b a (compareOp op) Q
noncomputable abbrev qC1 (B:aJ)(fi:aP)(d:Nat)(E:EP)(op:CmpOp)(r:Expr)(σ:St)(Q:PQ):PQ:=λa H₁=>Ev E B d fi σ H₁ r (qC2 B d E op a Q)
noncomputable abbrev qT (B:aJ)(d:Nat)(E:EP)(Q:BQ):PQ:=λv H₁=>Tru B d E v H₁ Q
noncomputable abbrev aG7 (Q:BQ):BQ:=λb H₁=>Q (!b) H₁
noncomputable def qOr (B:aJ)(fi:aP)(d:Nat)(E:EP)(r:List Expr)(σ:St)(Q:BQ):BQ:=λb H₁=>if b=true then Q true H₁ else fN B fi d E .Or r σ H₁ Q
noncomputable def aD7 (B:aJ)(fi:aP)(d:Nat)(E:EP)(r:List Expr)(σ:St)(Q:BQ):BQ:=λb H₁=>if b=true then fN B fi d E .And r σ H₁ Q else Q false H₁
noncomputable abbrev qL2 (v:PV)(Q:LQ):LQ:=λvs H₂=>Q (v::vs) H₂
noncomputable abbrev qL1 (B:aJ)(fi:aP)(d:Nat)(E:EP)(r:List Expr)(σ:St)(Q:LQ):PQ:=λv H₁=>EvL B fi d E r σ H₁ (qL2 v Q)
noncomputable abbrev aG4 (Q:PQ):LQ:=λvs H₁=>Q (.tup vs) H₁
noncomputable abbrev qX (E:EP)(B:aJ)(d:Nat)(Qf:FQ)(fi:aP)(rest:List Stmt)(Qn:SQ):SQ:=λσ' H'=>Xs E B d fi H' σ' rest Qn Qf
noncomputable abbrev qP (fi:aP)(x:Str)(σ:St)(Qn:SQ):PQ:=λv H₁=>∃k σ',Rep x v k σ σ'/\bM fi k/\Qn σ' H₁
noncomputable abbrev qR (σ:St)(Qf:FQ):PQ:=λv H₁=>Qf σ (.ret v) H₁
noncomputable abbrev qE (σ:St)(Qn:SQ):PQ:=λO H₁=>Qn σ H₁
noncomputable def qI (E:EP)(o:List Stmt)(b:List Stmt)(fi:aP)(d:Nat)(B:aJ)(Qf:FQ)(Qn:SQ)(σ:St):BQ:=λc H₁=>if c then Xs E B d fi H₁ σ b Qn Qf else Xs E B d fi H₁ σ o Qn Qf
noncomputable abbrev qA3 (B:aJ)(d:Nat)(E:EP)(op:Operator)(a:PV)(fi:aP)(x:Str)(σ:St)(Qn:SQ):PQ:=λv H₂=>V2 H₂ E B d v a (inplaceOp op) (qP fi x σ Qn)
noncomputable abbrev qA1 (B:aJ)(fi:aP)(d:Nat)(E:EP)(op:Operator)(e:Expr)(x:Str)(σ:St)(Qn:SQ):PQ:=λa H₁=>Ev E B d fi σ H₁ e (qA3 B d E op a fi x σ Qn)
noncomputable abbrev aG2 (B:aJ)(d:Nat)(E:EP)(f:PV)(Q:PQ):LQ:=λvs H₂=>aM [] E H₂ B d f vs Q
noncomputable abbrev qCl (B:aJ)(fi:aP)(d:Nat)(E:EP)(args:List Expr)(σ:St)(Q:PQ):PQ:=λf H₁=>cQ B f/\EvL B fi d E args σ H₁ (aG2 B d E f Q)
noncomputable abbrev aG6 (B:aJ)(d:Nat)(E:EP)(tgt:Expr)(f:PV)(Q:IQ):LQ:=λvs H₂=>iO B d E tgt f vs H₂ Q
noncomputable abbrev qIc (B:aJ)(fi:aP)(d:Nat)(E:EP)(tgt:Expr)(args:List Expr)(σ:St)(Q:IQ):PQ:=λf H₁=>cQ B f/\EvL B fi d E args σ H₁ (aG6 B d E tgt f Q)
noncomputable abbrev qS2 (B:aJ)(d:Nat)(E:EP)(o:PV)(Q:PQ):PQ:=λi H₂=>mY B o H₂/\V2 H₂ E B d i o getItem Q
noncomputable abbrev qS1 (B:aJ)(fi:aP)(d:Nat)(E:EP)(slice:Expr)(σ:St)(Q:PQ):PQ:=λo H₁=>Ev E B d fi σ H₁ slice (qS2 B d E o Q)
noncomputable abbrev aGx (B:aJ)(d:Nat)(E:EP)(o:PV)(l u:Option Int)(Q:PQ):Option Int->AH->Prop:=λk H₄=>mY B o H₄/\mS B d E o l u k H₄ Q
noncomputable abbrev aGz (B:aJ)(fi:aP)(d:Nat)(E:EP)(st:Option Expr)(σ:St)(o:PV)(l:Option Int)(Q:PQ):Option Int->AH->Prop:=λu H₃=>EvO B fi d E st σ H₃ (aGx B d E o l u Q)
noncomputable abbrev aGf (B:aJ)(fi:aP)(d:Nat)(E:EP)(hi st:Option Expr)(σ:St)(o:PV)(Q:PQ):Option Int->AH->Prop:=λl H₂=>EvO B fi d E hi σ H₂ (aGz B fi d E st σ o l Q)
noncomputable abbrev aG0 (B:aJ)(fi:aP)(d:Nat)(E:EP)(lo hi st:Option Expr)(σ:St)(Q:PQ):PQ:=λo H₁=>EvO B fi d E lo σ H₁ (aGf B fi d E hi st σ o Q)
noncomputable abbrev qO (Q:Option Int->AH->Prop):PQ:=λv H₁=>∃i,v=.int i/\Q (some i) H₁
noncomputable abbrev qAs (B:aJ)(fi:aP)(d:Nat)(E:EP)(ts:List Expr)(vs:List PV)(Q:SQ):SQ:=λσ₁ H₁=>tF B fi d E ts vs σ₁ H₁ Q
noncomputable abbrev qAt (B:aJ)(fi:aP)(d:Nat)(E:EP)(t:Expr)(σ:St)(Qn:SQ):PQ:=λv H₁=>Asg B fi d E t v σ H₁ Qn
noncomputable abbrev qFo (B:aJ)(fi:aP)(d:Nat)(tgt:Expr)(body:List Stmt)(σ:St)(Qn:SQ)(Qf:FQ):IQ:=λitems deps H₁=>d6 B fi d tgt body deps items σ H₁ Qn Qf
variable {T:BQ}
theorem xe {l r:Expr}{op:Operator}(h:Ev E B d fi σ H l (qB1 B fi d E op r σ Q)):Ev E B d fi σ H (.BinOp l op r pos) Q:=rG h
theorem p0 {l r:Expr}{op:CmpOp}(h:Ev E B d fi σ H l (qC1 B fi d E op r σ Q))(hm:behindInMarks op r=false):Ev E B d fi σ H (.Compare l [op] [r] pos) Q:=j8 h hm
theorem tW (h:Ev E B d fi σ H e (qT B d E T))(he:∀env w,isTrue e env w=(do let v<-w;standAt e.pos;holding [v] (truthy v))):Tst B fi d E e σ H T:=jX h he
theorem mE {l r:Expr}{op:CmpOp}(h:Ev E B d fi σ H l (qC1 B fi d E op r σ (qT B d E T)))(hm:behindInMarks op r=false):Tst B fi d E (.Compare l [op] [r] pos) σ H T:=iy h hm
theorem z0 {x:Expr}(h:Tst B fi d E x σ H (aG7 T)):Tst B fi d E (.UnaryOp .Not x pos) σ H T:=G0 h
theorem z7 {x:Expr}{r:List Expr}(h:Tst B fi d E x σ H (qOr B fi d E r σ T)):fN B fi d E .Or (x::r) σ H T:=G6 h
theorem xJ {x:Expr}{r:List Expr}(h:Tst B fi d E x σ H (aD7 B fi d E r σ T)):fN B fi d E .And (x::r) σ H T:=CM h
theorem aBa {r:List Expr}{b:Bool}(h:if b=true then T true H else fN B fi d E .Or r σ H T):qOr B fi d E r σ T b H:=h
theorem GD {r:List Expr}{b:Bool}(h:if b=true then fN B fi d E .And r σ H T else T false H):aD7 B fi d E r σ T b H:=h
theorem aDo {b o:List Stmt}{c:Bool}(h:if c then Xs E B d fi H σ b Qn Qf else Xs E B d fi H σ o Qn Qf):qI E o b fi d B Qf Qn σ c H:=h
theorem n9 {r:List Expr}{Q:LQ}(h:Ev E B d fi σ H e (qL1 B fi d E r σ Q)):EvL B fi d E (e::r) σ H Q:=h
theorem wx {es:List Expr}(h:EvL B fi d E es σ H (aG4 Q))(hp:es.all ax=true)(hl:es.length<=64):Ev E B d fi σ H (.Tuple es k pos) Q:=kS h hp hl
theorem aE {st:Stmt}(h:X B fi d E st σ H (qX E B d Qf fi rest Qn) Qf):Xs E B d fi H σ (st::rest) Qn Qf:=E3 h
theorem l7 {pos':Pos}{value:Expr}(h:Ev E B d fi σ H value (qP fi x σ Qn))(hs:∀env,swapsWith value (some (.Name x pos')) pos.line env=pure false):X B fi d E (.Assign [.Name x pos'] value pos) σ H Qn Qf:=ly h hs
theorem xa (h:Ev E B d fi σ H e (qR σ Qf)):X B fi d E (.Return (some e) pos) σ H Qn Qf:=rc h
theorem FS (h:Ev E B d fi σ H e (qE σ Qn))(hs:∀env,swapsWith e none pos.line env=pure false):X B fi d E (.Expr e pos) σ H Qn Qf:=aCw h hs
theorem aEm {t:Expr}{b o:List Stmt}(h:Tst B fi d E t σ H (qI E o b fi d B Qf Qn σ)):X B fi d E (.If t b o pos) σ H Qn Qf:=aGu h
theorem il {pos':Pos}{op:Operator}{value:Expr}(h:Ld B fi d E x σ H (qA1 B fi d E op value x σ Qn)):X B fi d E (.AugAssign (.Name x pos') op value pos) σ H Qn Qf:=jY h
theorem zW {func:Expr}{args:List Expr}(h:Ev E B d fi σ H func (qCl B fi d E args σ Q))(hp:args.all ax=true)
   (he:∀env,eval (.Call func args [] pos) env=(do callWith pos (<-eval func env) [] (backTo pos (starEach args env)) (backToKw pos (keywordEach [] env)))):Ev E B d fi σ H (.Call func args [] pos) Q:=F9 h hp he
theorem xB {func:Expr}{args:List Expr}{Q:IQ}(h:Ev E B d fi σ H func (qIc B fi d E tgt args σ Q))(hp:args.all ax=true)
   (he:∀env,eval (.Call func args [] pos) env=(do callWith pos (<-eval func env) [] (backTo pos (starEach args env)) (backToKw pos (keywordEach [] env)))):EvI B fi d E tgt (.Call func args [] pos) σ H Q:=DK h hp he
theorem Ej {value slice:Expr}(h:Ev E B d fi σ H value (qS1 B fi d E slice σ Q)):Ev E B d fi σ H (.Subscript value slice pos) Q:=aBf h
theorem wC {value:Expr}{lo hi st:Option Expr}{spos:Pos}(h:Ev E B d fi σ H value (aG0 B fi d E lo hi st σ Q)):Ev E B d fi σ H (.Subscript value (.Slice lo hi st spos) pos) Q:=yC h
theorem zw {Q:Option Int->AH->Prop}(h:Ev E B d fi σ H e (qO Q)):EvO B fi d E (some e) σ H Q:=GO h
theorem uD {t:Expr}{ts:List Expr}{vs:List PV}{Q:SQ}(h:Asg B fi d E t v σ H (qAs B fi d E ts vs Q)):tF B fi d E (t::ts) (v::vs) σ H Q:=h
theorem gW {ts:List Expr}{tpos:Pos}{value:Expr}(h:Ev E B d fi σ H value (qAt B fi d E (.Tuple ts k tpos) σ Qn))(hs:∀env,swapsWithSole [.Tuple ts k tpos] value pos.line env=pure false)
   (hw:∀env,aY B fi env->swappedStores [.Tuple ts k tpos] value env=pure none):X B fi d E (.Assign [.Tuple ts k tpos] value pos) σ H Qn Qf:=pJ h hs hw
theorem aBc (h:qP fi x σ Qn v H):Asg B fi d E (.Name x pos) v σ H Qn:=rj h
theorem aCa {it:Expr}(h:EvI B fi d E tgt it σ H (qFo B fi d tgt body σ Qn Qf))(hd:3<=d)(hs:∀env x,foldedSetIterable it env x=pure x):X B fi d E (.For tgt it body [] pos) σ H Qn Qf:=aE2 h hd hs
end
noncomputable def aJ.up (B:aJ)(g:Heap)(hk:∀a o,B.g.get? a=some o->g.get? a=some o)(ht:∀q∈B.tabs,g.get? q.2=Option.none):aJ:=
 { B with g:=g,inK:=B.inK.keeps hk,nsg:=B.nsg.keeps hk,nsb:=B.nsb.keeps hk,nolimit:=B.nolimit.keeps hk,tabsHidden:=ht }
open Classical in
noncomputable def c8 (g h:Heap)(P:Addr->Prop):Heap:=
 { objs:=Array.ofFn (n:=h.objs.size) λi=>if P i.val then (h.objs[i.val]?).getD default else (g.objs[i.val]?).getD { cls:=.none,data:=.freed },life:=h.life }
theorem get?_eq (e:h.objs[a]?=h'.objs[a]?):h.get? a=h'.get? a:=by
 unfold Heap.get?;rw [e]
theorem dJ {g:Heap}:(c8 g h P).objs.size=h.objs.size:=by simp [c8]
theorem ey {g:Heap}(ha:P a):(c8 g h P).get? a=h.get? a:=by
 refine get?_eq ?_;by_cases hl:@LT.lt Nat _ a h.objs.size
 . have:(c8 g h P).objs[a]?=some ((h.objs[a]?).getD default):=by
     rw [c8,Array.getElem?_ofFn,dif_pos hl,if_pos ha]
   rw [this,Array.getElem?_eq_getElem hl]
   rfl
 . rw [Array.getElem?_eq_none (by rw [dJ];exact Ar hl),Array.getElem?_eq_none (Ar hl)]
theorem cu {g:Heap}(ha:¬P a)(hz:g.objs.size<=h.objs.size):(c8 g h P).get? a=g.get? a:=by
 by_cases hl:@LT.lt Nat _ a h.objs.size
 . have:(c8 g h P).objs[a]?=some ((g.objs[a]?).getD { cls:=.none,data:=.freed }):=by
     rw [c8,Array.getElem?_ofFn,dif_pos hl,if_neg ha]
   unfold Heap.get?;rw [this]
   cases hg:g.objs[a]? with
   | none=>rfl
   | some o=>rfl
 . refine get?_eq ?_
   rw [Array.getElem?_eq_none (by rw [dJ];exact Ar hl),Array.getElem?_eq_none (ntr hz (Ar hl))]
section
theorem iL (I:Inv B H s)(F:aA s H σ env B):∀a o,B.g.get? a=some o->(c8 B.g s.heap λa=>¬Trk H B a/\a≠env.locals).get? a=some o:=λa o e=>by
 by_cases hp:¬Trk H B a/\a≠env.locals
 . rw [ey hp];exact I.keep a o e
 . rw [cu hp I.size];exact e
theorem iX (I:Inv B H s):∀q∈B.tabs,(c8 B.g s.heap λa=>¬Trk H B a/\a≠env.locals).get? q.2=Option.none:=λq hq=>by
 rw [cu (λh=>h.1 (.inr (.inl (By hq)))) I.size];exact B.tabsHidden q hq
variable {g:Heap}{hk:∀a o,B.g.get? a=some o->g.get? a=some o}{ht:∀q∈B.tabs,g.get? q.2=Option.none}
theorem g6 (hk:∀a o,B.g.get? a=some o->g.get? a=some o){a:Addr}(h:g.get? a=Option.none):B.g.get? a=Option.none:=by
 cases e:B.g.get? a with
 | none=>rfl
 | some o=>rw [hk a o e] at h;cases h
theorem Inv.down (hz:B.g.objs.size<=g.objs.size)(I:Inv (B.up g hk ht) H s):Inv B H s:=
 ⟨λa o e=>I.keep a o (hk a o e),ntr hz I.size,I.tabs,I.bare,I.os,I.nodup,λq hq=>let ⟨a,b,c,e⟩:=I.hid q hq;⟨a,b,g6 hk c,e⟩,λp hp=>let ⟨a,vs,n,b,c⟩:=I.objs p hp;⟨g6 hk a,vs,n,b,c⟩⟩
theorem Tr.down {U:Addr->Prop}(hz:B.g.objs.size<=g.objs.size)(t:Tr U s' H' s H (B.up g hk ht)):Tr U s' H' s H B:=⟨t.inv.down hz,t.step,t.keys⟩
theorem aA.down (F:aA s H σ env (B.up g hk ht)):aA s H σ env B:=⟨g6 hk F.fresh,F.apart,F.keys,F.nodup,F.ns,F.cell,F.glob⟩
theorem Inv.pin (I:Inv B H s)(F:aA s H σ env B):Inv (B.up _ (iL I F) (iX I)) H s:=by
 have none':∀a,Trk H B a->B.g.get? a=Option.none->(c8 B.g s.heap λa=>¬Trk H B a/\a≠env.locals).get? a=Option.none:=λa h e=>by
   rw [cu (λq=>q.1 h) I.size];exact e
 refine ⟨λa o e=>?_,Ac dJ,I.tabs,I.bare,I.os,I.nodup,λq hq=>?_,λp hp=>?_⟩
 . change (c8 B.g s.heap λa=>¬Trk H B a/\a≠env.locals).get? a=some o at e
   by_cases hp:¬Trk H B a/\a≠env.locals
   . rwa [ey hp] at e
   . rw [cu hp I.size] at e;exact I.keep a o e
 . obtain ⟨a,b,c,e⟩:=I.hid q hq
   exact ⟨a,b,none' _ (.inr (.inr (By hq))) c,e⟩
 . obtain ⟨a,vs,n,b,c⟩:=I.objs p hp
   exact ⟨none' _ (.inl (By hp)) a,vs,n,b,c⟩
theorem aA.pin (I:Inv B H s)(F:aA s H σ env B):aA s H σ env (B.up _ (iL I F) (iX I)):=
 ⟨(cu (λq=>q.2 rfl) I.size).trans F.fresh,F.apart,F.keys,F.nodup,F.ns,F.cell,F.glob⟩
theorem aY.still (e:aY B fi env):aY (B.up g hk ht) { fi with comp:=λO=>true } env:=⟨e.scope,e.kind,e.coro,e.globals,e.builtins,e.qual,e.code,(λO h=>(by cases h)),(λO h=>(by cases h))⟩
noncomputable def fU:PV->Bool
 | .tup _ | .list _=>false
 | _=>true
theorem VR.hard {v:Value}(r:VR h T v p)(hp:fU p=true):∀T' h',VR h' T' v p:=λT' h'=>by
 cases r with
 | none=>exact .none
 | bool=>exact .bool _
 | int=>exact .int _ _
 | str=>exact .str _ _
 | bytes=>exact .bytes _ _
 | tup=>cases hp
 | list=>cases hp
 | lref=>exact .lref _
 | raw=>exact .raw _
structure dE (qual:Str)(pos:Pos)(P:Addr)(c:Addr)(B:aJ):Prop where
 mem:(c,P)∈B.tabs
 hd:CodeHd B.g c P
 qn:∀p:Pos,p.line=pos.line->p.col=pos.col->B.qn P p=some qual
 ba:B.g.BuiltinsAt B.mg P
noncomputable def df (env:Env):List (Str×NameKind)->List (Str×Addr)->List (Str×Addr)
 | [],acc=>acc
 | (n,k)::r,acc=>if k==.free then df env r ((n,(env.cells.lookup n).getD default)::acc) else df env r acc
theorem dX {n:Str}{k:NameKind}{r:List (Str×NameKind)}{acc:List (Str×Addr)}:df env ((n,k)::r) acc=if k==.free then df env r ((n,(env.cells.lookup n).getD default)::acc) else df env r acc:=rfl
theorem lp (h:∀n,(n,NameKind.free)∈scope.names->∃c,env.cells.lookup n=some c):closureFor scope env=pure (df env scope.names []):=by
 have go:∀(ns:List (Str×NameKind)) (acc:List (Str×Addr)),(∀n,(n,NameKind.free)∈ns->∃c,env.cells.lookup n=some c)->
     (forIn ns acc λx (cs:List (Str×Addr))=>(if (x.2==NameKind.free)=true then do let c<-cellOf env x.1;pure (ForInStep.yield ((x.1,c)::cs)) else pure (ForInStep.yield cs):Sem _))=pure (df env ns acc):=by
   intro ns
   induction ns with
   | nil=>intro acc _;rfl
   | cons x r ih=>
     intro acc hn;obtain ⟨n,k⟩:=x;rw [List.forIn_cons];by_cases hf:(k==NameKind.free)=true
     . obtain ⟨c,hc⟩:=hn n (by rw [eq_of_beq hf];exact mcs)
       rw [if_pos hf,dX,if_pos hf,nh hc,hc];exact ih _ λn' h'=>hn n' (mcm _ h')
     . rw [if_neg hf,dX,if_neg hf]
       exact ih _ λn' h'=>hn n' (mcm _ h')
 have:=go scope.names [] h;exact (bind_pure _).trans this
theorem gu :∀{ns:List (Str×NameKind)} {acc:List (Str×Addr)} {x:Str} {c:Addr},(∀n,(n,NameKind.free)∈ns->∃c,env.cells.lookup n=some c)->(x,c)∈df env ns acc->(x,c)∈acc\/env.cells.lookup x=some c:=by
 intro ns
 induction ns with
 | nil=>
   intro acc x c _ h;exact .inl h
 | cons hd r ih=>
   intro acc x c hn h;obtain ⟨n,k⟩:=hd;by_cases hf:(k==NameKind.free)=true
   . rw [dX,if_pos hf] at h
     rcases ih (λn' h'=>hn n' (mcm _ h')) h with h | h
     . rcases mcp h with e | h
       . cases e
         obtain ⟨c,hc⟩:=hn _ (by rw [eq_of_beq hf];exact mcs);exact .inr (by rw [hc];rfl)
       . exact .inl h
     . exact .inr h
   . rw [dX,if_neg hf] at h
     exact ih (λn' h'=>hn n' (mcm _ h')) h
theorem tE :∀{ns:List (Str×NameKind)} {acc:List (Str×Addr)} {e:Str×Addr},e∈acc->e∈df env ns acc:=by
 intro ns
 induction ns with
 | nil=>
   intro acc e h;exact h
 | cons hd r ih=>
   intro acc e h;obtain ⟨n,k⟩:=hd;by_cases hf:(k==NameKind.free)=true
   . rw [dX,if_pos hf];exact ih (mcm _ h)
   . rw [dX,if_neg hf];exact ih h
theorem uI :∀{ns:List (Str×NameKind)} {acc:List (Str×Addr)},(x,NameKind.free)∈ns->∃c,(x,c)∈df env ns acc:=by
 intro ns
 induction ns with
 | nil=>intro acc h;exact (Bo h).elim
 | cons e r ih=>
   intro acc h;obtain ⟨n,k⟩:=e;rcases mcp h with e | h
   . cases e
     rw [dX,if_pos (show (NameKind.free==NameKind.free)=true from rfl)];exact ⟨_,tE mcs⟩
   . rw [dX]
     by_cases hf:(k==NameKind.free)=true
     . rw [if_pos hf];exact ih h
     . rw [if_neg hf];exact ih h
theorem su {α:Type}{l:List (Str×α)}{c:α}(h:(x,c)∈l):∃c',l.lookup x=some c':=by
 induction l with
 | nil=>exact (Bo h).elim
 | cons e r ih=>
   rw [List.lookup_cons]
   cases hb:x==e.1 with
   | true=>exact ⟨_,rfl⟩
   | false=>
     rcases mcp h with q | h
     . exact (ne_of_beq_false hb (congrArg (·.1) q)).elim
     . exact ih h
theorem mD {ns:List (Str×NameKind)}(hn:∀n,(n,NameKind.free)∈ns->∃c,env.cells.lookup n=some c)(h:(x,NameKind.free)∈ns):∃c,(df env ns []).lookup x=some c/\env.cells.lookup x=some c:=by
 obtain ⟨c,hc⟩:=uI (env:=env) (acc:=[]) h;obtain ⟨c',hc'⟩:=su hc;rcases gu hn (mem_of_lookup hc') with q | q
 . cases q
 . exact ⟨c',hc',q⟩
structure di (B:aJ)(f:Addr)(name qual:Str)(params:Arguments)(body:List Stmt)(scope:Scope)(σ:St):Prop where
 at_:∃clos doc pm cv ctv,B.g.get? f=some { cls:=.type "function",data:=.func (fnX name qual params body scope clos .none .none doc pm none cv ctv) }/\B.g.CodeRec cv qual/\
   (∀x p,(x,NameKind.free)∈scope.names->(x,NameKind.cell,some p)∈σ->fU p=true->∃c v,clos.lookup x=some c/\B.g.IsCell c (some v)/\∀T h,VR h T v p)/\
   (∀x y c,clos.lookup x=some c->clos.lookup y=some c->x=y)
theorem sT {name:Str}{k:NameKind}(h:env.kindOf name=some k)(hk:k≠.globalExplicit):qualnameIn env name name=env.qual++name:=by
 unfold qualnameIn;rw [h,if_neg];intro q;exact hk (by simpa using q)
end
set_option tactic.hygienic true in
theorem mC {p:Pos}{a b:Int}{c cv:Value}(l:List Value)(h:TriplesOk l):codeAmong p (l++[rawInt a,rawInt b,c])=some cv->codeAmong p l=some cv\/((p.line:Int)=a/\(p.col:Int)=b/\cv=c):=by
 fun_induction TriplesOk l with
 | case1=>
   intro e;simp only [Bw,codeAmong,rawInt] at e;split at e
   . rename_i hc
     simp only [Ca,beq_iff_eq] at hc;exact .inr ⟨hc.1.symm,hc.2.symm,(Option.some.inj e).symm⟩
   . cases e
 | case2 x t y u z rest ih=>
   intro e;simp only [BW,codeAmong] at e ⊢;split at e
   . rename_i hc;rw [if_pos hc];exact .inl e
   . rename_i hc;rw [if_neg hc];exact ih h e
 | case3=>exact h.elim
theorem qr {l:List Value}(h:TriplesOk l){t:Tok}:l[1]?≠some (.str x t):=by
 fun_induction TriplesOk l with
 | case1=>exact λe=>(by cases e)
 | case2 a t y u z rest ih=>exact λe=>(by cases ((e:some (Value.int y u)=some (.str x _))))
 | case3=>exact h.elim
section
theorem lI {c:Addr}{q:Str}{P:Addr}{ps:Array Value}(r:h.CodeRec (.ref c) q)(hP:h.get? P=some (tabObj ps))(ht:TriplesOk ps.toList):c≠P:=λe=>by
 obtain ⟨c',o,vs,t,e1,e2,e3,e4⟩:=r;cases e1;subst e;rw [hP] at e2;cases e2;cases e3;exact qr ht (by rw [Array.getElem?_toList];exact e4)
theorem jf (I:Inv B H s){q:Addr×Addr}(hq:q∈B.tabs):q.2∉H.map (·.1)/\q.2∉B.hid.map (·.1):=by
 obtain ⟨ps,h1,O⟩:=I.tabs q hq;exact ⟨gk I h1 (λO O=>(by intros;first | contradiction | (intro q;cases q))),ee I h1 (λO O=>(by intros;first | contradiction | (intro q;cases q)))⟩
theorem fu {cd:Value}{q:Str}{P:Addr}{ps:Array Value}(r:h.CodeRec cd q)(hP:h.get? P=some (tabObj ps))(ht:TriplesOk ps.toList)(hx:Heap.ExtBut P h h'):h'.CodeRec cd q:=by
 obtain ⟨c,o,vs,t,e1,e2,e3,e4⟩:=id r;subst e1;exact ⟨c,o,vs,t,rfl,hx _ _ (lI r hP ht) e2,e3,e4⟩
theorem Tr.grown {c P:Addr}{qual:Str}{ps:Array Value}{c':Addr}{tk:Tok}(I:Inv B H s)(N:dE qual pos P c B)(hP:s.heap.get? P=some (tabObj ps))(ht:TriplesOk ps.toList)
   (hc:∀p cv,codeAmong p ps.toList=some cv->∃qn,B.qn P p=some qn/\s.heap.CodeRec cv qn)
   (hx:Heap.ExtBut P s.heap h')(hz:s.heap.objs.size<=h'.objs.size)(hr:h'.CodeRec (.ref c') qual)(hP':h'.get? P=some (tabObj (ps++#[rawInt pos.line,rawInt pos.col,.ref c']))):Tr noU { s with heap:=h'.push o,toks:=tk } H s H B:=by
 have kk:∀a ob,a≠P->s.heap.get? a=some ob->(h'.push o).get? a=some ob:=λa ob hn e=>Heap.get?_push_of_some _ (hx a ob hn e);have tP:Trk H B P:=.inr (.inl (mmr ⟨_,N.mem,rfl⟩));have hsz:s.heap.objs.size<=(h'.push o).objs.size:=by rw [Heap.size_push];exact ntr hz (Ax _)
 refine ⟨⟨λa ob e=>kk a ob (λq=>?_) (I.keep a ob e),ntr I.size hsz,λq hq=>?_,I.bare,I.os,I.nodup,λq hq=>?_,λp hp=>?_⟩,⟨λa ob e hn=>kk a ob (λq=>hn (.inl (q▸tP))) e,hsz,λO O e=>e⟩,λO h=>.inl h⟩
 . have:=B.tabsHidden _ N.mem
   rw [q] at e;rw [e] at this;cases this
 . by_cases hq2:q.2=P
   . refine ⟨_,by rw [hq2];exact Heap.get?_push_of_some _ hP',by rw [Array.toList_append];exact TriplesOk_snoc _ _ _ _ ht,λp cv e=>?_⟩
     rw [Array.toList_append] at e;rcases mC _ ht e with e | ⟨a1,a2,a3⟩
     . obtain ⟨qn,b1,b2⟩:=hc p cv e
       exact ⟨qn,by rw [hq2];exact b1,(fu b2 hP ht hx).push _⟩
     . subst a3
       exact ⟨qual,by rw [hq2];exact N.qn p (Int.ofNat.inj a1) (Int.ofNat.inj a2),hr.push _⟩
   . obtain ⟨qs,h1,h2,h3⟩:=I.tabs q hq
     exact ⟨qs,kk _ _ hq2 h1,h2,λp cv e=>(h3 p cv e).imp λqn b=>⟨b.1,(fu b.2 hP ht hx).push _⟩⟩
 . obtain ⟨a,r1,r2,r3⟩:=I.hid q hq
   refine ⟨kk _ _ (λe=>(jf I N.mem).2 ?_) a,r1,r2,r3⟩;exact mmr ⟨q,hq,e⟩
 . obtain ⟨a,vs,n,e,r⟩:=I.objs p hp
   refine ⟨a,vs,n,kk _ _ (λe=>(jf I N.mem).1 (mmr ⟨p,hp,e⟩)) e,r.mono (λb ob eb O hn=>kk b ob (λq=>hn (q▸tP)) eb) λO O t=>t⟩
theorem FV {c P:Addr}{qual name:Str}{params:Arguments}{clos:List (Str×Addr)}{Q:Value->Shared->Prop}(e:aY B fi env)(I:Inv B H s)(N:dE qual pos P c B)(hfi:fi.code=some (c,P))(hcl:closureFor scope env=pure clos)
   (h:∀f doc pm cv ctv s',Tr noU s' H s H B->s.heap.objs.size<=f->s'.heap.get? f=some { cls:=.type "function",data:=.func (fnX name qual params body scope clos .none .none doc pm none cv ctv) }->s'.heap.CodeRec cv qual->Q (.ref f) s') :
   wpAny (model B.prog B.w) A (makeFunction name qual params (.stmts body) scope env [] [] [] pos pos.line) Q E s:=by
 obtain ⟨ps,hP,ht,hc⟩:=I.tabs _ N.mem;have C:CodeHd s.heap c P:=N.hd.keeps I.keep
 have ba:s.heap.BuiltinsAt B.mg P:=by
   obtain ⟨bm,o,h1,h2,h3,h4,h5,r⟩:=N.ba;exact ⟨bm,o,h1,h2,h3,h4,I.keep _ _ h5,r⟩
 have hg:=B.nsg.keeps I.keep
 cases hf:codeAmong pos ps.toList with
 | none=>
   refine makeFunction_K hcl e.globals hg (e.code _ _ hfi) C hP ht hf (B.low _ N.mem) ba λc' ctv doc h' tk hx hge hlt hr hP'=>?_;have hz:s.heap.objs.size<=h'.objs.size:=ntr hge (Ah hlt);exact h _ _ _ _ _ _ (Tr.grown I N hP ht hc hx hz hr hP') hz (Heap.get?_push_size _ rfl) (hr.push _)
 | some cv=>
   refine makeFunction_hit hcl e.globals hg (e.code _ _ hfi) C hP ht hf ba λctv doc h' tk hk hz=>?_;obtain ⟨qn,b1,b2⟩:=hc pos cv hf;have b3:=N.qn pos rfl rfl;rw [b1] at b3;cases b3;refine h _ _ _ _ _ _ (Tr.ext I (λa o e=>Heap.get?_push_of_some _ (hk a o e)) (by rw [Heap.size_push];exact ntr hz (Ax _)) rfl rfl) hz (Heap.get?_push_size _ rfl) ((b2.keeps hk).push _)
theorem mG {cv:Value}{q:Str}(I:Inv B H s)(r:s.heap.CodeRec cv q)(k:∀a o vs,s.heap.get? a=some o->o.data=.fields vs->¬Trk H B a->h'.get? a=some o):h'.CodeRec cv q:=by
 obtain ⟨c',o,vs,t,e1,e2,e3,e4⟩:=id r;refine ⟨c',o,vs,t,e1,k _ _ _ e2 e3 λq=>?_,e3,e4⟩;rcases q with q | q | q
 . exact gk I e2 (λO O=>by rw [e3];(intros;first | contradiction | (intro q;cases q))) q
 . obtain ⟨qq,hq,rfl⟩:=mmp q
   obtain ⟨ps,h1,h2,O⟩:=I.tabs qq hq;subst e1;exact lI r h1 h2 rfl
 . exact ee I e2 (λO O=>by rw [e3];(intros;first | contradiction | (intro q;cases q))) q
theorem aA.nloc (F:aA s H σ env B)(e:s.heap.get? a=some o)(hd:∀es n,o.data≠.dict es n):a≠env.locals:=λq=>by
 obtain ⟨O,⟨O,O,O,e',hd',O⟩,O⟩:=F.ns;subst q;cases e.symm.trans e';exact hd _ _ hd'
theorem yY {name qual:Str}{params:Arguments}{c P:Addr}{k:NameKind}{σ':Addr->St}
   (N:dE qual pos P c B)(hfi:fi.code=some (c,P))(hq:fi.qual++name=qual)(hd0:params.defaults=[])(hk0:params.kw_defaults=[])(ha:∀env,annTrees params none env=[])
   (hfr:∀n,(n,NameKind.free)∈scope.names->∃ov,(n,NameKind.cell,ov)∈σ)(hrep:∀f,Rep name (.raw (.ref f)) k σ (σ' f))(hst:bM fi k)
   (h:∀g hk ht f,di (B.up g hk ht) f name qual params body scope (σ' f)->Xs E (B.up g hk ht) d { fi with comp:=λO=>true } H (σ' f) rest Qn Qf) :
   Xs E B d fi H σ (.FunctionDef name params body [] none [] scope none name pos::rest) Qn Qf:=λA s env e R I F=>by
 have hcells:∀n,(n,NameKind.free)∈scope.names->∃c,env.cells.lookup n=some c:=λn hn=>by
   obtain ⟨ov,hm⟩:=hfr n hn;obtain ⟨c,O,hc,O⟩:=F.cell n ov (.inl hm);exact ⟨c,hc⟩
 have hkn:env.kindOf name=some k:=by
   obtain ⟨ov,hm⟩:=(hrep default).has;exact F.kindOf hm
 have hqe:qualnameIn env name name=qual:=by
   rw [sT hkn (by rcases hst with rfl | ⟨rfl,_⟩ <;> (intros;first | contradiction | (intro q;cases q))),e.qual,hq]
 refine wpAny_execs_cons ?_;refine nestDef_K hd0 hk0 (ha env) ?_;rw [hqe];refine FV e I N hfi (lp hcells) λf doc pm cv ctv s₁ t₁ hf ho hr=>?_;refine wpm (dM e t₁.inv (F.tr I t₁) (.raw _) (hrep f) hst) (λO s₂ hh1=>?_);obtain ⟨t₂,F₂⟩:=hh1;have I₂:=t₂.inv;have t:Tr (bJ env) s₂ H s H B:=t₁.up.trans t₂
 have fresh:∀a,Trk H B a\/bJ env a->a<s.heap.objs.size:=λa q=>by
   rcases q with q | q
   . exact d2 I q
   . exact F.own_lt q
 have ho₂:=t₂.step.heap f _ ho λq=>absurd (fresh f q) (nlr hf);have F₁:=F.tr I t₁;have hr₂:s₂.heap.CodeRec cv qual:=mG t₁.inv hr λa o vs e d n=>t₂.step.heap a o e λq=>q.elim n λu=>(F₁.own_not u e).2 vs d;have pinned:∀{a:Addr} {o:Obj},s₂.heap.get? a=some o->¬Trk H B a->a≠env.locals->(c8 B.g s₂.heap λa=>¬Trk H B a/\a≠env.locals).get? a=some o:=λe h1 h2=>by rw [ey ⟨h1,h2⟩];exact e
 have hz:B.g.objs.size<=(c8 B.g s₂.heap λa=>¬Trk H B a/\a≠env.locals).objs.size:=by rw [dJ];exact I₂.size
 have NF:di (B.up _ (iL I₂ F₂) (iX I₂)) f name qual params body scope (σ' f):=by
   refine ⟨_,doc,pm,cv,ctv,pinned ho₂ (b6 I₂ ho₂ (λO O=>(by intros;first | contradiction | (intro q;cases q))) (λO=>(by intros;first | contradiction | (intro q;cases q)))) (F₂.nloc ho₂ (λO O=>(by intros;first | contradiction | (intro q;cases q)))),mG I₂ hr₂ λa o vs e d n=>pinned e n (F₂.nloc e λO O=>by rw [d];(intros;first | contradiction | (intro q;cases q))),λx p hx hp hh=>?_,λx y c hx hy=>?_⟩
   . obtain ⟨c,hc1,hc2⟩:=mD hcells hx
     obtain ⟨c',w,hc',⟨o,eo,ed⟩,v,hw,hv⟩:=F₂.cell x _ (.inl hp);rw [hc2] at hc';cases hc';subst hw;exact ⟨c,v,hc1,⟨o,pinned eo (b6 I₂ eo (λO O=>by rw [ed];(intros;first | contradiction | (intro q;cases q))) (λO=>by rw [ed];(intros;first | contradiction | (intro q;cases q)))) (F₂.nloc eo (λO O=>by rw [ed];(intros;first | contradiction | (intro q;cases q)))),ed⟩,hv.hard hh⟩
   . rcases gu hcells (mem_of_lookup hx) with q | q
     . cases q
     . rcases gu hcells (mem_of_lookup hy) with q' | q'
       . cases q'
       . exact F.apart x y c q q'
 refine wpm (h _ (iL I₂ F₂) (iX I₂) f NF A s₂ env e.still R (I₂.pin F₂) (F₂.pin I₂)) (λfl s₃ hh1=>by obtain ⟨σ₃,H₃,t₃,F₃,q⟩:=hh1;exact ⟨σ₃,H₃,t.trans (t₃.down hz),F₃.down,q⟩)
end
noncomputable def aBt (B:aJ)(bs:List (Str×PV))(out:St)(e:Str×NameKind×Option PV):Prop:=match e.2.1 with
 | .local=>∀p,e.2.2=some p->(e.1,p)∈bs
 | .globalImplicit=>∀p,e.2.2=some p->aH B e.1 p
 | .free=>∃p,e.2.2=some p/\(e.1,NameKind.cell,some p)∈out/\fU p=true
 | _=>False
noncomputable def dt (B:aJ)(bs:List (Str×PV))(out:St)(ns:List (Str×NameKind))(σ:St):Prop:=σ.map (λe=>(e.1,e.2.1))=ns/\∀e∈σ,aBt B bs out e
section
variable {bs:List (Str×PV)}{out:St}{ns:List (Str×NameKind)}
theorem dt.keys (h:dt B bs out ns σ):σ.map (λe=>(e.1,e.2.1))=ns:=h.1
theorem dt.all (h:dt B bs out ns σ):∀e∈σ,aBt B bs out e:=h.2
theorem dt.nil:dt B bs out [] []:=⟨rfl,λO h=>absurd h Bo⟩
theorem dt.cons {k:NameKind}{ov:Option PV}(q:aBt B bs out (x,k,ov))(h:dt B bs out ns σ):dt B bs out ((x,k)::ns) ((x,k,ov)::σ):=⟨congrArg (List.cons _) h.1,fmc ⟨q,h.2⟩⟩
theorem dt.arg (h1:(x,p)∈bs)(h:dt B bs out ns σ):dt B bs out ((x,.local)::ns) ((x,.local,some p)::σ):=.cons (λO e=>Option.some.inj e▸h1) h
theorem dt.unset (h:dt B bs out ns σ):dt B bs out ((x,.local)::ns) ((x,.local,Option.none)::σ):=.cons (λO e=>(by cases e)) h
theorem dt.free (h1:(x,NameKind.cell,some p)∈out)(h2:fU p=true)(h:dt B bs out ns σ):dt B bs out ((x,.free)::ns) ((x,.free,some p)::σ):=.cons ⟨_,rfl,h1,h2⟩ h
end
section
theorem di.call {name qual:Str}{params:Arguments}{scope:Scope}{σ₀:St}{args:List PV}{kw bs:List (Str×PV)}(h:di B f name qual params body scope σ)
   (hb:∀clos doc pm cv ctv,cI B (fnX name qual params body scope clos .none .none doc pm none cv ctv) args kw H bs)(hbn:(bs.map (λe=>e.1)).Nodup)(hbk:∀e∈bs,(e.1,NameKind.local)∈scope.names)
   (hsn:(scope.names.map (λe=>e.1)).Nodup)(hnc:∀e∈scope.names,e.2≠.cell)(hk:scope.kind=.function)(hco:scope.isCoroutine=false)(hge:scope.isGenerator=false)(hi:dt B bs σ scope.names σ₀)
   (hx:Xs NoE B d ⟨scope,none,qual++".<locals>.",λO=>false⟩ H σ₀ body (λO H'=>Q .none H') (PX Q)):aM kw NoE H B (d+1) (.raw (.ref f)) args Q:=λA s R I fv vs kvs h1 h2 h3=>by
 obtain ⟨clos,doc,pm,cv,ctv,ho,hcr,hcell,hap⟩:=h.at_;cases h1;refine wpAny_call ?_;refine codeAny_call_function (by have:=R.depth;lia) (I.keep _ _ ho) rfl hco hge rfl (hcr.keeps I.keep) ?_;refine hb clos doc pm cv ctv _ s I vs kvs h2 h3 _ _ λbv hbv=>?_;have hn1:(bv.map (λe=>e.1)).Nodup:=hbv.2.symm▸hbn;refine wpAny_newFunctionEnv hnc (λx hx=>?_) (λh' hns hsb=>?_) hk
 . obtain ⟨e',he',hee⟩:=mmp (hbv.2▸By (f:=λe:Str×Value=>e.1) hx:x.1∈bs.map (λe=>e.1))
   exact a0 hsn (hee▸hbk e' he')
 have t₁:Tr noU { s with heap:=h',toks:=s.toks+bv.length } H s H B:=Tr.ext I (λa o e=>(hsb.2 a (A4 (Heap.lt_size e))).trans (Heap.get?_push_of_some _ e)) (by rw [hsb.1,Heap.size_push];exact Ax _) rfl rfl;refine ⟨B.nolimit.keeps t₁.inv.keep,codeAny_func ?_⟩;generalize henv:newEnv scope s.heap.objs.size mainGlobals clos (qual++".<locals>.") (some f) cv none builtinsNs=env;obtain ⟨hlo,hcs,hsc,hgl,hbu,hq⟩:env.locals=s.heap.objs.size/\env.cells=clos/\env.scope=scope/\env.globals=mainGlobals/\env.builtins=builtinsNs/\env.qual=qual++".<locals>.":=henv▸⟨rfl,rfl,rfl,rfl,rfl,rfl⟩;have nocell:∀x,env.kindOf x≠some .cell:=λx hm=>hnc (x,.cell) (mem_of_lookup (by unfold Env.kindOf at hm;rw [hsc] at hm;exact hm)) rfl;have mk:∀{x:Str} {k:NameKind} {ov:Option PV},(x,k,ov)∈σ₀->(x,k)∈scope.names:=λhm=>hi.keys▸By (f:=λe:Str×NameKind×Option PV=>(e.1,e.2.1)) hm
 have Fr:aA { s with heap:=h',toks:=s.toks+bv.length } H σ₀ env B:=by
   refine ⟨Heap.get?_none_of_le (hlo▸I.size),λx y c hx hy=>hap x y c (hcs▸hx) (hcs▸hy),hi.keys.trans (hsc▸rfl),hsc▸hsn,⟨_,by rw [hlo];exact hns,λx p hm=>?_⟩,λx ov hm=>?_,λx p hm=>hi.all _ hm p rfl⟩
   . obtain ⟨v,hv,hr⟩:=VRs.zip_mem hbv.1 hbv.2 _ (hi.all _ hm p rfl)
     exact ⟨v,a0 (by rw [BX];exact List.pairwise_reverse.mpr (hn1.imp λh=>Ne.symm h)) (List.mem_reverse.mpr hv),hr.tr t₁⟩
   . rcases hm with hm | hm
     . exact absurd rfl (hnc _ (mk hm))
     . obtain ⟨p,e,q1,q2⟩:=hi.all _ hm
       obtain ⟨c,v,c1,c2,c3⟩:=hcell x p (mk hm) q1 q2;exact ⟨c,some v,hcs▸c1,c2.keeps t₁.inv.keep,(show ov=some p from e)▸⟨v,rfl,c3 _ _⟩⟩
 exact wpAny_mono (hx (A.deeper env) _ env ⟨hsc,hk,hco,hgl,hbu,hq,(λc P e=>(by cases e)),(λx O c hx O=>absurd hx (nocell x)),(λx O c hx O=>absurd hx (nocell x))⟩ (R.deeper env) t₁.inv Fr) (λfl s' p=>qb I t₁ (λa ha=>ha.elim (λe=>Ac (by rw [e];exact hlo.symm)) λq=>q.elim λx q=>absurd q.1 (nocell x)) p) λO O x=>x.elim
end
noncomputable abbrev pw:Program:=PySem.Challenge.pw_wc0020_02
noncomputable abbrev m4:Nat:=8
noncomputable abbrev ll:Nat:=9
noncomputable abbrev gG:Nat:=10
noncomputable abbrev dA:Nat:=11
noncomputable abbrev et:Nat:=12
noncomputable abbrev i0:Nat:=13
noncomputable abbrev jb:Nat:=15
noncomputable abbrev dR:Nat:=16
noncomputable abbrev jl:Nat:=17
noncomputable abbrev dw:Nat:=18
noncomputable abbrev cA:Nat:=2
noncomputable abbrev gy:Nat:=3
noncomputable abbrev jN:Nat:=4
noncomputable abbrev lm:Nat:=5
noncomputable abbrev lU:Nat:=24
noncomputable abbrev fY:Nat:=25
noncomputable abbrev r9:Nat:=26
noncomputable def aL (k:Nat):Stmt:=(pw.main.body[k]?).getD (.Pass default)
set_option backward.match.sparseCases false in
noncomputable def eu:Stmt->Arguments
 | .FunctionDef _ a _ _ _ _ _ _ _ _=>a
 | _=>⟨[],[],none,[],[],none,[]⟩
set_option backward.match.sparseCases false in
noncomputable def a8:Stmt->List Stmt
 | .FunctionDef _ _ b _ _ _ _ _ _ _=>b
 | _=>[]
set_option backward.match.sparseCases false in
noncomputable def aI:Stmt->Scope
 | .FunctionDef _ _ _ _ _ _ s _ _ _=>s
 | _=>⟨.module,[],false,false,[]⟩
set_option genInjectivity false in
set_option genSizeOf false in
structure ae (dV:Value)(kV:Value)(k:Nat)(name:Str)(f:Addr)(cdv:Value)(B:aJ):Prop where
 at_:∃oc od osl doc pm an ct,B.g.get? f=some ⟨oc,od,.func (fnOf name name (eu (aL k)) (a8 (aL k)) (aI (aL k)) dV kV doc pm an cdv ct),osl⟩
 code:B.g.CodeRec cdv name
noncomputable abbrev gR (k:Nat)(name:Str):aP:=⟨aI (aL k),none,name++".<locals>.",λO=>false⟩
noncomputable abbrev bR (name:Str)(k:Nat)(dV kV doc pm:Value)(an:Option Addr)(cdv ct:Value):FuncData:=fnOf name name (eu (aL k)) (a8 (aL k)) (aI (aL k)) dV kV doc pm an cdv ct
noncomputable def bV (nm:List Str)(s:Scope):Bool:=
 decide nm.Nodup && nm.all (λx=>s.names.any λe=>decide (e.1=x) && (e.2==.local || e.2==.cell)) && decide ((s.names.map λe=>e.1).Nodup) && s.names.all (λe=>e.2 != .free) && (s.kind==.function) && !s.isCoroutine && !s.isGenerator
theorem e8 {nm:List Str}{s:Scope}(h:bV nm s=true):nm.Nodup:=by
 simp only [bV,Ca,decide_eq_true_eq] at h;exact h.1.1.1.1.1.1
theorem ik {nm:List Str}{s:Scope}(h:bV nm s=true):∀x∈nm,∃k,(x,k)∈s.names/\eh k:=λx hx=>by
 simp only [bV,Ca,List.all_eq_true,List.any_eq_true,decide_eq_true_eq,Cb,beq_iff_eq] at h;obtain ⟨⟨y,k⟩,he,rfl,hk⟩:=h.1.1.1.1.1.2 x hx;exact ⟨k,he,hk⟩
theorem fG {nm:List Str}{s:Scope}(h:bV nm s=true):(s.names.map λe=>e.1).Nodup:=by
 simp only [bV,Ca,decide_eq_true_eq] at h;exact h.1.1.1.1.2
theorem gN {nm:List Str}{s:Scope}(h:bV nm s=true):∀e∈s.names,e.2≠.free:=λe he=>by
 simp only [bV,Ca,List.all_eq_true] at h;have:=h.1.1.1.2 e he;simpa using this
theorem gL {nm:List Str}{s:Scope}(h:bV nm s=true):s.kind=.function:=by
 simp only [bV,Ca,beq_iff_eq] at h;exact h.1.1.2
theorem kE {nm:List Str}{s:Scope}(h:bV nm s=true):s.isCoroutine=false:=by
 simp only [bV,Ca,Bool.not_eq_true'] at h;exact h.1.2
theorem iY {nm:List Str}{s:Scope}(h:bV nm s=true):s.isGenerator=false:=by
 simp only [bV,Ca,Bool.not_eq_true'] at h;exact h.2
section
theorem ae.call {name:Str}(h:ae dV kV k name f cdv B){args:List PV}{kw bs:List (Str×PV)}{nm:List Str}{σ₀:St}
   (hb:∀doc pm an ct,cI B (bR name k dV kV doc pm an cdv ct) args kw H bs)(hnm:bs.map (λe=>e.1)=nm)(hc:bV nm (aI (aL k))=true)
   (hi:Ini B bs (aI (aL k)).names σ₀)(hx:Xs NoE B d (gR k name) H σ₀ (a8 (aL k)) (λO H'=>Q .none H') (PX Q)):aM kw NoE H B (d+1) (.raw (.ref f)) args Q:=by
 obtain ⟨oc,od,osl,doc,pm,an,ct,ho⟩:=h.at_;exact qF (fd:=bR name k dV kV doc pm an cdv ct) (cp:=none) (λs I=>I.keep _ _ ho) rfl rfl (λs I=>h.code.keeps I.keep) (gL hc) (kE hc) (iY hc) rfl rfl (λO O h=>(by cases h)) (hb doc pm an ct)
   (by rw [hnm];exact e8 hc) (λe he=>ik hc _ (by rw [<-hnm];exact mmr ⟨e,he,rfl⟩)) (fG hc) (gN hc) hi hx
end
noncomputable abbrev o9 (hs:Int)(tk:Tok)(n:Nat):Obj:={ cls:=.type "dict",dict:=none,data:=.dict #[⟨hs,.str (Ω "key") tk,.none⟩] n,slots:=#[] }
set_option genInjectivity false in
set_option genSizeOf false in
structure bE (B:aJ)(dV kV:Value):Prop where
 d:∃T n t,dV=.ref T/\B.g.get? T=some (fF #[.int 0 t,.none] n)
 k:∃D hs tk n,kV=.ref D/\B.g.get? D=some (o9 hs tk n)
set_option backward.match.sparseCases false in
noncomputable def rH {α:Type}(S:Setting):Sem α->List Obj->Option (List Addr×α)
 | .pure a=>λos=>if os.isEmpty then some ([],a) else none
 | .rule _ k=>rH S (k ())
 | .point _ k=>rH S (k ())
 | .ask k=>rH S (k S)
 | .load a _ k=>λos=>os.head?.bind λo=>(rH S (k o) os.tail).map λr=>(a::r.1,r.2)
 | _=>λO=>none
noncomputable abbrev b9 {α:Type}(S:Setting)(os:List Obj)(t:Sem α):Option (List Addr×α):=rH S t os
theorem pY {α:Type}{a:α}{P:Prop}(h:(none:Option α)=some a):P:=by cases h
theorem tn {α:Type}{M:Model}{Γ:Ctx}{Q:α->Pos->Shared->Prop}{E:Value->Pos->Shared->Prop}{p:Pos} :
   ∀(t:Sem α) (os:List Obj) (as:List Addr) (r:α),b9 ⟨M.prog,M.w.params⟩ os t=some (as,r)->(∀e∈as.zip os,s.heap.get? e.1=some e.2)->Q r p s->Sem.wp M Γ t Q E p s:=by
 intro t
 induction t with
 | pure b=>
   intro os as r e _ q
   cases os with
   | nil=>cases e;exact q
   | cons _ _=>exact pY e
 | rule _ k ih=>intro os as r e h q;exact ih () os as r e h q
 | point _ k ih=>intro os as r e h q;exact ih () os as r e h q
 | ask k ih=>intro os as r e h q;exact ih _ os as r e h q
 | load a _ k ih=>
   intro os as r e h q
   cases os with
   | nil=>exact pY e
   | cons o os=>
     obtain ⟨⟨as',r'⟩,e1,e2⟩:=Option.map_eq_some_iff.mp e;cases e2;exact ⟨o,h (a,o) mcs,ih o os as' r' e1 (λx hx=>h x (mcm _ hx)) q⟩
 | _=>exact λO O O e O O=>pY e
theorem b8 {α:Type}{M:Model}{Q:α->Shared->Prop}{t:Sem α}{os:List Obj}{as:List Addr}{r:α}(e:b9 ⟨M.prog,M.w.params⟩ os t=some (as,r))(h:∀e∈as.zip os,s.heap.get? e.1=some e.2)(q:Q r s):wpAny M A t Q E s:=
 λO O O=>tn t os as r e h q
section
variable {T:Addr}{n:Nat}{t tk:Tok}{hs:Int}{name:Str}{doc pm ct:Value}{v u z ky:Value}
noncomputable abbrev iI (n m:Nat)(t tk:Tok)(hs:Int):List Obj:=[fF #[.int 0 t,.none] n,o9 hs tk m]
noncomputable abbrev i5 (v w u z ky:Value):List (Str×Value):=[(Ω "a",v),(Ω "x",w),(Ω "lo",u),(Ω "hi",z),(Ω "key",ky)]
noncomputable abbrev qc (k:Nat)(name:Str)(T D:Addr)(doc pm:Value)(an:Option Addr)(cdv ct:Value):FuncData:=bR name k (.ref T) (.ref D) doc pm an cdv ct
theorem Gi:b9 S (iI n m t tk hs) (bindArgs (qc dw name T D doc pm an cdv ct) ⟨[v,w,u,z],[]⟩)=some ([T,D],i5 v w u z .none):=by kernel_rfl
theorem Gh:b9 S (iI n m t tk hs) (bindArgs (qc dR name T D doc pm an cdv ct) ⟨[v,w,u,z],[]⟩)=some ([T,D],i5 v w u z .none):=by kernel_rfl
theorem Gz:b9 S (iI n m t tk hs) (bindArgs (qc jl name T D doc pm an cdv ct) ⟨[v,w,u,z],[]⟩)=some ([T,D],i5 v w u z .none):=by kernel_rfl
theorem Gq:b9 S (iI n m t tk hs) (bindArgs (qc jb name T D doc pm an cdv ct) ⟨[v,w,u,z],[]⟩)=some ([T,D],i5 v w u z .none):=by kernel_rfl
theorem aEh:b9 S (iI n m t tk hs) (bindArgs (qc dR name T D doc pm an cdv ct) ⟨[v,w],[]⟩)=some ([T,D],i5 v w (.int 0 t) .none .none):=by kernel_rfl
end
local macro_rules | `(tactic| walk_at $s:str) => do
 let n<-Lean.Macro.addMacroScope `h
 return match s.getString with
 | "c_r"=>nD "tacticRfl" [.atom .none "rfl"]
 | "c_d"=>nD "decide" [.atom .none "decide",nD "optConfig" [nL []]]
 | "c_i"=>nD "paren" [.atom .none "(",nQ [nD "intros" [.atom .none "intros",nL []],.atom .none ";",nW "c_r"],.atom .none ")"]
 | "c_u"=>nD "withUnfoldingAll" [.atom .none "with_unfolding_all",nQ [nW "c_r"]]
 | "w"=>nD "tacticRepeat_" [.atom .none "repeat",nQ [nW "mw"]]
 | "k"=>nD "tacticRepeat_" [.atom .none "repeat",nQ [nW "kk"]]
 | s=>nD "first" [.atom .none "first",nL (nT n (((nR.lookup s).getD "").splitOn "|"))]
theorem dc.cons {v:Value}{kvs:List (Str×Value)}{kw:List (Str×PV)}(a:VR h T v p)(b:dc T h kvs kw):dc T h ((x,v)::kvs) ((x,p)::kw):=⟨.cons a b.1,by simp only [Bs];rw [b.2]⟩
theorem dc.nl :dc T h [] []:=⟨.nil,rfl⟩
section
noncomputable abbrev ri (a x lo hi key:PV):List (Str×PV):=[(Ω "a",a),(Ω "x",x),(Ω "lo",lo),(Ω "hi",hi),(Ω "key",key)]
theorem rt {fd:Value->Value->FuncData}{kvs:List (Str×Value)}{bv:Tok->List (Str×Value)}(D:bE B dV kV)(I:Inv B H s){Q:List (Str×Value)->Shared->Prop}
   (h:∀T D n m t tk hs,b9 ⟨B.prog,B.w.params⟩ (iI n m t tk hs) (bindArgs (fd (.ref T) (.ref D)) ⟨vs,kvs⟩)=some ([T,D],bv t))(q:∀t,Q (bv t) s):wpAny (model B.prog B.w) A (bindArgs (fd dV kV) ⟨vs,kvs⟩) Q E s:=by
 obtain ⟨T,n,t,rfl,e1⟩:=D.d;obtain ⟨D',hs,tk,m,rfl,e2⟩:=D.k;refine b8 (os:=iI n m t tk hs) (h T D' n m t tk hs) (λe he=>?_) (q t);simp only [List.zip_cons_cons,List.zip_nil_right,List.mem_cons,Bo,or_false] at he;rcases he with rfl | rfl
 . exact I.keep _ _ e1
 . exact I.keep _ _ e2
theorem dx {a x lo hi:PV}{fd:Value->Value->FuncData}(D:bE B dV kV)(hf:∀(S:Setting) T D n m t tk hs v w u z,b9 S (iI n m t tk hs) (bindArgs (fd (.ref T) (.ref D)) ⟨[v,w,u,z],[]⟩)=some ([T,D],i5 v w u z .none)) :
   cI B (fd dV kV) [a,x,lo,hi] [] H (ri a x lo hi .none):=λA s I vs kvs h1 h2 E Q hQ=>by
 obtain ⟨v,w,u,z,rfl,r1,r2,r3,r4⟩:=h1.four;rw [h2.nil];exact rt D I (bv:=λO=>i5 v w u z .none) (λT D n m t tk hs=>hf _ T D n m t tk hs v w u z) λt=>hQ _ (.cons r1 (.cons r2 (.cons r3 (.cons r4 (.cons .none .nl)))))
theorem GF {a x:PV}{fd:Value->Value->FuncData}(D:bE B dV kV)(hf:∀(S:Setting) T D n m t tk hs v w,b9 S (iI n m t tk hs) (bindArgs (fd (.ref T) (.ref D)) ⟨[v,w],[]⟩)=some ([T,D],i5 v w (.int 0 t) .none .none)) :
   cI B (fd dV kV) [a,x] [] H (ri a x (.int 0) .none .none):=λA s I vs kvs h1 h2 E Q hQ=>by
 obtain ⟨v,w,rfl,r1,r2⟩:=h1.two;rw [h2.nil];exact rt D I (bv:=λt=>i5 v w (.int 0 t) .none .none) (λT D n m t tk hs=>hf _ T D n m t tk hs v w) λt=>hQ _ (.cons r1 (.cons r2 (.cons (.int _ _) (.cons .none (.cons .none .nl)))))
end
section
open Lean
noncomputable abbrev mT (a x lo hi:PV):St:=[(Ω "a",.local,some a),(Ω "x",.local,some x),(Ω "lo",.local,some lo),(Ω "hi",.local,some hi),(Ω "key",.local,some .none),(Ω "mid",.local,none),
 (Ω "ValueError",.globalImplicit,some (.raw (.type "ValueError"))),(Ω "len",.globalImplicit,some (.raw (.builtin "len")))]
noncomputable def clp (c lo hi:Nat):Nat:=max lo (min c hi)
theorem C6 {c lo hi:Nat}(h:lo<hi)(hc:(lo+hi)/2<c):clp c ((lo+hi)/2+1) hi=clp c lo hi:=by
 have h1:(lo+hi)/2+1<=min c hi:=Nat.le_min.mpr ⟨hc,kU h⟩;unfold clp;rw [A6 h1,A6 (ntr (Ay (tO h)) h1)]
theorem zu {c lo hi:Nat}(h:lo<hi)(hc:¬(lo+hi)/2<c):clp c lo ((lo+hi)/2)=clp c lo hi:=by
 have h1:=Ar hc;unfold clp;rw [AG h1,AG (ntr h1 (Ah (kU h)))]
theorem ul {c lo hi:Nat}(h:¬lo<hi):clp c lo hi=lo:=Nat.max_eq_left (ntr (AI _ _) (Ar h))
theorem FE {c n:Nat}(h:c<=n):clp c 0 n=c:=(A6 (Ae _)).trans (AG h)
theorem tY {c lo hi n:Nat}(h:lo<=n)(h2:hi<=n):clp c lo hi<=n:=Nat.max_le.mpr ⟨h,ntr (AI _ _) h2⟩
noncomputable abbrev aHa (a x lo hi:PV)(mid:Option PV):St:=[(Ω "a",.local,some a),(Ω "x",.local,some x),(Ω "lo",.local,some lo),(Ω "hi",.local,some hi),(Ω "key",.local,some .none),(Ω "mid",.local,mid),
 (Ω "ValueError",.globalImplicit,some (.raw (.type "ValueError"))),(Ω "len",.globalImplicit,some (.raw (.builtin "len")))]
theorem rx (lo hi:Nat):((lo:Int)+(hi:Int)).fdiv 2=((lo+hi)/2:Nat):=by
 rw [Cn _ ∅];lia
noncomputable def jp (hv:PV)(hi n:Nat):Prop:=(hv=.none/\hi=n)\/(hv=.int hi/\hi<=n)
theorem jp.le {hv:PV}{hi n:Nat}(h:jp hv hi n):hi<=n:=by rcases h with ⟨_,h⟩ | ⟨_,h⟩ <;> lia
theorem kB (hv:aT H v xs)(hm:m<xs.length)(hn:xs.length<2 ^ 60)(h:Q xs[m] H):V2 H E B d (.int (m:Nat)) v getItem Q:=
 fS hv (Cd _) (Int.lt_trans (Int.ofNat_lt.mpr (A5 hm hn)) ∅) (List.getElem?_eq_getElem hm) h
inductive Du (H:AH)(a x:PV)(c lo hi n:Nat):Nat->SQ
 | mk {lo' hi':Nat} (mid:Option PV) (h:clp c lo' hi'=clp c lo hi) (hn:hi'<=n):Du H a x c lo hi n (hi'-lo') (aHa a x (.int lo') (.int hi') mid) H
theorem eT {st:Stmt}{S:St}(h:X B fi d E st σ H (λσ' H'=>σ'=S/\H'=H) Qf)(q:Qn S H):X B fi d E st σ H Qn Qf:=
λA s env eo R I F=>wpm (h A s env eo R I F) (λfl s' p=>by
   obtain ⟨σ',H',t,F',hq⟩:=p;rcases hq with ⟨e,rfl,rfl⟩ | h
   . exact ⟨_,_,t,F',.inl ⟨e,q⟩⟩
   . exact ⟨σ',H',t,F',.inr h⟩)
set_option tactic.hygienic true in
theorem xZ {a x hv:PV}{lo hi c:Nat}(ha:aT H a xs)(hh:jp hv hi xs.length)(hn:xs.length<2 ^ 60)
   (hlt:∀(d:Nat) m y,xs[m]?=some y->P2 (compareOp .Lt) y x (.bool (decide (m<c))))(q:Q (.int (clp c lo hi)) H) :
   Xs NoE B d (gR dw "bisect_left") H (mT a x (.int lo) hv) (a8 (aL dw)) (λ_ H'=>Q .none H') (PX Q):=by
 refine' aE ?_;ext;refine' iD (Int.not_lt.mpr (Cd _)) ?_;refine' jU (aE (eT (S:=mT a x (.int lo) (.int hi)) ?_ ?_))
 . ext
   rcases hh with ⟨rfl,rfl⟩ | ⟨rfl,_⟩
   . ext
     refine' ifp rfl ?_;ext;refine ⟨aK,?_⟩;ext;refine ab ha hn ?_;ext;exact ⟨rfl,rfl⟩
   . ext
     refine' ifn B9 ?_;ext;exact ⟨rfl,rfl⟩
 ext;refine' ifp rfl ?_;refine' aE (oS (Du H a x c lo hi xs.length) ⟨none,rfl,hh.le⟩ ?_)
 rintro _ _ _ ⟨mid,hb,hle'⟩
 rename_i lo' hi';ext;by_cases hc:lo'<hi'
 . refine' ifp (decide_eq_true (Int.ofNat_lt.mpr hc)) ?_
   have hm:(lo'+hi')/2<xs.length:=nlt (kU hc) hle';ext;refine' dT ∅ (km ∅) ?_;rw [rx];ext;refine ⟨aB ha,?_⟩;refine kB ha hm hn ?_;ext;refine' wb (hlt d _ _ (List.getElem?_eq_getElem hm)) ?_;ext;by_cases hp:(lo'+hi')/2<c
   . refine' jq hp ?_
     ext;exact ⟨_,yr hc,⟨_,(C6 hc hp).trans hb,hle'⟩⟩
   . refine' iD hp ?_
     ext;exact ⟨_,zY hc,⟨_,(zu hc hp).trans hb,Ah hm⟩⟩
 . refine' ifn (λe=>hc (Int.ofNat_lt.mp (of_decide_eq_true e))) ?_
   ext;rw [ul hc] at hb;rw [<-hb] at q;exact q
set_option tactic.hygienic true in
theorem wO {a x hv:PV}{lo hi c:Nat}(ha:aT H a xs)(hh:jp hv hi xs.length)(hn:xs.length<2 ^ 60)
   (hlt:∀(d:Nat) m y,xs[m]?=some y->P2 (compareOp .Lt) x y (.bool (!decide (m<c))))(q:Q (.int (clp c lo hi)) H) :
   Xs NoE B d (gR dR "bisect_right") H (mT a x (.int lo) hv) (a8 (aL dR)) (λ_ H'=>Q .none H') (PX Q):=by
 refine' aE ?_;ext;refine' iD (Int.not_lt.mpr (Cd _)) ?_;refine' jU (aE (eT (S:=mT a x (.int lo) (.int hi)) ?_ ?_))
 . ext
   rcases hh with ⟨rfl,rfl⟩ | ⟨rfl,_⟩
   . ext
     refine' ifp rfl ?_;ext;refine ⟨aK,?_⟩;ext;refine ab ha hn ?_;ext;exact ⟨rfl,rfl⟩
   . ext
     refine' ifn B9 ?_;ext;exact ⟨rfl,rfl⟩
 ext;refine' ifp rfl ?_;refine' aE (oS (Du H a x c lo hi xs.length) ⟨none,rfl,hh.le⟩ ?_)
 rintro _ _ _ ⟨mid,hb,hle'⟩
 rename_i lo' hi';ext;by_cases hc:lo'<hi'
 . refine' ifp (decide_eq_true (Int.ofNat_lt.mpr hc)) ?_
   have hm:(lo'+hi')/2<xs.length:=nlt (kU hc) hle';ext;refine' dT ∅ (km ∅) ?_;rw [rx];ext;refine ⟨aB ha,?_⟩;refine kB ha hm hn ?_;ext;refine' wb (hlt d _ _ (List.getElem?_eq_getElem hm)) ?_;ext;by_cases hp:(lo'+hi')/2<c
   . refine' aD5 hp ?_
     ext;exact ⟨_,yr hc,⟨_,(C6 hc hp).trans hb,hle'⟩⟩
   . refine' aEy hp ?_
     ext;exact ⟨_,zY hc,⟨_,(zu hc hp).trans hb,Ah hm⟩⟩
 . refine' ifn (λe=>hc (Int.ofNat_lt.mp (of_decide_eq_true e))) ?_
   ext;rw [ul hc] at hb;rw [<-hb] at q;exact q
theorem sG:bV [Ω "a",Ω "x",Ω "lo",Ω "hi",Ω "key"] (aI (aL dw))=true:=by decide +kernel
theorem p5 {a x lo hi:PV}(gV:aH B "ValueError" (.raw (.type "ValueError")))(gl:aH B "len" (.raw (.builtin "len"))):Ini B (ri a x lo hi .none) (aI (aL dw)).names (mT a x lo hi):=by
 refine .arg (by walk_at "mm") (.inl rfl) (.arg (by walk_at "mm") (.inl rfl) (.arg (by walk_at "mm") (.inl rfl) (.arg (by walk_at "mm") (.inl rfl) (.arg (by walk_at "mm") (.inl rfl) (.unset (.glob gV (.glob gl .nil)))))))
theorem xg {bs:List PV}{a x hv:PV}{lo hi c:Nat}(h:ae dV kV dw "bisect_left" f cdv B)(D:bE B dV kV)
   (gV:aH B "ValueError" (.raw (.type "ValueError")))(gl:aH B "len" (.raw (.builtin "len")))(ha:aT H a xs)(hh:jp hv hi xs.length)(hn:xs.length<2 ^ 60)
   (hlt:∀(d:Nat) m y,xs[m]?=some y->P2 (compareOp .Lt) y x (.bool (decide (m<c))))
   (hb:∀doc pm an ct,cI B (bR "bisect_left" dw dV kV doc pm an cdv ct) bs [] H (ri a x (.int lo) hv .none))(q:Q (.int (clp c lo hi)) H) :
   aM [] NoE H B (d+1) (.raw (.ref f)) bs Q:=
 h.call hb rfl sG (p5 gV gl) (xZ ha hh hn hlt q)
theorem sk {a x hv:PV}{lo hi c:Nat}(h:ae dV kV dw "bisect_left" f cdv B)(D:bE B dV kV)
   (gV:aH B "ValueError" (.raw (.type "ValueError")))(gl:aH B "len" (.raw (.builtin "len")))(ha:aT H a xs)(hh:jp hv hi xs.length)(hn:xs.length<2 ^ 60)
   (hlt:∀(d:Nat) m y,xs[m]?=some y->P2 (compareOp .Lt) y x (.bool (decide (m<c))))(q:Q (.int (clp c lo hi)) H) :
   aM [] NoE H B (d+1) (.raw (.ref f)) [a,x,.int lo,hv] Q:=
 xg h D gV gl ha hh hn hlt (λdoc pm an ct=>dx (fd:=λdV kV=>bR "bisect_left" dw dV kV doc pm an cdv ct) D λS T D n m t tk hs v w u z=>Gi) q
theorem rY:bV [Ω "a",Ω "x",Ω "lo",Ω "hi",Ω "key"] (aI (aL dR))=true:=by decide +kernel
theorem qZ {a x lo hi:PV}(gV:aH B "ValueError" (.raw (.type "ValueError")))(gl:aH B "len" (.raw (.builtin "len"))):Ini B (ri a x lo hi .none) (aI (aL dR)).names (mT a x lo hi):=by
 refine .arg (by walk_at "mm") (.inl rfl) (.arg (by walk_at "mm") (.inl rfl) (.arg (by walk_at "mm") (.inl rfl) (.arg (by walk_at "mm") (.inl rfl) (.arg (by walk_at "mm") (.inl rfl) (.unset (.glob gV (.glob gl .nil)))))))
theorem ma {bs:List PV}{a x hv:PV}{lo hi c:Nat}(h:ae dV kV dR "bisect_right" f cdv B)(D:bE B dV kV)
   (gV:aH B "ValueError" (.raw (.type "ValueError")))(gl:aH B "len" (.raw (.builtin "len")))(ha:aT H a xs)(hh:jp hv hi xs.length)(hn:xs.length<2 ^ 60)
   (hlt:∀(d:Nat) m y,xs[m]?=some y->P2 (compareOp .Lt) x y (.bool (!decide (m<c))))
   (hb:∀doc pm an ct,cI B (bR "bisect_right" dR dV kV doc pm an cdv ct) bs [] H (ri a x (.int lo) hv .none))(q:Q (.int (clp c lo hi)) H) :
   aM [] NoE H B (d+1) (.raw (.ref f)) bs Q:=
 h.call hb rfl rY (qZ gV gl) (wO ha hh hn hlt q)
theorem lN {a x hv:PV}{lo hi c:Nat}(h:ae dV kV dR "bisect_right" f cdv B)(D:bE B dV kV)
   (gV:aH B "ValueError" (.raw (.type "ValueError")))(gl:aH B "len" (.raw (.builtin "len")))(ha:aT H a xs)(hh:jp hv hi xs.length)(hn:xs.length<2 ^ 60)
   (hlt:∀(d:Nat) m y,xs[m]?=some y->P2 (compareOp .Lt) x y (.bool (!decide (m<c))))(q:Q (.int (clp c lo hi)) H) :
   aM [] NoE H B (d+1) (.raw (.ref f)) [a,x,.int lo,hv] Q:=
 ma h D gV gl ha hh hn hlt (λdoc pm an ct=>dx (fd:=λdV kV=>bR "bisect_right" dR dV kV doc pm an cdv ct) D λS T D n m t tk hs v w u z=>Gh) q
theorem tI {a x:PV}{c:Nat}(h:ae dV kV dR "bisect_right" f cdv B)(D:bE B dV kV)
   (gV:aH B "ValueError" (.raw (.type "ValueError")))(gl:aH B "len" (.raw (.builtin "len")))(ha:aT H a xs)(hn:xs.length<2 ^ 60)
   (hlt:∀(d:Nat) m y,xs[m]?=some y->P2 (compareOp .Lt) x y (.bool (!decide (m<c))))(q:Q (.int (clp c 0 xs.length)) H) :
   aM [] NoE H B (d+1) (.raw (.ref f)) [a,x] Q:=
 ma (lo:=0) (hi:=xs.length) (hv:=.none) h D gV gl ha (.inl ⟨rfl,rfl⟩) hn hlt (λdoc pm an ct=>GF (fd:=λdV kV=>bR "bisect_right" dR dV kV doc pm an cdv ct) D λS T D n m t tk hs v w=>aEh) q
end
section
open Lean
variable {dV' kV' cdv':Value}
noncomputable abbrev G8 (g:Str)(a x lo hi gf:PV):St:=[(Ω "a",.local,some a),(Ω "x",.local,some x),(Ω "lo",.local,some lo),(Ω "hi",.local,some hi),(Ω "key",.local,some .none),(g,.globalImplicit,some gf)]
theorem sC:bV [Ω "a",Ω "x",Ω "lo",Ω "hi",Ω "key"] (aI (aL jl))=true:=by decide +kernel
theorem qJ:bV [Ω "a",Ω "x",Ω "lo",Ω "hi",Ω "key"] (aI (aL jb))=true:=by decide +kernel
theorem sI {a x lo hi gf:PV}(gb:aH B "bisect_left" gf):Ini B (ri a x lo hi .none) (aI (aL jl)).names (G8 "bisect_left" a x lo hi gf):=by
 refine .arg (by walk_at "mm") (.inl rfl) (.arg (by walk_at "mm") (.inl rfl) (.arg (by walk_at "mm") (.inl rfl) (.arg (by walk_at "mm") (.inl rfl) (.arg (by walk_at "mm") (.inl rfl) (.glob gb .nil)))))
theorem pj {a x lo hi gf:PV}(gb:aH B "bisect_right" gf):Ini B (ri a x lo hi .none) (aI (aL jb)).names (G8 "bisect_right" a x lo hi gf):=by
 refine .arg (by walk_at "mm") (.inl rfl) (.arg (by walk_at "mm") (.inl rfl) (.arg (by walk_at "mm") (.inl rfl) (.arg (by walk_at "mm") (.inl rfl) (.arg (by walk_at "mm") (.inl rfl) (.glob gb .nil)))))
theorem aF {name:Str}(h:ae dV kV k name f cdv B):cQ B (.raw (.ref f)):=by
 obtain ⟨oc,od,osl,doc,pm,an,ct,ho⟩:=h.at_;exact ml ho rfl
theorem sZ {g A:Addr}{x hv:PV}{lo hi c:Nat}(h:ae dV kV jl "insort_left" f cdv B)(D:bE B dV kV)(h':ae dV' kV' dw "bisect_left" g cdv' B)(D':bE B dV' kV')
   (gb:aH B "bisect_left" (.raw (.ref g)))(gV:aH B "ValueError" (.raw (.type "ValueError")))(gl:aH B "len" (.raw (.builtin "len")))(hm:(A,xs)∈H)(hh:jp hv hi xs.length)(hlo:lo<=2 ^ 60)(hn:xs.length<=sizeLine)
   (hlt:∀(d:Nat) m y,xs[m]?=some y->P2 (compareOp .Lt) y x (.bool (decide (m<c))))(u:Upd A xs (c9 xs (min (clp c lo hi) xs.length) x) H H')(q:Q .none H') :
   aM [] NoE H B (d+2) (.raw (.ref f)) [.lref A,x,.int lo,hv] Q:=by
 refine h.call (λdoc pm an ct=>dx (fd:=λdV kV=>bR "insort_left" jl dV kV doc pm an cdv ct) D λS T D n m t tk hs v w u z=>Gz) rfl sC (sI gb) ?_;have hn':xs.length<2 ^ 60:=by have:=hn;rw [sizeLine_eq] at this;(exact Ai ‹_› ∅)
 have hb:clp c lo hi<2 ^ 63:=Ai (tY hlo (ntr hh.le (Ah hn'))) ∅;refine' aE ?_;ext;refine' ifp (show iE .none .none=true from rfl) ?_;ext;refine ⟨aF h',?_⟩;ext;refine sk h' D' gV gl (.lref hm) hh hn' hlt ?_;ext;refine ⟨_,ji (.lref hm),?_⟩;ext;refine jg (Cd _) (by lia) (by rw [Ci];exact u) hn ?_;ext;exact q
theorem t0 {g A:Addr}{x hv:PV}{lo hi c:Nat}(h:ae dV kV jb "insort_right" f cdv B)(D:bE B dV kV)(h':ae dV' kV' dR "bisect_right" g cdv' B)(D':bE B dV' kV')
   (gb:aH B "bisect_right" (.raw (.ref g)))(gV:aH B "ValueError" (.raw (.type "ValueError")))(gl:aH B "len" (.raw (.builtin "len")))(hm:(A,xs)∈H)(hh:jp hv hi xs.length)(hlo:lo<=2 ^ 60)(hn:xs.length<=sizeLine)
   (hlt:∀(d:Nat) m y,xs[m]?=some y->P2 (compareOp .Lt) x y (.bool (!decide (m<c))))(u:Upd A xs (c9 xs (min (clp c lo hi) xs.length) x) H H')(q:Q .none H') :
   aM [] NoE H B (d+2) (.raw (.ref f)) [.lref A,x,.int lo,hv] Q:=by
 refine h.call (λdoc pm an ct=>dx (fd:=λdV kV=>bR "insort_right" jb dV kV doc pm an cdv ct) D λS T D n m t tk hs v w u z=>Gq) rfl qJ (pj gb) ?_;have hn':xs.length<2 ^ 60:=by have:=hn;rw [sizeLine_eq] at this;lia
 have hb:clp c lo hi<2 ^ 63:=Ai (tY hlo (ntr hh.le (Ah hn'))) ∅;refine' aE ?_;ext;refine' ifp (show iE .none .none=true from rfl) ?_;ext;refine ⟨aF h',?_⟩;ext;refine lN h' D' gV gl (.lref hm) hh hn' hlt ?_;ext;refine ⟨_,ji (.lref hm),?_⟩;ext;refine jg (by lia) (by lia) (by rw [Ci];exact u) hn ?_;ext;exact q
end
noncomputable def aU:Nat->Bool->List Nat->List (Nat×List Nat)
 | i,e,[]=>if e then [(i-1,[92])] else []
 | i,true,c::r=>(i,[92,c])::aU (i+1) false r
 | i,false,c::r=>if c=92 then aU (i+1) true r else (i,[c])::aU (i+1) false r
theorem eV {c:Nat}:aU i false (c::r)=if c=92 then aU (i+1) true r else (i,[c])::aU (i+1) false r:=rfl
noncomputable def fV (t:Nat×List Nat):PV:=.tup [.int t.1,.str ⟨t.2.toArray⟩]
noncomputable def B0 (B:aJ):aJ:={ B with tabs:=[],tabsHidden:=(λO h=>(by cases h)),low:=(λO h=>(by cases h)) }
theorem aEv (I:Inv B H s):Inv (B0 B) [] s:=⟨I.keep,I.size,(λO h=>(by cases h)),I.bare,I.os,List.nodup_nil,(λq hq=>let ⟨a,b,c,_⟩:=I.hid q hq;⟨a,b,c,(λh=>(by cases h))⟩),(λO h=>(by cases h))⟩
theorem aGa (I:Inv (B0 B) [] s)(e:s.heap.get? a=some o)(hs:¬a9 o):¬Trk [] (B0 B) a:=λq=>by
 rcases q with q | q | q
 . cases q
 . cases q
 . exact ee I e (λvs n h=>hs ⟨vs,n,h⟩) q
section
noncomputable abbrev stG (x:Str)(p e ch:Option PV):St:=[(Ω "addr",.local,some (.str x)),(Ω "pos",.local,p),(Ω "escape",.local,e),(Ω "ch",.local,ch),(Ω "enumerate",.globalImplicit,some (.raw (.type "enumerate")))]
noncomputable abbrev fiG:aP:=gR cA "_iter_escaped_chars"
structure bO (B:aJ)(ws:List Addr)(s s':Shared):Prop where
 inv:Inv (B0 B) [] s'
 heap:∀a o,s.heap.get? a=some o->a∉ws->s'.heap.get? a=some o
 size:s.heap.objs.size<=s'.heap.objs.size
 gens:∀(i:Nat) (x:GenState),s.gens[i]?=some x->s'.gens[i]?=some x
theorem bO.refl {ws:List Addr}(I:Inv (B0 B) [] s):bO B ws s s:=⟨I,λO O e O=>e,Ab _,λO O e=>e⟩
theorem bO.trans {ws:List Addr}{s'':Shared}(a:bO B ws s s')(b:bO B ws s' s''):bO B ws s s'':=
 ⟨b.inv,λx o e n=>b.heap x o (a.heap x o e n) n,ntr a.size b.size,λi x e=>b.gens i x (a.gens i x e)⟩
theorem bO.of_tr {ws:List Addr}(I:Inv (B0 B) [] s)(hc:env.cells=[])(hw:env.locals∈ws)(t:Tr (bJ env) s' [] s [] (B0 B)):bO B ws s s':=
by
 refine ⟨t.inv,λa o e n=>?_,t.step.size,t.step.gens⟩;by_cases hh:a∈(B0 B).hid.map (·.1)
 . obtain ⟨q,hq,rfl⟩:=mmp hh
   have h1:=(I.hid q hq).1;rw [e] at h1;cases h1;exact (t.inv.hid q hq).1
 . refine t.step.heap a o e λq=>?_
   rcases q with q | q | ⟨x,_,hx,_⟩
   . rcases q with q | q | q
     . cases q
     . cases q
     . exact hh q
   . exact n (q▸hw)
   . rw [hc] at hx;cases hx
structure jP (B:aJ)(ws:List Addr)(s s':Shared):Prop where
 inv:Inv (B0 B) [] s'
 own:∀a∈ws,∀o,s.heap.get? a=some o->s'.heap.get? a=some o
noncomputable def aGd (q:PV):Prop:=∀{T T':Addr->Prop} {h h':Heap} {v:Value},VR h T v q->VR h' T' v q
noncomputable def cN (o:Option PV):Prop:=∀q,o=some q->aGd q
noncomputable def aFc (e:Str×NameKind×Option PV):Prop:=match e.2.1 with
 | .local=>cN e.2.2
 | .globalImplicit=>True
 | _=>False
theorem dD {i:Int}:cN (some (.int i)):=λq e=>Option.some.inj e▸λr=>by obtain ⟨O,rfl⟩:=r.inv;exact .int _ _
theorem dB {z:Str}:cN (some (.str z)):=λq e=>Option.some.inj e▸λr=>by obtain ⟨O,rfl⟩:=r.inv;exact .str _ _
theorem fD {b:Bool}:cN (some (.bool b)):=λq e=>Option.some.inj e▸λr=>by rw [r.inv];exact .bool _
theorem fA:cN none:=λq e=>(by cases e)
theorem gH {x:Str}{p e ch:Option PV}(h1:cN p)(h2:cN e)(h3:cN ch):∀q∈stG x p e ch,aFc q:=
 fmc ⟨dB,fmc ⟨h1,fmc ⟨h2,fmc ⟨h3,fmc ⟨trivial,λO h=>absurd h Bo⟩⟩⟩⟩⟩
theorem aA.glater {x:Str}{p e ch:Option PV}{ws:List Addr}(F:aA s [] (stG x p e ch) env (B0 B))(hw:env.locals∈ws)(l:jP B ws s s')
   (hp:∀q∈stG x p e ch,aFc q):aA s' [] (stG x p e ch) env (B0 B):=by
 refine ⟨F.fresh,F.apart,F.keys,F.nodup,?_,λy ov hy=>hy.elim (λh=>(hp _ h).elim) λh=>(hp _ h).elim,F.glob⟩;obtain ⟨m,⟨o,es,ep,ho,hd,r⟩,hm⟩:=F.ns;refine ⟨m,⟨o,es,ep,l.own _ hw _ ho,hd,r⟩,λy q hy=>?_⟩;obtain ⟨v,e1,e2⟩:=hm y q hy;exact ⟨v,e1,hp _ hy q rfl e2⟩
variable {t:Tok}
structure GAt (i:Nat)(t:Tok)(it:Addr)(e:Addr)(s:Shared)(B:aJ)(env:Env)(x:Str)(p:Option PV)(ch:Option PV)(esc:Option PV):Prop where
 frame:aA s [] (stG x p esc ch) env (B0 B)
 enum:∃old,IsEnum s.heap e it i old
 iter:s.heap.IsStrIter it "str_ascii_iterator" x t i
 ne:e≠it
 ne1:env.locals≠e
 ne2:env.locals≠it
 ge:B.g.objs.size<=e
 gi:B.g.objs.size<=it
 le:i<=x.cps.size
noncomputable abbrev gws (env:Env)(e it:Addr):List Addr:=[env.locals,e,it]
theorem GAt.notin {e it:Addr}{p esc ch:Option PV}(g:GAt i t it e s B env x p ch esc):∀a∈[env.locals],a∉[e,it]:=λa h=>msp h▸λq=>(mcp q).elim g.ne1 λq=>g.ne2 (msp q)
theorem GAt.later {e it:Addr}{p esc ch:Option PV}(g:GAt i t it e s B env x p ch esc)(l:jP B (gws env e it) s s')(h1:cN p)(h2:cN esc)(h3:cN ch):GAt i t it e s' B env x p ch esc:=
 ⟨g.frame.glater (.head _) l (gH h1 h2 h3),by obtain ⟨old,h⟩:=g.enum;exact ⟨old,l.own _ (.tail _ (.head _)) _ h⟩,by obtain ⟨o,h,r⟩:=g.iter;exact ⟨o,l.own _ (.tail _ (.tail _ (.head _))) _ h,r⟩,g.ne,g.ne1,g.ne2,g.ge,g.gi,g.le⟩
theorem GAt.frm {e it:Addr}{p esc ch p' esc' ch':Option PV}(g:GAt i t it e s B env x p ch esc)(r:bO B [env.locals] s s')(F:aA s' [] (stG x p' esc' ch') env (B0 B)):GAt i t it e s' B env x p' ch' esc':=
 ⟨F,by obtain ⟨old,h⟩:=g.enum;exact ⟨old,r.heap _ _ h (λq=>g.ne1 (msp q).symm)⟩,by obtain ⟨o,h,q⟩:=g.iter;exact ⟨o,r.heap _ _ h (λq=>g.ne2 (msp q).symm),q⟩,g.ne,g.ne1,g.ne2,g.ge,g.gi,g.le⟩
theorem bO.mono {ws ws':List Addr}(h:∀a∈ws,a∈ws')(r:bO B ws s s'):bO B ws' s s':=⟨r.inv,λa o e n=>r.heap a o e λq=>n (h a q),r.size,r.gens⟩
theorem j9 {it:Addr}{ty:String}(y:h.IsStrIter it ty x t i):∀o,h.get? it=some o->bT o:=λo ho=>by
 obtain ⟨o',e,O,hd⟩:=y;rw [e] at ho;cases ho;exact d5 hd (by intro q t;simp)
theorem ru {C:Addr}{m:Str->Option Value}(y:h.Ns C m):∀o,h.get? C=some o->bT o:=λo ho=>by
 obtain ⟨o',O,O,e,hd,O⟩:=y;rw [e] at ho;cases ho;refine ⟨λq=>?_,λvs q t e=>?_⟩
 . obtain ⟨O,O,q⟩:=q;rw [hd] at q;cases q
 . rw [hd] at e;cases e
theorem aEp (I:Inv (B0 B) [] s)(h:B.g.objs.size<=a)(e:s.heap.get? a=some o)(hl:bT o):Own (B0 B) [] a:=⟨h,aGa I e hl.1⟩
theorem mO {elts:List Expr}{e it:Addr}{p esc ch:Option PV}(ha:x.cps.all (· < 128)=true)(hA:A.handled=none)(I:Inv (B0 B) [] s)(g:GAt i t it e s B env x p ch esc) :
   wpAny (model B.prog B.w) A (pyNext (.ref e)) (λr s₁=>match x.cps.toList.drop i with
     | []=>r=none/\bO B [e,it] s s₁
     | c::_=>∃v,r=some v/\wpAny (model B.prog B.w) A (letOwnedTupleGo (.Tuple elts k pos) (.ref e) v) (λO s₂=>bO B [e,it] s s₂/\VR s₂.heap (Trk [] (B0 B)) v (.tup [.int i,.str ⟨#[c]⟩])/\
         (∃old,IsEnum s₂.heap e it (i+1:Nat) old)/\s₂.heap.IsStrIter it "str_ascii_iterator" x t (i+1)) NoE s₁) NoE s:=by
 obtain ⟨old,he⟩:=g.enum;have D:=Draws.strAscii (prog:=B.prog) (w:=B.w) (A:=A.in1) hA it x t
 have hL:∀p∈[e,it],∀o,s.heap.get? p=some o->bT o:=λp hp o eq=>by
   rcases mcp hp with rfl | hp
   . exact fC he o eq
   . rw [msp hp] at eq;exact j9 g.iter o eq
 have hO:∀p∈[e,it],Own (B0 B) [] p:=λp hp=>by
   rcases mcp hp with rfl | hp
   . exact aEp I g.ge he (hL _ (.head _) _ he)
   . rw [msp hp]
     obtain ⟨oi,hoi,O⟩:=id g.iter;exact aEp I g.gi hoi (hL _ (.tail _ (.head _)) _ hoi)
 have toRel:∀{s':Shared},cL s' (λO=>False) s [] (B0 B) (·∈[e,it])->bO B [e,it] s s':=λo=>⟨o.inv,o.heap,o.size,λi x q=>o.gens i x q id⟩;rcases Nat.lt_or_ge i x.cps.size with hi | hi
 . have hd:x.cps.toList.drop i=x.cps[i]::x.cps.toList.drop (i+1):=by
     rw [BH (by simpa using hi)];simp
   rw [hd];refine wpAny_pyNext_enum_itemD D he g.iter hi g.ne (by simp [g.ne]) λy h' tk hP ho hit' hT hsz hk=>⟨_,rfl,?_⟩;obtain ⟨c,u,hc,rfl⟩:=hP;have hcc:c=x.cps[i]:=by rw [Array.getElem?_eq_getElem hi] at hc;cases hc;rfl
   subst hcc;refine wpAny_letOwnedTupleGo_enum ho λh₂ he₂ hs₂=>?_;have hz:s.heap.objs.size<=h₂.objs.size:=by rw [hs₂.1,hsz];exact Ax _
   have o:=dW (t:=tk+1) I (h':=h₂) (λa o eq hn=>(hs₂.2 a λq=>hn (q▸.head _)).trans (hk a o (λq=>hn (q▸.head _)) (λq=>hn (q▸.tail _ (.head _))) eq)) hz hO hL;have helt:=Heap.lt_size he;refine ⟨toRel o,?_,⟨_,by simpa using he₂⟩,?_⟩
   . exact .tup (vs:=#[.int i tk,.str ⟨#[x.cps[i]]⟩ u]) (n:=0) ((hs₂.2 _ (AL helt)).trans hT) (aW I) (.cons (.int _ _) (.cons (.str _ _) .nil))
   . obtain ⟨oi,a,b⟩:=hit'
     exact ⟨oi,(hs₂.2 _ (Ne.symm g.ne)).trans a,b⟩
 . have hd:x.cps.toList.drop i=[]:=List.drop_eq_nil_iff.mpr (by simpa using hi)
   rw [hd];have hi':i=x.cps.size:=A7 g.le hi;have hit:=g.iter;rw [hi'] at hit;exact aX (wpAny_pyNext_enum_endD D he hit λh' hx hz=>⟨rfl,toRel (dW (t:=s.toks) I (λa o eq hn=>hx a o (λq=>hn (q▸.tail _ (.head _))) eq) hz hO hL)⟩)
inductive aFe (B:aJ)(A:Around)(tk:Nat×List Nat)(N:List Addr->Shared->End->Shared->Prop)(ws:List Addr)(s₀:Shared)(e:End)(s':Shared):Prop
 | mk (v:Value) (g:Bool) (l:List Value) (k:Resume->Sem Fin) (c:Code) (p:Pos) (fs:List Frame) (ws':List Addr) (he:e=.susp v g l k c p fs) (hq:e.quiet=true) (vr:VR s'.heap (Trk [] (B0 B)) v (fV tk)) (G:bO B ws s₀ s')
     (hws:∀a∈ws',(a∈ws\/s₀.heap.objs.size<=a)/\∃o,s'.heap.get? a=some o/\bT o) (go:∀s'',jP B ws' s' s''->vU (model B.prog B.w) A (N ws' s'') e.genState s'')
noncomputable def pP (B:aJ)(A:Around):List (Nat×List Nat)->List Addr->Shared->End->Shared->Prop
 | [],ws,s₀,e,s'=>e=.ret (.ok (.ret .none))/\bO B ws s₀ s'
 | tk::r,ws,s₀,e,s'=>aFe B A tk (λws' s''=>pP B A r ws' s'') ws s₀ e s'
theorem bO.gsize {ws:List Addr}(r:bO B ws s s'):s.gens.size<=s'.gens.size:=Ar λh=>
 (by cases ((Array.getElem?_eq_none (Ab _)).symm.trans (r.gens _ _ (Array.getElem?_eq_getElem h))))
theorem bO.ext {ws ws':List Addr}{s₀:Shared}(a:bO B ws s₀ s)(b:bO B ws' s s')(h:∀x∈ws',x∈ws\/s₀.heap.objs.size<=x):bO B ws s₀ s':=
 ⟨b.inv,λx o e n=>b.heap x o (a.heap x o e n) λq=>(h x q).elim n λq=>absurd (Heap.lt_size e) (nlr q),ntr a.size b.size,λi x e=>b.gens i x (a.gens i x e)⟩
theorem GAt.loose {e it:Addr}{p esc ch:Option PV}(g:GAt i t it e s B env x p ch esc):∀a∈gws env e it,∃o,s.heap.get? a=some o/\bT o:=λa ha=>by
 simp only [gws,List.mem_cons,Bo,or_false] at ha;rcases ha with rfl | rfl | rfl
 . obtain ⟨m,hns,O⟩:=g.frame.ns
   obtain ⟨o,a1,a2,ho,r⟩:=id hns;exact ⟨o,ho,ru hns o ho⟩
 . obtain ⟨old,he⟩:=g.enum;exact ⟨_,he,fC he _ he⟩
 . obtain ⟨o,ho,r⟩:=id g.iter;exact ⟨o,ho,j9 g.iter o ho⟩
theorem bO.later {ws ws':List Addr}(r:bO B ws s s')(h:∀a∈ws',a∉ws):jP B ws' s s':=⟨r.inv,λa ha o e=>r.heap a o e (h a ha)⟩
set_option backward.match.sparseCases false in
noncomputable def au:Stmt->Expr
 | .For t _ _ _ _=>t
 | _=>.Constant .none 0 default
set_option backward.match.sparseCases false in
noncomputable def ak:Stmt->List Stmt
 | .For _ _ b _ _=>b
 | _=>[]
noncomputable abbrev sH:Stmt:=((a8 (aL cA))[2]?).getD (.Pass default)
theorem aB6:∃elts k pos,au sH=.Tuple elts k pos:=⟨_,_,_,rfl⟩
theorem uB {c:Nat}{p esc ch:Option PV}:Asg (B0 B) fiG d NoE (au sH) (.tup [.int i,.str ⟨#[c]⟩]) (stG x p esc ch) [] (λσ H=>σ=stG x (some (.int i)) esc (some (.str ⟨#[c]⟩))/\H=[]):=by
 obtain ⟨elts,k,pos,h⟩:=aB6;show Asg (B0 B) fiG d NoE (.Tuple _ _ _) _ _ _ _;ext;exact ⟨rfl,rfl⟩
end
section
variable {t:Tok}
theorem bO.of_tr0 (I:Inv (B0 B) [] s)(t:Tr noU s' [] s [] (B0 B)):bO B [] s s':=by
 refine ⟨t.inv,λa o e n=>?_,t.step.size,t.step.gens⟩;by_cases hh:a∈(B0 B).hid.map (·.1)
 . obtain ⟨q,hq,rfl⟩:=mmp hh
   have h1:=(I.hid q hq).1;rw [e] at h1;cases h1;exact (t.inv.hid q hq).1
 . refine t.step.heap a o e λq=>?_
   rcases q with q | q
   . rcases q with q | q | q
     . cases q
     . cases q
     . exact hh q
   . exact q
theorem jC {c:Code}{fs:List Frame}{Φ:End->Shared->Prop}{K:Flow->Sem Fin}{Hh:Value->Sem Fin}{gd:Bool->Bool}{lv:List Value->List Value}{st:Stmt}{Qn:St->Prop}
   (he:aY (B0 B) fiG env)(hc:env.cells=[])(R:ah (A.over c fs) 3)(I:Inv (B0 B) [] s)(F:aA s [] σ env (B0 B))
   (hx:X (B0 B) fiG 3 NoE st σ [] (λσ' H=>H=[]/\Qn σ') (λO O O=>False))
   (h:∀σ' s',Qn σ'->aA s' [] σ' env (B0 B)->bO B [env.locals] s s'->bK s' fs (model B.prog B.w) A c Φ (K .next)):bK s fs (model B.prog B.w) A c Φ ((exec st env).wrap K Hh gd lv):=by
 refine FH (wpm (hx (A.over c fs) s env he R I F) (λf s' hh1=>?_));obtain ⟨σ',H',tr,F',q⟩:=hh1;rcases q with ⟨rfl,rfl,q⟩ | ⟨pf,_,q⟩
 . exact h σ' s' q F' (bO.of_tr I hc (by simp) tr)
 . exact q.elim
theorem tp {c:Code}{fs:List Frame}{Φ:End->Shared->Prop}{K:Flow->Sem Fin}{Hh:Value->Sem Fin}{gd:Bool->Bool}{lv:List Value->List Value}{tst:Expr}{b o:List Stmt}{r:Bool}
   (he:aY (B0 B) fiG env)(hc:env.cells=[])(R:ah (A.over c fs) 3)(I:Inv (B0 B) [] s)(F:aA s [] σ env (B0 B))
   (hx:Tst (B0 B) fiG 3 NoE tst σ [] (λv H=>H=[]/\v=r))
   (h:∀s',aA s' [] σ env (B0 B)->bO B [] s s'->bK s' fs (model B.prog B.w) A c Φ ((execs (if r then b else o) env).wrap K Hh gd lv)):bK s fs (model B.prog B.w) A c Φ ((exec (.If tst b o pos) env).wrap K Hh gd lv):=by
 refine aFi (wpT (hx (A.over c fs) s env he R I F) (λv s' H' tr q=>?_));obtain ⟨rfl,rfl⟩:=q;exact h s' (F.tr I tr) (bO.of_tr0 I tr)
theorem j1 {c:Code}{fs:List Frame}{K:Flow->Sem Fin}{Hh:Value->Sem Fin}{gd:Bool->Bool}{lv:List Value->List Value}{y:Expr}{ypos:Pos}{s₀:Shared}{tk:Nat×List Nat}{rest:List (Nat×List Nat)}{ws ws':List Addr}
   (he:aY (B0 B) fiG env)(hc:env.cells=[])(R:ah (A.over c fs) 3)(I:Inv (B0 B) [] s)(F:aA s [] σ env (B0 B))(hfs:splitAtGen fs=none)(hgd:gd false=false)(hfg:fs.any Frame.guarded=false)(hw:env.locals∈ws)
   (hr:bO B ws s₀ s)(hl:∀s',aA s' [] σ env (B0 B)->bO B [] s s'->∀a∈ws',(a∈ws\/s₀.heap.objs.size<=a)/\∃o,s'.heap.get? a=some o/\bT o)
   (hx:Ev NoE (B0 B) 3 fiG σ [] y (λv H=>H=[]/\v=fV tk))
   (h:∀s' s'',aA s' [] σ env (B0 B)->bO B [] s s'->jP B ws' s' s''->bK s'' fs (model B.prog B.w) A c (pP B A rest ws' s'') (K .next)) :
   bK s fs (model B.prog B.w) A c (pP B A (tk::rest) ws s₀) ((exec (.Expr (.Yield (some y) ypos) pos) env).wrap K Hh gd lv):=by
 refine Dx hfs hgd hfg (wpE (hx (A.over c fs) s env he R I F) (λv s' p H' tr r q=>?_)) (by rw [he.scope];exact he.coro) (by unfold interactive;rw [he.kindF];rfl);obtain ⟨rfl,rfl⟩:=q;intro g l p k hk hq;have F':=F.tr I tr;have G:=bO.of_tr0 I tr;exact ⟨v,g,l,k,c,p,fs,ws',rfl,hq,r,hr.trans (G.mono (by simp)),hl s' F' G,λs'' ls=>hk _ s'' (h s' s'' F' G ls)⟩
end
section
variable {t:Tok}
theorem tv:Ω "\\" = (⟨#[92]⟩:Str):=by decide +kernel
theorem aC2 (c:Nat):decide ((⟨#[c]⟩:Str)=⟨#[92]⟩)=decide (c=92):=by
 by_cases h:c=92
 . subst h;simp
 . rw [decide_eq_false h,decide_eq_false];intro q;injection q with q;simp at q;exact h q
theorem GAt.nil {e it:Addr}{p esc ch:Option PV}(g:GAt i t it e s B env x p ch esc)(r:bO B [] s s')(F:aA s' [] (stG x p esc ch) env (B0 B)):GAt i t it e s' B env x p ch esc:=g.frm (r.mono (by simp)) F
theorem zv {fs:List Frame}{e it:Addr}(he:aY (B0 B) fiG env)(hc:env.cells=[])(ha:x.cps.all (· < 128)=true)(hfs:splitAtGen fs=none)(hfg:fs.any Frame.guarded=false)
   (R:ah (A.over (.forLoop (au sH) (.ref e) (ak sH) [] env) fs) 3)
   (hend:∀ws s₀ s esc p ch,bO B ws s₀ s->env.locals∈ws->aA s [] (stG x (some p) (some (.bool esc)) ch) env (B0 B)->Inv (B0 B) [] s->(esc=true->p=.int ((x.cps.size-1:Nat)))->cN (some p)->cN ch->
     bK s fs (model B.prog B.w) A (.block [] env) (pP B A (aU x.cps.size esc []) ws s₀) (leafOf (.ok .next))) :
   ∀k i esc p ch ws s₀ s,i+k=x.cps.size->bO B ws s₀ s->env.locals∈ws->(∀a∈gws env e it,a∈ws\/s₀.heap.objs.size<=a)->Inv (B0 B) [] s->GAt i t it e s B env x (some p) ch (some (.bool esc))->(esc=true->p=.int ((i-1:Nat)))->cN (some p)->cN ch->
     bK s fs (model B.prog B.w) A (.forLoop (au sH) (.ref e) (ak sH) [] env) (pP B A (aU i esc (x.cps.toList.drop i)) ws s₀) ((model B.prog B.w).den (.forLoop (au sH) (.ref e) (ak sH) [] env)):=by
 intro k
 induction k with
 | zero=>
   intro i esc p ch ws s₀ s hk hr hw hws I g hp pp pc;obtain rfl:i=x.cps.size:=hk;have hd:x.cps.toList.drop x.cps.size=[]:=List.drop_eq_nil_iff.mpr (Ab _);obtain ⟨elts,k,pos,ht⟩:=aB6;refine lX (wpm (mO (elts:=elts) (k:=k) (pos:=pos) ha R.handled I g) (λr s₁ h₁=>?_));rw [hd] at h₁ ⊢;obtain ⟨rfl,G₁⟩:=h₁;have F₁:=g.frame.glater (ws:=[env.locals]) (.head _) (G₁.later g.notin) (gH pp fD pc);exact hend ws s₀ s₁ esc p ch (hr.ext G₁ λa ha=>hws a (.tail _ ha)) hw F₁ G₁.inv hp pp pc
 | succ k ih=>
   intro i esc p ch ws s₀ s hk hr hw hws I g hp pp pc;have hi:i<x.cps.size:=hk▸AE (AB k);have hk1:i+1+k=x.cps.size:=(A8 i k).trans hk;have hd:x.cps.toList.drop i=x.cps[i]::x.cps.toList.drop (i+1):=BH hi;generalize hcc:x.cps[i]=c at hd;obtain ⟨elts,kk,pos,ht⟩:=aB6;refine lX (wpm (mO (elts:=elts) (k:=kk) (pos:=pos) ha R.handled I g) (λr s₁ h₁=>?_));rw [hd] at h₁ ⊢;obtain ⟨v,rfl,h₁⟩:=h₁;dsimp only;rw [ht];refine wpm h₁ (λO s₂ hh1=>?_);obtain ⟨G₂,vr,hen,hit⟩:=hh1;have F₂:=g.frame.glater (ws:=[env.locals]) (.head _) (G₂.later g.notin) (gH pp fD pc);rw [<-ht];refine wpm (uB (d:=3) (A.over _ fs) s₂ env he R G₂.inv F₂ v vr) (λO s₃ hh1=>?_);obtain ⟨σ',H',tr,F₃,q⟩:=hh1;obtain ⟨rfl,rfl⟩:=q;have one:∀a∈[env.locals],a∈ws:=λa h=>msp h▸hw;have zero:∀{ws:List Addr},∀a∈([]:List Addr),a∈ws:=λa h=>(by cases h);have G₃:=bO.of_tr G₂.inv hc (ws:=[env.locals]) (.head _) tr;have g₂:GAt (i+1) t it e s₂ B env x (some p) ch (some (.bool esc)):=⟨F₂,hen,hit,g.ne,g.ne1,g.ne2,g.ge,g.gi,hi⟩;have g₃:=g₂.frm G₃ F₃;have hr₃:bO B ws s₀ s₃:=(hr.ext G₂ λa ha=>hws a (.tail _ ha)).trans (G₃.mono one);refine c6 ?_;refine tp (r:=esc) he hc R G₃.inv F₃ ?_ λs₄ F₄ G₄=>?_
   . ext
     exact ⟨rfl,rfl⟩
   have g₄:=g₃.nil G₄ F₄;have hr₄:=hr₃.trans (G₄.mono zero)
   have loose:∀{s s':Shared} {p esc ch:Option PV} {i:Nat},GAt i t it e s B env x p ch esc->∀(ws:List Addr) (s₀:Shared),(∀a∈gws env e it,a∈ws\/s₀.heap.objs.size<=a)->aA s' [] (stG x p esc ch) env (B0 B)->bO B [] s s'->∀a∈gws env e it,(a∈ws\/s₀.heap.objs.size<=a)/\∃o,s'.heap.get? a=some o/\bT o:=
     λg ws s₀ hws F G a ha=>⟨hws a ha,(g.nil G F).loose a ha⟩
   cases esc with
   | true=>
     have htk:aU i true (c::x.cps.toList.drop (i+1))=(i,[92,c])::aU (i+1) false (x.cps.toList.drop (i+1)):=rfl;rw [htk,if_pos rfl];refine c6 (j1 (ws':=gws env e it) he hc R G₄.inv F₄ hfs rfl hfg hw hr₄ (λs' F' G=>loose g₄ ws s₀ hws F' G) ?_ λs' s'' F' G ls=>?_)
     . ext
       refine sF (bl rfl) ?_;ext;exact ⟨rfl,by rw [tv];rfl⟩
     . have g'':=(g₄.nil G F').later ls dD fD dB
       refine c6 (jC (Qn:=λσ'=>σ'=stG x (some (.int i)) (some (.bool false)) (some (.str ⟨#[c]⟩))) he hc R ls.inv g''.frame ?_ λσ' s₆ hq F₆ G₆=>?_)
       . ext
         exact ⟨rfl,rfl⟩
       . subst hq
         exact i7 rfl (ih (i+1) false (.int i) _ (gws env e it) s'' s₆ hk1 (G₆.mono λa h=>msp h▸.head _) (.head _) (λa ha=>.inl ha) G₆.inv (g''.frm G₆ F₆) (λh=>(by cases h)) dD dB)
   | false=>
     rw [if_neg B9];refine c6 (tp (r:=decide (c=92)) he hc R G₄.inv F₄ ?_ λs₅ F₅ G₅=>?_)
     . ext
       exact ⟨rfl,by rw [tv];exact aC2 c⟩
     have g₅:=g₄.nil G₅ F₅;have hr₅:=hr₄.trans (G₅.mono zero);by_cases h92:c=92
     . rw [decide_eq_true h92,if_pos rfl]
       have htk:aU i false (c::x.cps.toList.drop (i+1))=aU (i+1) true (x.cps.toList.drop (i+1)):=eV.trans (if_pos h92);rw [htk];refine c6 (jC (Qn:=λσ'=>σ'=stG x (some (.int i)) (some (.bool true)) (some (.str ⟨#[c]⟩))) he hc R G₅.inv F₅ ?_ λσ' s₆ hq F₆ G₆=>?_)
       . ext
         exact ⟨rfl,rfl⟩
       . subst hq
         exact i7 rfl (ih (i+1) true (.int i) _ ws s₀ s₆ hk1 (hr₅.trans (G₆.mono one)) hw hws G₆.inv (g₅.frm G₆ F₆) (λO=>rfl) dD dB)
     . rw [decide_eq_false h92,if_neg B9]
       have htk:aU i false (c::x.cps.toList.drop (i+1))=(i,[c])::aU (i+1) false (x.cps.toList.drop (i+1)):=eV.trans (if_neg h92);rw [htk];refine c6 (j1 (ws':=gws env e it) he hc R G₅.inv F₅ hfs rfl hfg hw hr₅ (λs' F' G=>loose g₅ ws s₀ hws F' G) ?_ λs' s'' F' G ls=>?_)
       . ext
         exact ⟨rfl,rfl⟩
       . have g'':=(g₅.nil G F').later ls dD fD dB
         exact i7 rfl (ih (i+1) false (.int i) _ (gws env e it) s'' s'' hk1 (.refl ls.inv) (.head _) (λa ha=>.inl ha) ls.inv g''  (λh=>(by cases h)) dD dB)
end
section
variable {t:Tok}
theorem v1 (R:ah A (d+1)):ah (A.over (.func body env) []) d:=by
 refine ⟨R.handled,?_,?_⟩
 . have:=R.depth
   show A.depth+frameCount []+(Code.func body env).weight+d<_;have h1:frameCount []=0:=rfl;have h2:(Code.func body env).weight=1:=rfl
   lia
 . have:=R.units
   show A.units+unitsOf []+(Code.func body env).cUnits+8*d+100<_;have h1:unitsOf []=0:=rfl;have h2:(Code.func body env).cUnits=3:=rfl
   lia
theorem v2 {body':List Stmt}{it:Value}{k:Result->Sem Fin}{l:List Value}{p:Pos}{kp:List Value}(R:ah A (d+2)):ah (A.over (.forLoop tgt it body [] env) [.ret k none false l (.func body' env) p kp]) d:=by
 refine ⟨R.handled,?_,?_⟩
 . have:=R.depth
   show A.depth+frameCount [(Code.func body' env,p)]+(Code.forLoop tgt it body [] env).weight+d<_;have h1:frameCount [(Code.func body' env,p)]=1:=rfl;have h2:(Code.forLoop tgt it body [] env).weight=0:=rfl
   lia
 . have:=R.units
   show A.units+unitsOf [(Code.func body' env,p)]+(Code.forLoop tgt it body [] env).cUnits+8*d+100<_;have h1:unitsOf [(Code.func body' env,p)]=3:=rfl;have h2:(Code.forLoop tgt it body [] env).cUnits=0:=rfl
   lia
theorem CO {p esc ch:Option PV}(he:aY (B0 B) fiG env)(ha:x.cps.all (· < 128)=true)(R:ah A 3)(I:Inv (B0 B) [] s)(F:aA s [] (stG x p esc ch) env (B0 B)){func:Expr}{args:List Expr}(hp:args.all ax=true)
   (hf:Ev NoE (B0 B) 3 fiG (stG x p esc ch) [] func λf H₁=>f=.raw (.type "enumerate")/\H₁=[])(hargs:EvL (B0 B) fiG 3 NoE args (stG x p esc ch) [] λvs H₁=>vs=[.str x]/\H₁=[])
   (hev:∀env,eval (.Call func args [] pos) env=(do callWith pos (<-eval func env) [] (backTo pos (starEach args env)) (backToKw pos (keywordEach [] env)))) :
   wpAny (model B.prog B.w) A (eval (.Call func args [] pos) env) (λv s₁=>wpAny (model B.prog B.w) A (pyIter v) (λitv s₂=>∃e it t,itv=.ref e/\bO B [] s s₂/\GAt 0 t it e s₂ B env x p ch esc/\s.heap.objs.size<=e/\s.heap.objs.size<=it) NoE s₁) NoE s:=by
 refine Call_ (wpm (hf A s env he R I F) (λfv s₁ hh1=>?_)) (hev env);obtain ⟨f,H₁,t₁,q₁,e1,e2⟩:=hh1;subst e1 e2;obtain ⟨O,rfl⟩:=q₁.inv;have F₁:=F.tr I t₁;refine bD (ar hp (wpm (ay hargs hp A s₁ env he R t₁.inv F₁) (λvs s₂ hh1=>?_)));obtain ⟨ps,H₂,t₂,l₂,q₂,e3,e4⟩:=hh1;refine ⟨λQ' hQ=>wpAny_pure (hQ _),?_⟩;subst e3 e4;have F₂:=F₁.tr t₁.inv t₂;obtain ⟨va,rfl,r⟩:=q₂.one
 cases r with
 | str _ t=>
   show wpAny (model B.prog B.w) A (call (.type "enumerate") [.str x t]) _ NoE s₂;refine call_enumerate_str λh' hE hI hsz hk=>?_;refine wpAny_pyIter_enum hE ?_;have hz:s₂.heap.objs.size<=h'.objs.size:=by rw [hsz];exact Ad _ _
   have t₃:=Tr.kept (t:=s₂.toks) t₂.inv hk hz;have T:=(t₁.trans t₂).trans t₃;have hs:s.heap.objs.size<=s₂.heap.objs.size:=(t₁.trans t₂).step.size;have hty:strIterType x = "str_ascii_iterator":=by unfold strIterType;rw [if_pos ha]
   rw [hty] at hI;have hl:env.locals<s₂.heap.objs.size:=by obtain ⟨m,hns,O⟩:=F₂.ns;exact hns.lt
   refine ⟨_,_,t,rfl,bO.of_tr0 I T,⟨F₂.tr t₂.inv t₃,⟨_,hE⟩,hI,Nat.succ_ne_self _,A4 (Nat.lt_succ_of_lt hl),A4 hl,ntr t₂.inv.size (Ax _),t₂.inv.size,Ae _⟩,ntr hs (Ax _),hs⟩
theorem vh (he:aY (B0 B) fiG env)(hc:env.cells=[])(ha:x.cps.all (· < 128)=true)(R:ah A 5)(I:Inv (B0 B) [] s)(F:aA s [] (stG x none none none) env (B0 B)) :
   bK s [] (model B.prog B.w) A (.func (a8 (aL cA)) env) (pP B A (aU 0 false x.cps.toList) [env.locals] s) ((model B.prog B.w).den (.func (a8 (aL cA)) env)):=by
 have R0:ah (A.over (.func (a8 (aL cA)) env) []) 3:=v1 (R.le ∅);refine Fh ?_;refine c6 (jC (Qn:=λσ'=>σ'=stG x (some (.int (0:Nat))) none none) he hc R0 I F ?_ λσ' s₁ hq F₁ G₁=>?_)
 . ext
   exact ⟨rfl,rfl⟩
 subst hq;refine c6 (jC (Qn:=λσ'=>σ'=stG x (some (.int (0:Nat))) (some (.bool false)) none) he hc R0 G₁.inv F₁ ?_ λσ' s₂ hq F₂ G₂=>?_)
 . ext
   exact ⟨rfl,rfl⟩
 subst hq;refine c6 (aA7 (λO=>rfl) (wpm (CO he ha R0 G₂.inv F₂ ?_ ?_ ?_ ?_) (λv s₃ h₃=>wpm h₃ (λitv s₄ hh1 p=>?_))))
 . rfl
 . ext
   exact ⟨rfl,rfl⟩
 . ext
   exact ⟨rfl,rfl⟩
 . intro _;rfl
 obtain ⟨e,it,t,e1,G₄,g₄,ge,gi⟩:=hh1;subst e1;have G:bO B [env.locals] s s₄:=(G₁.trans G₂).trans (G₄.mono (by simp));have hs:s.heap.objs.size<=s₂.heap.objs.size:=(G₁.trans G₂).size;show bK _ _ _ _ _ (pP B A (aU 0 false (x.cps.toList.drop 0)) [env.locals] s) _
 refine zv (t:=t) he hc ha ?_ ?_ (v2 (R.le ∅)) ?_ x.cps.size 0 false (.int (0:Nat)) none [env.locals] s s₄ (Aj _) G (.head _) (λa ha=>by
   simp only [gws,List.mem_cons,Bo,or_false] at ha;rcases ha with rfl | rfl | rfl
   . exact .inl (by simp)
   . exact .inr (ntr hs ge)
   . exact .inr (ntr hs gi)) G₄.inv g₄ (λh=>(by cases h)) dD fA
 . rfl
 . rfl
 . intro ws s₀ s₅ esc p ch hr hw F₅ I₅ hp pp pc
   refine Es (.ok .next) ?_;refine c6 (tp (r:=esc) he hc R0 I₅ F₅ ?_ λs₆ F₆ G₆=>?_)
   . ext
     exact ⟨rfl,rfl⟩
   have hr₆:=hr.trans (G₆.mono (by simp))
   cases esc with
   | true=>
     have hp':=hp rfl;subst hp';rw [if_pos rfl];have htk:aU x.cps.size true []=[(x.cps.size-1,[92])]:=rfl;rw [htk];refine c6 (j1 (ws':=[]) he hc R0 G₆.inv F₆ rfl rfl rfl hw hr₆ (λs' F' G a ha=>(by cases ha)) ?_ λs' s'' F' G ls=>?_)
     . ext
       exact ⟨rfl,by rw [tv];rfl⟩
     . exact zp (.ok (.ret .none)) ⟨rfl,.refl ls.inv⟩
   | false=>
     rw [if_neg B9];exact zp (.ok (.ret .none)) ⟨rfl,hr₆⟩
end
section
variable {t:Tok}
theorem rC {a:Array GenState}{g:Nat}{y:GenState}(h:AllBare a)(hy:y.bare=true):AllBare (a.setIfInBounds g y):=λz hz=>by
 obtain ⟨i,hi,rfl⟩:=Array.mem_iff_getElem.mp hz;simp only [Array.size_setIfInBounds] at hi;rw [Array.getElem_setIfInBounds];split
 . exact hy
 . exact h _ (Array.getElem_mem hi)
 . exact hi
theorem lS {g:Nat}{y z:GenState}(h:s.gens[i]?=some z)(hne:i≠g):(s.setGen g y).gens[i]?=some z:=by
 simp [Shared.setGen,Ne.symm hne,h]
theorem Inv.gen {g:Nat}{y:GenState}(I:Inv B H s)(hy:y.bare=true):Inv B H (s.setGen g y):=⟨I.keep,I.size,I.tabs,rC I.bare hy,I.os,I.nodup,I.hid,I.objs⟩
inductive JG (B:aJ)(A:Around)(a:Addr)(g:Nat)(W:Addr->Prop)(items:List PV)(H:AH)(s:Shared):Prop
 | mk (rest:List (Nat×List Nat)) (ws:List Addr) (gs:GenState) (hi:items=rest.map fV) (hW:W=(λp=>p=a\/p∈ws)) (hg:s.heap.IsGen a g) (hgs:s.gens[g]?=some gs) (ha:a∉ws)
   (ho:∀p∈ws,Own B H p/\∃o,s.heap.get? p=some o/\bT o) (hgo:∀s'',jP B ws s s''->vU (model B.prog B.w) A.in1 (pP B A.in1 rest ws s'') gs s'')
theorem VR.up0 {v:Value}{tk:Nat×List Nat}(I:Inv B H s)(r:VR s.heap (Trk [] (B0 B)) v (fV tk)):VR s.heap (Trk H B) v (fV tk):=by
 obtain ⟨a,vs,n,rfl,ho,hn,hs⟩:=r.inv;obtain ⟨u,w,he,h1,h2⟩:=hs.two;refine .tup ho (λq=>?_) (he▸.cons (dD _ rfl h1) (.cons (dB _ rfl h2) .nil));rcases q with q | q | q
 . obtain ⟨p,hp,rfl⟩:=mmp q
   obtain ⟨O,vs,n,e,O⟩:=I.objs p hp;exact absurd (Value.type.inj (congrArg Obj.cls (Option.some.inj (e.symm.trans ho)))) ∅
 . exact iC I ho (by (intros;first | contradiction | (intro q;cases q))) q
 . exact hn (.inr (.inr q))
theorem De {g:Nat}(hg:h.IsGen a g)(k:∀o,h.get? a=some o->h'.get? a=some o):h'.IsGen a g:=by
 obtain ⟨o,nm,qn,e,r⟩:=hg;exact ⟨o,nm,qn,k o e,r⟩
theorem aBk {g:Nat}(hg:h.IsGen a g):a<h.objs.size:=by
 obtain ⟨o,nm,qn,e,r⟩:=hg;exact Heap.lt_size e
theorem Dm {g:Nat}(hg:h.IsGen a g)(e:h.get? a=some o):¬a9 o:=by
 obtain ⟨o',nm,qn,e',O,hd,O⟩:=hg;cases e'.symm.trans e
 rintro ⟨_,_,q⟩
 exact (by cases (hd.symm.trans q))
section
variable {ws:List Addr}{g:Nat}(I:Inv B H s)(ho:∀p∈ws,Own B H p/\∃o,s.heap.get? p=some o/\bT o)
include I ho
theorem JG.only {h':Heap}{y:GenState}(G:bO B ws (s.setGen g .running) s₁)(hk:∀b o,s₁.heap.get? b=some o->h'.get? b=some o)(hz:s₁.heap.objs.size<=h'.objs.size)(hy:y.bare=true) :
   cL { s₁.setGen g y with heap:=h' } (·=g) s H B (λp=>p=a\/p∈ws):=by
 have o:=cL.make (B:=B) (H:=H) (P:=(·∈ws)) (G:=(·=g)) (s:=s) (s':={ s₁.setGen g y with heap:=h' }) I (λb ob e hn=>hk b ob (G.heap b ob e hn)) (ntr G.size hz) (λp hp=>(ho p hp).1)
   (λp hp o e=>by obtain ⟨O,o',e',hl⟩:=ho p hp;exact Option.some.inj (e'.symm.trans e)▸hl)
   (λi z e hne=>lS (G.gens i z (lS e hne)) hne) ?_ (rC G.inv.bare hy) (G.inv.os.trans I.os.symm)
 . exact ⟨o.inv,λb ob e hn=>o.heap b ob e λq=>hn (.inr q),o.size,o.gens,o.gsize⟩
 . have h:=G.gsize
   rw [show (s.setGen g .running).gens.size=s.gens.size from Array.size_setIfInBounds] at h;exact ntr h (Ac Array.size_setIfInBounds.symm)
theorem JG.susp {gs:GenState}(hg:s.heap.IsGen a g)(hgs:s.gens[g]?=some gs)(ha:a∉ws){tk:Nat×List Nat}{r:List (Nat×List Nat)}{e:End}(h:aFe B A.in1 tk (λws' s''=>pP B A.in1 r ws' s'') ws (s.setGen g .running) e s₁) :
   ∃v g₀ l k c p fs,e=.susp v g₀ l k c p fs/\∃v',some v=some v'/\wpAny (model B.prog B.w) A (letOwnedTupleGo tgt (.ref a) v') (λO s₂=>cL s₂ (·=g) s H B (λp=>p=a\/p∈ws)/\VR s₂.heap (Trk H B) v' (fV tk)/\
       ∃W':Addr->Prop,(∀p,W' p->(p=a\/p∈ws)\/(s.heap.objs.size<=p/\p<s₂.heap.objs.size))/\JG B A a g W' (r.map fV) H s₂) NoE (s₁.setGen g e.genState):=by
 obtain ⟨v,g₀,l,k,c,p,fs,ws',he,hq,vr,G,hws,hgo₁⟩:=h;subst he;have O:cL (s₁.setGen g (End.susp v g₀ l k c p fs).genState) (·=g) s H B (λp=>p=a\/p∈ws):=JG.only I ho G (λO O e=>e) (Ab _) (End.bare_of_quiet hq);have hg':(s₁.setGen g (End.susp v g₀ l k c p fs).genState).heap.IsGen a g:=De hg λo e=>G.heap a o e ha;obtain ⟨og,nm,qn,eg,cg,rg⟩:=id hg';refine ⟨v,g₀,l,k,c,p,fs,rfl,v,rfl,dQ eg cg rfl ⟨O,VR.up0 O.inv vr,λp=>p=a\/p∈ws',λp hp=>?_,r,ws',_,rfl,rfl,hg',setGen_self (gs:=.running) (G.gens g _ (setGen_self hgs)),λq=>(hws a q).1.elim ha λq=>absurd (aBk hg) (nlr q),λp hp=>?_,λs'' ls=>hgo₁ s'' ⟨ls.inv,ls.own⟩⟩⟩
 . rcases hp with rfl | hp
   . exact .inl (.inl rfl)
   . obtain ⟨q,o,eo,O⟩:=hws p hp
     exact q.imp .inr λq=>⟨q,Heap.lt_size eo⟩
 . have x:=hws p hp
   exact ⟨x.1.elim (λq=>(ho p q).1) λq=>⟨ntr I.size q,λt=>absurd (d2 I t) (nlr q)⟩,x.2⟩
end
theorem GK (tgt:Expr)(a:Addr)(g:Nat):qH B A [] tgt (.ref a) (·=g) (JG B A a g) where
 self:=λW items H s E Q j q=>by
   obtain ⟨O,O,O,O,O,hg,O,O,O,O⟩:=j;exact wpAny_pyIter_gen hg q
 notseq:=λW items H s j p hp o e=>by
   obtain ⟨O,ws,O,O,hW,hg,O,O,ho,O⟩:=j;subst hW;rcases hp with rfl | hp
   . exact Dm hg e
   . obtain ⟨O,o',e',hl⟩:=ho p hp
     exact Option.some.inj (e'.symm.trans e)▸hl.1
 stable:=λW items H s H' s' j e=>by
   obtain ⟨rest,ws,gs,hi,hW,hg,hgs,ha,ho,hgo⟩:=j;subst hW;refine ⟨rest,ws,gs,hi,rfl,De hg λo eo=>e.own a o eo (.inl rfl),e.gens g gs rfl hgs,ha,λp hp=>?_,λs'' l=>hgo s'' ⟨l.inv,λp hp o eo=>l.own p hp o (e.own p o eo (.inr hp))⟩⟩;obtain ⟨h,o,eo,hl⟩:=ho p hp;exact ⟨⟨h.1,e.trk (Heap.lt_size eo) h.2⟩,o,e.own p o eo (.inr hp),hl⟩
 next:=λW items H s j R I=>by
   obtain ⟨rest,ws,gs,hi,hW,hg,hgs,ha,ho,hgo⟩:=j;subst hW hi;refine Fv R.handled (B.nolimit.keeps I.keep) (by have:=R.depth;lia) hg hgs (hgo (s.setGen g .running) ⟨(aEv I).gen rfl,λp hp o e=>e⟩) (λe s' h=>?_) (λe s₁ h=>?_)
   . cases rest with
     | nil=>rw [h.1];rfl
     | cons tk r=>
       obtain ⟨O,O,O,O,O,O,O,O,O,hq,O⟩:=h;exact hq
   . cases rest with
     | nil=>exact .inl ⟨h.1,λh' hk hz=>⟨rfl,JG.only I ho h.2 hk hz rfl⟩⟩
     | cons tk r=>exact .inr (JG.susp I ho hg hgs ha h)
end
section
theorem zi {doc pm ct:Value}{v:Value}:b9 S [] (bindArgs (bR "_iter_escaped_chars" cA .none .none doc pm an cdv ct) ⟨[v],[]⟩)=some ([],[(Ω "addr",v)]):=by kernel_rfl
theorem eQ:(aI (aL cA)).names=[(Ω "addr",.local),(Ω "pos",.local),(Ω "escape",.local),(Ω "ch",.local),(Ω "enumerate",.globalImplicit)]:=by kernel_rfl
theorem r8:(aI (aL cA)).kind=.function:=by kernel_rfl
theorem Dp:(aI (aL cA)).isCoroutine=false:=by kernel_rfl
theorem F1:(aI (aL cA)).isGenerator=true:=by kernel_rfl
theorem Tr.gpush {y:GenState}(I:Inv B H s)(hk:∀a o,s.heap.get? a=some o->s'.heap.get? a=some o)(hz:s.heap.objs.size<=s'.heap.objs.size)(hg:s'.gens=s.gens.push y)(hy:y.bare=true)(ho:s'.os=s.os):Tr noU s' H s H B:=
 ⟨I.ext hk hz (hg▸I.bare.push hy) ho,⟨λa o e O=>hk a o e,hz,λi x e=>by
   rw [hg,Array.getElem?_push,if_neg λq=>(by cases ((q▸e).symm.trans (Array.getElem?_eq_none (Ab _))))]
   exact e⟩,λO h=>.inl h⟩
theorem jM {Q:IQ}(h:ae .none .none cA "_iter_escaped_chars" f cdv B)(ge:aH B "enumerate" (.raw (.type "enumerate")))(ha:x.cps.all (· < 128)=true)
   (q:Q ((aU 0 false x.cps.toList).map fV) [] H):iO B (d+7) E tgt (.raw (.ref f)) [.str x] H Q:=λA s R I fv vs r1 r2=>by
 obtain ⟨O,rfl⟩:=r1.inv;obtain ⟨v,rfl,r⟩:=r2.one
 cases r with
 | str _ tx=>
 obtain ⟨oc,od,osl,doc,pm,an,ct,ho⟩:=h.at_;refine wpAny_call (codeAny_call_generator (by have:=R.depth;lia) (I.keep _ _ ho) rfl Dp F1 rfl (h.code.keeps I.keep) ?_);refine b8 (os:=[]) zi (by simp) ?_;refine wpAny_newFunctionEnv_cells r8 (λe he=>?_) λenv he s₁ ic=>⟨(B.nolimit.keeps I.keep).keeps ic.toInCall.keep,?_⟩
 . rw [msp he]
   exact .inl (by show (aI (aL cA)).names.lookup _=_;rw [eQ];simp [List.lookup])
 . have fd:GS (B0 B) [] s fiG (stG x none none none) env s₁:=by
     subst he;exact Ga (bs:=[(Ω "addr",.str x)]) rfl rfl rfl (aEv I) ic (by rw [eQ];decide +kernel) (by rw [eQ];decide +kernel) (by rw [eQ];exact .arg (.head _) (.inl rfl) (.unset (.unset (.unset (.glob ge .nil))))) (List.nodup_cons.mpr ⟨Bo,List.nodup_nil⟩) ⟨.cons (.str _ _) .nil,rfl⟩ rfl rfl rfl rfl (λO O e=>(by cases e)) r8 Dp
   have hloc:=fd.loc
   have hcells:env.cells=[]:=by
     rw [he];show cellsFrom (s.heap.objs.size+1) (aI (aL cA)).names []=[];rw [eQ];rfl
   obtain ⟨h',tk,hs₁,O⟩:=ic.toInCall.done;have hl₁:s.heap.objs.size<s₁.heap.objs.size:=Ai ic.toInCall.fresh ic.toInCall.ns.lt;have t₁:Tr noU s₁ H s H B:=Tr.ext I ic.toInCall.keep (Ah hl₁) (by rw [hs₁]) (by rw [hs₁]);generalize hs₂:({ s₁ with gens:=s₁.gens.push (.fresh (.func (a8 (aL cA)) env)),toks:=s₁.toks+1+1,heap:=s₁.heap.push { cls:=.type "generator",data:=.fields #[.int s₁.gens.size 0,.str (bR "_iter_escaped_chars" cA .none .none doc pm an cdv ct).name s₁.toks,.str (bR "_iter_escaped_chars" cA .none .none doc pm an cdv ct).qualname (s₁.toks+1)] } }:Shared)=s₂;have hh₂:s₂.heap=s₁.heap.push { cls:=.type "generator",data:=.fields #[.int s₁.gens.size 0,.str (bR "_iter_escaped_chars" cA .none .none doc pm an cdv ct).name s₁.toks,.str (bR "_iter_escaped_chars" cA .none .none doc pm an cdv ct).qualname (s₁.toks+1)] }:=by rw [<-hs₂]
   have hg₂:s₂.gens=s₁.gens.push (.fresh (.func (a8 (aL cA)) env)):=by rw [<-hs₂]
   have ho₂:s₂.os=s₁.os:=by rw [<-hs₂]
   have k₂:∀a o,s₁.heap.get? a=some o->s₂.heap.get? a=some o:=λa o e=>by rw [hh₂];exact Heap.get?_push_of_some _ e
   have z₂:s₂.heap.objs.size=s₁.heap.objs.size+1:=by rw [hh₂,Heap.size_push]
   have z:s₁.heap.objs.size<=s₂.heap.objs.size:=by rw [z₂];exact Ax _
   have t₂:Tr noU s₂ H s₁ H B:=.gpush t₁.inv k₂ z hg₂ rfl ho₂;have hG:s₂.heap.IsGen s₁.heap.objs.size s₁.gens.size:=⟨_,_,_,by rw [hh₂];exact Heap.get?_push_size _ rfl,rfl,rfl,rfl⟩;have hgs:s₂.gens[s₁.gens.size]?=some (.fresh (.func (a8 (aL cA)) env)):=by rw [hg₂];exact Array.getElem?_push_size ..
   have hns₂:s₂.heap.Ns env.locals (bindL env.kindOf [(Ω "addr",.str x tx)] λO=>none):=ic.toInCall.ns.at' λo e=>k₂ _ o e;have F₂:aA s₂ [] (stG x none none none) env (B0 B):=fd.frm.tr fd.tr.inv (.gpush fd.tr.inv k₂ z hg₂ rfl ho₂);refine wpAny_pyIter_gen hG ?_;have hap:env.locals<s₁.heap.objs.size:=by rw [hloc];exact hl₁
   refine ⟨_,[],H,_,(·=s₁.gens.size),JG B A s₁.heap.objs.size s₁.gens.size,t₁.trans t₂,GK tgt _ _,⟨aU 0 false x.cps.toList,[env.locals],_,rfl,rfl,hG,hgs,?_,λp hp=>?_,λs'' l=>?_⟩,λp hp=>?_,λi hi=>?_,(λO hm=>(by cases hm)),q⟩
   . intro hm
     rw [List.mem_singleton] at hm;exact absurd hap (by rw [<-hm];exact Az _)
   . rw [msp hp]
     obtain ⟨o,a1,a2,eo,r⟩:=id hns₂;refine ⟨⟨hloc▸I.size,λq=>?_⟩,o,eo,ru hns₂ o eo⟩;exact absurd (d2 I q) (by rw [hloc];exact Az _)
   . exact vh fd.eok hcells ha (⟨R.handled,by have:=R.depth;show A.depth+5<_;lia,by have:=R.units;show A.units+1+8*5+100<_;lia⟩) l.inv (F₂.glater (.head _) l (gH fA fA fA))
   . rcases hp with rfl | hp
     . exact ⟨Ah hl₁,by rw [z₂];exact Au _,λq=>absurd (d2 t₁.inv q) (Az _)⟩
     . rw [msp hp]
       exact ⟨Ac hloc.symm,by rw [z₂];exact Nat.lt_succ_of_lt hap,λq=>absurd (d2 I q) (by rw [hloc];exact Az _)⟩
   . subst hi
     exact ⟨jJ t₁,by rw [hg₂,Array.size_push];exact Au _⟩
end
noncomputable def ag (x:Str):List (Nat×List Nat)->Nat->Option Nat->List Str->List Str
 | [],st,_,acc=>if st<x.length then acc++[aw x (some st) none none] else acc
 | (p,s)::r,st,o,acc=>if s=[34] then (match o with
     | none=>ag x r st (some p) acc
     | some op=>ag x r (p+1) none (if st≠op then acc++[aw x (some st) (some op) none] else acc)) else ag x r st o acc
section
variable {p st op:Nat}{o:Option Nat}{s:List Nat}{r:List (Nat×List Nat)}{acc:List Str}
theorem dy:ag x [] st o acc=if st<x.length then acc++[aw x (some st) none none] else acc:=rfl
theorem b7 (h:s≠[34]):ag x ((p,s)::r) st o acc=ag x r st o acc:=if_neg h
theorem ew (h:s=[34]):ag x ((p,s)::r) st none acc=ag x r st (some p) acc:=if_pos h
theorem iH (h:s=[34])(e:st=op):ag x ((p,s)::r) st (some op) acc=ag x r (p+1) none acc:=(if_pos h).trans (congrArg (ag x r (p+1) none) (if_neg λn=>n e))
theorem ja (h:s=[34])(e:¬st=op):ag x ((p,s)::r) st (some op) acc=ag x r (p+1) none (acc++[aw x (some (st:Int)) (some (op:Int)) none]):=(if_pos h).trans (congrArg (ag x r (p+1) none) (if_pos e))
end
noncomputable def dj (x:Str):Str:=if Txt.contains x ⟨#[34]⟩=true then Txt.join ⟨#[]⟩ (ag x (aU 0 false x.cps.toList) 0 none []) else x
theorem dh:∀(l:List Nat) (i:Nat) (e:Bool),(aU i e l).length<=l.length+1
 | [],_,true=>Ab 1
 | [],_,false=>Ae 1
 | _::r,i,true=>Ag (dh r (i+1) false)
 | c::r,i,false=>by
   by_cases h:c=92
   . rw [eV,if_pos h];exact Ay (dh r (i+1) true)
   . rw [eV,if_neg h];exact Ag (dh r (i+1) false)
section
theorem cf {fd:FuncData}{nm:Str}{a:PV}(hf:∀(S:Setting) v,b9 S [] (bindArgs fd ⟨[v],[]⟩)=some ([],[(nm,v)])):cI B fd [a] [] H [(nm,a)]:=λA s I vs kvs h1 h2 E Q hQ=>by
 obtain ⟨v,rfl,r1⟩:=h1.one;rw [h2.nil];exact b8 (os:=[]) (hf _ v) (by simp) (hQ _ (.cons r1 .nl))
theorem sJ {fd:FuncData}{n1 n2:Str}{a b:PV}(hf:∀(S:Setting) v w,b9 S [] (bindArgs fd ⟨[v,w],[]⟩)=some ([],[(n1,v),(n2,w)])):cI B fd [a,b] [] H [(n1,a),(n2,b)]:=λA s I vs kvs h1 h2 E Q hQ=>by
 obtain ⟨v,w,rfl,r1,r2⟩:=h1.two;rw [h2.nil];exact b8 (os:=[]) (hf _ v w) (by simp) (hQ _ (.cons r1 (.cons r2 .nl)))
theorem hY {f:PV}{args:List PV}{kw:List (Str×PV)}(h:aM kw E H B d f args λv H'=>∃e H'',H'=e::H''/\Q v H''):aM kw E H B d f args Q:=λA s R I fv vs kvs h1 h2 h3=>
 wpm (h A s R I fv vs kvs h1 h2 h3) (λr s' p=>by
   obtain ⟨v,H',t,r',e,H'',eq,q⟩:=p;subst eq
   exact ⟨v,H'',t.drop_key,r'.drop_key,q⟩)
end
section
variable {cdv':Value}
theorem kl {doc pm ct:Value}{v:Value}:b9 S [] (bindArgs (bR "_strip_quoted_realnames" gy .none .none doc pm an cdv ct) ⟨[v],[]⟩)=some ([],[(Ω "addr",v)]):=by kernel_rfl
theorem nV:bV [Ω "addr"] (aI (aL gy))=true:=by decide +kernel
noncomputable abbrev stS (x:Str)(st op res pos ch:Option PV)(g:Addr):St:=[(Ω "addr",.local,some (.str x)),(Ω "start",.local,st),(Ω "open_pos",.local,op),(Ω "result",.local,res),(Ω "pos",.local,pos),(Ω "ch",.local,ch),
 (Ω "_iter_escaped_chars",.globalImplicit,some (.raw (.ref g))),(Ω "len",.globalImplicit,some (.raw (.builtin "len")))]
theorem mJ {g:Addr}(gi:aH B "_iter_escaped_chars" (.raw (.ref g)))(gl:aH B "len" (.raw (.builtin "len"))):Ini B [(Ω "addr",.str x)] (aI (aL gy)).names (stS x none none none none none g):=by
 refine .arg (by walk_at "mm") (.inl rfl) (.unset (.unset (.unset (.unset (.unset (.glob gi (.glob gl .nil)))))))
theorem jT:Ω "\"" = (⟨#[34]⟩:Str):=by decide +kernel
theorem pO (s:List Nat)(c:Nat):decide ((⟨s.toArray⟩:Str)=⟨#[c]⟩)=decide (s=[c]):=by
 by_cases h:s=[c]
 . subst h;simp
 . rw [decide_eq_false h,decide_eq_false];intro q;injection q with q;apply h;simpa using congrArg Array.toList q
noncomputable abbrev aB8:Stmt:=((a8 (aL gy))[4]?).getD (.Pass default)
noncomputable abbrev vN:Option Nat->PV
 | none=>.none
 | some n=>.int n
theorem wd {g:Addr}(hx:x.length<=4096):∀(toks:List (Nat×List Nat)) (st:Nat) (o:Option Nat) (acc:List Str) (pos ch:Option PV),st<=5000->(∀t∈toks,t.1<=4096)->(∀op,o=some op->op<=4096)->acc.length+toks.length<=5000->
   (∀st' o' acc' pos' ch',(∀y∈acc',y.length<=x.length)->st'<=5000->acc'.length<=5000->ag x toks st o acc=ag x [] st' o' acc'->Qn (stS x (some (.int (st':Nat))) (some (vN o')) (some (.lref a)) pos' ch' g) ((a,acc'.map PV.str)::H))->(∀y∈acc,y.length<=x.length)->
   d6 B (gR gy "_strip_quoted_realnames") d (au aB8) (ak aB8) [] (toks.map fV) (stS x (some (.int (st:Nat))) (some (vN o)) (some (.lref a)) pos ch g) ((a,acc.map PV.str)::H) Qn Qf:=by
 intro toks
 induction toks with
 | nil=>intro st o acc pos ch hst ht ho hn hq hacc;exact bp (hq st o acc pos ch hacc hst hn rfl)
 | cons t r ih=>
   intro st o acc pos ch hst ht ho hn' hq hacc;obtain ⟨p,s⟩:=t;refine ao ?_;obtain ⟨htp,ht⟩:=List.forall_mem_cons.mp ht;have ih:=λst o acc pos ch h1 h2 h3=>ih st o acc pos ch h1 ht h2 h3;have hl:=A9 (AC hn');show Asg B _ d NoE (au aB8) (.tup [.int p,.str ⟨s.toArray⟩]) _ _ _;refine' cw rfl rfl ?_;ext;refine' aE ?_;ext;rw [jT,pO];by_cases h34:s=[34]
   . refine' jq h34 ?_
     cases o with
     | none=>
       ext;refine' ifp (show iE (vN none) .none=true from rfl) ?_;ext;refine ⟨(λO h=>(by cases h)),ih st (some p) acc _ _ hst (λop e=>by cases e;exact htp) (AC hn') (λst' o' acc' pos' ch' h1 h2 h3 h4=>hq st' o' acc' pos' ch' h1 h2 h3 ((ew h34).trans h4)) hacc⟩
     | some op=>
       have hop:=ho op rfl;ext;refine' ifn (show ¬iE (vN (some op)) .none=true from B9) ?_;ext;by_cases hse:st=op
       . refine' ifn (λe=>bne_iff_ne.mp e (congrArg Int.ofNat hse)) ?_
         ext;exact ⟨(λO h=>(by cases h)),ih (p+1) none acc _ _ (ntr (Ag htp) ∅) (λop e=>(by cases e)) (AC hn') (λst' o' acc' pos' ch' h1 h2 h3 h4=>hq st' o' acc' pos' ch' h1 h2 h3 ((iH h34 hse).trans h4)) hacc⟩
       . refine' ifp (bne_iff_ne.mpr λe=>hse (Int.ofNat.inj e)) ?_
         ext;refine ⟨_,b5 (.lref mcs),?_⟩;ext;refine ⟨c5 cS,f8 ∅ (ntr hx ∅) ?_⟩;ext;refine bo .head (ntr (Ac (Bk _)) (ntr hl ∅)) ?_;ext;refine ⟨(λO h=>(by cases h)),?_⟩;rw [yD]
         exact ih (p+1) none _ _ _ (ntr (Ag htp) ∅) (λop e=>(by cases e)) (by rw [Bl,AU];exact hn') (λst' o' acc' pos' ch' h1 h2 h3 h4=>hq st' o' acc' pos' ch' h1 h2 h3 ((ja h34 hse).trans h4)) (λy hy=>by
           rcases mpp hy with h | h
           . exact hacc y h
           . rw [msp h];exact iA x _ _ _ ∅)
   . refine' iD h34 ?_
     ext;refine ⟨(λO h=>(by cases h)),ih st o acc _ _ hst ho (AC hn') (λst' o' acc' pos' ch' h1 h2 h3 h4=>hq st' o' acc' pos' ch' h1 h2 h3 ((b7 h34).trans h4)) hacc⟩
theorem fW {x:List Nat}{n:Nat}{t:Nat×List Nat}{l:List (Nat×List Nat)}(h:t=(i,x)\/t∈l)(g:t∈l->t.1<=i+1+n):t.1<=i+(n+1):=
 h.elim (λe=>e▸Ad _ _) λh=>ntr (g h) (by lia)
theorem sy:∀(l:List Nat) (i:Nat) (e:Bool),∀t∈aU i e l,t.1<=i+l.length:=by
 intro l
 induction l with
 | nil=>intro i e t h;cases e with
   | true=>rw [msp h];exact Av _ _
   | false=>cases h
 | cons c r ih=>intro i e t h;cases e with
   | true=>exact fW (mcp h) (ih (i+1) false t)
   | false=>
     by_cases e:c=92
     . rw [eV,if_pos e] at h;exact fW (x:=[]) (.inr h) (ih (i+1) true t)
     . rw [eV,if_neg e] at h;exact fW (mcp h) (ih (i+1) false t)
theorem aCu {x:Nat}:∀(l:List Str),(∀y∈l,y.length<=x)->(l.map (·.length)).sum<=l.length*x:=by
 intro l
 induction l with
 | nil=>
   intro _;simp
 | cons a r ih=>
   intro h;have:=ih λy hy=>h y (mcm _ hy);have:=h a mcs;simp only [Bs,BA,Bp,Ba,Bc];lia
theorem kR {g:Addr}(h:ae .none .none gy "_strip_quoted_realnames" f cdv B)(hg:ae .none .none cA "_iter_escaped_chars" g cdv' B)(gi:aH B "_iter_escaped_chars" (.raw (.ref g)))(gl:aH B "len" (.raw (.builtin "len")))
   (ge:aH B "enumerate" (.raw (.type "enumerate")))(ha:x.cps.all (· < 128)=true)(hx:x.length<=3000)(q:Q (.str (dj x)) H):aM [] NoE H B (d+12) (.raw (.ref f)) [.str x] Q:=by
 have hz:x.length<=sizeLine:=by rw [sizeLine_eq];(exact ntr ‹_› ∅)
 have hl:x.cps.toList.length=x.length:=rfl;by_cases hc:Txt.contains x ⟨#[34]⟩=true
 . refine hY ?_
   refine h.call (d:=d+11) (λdoc pm an ct=>cf λS v=>kl) rfl nV (mJ gi gl) ?_;refine' aE ?_;ext;refine' ifn (show ¬(!Txt.contains x (Ω "\""))=true by rw [jT,hc];exact B9) ?_;ext;refine dN ?_;refine iw λa=>?_;ext;refine ⟨aF hg,?_⟩;ext;refine jM (d:=d+4) hg ge ha ?_;refine wd (x:=x) (by lia) (aU 0 false x.cps.toList) 0 none [] none none (by with_reducible exact Ae _) (λt ht=>by have:=sy _ _ _ t ht;lia) (λO e=>(by cases e)) (by have:=dh x.cps.toList 0 false;simp only [List.length_nil];lia) ?_ (λO e=>(by cases e));intro st' o' acc' pos' ch' h1 h2 h3 h4;have hsum:=aCu acc' h1;have hmul:acc'.length*x.length<=5000*3000:=Nat.mul_le_mul h3 hx;have hres:dj x=Txt.join ⟨#[]⟩ (ag x [] st' o' acc'):=by rw [dj,if_pos hc,h4]
   have e0:(Ω "").length=0:=by decide +kernel
   ext;refine ⟨aK,?_⟩;ext;refine ip (Ai ‹_› ∅) ?_;ext;by_cases hlt:st'<x.length
   . refine' ifp (show decide ((st':Int)<(x.length:Int))=true by simp;omega) ?_
     ext;refine ⟨_,b5 (.lref mcs),?_⟩;ext;refine ⟨c5 cS,f8 (by simp) hz ?_⟩;ext;refine bo .head (by rw [Bk,sizeLine_eq];(exact ntr ‹_› ∅)) ?_;ext;refine ⟨_,cT,?_⟩;ext;have e3:acc'.map PV.str++[PV.str (aw x (some (st':Int)) none none)]=(acc'++[aw x (some (st':Int)) none none]).map PV.str:=by simp
     rw [e3];have hp:=iA x (some (st':Int)) none none (by simp);refine bu (.inr (.lref mcs)) (by rw [e0];simp only [Bq,List.sum_append,Bs,List.map_nil,BA,List.sum_nil,AR];lia) ?_;refine ⟨_,_,rfl,?_⟩;rw [hres,dy,if_pos hlt] at q;exact q
   . refine' ifn (show ¬decide ((st':Int)<(x.length:Int))=true by simp;(exact Nat.not_lt.mp ‹_›)) ?_
     ext;refine ⟨_,cT,?_⟩;ext;refine bu (.inr (.lref mcs)) (by rw [e0];lia) ?_;refine ⟨_,_,rfl,?_⟩;rw [hres,dy,if_neg hlt] at q;exact q
 . refine h.call (d:=d+11) (λdoc pm an ct=>cf λS v=>kl) rfl nV (mJ gi gl) ?_
   refine' aE ?_;ext;refine' ifp (show (!Txt.contains x (Ω "\""))=true by rw [jT];simpa using hc) ?_;ext;rw [dj,if_neg hc] at q;exact q
end
noncomputable def Asc (x:Str):Prop:=∀c∈x.cps.toList,c<128
theorem Asc.all (h:Asc x):x.cps.all (· < 128)=true:=by
 rw [<-Array.all_toList,List.all_eq_true];exact λc hc=>decide_eq_true (h c hc)
theorem Asc.pick (h:Asc x)(l u k:Option Int):Asc (aw x l u k):=by
 unfold aw;split
 . exact h
 . intro c hc
   simp only [List.mem_filterMap] at hc;obtain ⟨i,O,e⟩:=hc;exact h c (by rw [<-Array.getElem?_toList] at e;exact List.mem_of_getElem? e)
theorem Asc.add {y:Str}(hx:Asc x)(hy:Asc y):Asc (x++y):=by
 intro c hc
 have e:(x++y).cps.toList=x.cps.toList++y.cps.toList:=by
   show (x.cps++y.cps).toList=_;simp
 rw [e] at hc;rcases mpp hc with h | h
 . exact hx c h
 . exact hy c h
theorem Asc.join {s:Str}(hs:Asc s):∀{l:List Str},(∀y∈l,Asc y)->Asc (Txt.join s l):=by
 intro l h;unfold Txt.join;rw [StrLaws.glued_eq_join]
 induction l with
 | nil=>intro c hc;simp [Str.join,Str.empty] at hc
 | cons a r ih=>
   cases r with
   | nil=>exact h a mcs
   | cons b r=>exact ((h a mcs).add hs).add (ih λy hy=>h y (mcm _ hy))
theorem sL {x:Str}(hx:Asc x):∀(t:List (Nat×List Nat)) (st:Nat) (o:Option Nat) (acc:List Str),(∀y∈acc,Asc y)->∀y∈ag x t st o acc,Asc y:=by
 intro t
 induction t with
 | nil=>
   intro st o acc h y hy;rw [dy] at hy;split at hy
   . rcases mpp hy with h' | h'
     . exact h y h'
     . rw [msp h'];exact hx.pick _ _ _
   . exact h y hy
 | cons hd r ih=>
   intro st o acc h y hy;obtain ⟨p,s⟩:=hd;by_cases hs:s=[34]
   . cases o with
     | none=>rw [ew hs] at hy;exact ih _ _ _ h y hy
     | some op=>
       by_cases e:st=op
       . rw [iH hs e] at hy;exact ih _ _ _ h y hy
       . rw [ja hs e] at hy
         refine ih _ _ _ (λz hz=>?_) y hy;rcases mpp hz with h' | h'
         . exact h z h'
         . rw [msp h'];exact hx.pick _ _ _
   . rw [b7 hs] at hy;exact ih _ _ _ h y hy
theorem lO (h:Asc x):Asc (dj x):=by
 unfold dj;split
 . exact Asc.join (λc hc=>by simp at hc) (sL h _ _ _ _ (λO hy=>(by cases hy)))
 . exact h
noncomputable def du:List (Nat×List Nat)->Int->Bool
 | [],o=>o==0
 | (_,s)::r,o=>if s=[40] then du r (o+1) else if s=[41] then (if o-1<0 then false else du r (o-1)) else du r o
noncomputable def gO (x:Str):Bool:=du (aU 0 false (dj x).cps.toList) 0
section
variable {o:Int}{p:Nat}{s:List Nat}{r:List (Nat×List Nat)}
theorem gh (h:s=[40]):du ((p,s)::r) o=du r (o+1):=if_pos h
theorem nP (h:s=[41])(hn:o-1<0):du ((p,s)::r) o=false:=(if_neg (by rw [h];decide)).trans ((if_pos h).trans (if_pos hn))
theorem fQ (h:s=[41])(hn:¬o-1<0):du ((p,s)::r) o=du r (o-1):=(if_neg (by rw [h];decide)).trans ((if_pos h).trans (if_neg hn))
theorem fH (h:¬s=[40])(h':¬s=[41]):du ((p,s)::r) o=du r o:=(if_neg h).trans (if_neg h')
end
section
variable {cdv' cdv'':Value}
theorem tc {doc pm ct:Value}{v:Value}:b9 S [] (bindArgs (bR "_check_parenthesis" jN .none .none doc pm an cdv ct) ⟨[v],[]⟩)=some ([],[(Ω "addr",v)]):=by kernel_rfl
theorem vg:bV [Ω "addr"] (aI (aL jN))=true:=by decide +kernel
noncomputable abbrev stC (x:Str)(ops pos ch:Option PV)(f g:Addr):St:=[(Ω "addr",.local,some (.str x)),(Ω "opens",.local,ops),(Ω "pos",.local,pos),(Ω "ch",.local,ch),
 (Ω "_strip_quoted_realnames",.globalImplicit,some (.raw (.ref f))),(Ω "_iter_escaped_chars",.globalImplicit,some (.raw (.ref g)))]
theorem w3 {g:Addr}(gs:aH B "_strip_quoted_realnames" (.raw (.ref f)))(gi:aH B "_iter_escaped_chars" (.raw (.ref g))):Ini B [(Ω "addr",.str x)] (aI (aL jN)).names (stC x none none none f g):=by
 refine .arg (by walk_at "mm") (.inl rfl) (.unset (.unset (.unset (.glob gs (.glob gi .nil)))))
theorem yk:Ω "(" = (⟨#[40]⟩:Str):=by decide +kernel
theorem wI:Ω ")" = (⟨#[41]⟩:Str):=by decide +kernel
noncomputable abbrev aCh:Stmt:=((a8 (aL jN))[2]?).getD (.Pass default)
theorem v9 {g:Addr}:∀(toks:List (Nat×List Nat)) (o:Int) (pos ch:Option PV),
   (∀o' pos' ch',du toks o=(o'==0)->Qn (stC x (some (.int o')) pos' ch' f g) H)->(∀σ,du toks o=false->Qf σ (.ret (.bool false)) H)->
   d6 B (gR jN "_check_parenthesis") d (au aCh) (ak aCh) [] (toks.map fV) (stC x (some (.int o)) pos ch f g) H Qn Qf:=by
 intro toks
 induction toks with
 | nil=>
   intro o pos ch hq hf;exact bp (hq o pos ch rfl)
 | cons hd r ih=>
   intro o pos ch hq hf;obtain ⟨p,s⟩:=hd;refine ao ?_;have ih:=λo pos ch=>ih o pos ch;show Asg B _ d NoE (au aCh) (.tup [.int p,.str ⟨s.toArray⟩]) _ _ _;refine' cw rfl rfl ?_;ext;refine' aE ?_;ext;rw [yk,pO];by_cases h1:s=[40]
   . rw [decide_eq_true h1,if_pos rfl]
     ext;exact ⟨(λO h=>(by cases h)),ih (o+1) _ _ (λo' pos' ch' e=>hq o' pos' ch' ((gh h1).trans e)) λσ e=>hf σ ((gh h1).trans e)⟩
   . rw [decide_eq_false h1,if_neg B9]
     ext;rw [wI,pO];by_cases h2:s=[41]
     . rw [decide_eq_true h2,if_pos rfl]
       ext;by_cases h3:o-1<0
       . refine' ifp (decide_eq_true h3) ?_
         ext;exact hf _ (nP h2 h3)
       . refine' ifn (by simpa using h3) ?_
         ext;exact ⟨(λO h=>(by cases h)),ih (o-1) _ _ (λo' pos' ch' e=>hq o' pos' ch' ((fQ h2 h3).trans e)) λσ e=>hf σ ((fQ h2 h3).trans e)⟩
     . rw [decide_eq_false h2,if_neg B9]
       ext;exact ⟨(λO h=>(by cases h)),ih o _ _ (λo' pos' ch' e=>hq o' pos' ch' ((fH h1 h2).trans e)) λσ e=>hf σ ((fH h1 h2).trans e)⟩
set_option genInjectivity false in
set_option genSizeOf false in
structure gA (B:aJ) where
 f:Addr
 g:Addr
 c:Addr
 cdf:Value
 cdg:Value
 cdc:Value
 hf:ae .none .none gy "_strip_quoted_realnames" f cdf B
 hg:ae .none .none cA "_iter_escaped_chars" g cdg B
 hc:ae .none .none jN "_check_parenthesis" c cdc B
 gf:aH B "_strip_quoted_realnames" (.raw (.ref f))
 gg:aH B "_iter_escaped_chars" (.raw (.ref g))
 gc:aH B "_check_parenthesis" (.raw (.ref c))
 gl:aH B "len" (.raw (.builtin "len"))
 ge:aH B "enumerate" (.raw (.type "enumerate"))
theorem ka (M:gA B)(ha:Asc x)(hx:x.length<=3000)(q:Q (.bool (gO x)) H):aM [] NoE H B (d+13) (.raw (.ref M.c)) [.str x] Q:=by
 refine M.hc.call (d:=d+12) (λdoc pm an ct=>cf λS v=>tc) rfl vg (w3 M.gf M.gg) ?_;refine' aE ?_;ext;refine ⟨aF M.hf,?_⟩;ext;refine kR M.hf M.hg M.gg M.gl M.ge ha.all hx ?_;ext;refine ⟨aF M.hg,?_⟩;ext;refine jM (d:=d+5) M.hg M.ge (lO ha).all ?_;refine v9 (aU 0 false (dj x).cps.toList) 0 none none (λo' pos' ch' e=>?_) λσ e=>?_
 . ext
   have e':gO x=(o'==0):=e;rw [e'] at q;exact q
 . have e':gO x=false:=e
   rw [e'] at q;exact q
theorem rR (M:gA B){b:Bool}(ha:Asc x)(hx:x.length<=3000)(e:gO x=b)(q:Q (.bool b) H):aM [] NoE H B (d+13) (.raw (.ref M.c)) [.str x] Q:=ka M ha hx (e▸q)
end
noncomputable def yK:Str:=Ω "('', '')"
noncomputable def bj (x:Str):Str:=if gO x=true then x else yK
section
variable {cdv' cdv'':Value}
theorem xr {doc pm ct:Value}{v:Value}:b9 S [] (bindArgs (bR "_pre_parse_validation" lm .none .none doc pm an cdv ct) ⟨[v],[]⟩)=some ([],[(Ω "email_header_fields",v)]):=by kernel_rfl
theorem ES:bV [Ω "email_header_fields"] (aI (aL lm))=true:=by decide +kernel
noncomputable abbrev vG (a:PV)(acc v:Option PV)(c:Addr):St:=[(Ω "email_header_fields",.local,some a),(Ω "accepted_values",.local,acc),(Ω "v",.local,v),(Ω "_check_parenthesis",.globalImplicit,some (.raw (.ref c)))]
theorem GC {a:PV}{c:Addr}(gc:aH B "_check_parenthesis" (.raw (.ref c))):Ini B [(Ω "email_header_fields",a)] (aI (aL lm)).names (vG a none none c):=by
 refine .arg (by walk_at "mm") (.inl rfl) (.unset (.unset (.glob gc .nil)))
noncomputable abbrev yR:Stmt:=((a8 (aL lm))[1]?).getD (.Pass default)
theorem Eo (M:gA B){a:PV}{b:Addr}{deps:AH}(hdep:∀p∈deps,p∈H):∀(l acc:List Str) (v:Option PV),(∀x∈l,Asc x/\x.length<=3000)->acc.length+l.length<=5000->
   (∀v',Qn (vG a (some (.lref b)) v' M.c) ((b,(acc++l.map bj).map PV.str)::H))->
   d6 B (gR lm "_pre_parse_validation") (d+14) (au yR) (ak yR) deps (l.map PV.str) (vG a (some (.lref b)) v M.c) ((b,acc.map PV.str)::H) Qn Qf:=by
 intro l
 induction l with
 | nil=>
   intro acc v hl hn hq;simpa using bp (hq v)
 | cons x r ih=>
   intro acc v hl hn hq;refine ao ?_;have ih:=λacc v=>ih acc v (λy hy=>hl y (mcm _ hy));obtain ⟨hx,hx'⟩:=hl x mcs;have hn':acc.length+r.length+1<=5000:=by simp at hn;omega
   have hz:(acc.map PV.str).length<=sizeLine:=by rw [Bk,sizeLine_eq];lia
   have fin:∀y v',y=bj x->(∀p∈deps,p∈(b,acc.map PV.str++[PV.str y])::H)/\d6 B (gR lm "_pre_parse_validation") (d+14) (au yR) (ak yR) deps (r.map PV.str) (vG a (some (.lref b)) v' M.c) ((b,acc.map PV.str++[PV.str y])::H) Qn Qf:=λy v' e=>by
     subst e;refine ⟨λp hp=>mcm _ (hdep p hp),?_⟩;have e:acc.map PV.str++[PV.str (bj x)]=(acc++[bj x]).map PV.str:=by simp
     rw [e];exact ih (acc++[bj x]) v' (by simp;lia) λv''=>by simpa using hq v''
   show Asg B _ (d+14) NoE (au yR) (.str x) _ _ _;refine' kq ?_;ext;refine' aE ?_;ext;refine ⟨aF M.hc,?_⟩;ext;refine ka M (d:=d+1) hx hx' ?_;ext
   cases hk:gO x with
   | true=>
     refine' ifn (by simp) ?_;ext;refine ⟨_,b5 (.lref mcs),?_⟩;ext;refine bo .head hz ?_;ext;exact fin _ _ (by rw [bj,if_pos hk])
   | false=>
     refine' ifp (by simp) ?_;ext;refine ⟨_,b5 (.lref mcs),?_⟩;ext;refine bo .head hz ?_;ext;exact fin _ _ (by rw [bj,if_neg (by simp [hk])];rfl)
theorem xd (M:gA B){a:PV}{all:List Str}(h:ae .none .none lm "_pre_parse_validation" f cdv B)(ha:aT H a (all.map PV.str))(hl:∀x∈all,Asc x/\x.length<=3000)(hn:all.length<=4000)
   (q:∀b,Q (.lref b) ((b,(all.map bj).map PV.str)::H)):aM [] NoE H B (d+15) (.raw (.ref f)) [a] Q:=by
 refine h.call (d:=d+14) (λdoc pm an ct=>cf λS v=>xr) rfl ES (GC M.gc) ?_;refine' aE ?_;ext;refine dN ?_;refine iw λb=>?_;ext;refine cB ?_;ext
 have go:=λdeps (hdep:∀p∈deps,p∈H)=>Eo (d:=d) M (a:=a) (b:=b) hdep (Qn:=λσ' H'=>Xs NoE B (d+14) (gR lm "_pre_parse_validation") H' σ' ((a8 (aL lm)).drop 2) (λO H'=>Q .none H') (PX Q)) (Qf:=PX Q) all [] none hl (by rw [List.length_nil,Aj];exact ntr hn ∅) λv'=>by
   refine' aE ?_;ext;exact q b
 rcases ha with rfl | ⟨x,rfl,hx⟩
 . exact bS (go [] λp hp=>(Bo hp).elim)
 . exact db (mcm _ hx) (go _ λp hp=>by rw [msp hp];exact hx)
end
noncomputable abbrev bits (n:Nat):Nat:=Builtin.Int.intBits (n:Int)
theorem dK {a:Nat}:bits a<=m↔a<2 ^ m:=by
 have:=intBits_le_iff (m:=m) (x:=(a:Int));simpa using this
theorem ud (a:Nat):a<2 ^ bits a:=dK.mp (Ab _)
theorem pN (h:b≠0):1<=bits b/\2 ^ (bits b-1)<=b:=by
 have h1:1<=bits b:=by
   rcases Nat.eq_zero_or_pos (bits b) with e | e
   . have:=dK.mp (Ac e);simp at this;exact absurd this h
   . exact e
 refine ⟨h1,?_⟩;rcases Nat.lt_or_ge b (2 ^ (bits b-1)) with q | q
 . have:=dK.mpr q;(clear q;omega)
 . exact q
theorem pT (a k:Nat):((a:Int)).fdiv (2 ^ k)=((a/2 ^ k:Nat):Int):=by
 rw [Cn _ (by exact_mod_cast Ae _)]
 norm_cast
theorem uv (a k:Nat):(a:Int)*2 ^ k=((a*2 ^ k:Nat):Int):=by norm_cast
theorem lL (k:Nat):(1:Int)*2 ^ k-1=((2 ^ k-1:Nat):Int):=by
 have:=Nat.one_le_two_pow (n:=k);have e:((2 ^ k-1:Nat):Int)=((2 ^ k:Nat):Int)-1:=by omega
 rw [e]
 norm_cast
 (clear this;lia)
theorem pU (a b:Nat):Builtin.bitAnd (a:Int) (b:Int)=((a &&& b:Nat):Int):=by
 rw [bitAnd_pp (by lia) (by lia)];simp
theorem k5 (a k:Nat):Builtin.bitAnd (a:Int) ((2 ^ k-1:Nat):Int)=((a%2 ^ k:Nat):Int):=by
 rw [pU,Nat.and_two_pow_sub_one_eq_mod]
theorem EN (a:Nat):Builtin.bitAnd (a:Int) 1=((a%2:Nat):Int):=by rw [bitAnd_m1];lia
theorem zr {r a:Nat}(h:a<2 ^ k):Builtin.bitOr ((r*2 ^ k:Nat):Int) (a:Int)=((r*2 ^ k+a:Nat):Int):=by
 rw [bitOr_and,pU]
 have:r*2 ^ k &&& a=0:=by
   apply Nat.eq_of_testBit_eq;intro i;rw [Nat.testBit_and,Nat.zero_testBit];by_cases hi:i<k
   . rw [Ao,Nat.testBit_two_pow_mul,decide_eq_false (by lia)];simp
   . rw [Nat.testBit_lt_two_pow (nlt h (AP ∅ (by lia)))];simp
 rw [this]
 lia
theorem Dc (x k:Nat):Builtin.bitXor (x:Int) ((x/2 ^ k*2 ^ k:Nat):Int)=((x%2 ^ k:Nat):Int):=by
 rw [bitXor_and,pU]
 have:x &&& x/2 ^ k*2 ^ k=x/2 ^ k*2 ^ k:=by
   apply Nat.eq_of_testBit_eq;intro i;rw [Nat.testBit_and,Ao,Nat.testBit_two_pow_mul];by_cases hi:k<=i
   . rw [decide_eq_true hi,Bool.true_and,Nat.testBit_div_two_pow,Nat.sub_add_cancel hi];simp
   . rw [decide_eq_false hi];simp
 rw [this];have:=AV x (2 ^ k);have e:x/2 ^ k*2 ^ k=2 ^ k*(x/2 ^ k):=Ao _ _
 lia
theorem i4 (a b:Nat):((a:Int)).fdiv (b:Int)=((a/b:Nat):Int):=by
 rw [Cn _ (by lia)];norm_cast
theorem lD (a b:Nat):((a:Int)).fmod (b:Int)=((a%b:Nat):Int):=by
 rw [CI _ (by lia)];norm_cast
theorem aEw {a n:Nat}(hb:2 ^ (n-1)<=b)(ha:a<2 ^ (n+4000))(hn:1<=n):Builtin.divisionGoesByPylong (a:Int) (b:Int)=false:=by
 unfold Builtin.divisionGoesByPylong;have hb0:b≠0:=by have:=As (n-1);lia
 have h1:n-1<=b.log2:=(Nat.le_log2 hb0).mpr hb;have h2:a≠0->a.log2<n+4000:=λh=>(Nat.log2_lt h).mpr ha;have e0:((b:Int)==0)=false:=by simp;omega
 simp only [e0,Int.natAbs_natCast,Cc,if_false,Bool.and_eq_false_iff,decide_eq_false_iff_not]
 right
 by_cases ha0:a=0
 . subst ha0;simp
 . have e1:((a:Int)==0)=false:=by simp;omega
   simp only [e1,Cc,if_false];have:=h2 ha0
   lia
theorem uJ {a12 a3 b1 b2 n:Nat}(e:b=b1*2 ^ n+b2)(h3:a3<2 ^ n)(hlt:a12<b):a12*2 ^ n+a3<b*2 ^ n:=by
 have:(a12+1)*2 ^ n<=b*2 ^ n:=AW _ hlt;rw [Ba] at this
 (clear e;lia)
theorem zl {T:Nat}{q r:Int}(e:q*b+r=T)(h0:0<=r)(h1:r<b):q=((T/b:Nat):Int)/\r=((T%b:Nat):Int):=by
 have hb:(0:Int)<b:=by clear e;omega
 have hq:q=(T:Int)/b:=by
   rw [<-e,Ce,Int.add_mul_ediv_right _ _ (by lia),CJ h0 h1,Cv]
 have hr:r=(T:Int)%b:=by
   rw [<-e,Ce,Int.add_mul_emod_self_right,Int.emod_eq_of_lt h0 h1]
 exact ⟨by rw [hq];norm_cast,by rw [hr];norm_cast⟩
section
theorem eR {x s:Nat}(q:Q (.int ((x/2 ^ s:Nat):Int)) H):V2 H E B d (.int (s:Nat)) (.int (x:Nat)) (binaryOp .RShift) Q:=pL (Cd s) (by rw [Ci,pT];exact q)
theorem iS {x s:Nat}(hx:x<2 ^ m)(hz:m+s<=134217728):(Builtin.Int.intBits (x:Int):Int)+(s:Nat)<=2 ^ 27:=Int.ofNat_le.mpr (ntr (AA (dK.mpr hx) s) hz)
theorem eN {x s:Nat}(hx:x<2 ^ m)(hz:m+s<=134217728)(q:Q (.int ((x*2 ^ s:Nat):Int)) H):V2 H E B d (.int (s:Nat)) (.int (x:Nat)) (binaryOp .LShift) Q:=oC (Cd s) (iS hx hz) (by rw [Ci,uv];exact q)
theorem vL {x s:Nat}(hx:x<2 ^ m)(hz:m+s<=134217728)(q:Q (.int ((x*2 ^ s:Nat):Int)) H):V2 H E B d (.int (s:Nat)) (.int (x:Nat)) (inplaceOp .LShift) Q:=aC1 (Cd s) (iS hx hz) (by rw [Ci,uv];exact q)
theorem ro {a:Nat}{b:Int}(h:a<2 ^ 62)(q:Q (.int (a*b)) H):V2 H E B d (.int b) (.int (a:Nat)) (binaryOp .Mult) Q:=bH (.of_left (intBits_le_64 (by lia) (by lia))) q
end
theorem uq {L R:Nat}(h:L<R)(hc:R≠L+1):L<(L+R)/2:=(Nat.le_div_iff_mul_le ∅).mpr (by lia)
theorem vP {L R:Nat}(h:L<R):(L+R)/2<R:=(AF ∅).mpr (by lia)
theorem u0 {L R:Nat}(h:R-L<=2 ^ (k+1))(hl:L<R):(L+R)/2-L<=2 ^ k:=by
 rw [AJ] at h;exact Nat.sub_le_of_le_add (Nat.div_le_of_le_mul (by lia))
theorem uO {L R:Nat}(h:R-L<=2 ^ (k+1))(hl:L<R):R-(L+R)/2<=2 ^ k:=by
 rw [AJ] at h;exact Nat.sub_le_of_le_add (by lia)
theorem vX (L R:Nat):((L:Int)+(R:Int)).fdiv (2 ^ (1:Int).toNat)=(((L+R)/2:Nat):Int):=pT (L+R) 1
theorem oQ {L M R:Nat}(h1:L<=M)(h2:M<=R):R-L=(M-L)+(R-M):=by lia
section
theorem c7 {fd:FuncData}{n1 n2:Str}{a b:PV}(hf:∀(S:Setting) v w,b9 S [] (bindArgs fd ⟨[v,w],[]⟩)=some ([],[(n1,v),(n2,w)])):cI B fd [a,b] [] H [(n1,a),(n2,b)]:=λA s I vs kvs h1 h2 E Q hQ=>by
 obtain ⟨v,w,rfl,r1,r2⟩:=h1.two;rw [h2.nil];exact b8 (os:=[]) (hf _ v w) (by simp) (hQ _ (.cons r1 (.cons r2 .nl)))
theorem i8 {fd:FuncData}{n1 n2 n3:Str}{a b c:PV}(hf:∀(S:Setting) v w u,b9 S [] (bindArgs fd ⟨[v,w,u],[]⟩)=some ([],[(n1,v),(n2,w),(n3,u)])):cI B fd [a,b,c] [] H [(n1,a),(n2,b),(n3,c)]:=λA s I vs kvs h1 h2 E Q hQ=>by
 obtain ⟨v,w,u,rfl,r1,r2,r3⟩:=h1.three;rw [h2.nil];exact b8 (os:=[]) (hf _ v w u) (by simp) (hQ _ (.cons r1 (.cons r2 (.cons r3 .nl))))
theorem yX {fd:FuncData}{n1 n2 n3 n4 n5 n6:Str}{a b c a' b' c':PV}(hf:∀(S:Setting) v w u v' w' u',b9 S [] (bindArgs fd ⟨[v,w,u,v',w',u'],[]⟩)=some ([],[(n1,v),(n2,w),(n3,u),(n4,v'),(n5,w'),(n6,u')])) :
   cI B fd [a,b,c,a',b',c'] [] H [(n1,a),(n2,b),(n3,c),(n4,a'),(n5,b'),(n6,c')]:=λA s I vs kvs h1 h2 E Q hQ=>by
 cases h1 with | cons r1 h1=>
 cases h1 with | cons r2 h1=>
 cases h1 with | cons r3 h1=>
 cases h1 with | cons r4 h1=>
 cases h1 with | cons r5 h1=>
 cases h1 with | cons r6 h1=>
 cases h1;rw [h2.nil];exact b8 (os:=[]) (hf _ _ _ _ _ _ _) (by simp) (hQ _ (.cons r1 (.cons r2 (.cons r3 (.cons r4 (.cons r5 (.cons r6 .nl)))))))
set_option genInjectivity false in
set_option genSizeOf false in
structure DivFns (B:aJ) where
 f2:Addr
 f3:Addr
 cd2:Value
 cd3:Value
 h2:ae .none .none m4 "_div2n1n" f2 cd2 B
 h3:ae .none .none ll "_div3n2n" f3 cd3 B
 g2:aH B "_div2n1n" (.raw (.ref f2))
 g3:aH B "_div3n2n" (.raw (.ref f3))
 gl:aH B "_DIV_LIMIT" (.int 4000)
 gd:aH B "divmod" (.raw (.builtin "divmod"))
theorem uk {doc pm ct:Value}{v u:Value}:b9 S [] (bindArgs (bR "_div2n1n" m4 .none .none doc pm an cdv ct) ⟨[v,w,u],[]⟩)=some ([],[(Ω "a",v),(Ω "b",w),(Ω "n",u)]):=by kernel_rfl
theorem C3:bV [Ω "a",Ω "b",Ω "n"] (aI (aL m4))=true:=by decide +kernel
theorem F6 {doc pm ct:Value}{v u v' w' u':Value}:b9 S [] (bindArgs (bR "_div3n2n" ll .none .none doc pm an cdv ct) ⟨[v,w,u,v',w',u'],[]⟩)=some ([],[(Ω "a12",v),(Ω "a3",w),(Ω "b",u),(Ω "b1",v'),(Ω "b2",w'),(Ω "n",u')]):=by kernel_rfl
theorem aCv:bV [Ω "a12",Ω "a3",Ω "b",Ω "b1",Ω "b2",Ω "n"] (aI (aL ll))=true:=by decide +kernel
noncomputable abbrev xt (a12 a3 b b1 b2 n:Nat)(q r:Option PV)(f2:Addr):St:=[(Ω "a12",.local,some (.int a12)),(Ω "a3",.local,some (.int a3)),(Ω "b",.local,some (.int b)),(Ω "b1",.local,some (.int b1)),(Ω "b2",.local,some (.int b2)),(Ω "n",.local,some (.int n)),
 (Ω "q",.local,q),(Ω "r",.local,r),(Ω "_div2n1n",.globalImplicit,some (.raw (.ref f2)))]
theorem aBm (F:DivFns B){a12 a3 b1 b2 n:Nat}:Ini B [(Ω "a12",.int a12),(Ω "a3",.int a3),(Ω "b",.int b),(Ω "b1",.int b1),(Ω "b2",.int b2),(Ω "n",.int n)] (aI (aL ll)).names (xt a12 a3 b b1 b2 n none none F.f2):=by
 refine .arg (by walk_at "mm") (.inl rfl) (.arg (by walk_at "mm") (.inl rfl) (.arg (by walk_at "mm") (.inl rfl) (.arg (by walk_at "mm") (.inl rfl) (.arg (by walk_at "mm") (.inl rfl) (.arg (by walk_at "mm") (.inl rfl) (.unset (.unset (.glob F.g2 .nil))))))))
noncomputable def aAt (B:aJ)(F:DivFns B)(l:Nat):Prop:=∀(H:AH) (Q:PQ) (n a b:Nat),2 ^ (n-1)<=b->b<2 ^ n->1<=n->a<b*2 ^ n->n<=4000*2 ^ l->n<=2097152->
 Q (.tup [.int ((a/b:Nat):Int),.int ((a%b:Nat):Int)]) H->aM [] NoE H B (2*l+2) (.raw (.ref F.f2)) [.int a,.int b,.int n] Q
theorem Ec {a12 a3 b1 b2 n T:Nat}{f2:Addr}{q r:Int}{test:Expr}(e:q*b+r=T)(h1:r<b)
   (hs:((a8 (aL ll))[2]?).getD (.Pass default)=.While test body [] pos)
   (hq:Qn (xt a12 a3 b b1 b2 n (some (.int ((T/b:Nat):Int))) (some (.int ((T%b:Nat):Int))) f2) H) :
   X B fi d NoE (.While test body [] pos) (xt a12 a3 b b1 b2 n (some (.int q)) (some (.int r)) f2) H Qn Qf:=by
 injection hs with e1 e2 e3 e4;subst e1 e2;refine oS (λm σ H'=>∃q' r':Int,σ=xt a12 a3 b b1 b2 n (some (.int q')) (some (.int r')) f2/\H'=H/\q'*b+r'=T/\r'<b/\m=(-r').toNat) (n:=(-r).toNat) ⟨q,r,rfl,rfl,e,h1,rfl⟩ ?_
 rintro m σ H' ⟨q',r',rfl,rfl,e',h1',rfl⟩
 ext;by_cases hc:r'<0
 . refine' ifp (by simpa using hc) ?_
   have hb:(0:Int)<b:=by
     rcases Nat.eq_zero_or_pos b with q | q
     . subst q;have:=e';simp at this;lia
     . (exact Int.ofNat_lt.mpr ‹_›)
   ext;refine ⟨(-(r'+b)).toNat,by lia,q'-1,r'+b,rfl,rfl,?_,by lia,rfl⟩;rw [Int.sub_mul];lia
 . refine' ifn (by simpa using hc) ?_
   ext;obtain ⟨a1,a2⟩:=zl e' (Int.not_lt.mp ‹_›) h1';rw [a1,a2];exact hq
end
section
theorem aDz {x y:Int}{n:Nat}(hx:x.natAbs<2 ^ m)(hy:y.natAbs<2 ^ n)(hm:m<=1048576)(hn:n<=1048576):IntMulOk x y:=
 IntMulOk.of_bits (ntr (intBits_le_iff.mpr hx) hm) (ntr (intBits_le_iff.mpr hy) hn)
noncomputable def Gm (bk:Bool)(lk:Str->Option NameKind)(ts vs:List Expr):Option (Option (List Str)):=
 if (!(ts.length==2 || ts.length==3) || vs.length != ts.length || bk)=true then some none else
 if (vs.any fun | .Starred ..=>true | _=>false)=true then some none else
 let line:=(ts.head?.map (·.pos.line)).getD 0;let names:=ts.filterMap fun
   | .Name id pos=>if lk id==some .local && pos.line==line then some id else none
   | _=>none
 if (names.length != ts.length || names.eraseDups.length != names.length)=true then some none else
 if vs.all (foldedForSure 8)=true then some none else
 if vs.all (constantsAlone 8)=true then none else some (some names)
noncomputable abbrev ui (sc:Scope)(ts vs:List Expr):Option (Option (List Str)):=Gm false (λid=>sc.names.lookup id) ts vs
theorem u8 {c:Prop}[Decidable c]{x r:Option (List Str)}{o:Option (Option (List Str))}{m:Sem (Option (List Str))}(h:(if c then some x else o)=some r)(k:o=some r->m=pure r):(if c then pure x else m)=pure r:=by
 by_cases hc:c
 . rw [if_pos hc] at h ⊢
   exact congrArg pure (Option.some.inj h)
 . rw [if_neg hc] at h ⊢
   exact k h
theorem FA {c:Prop}[Decidable c]{x:List Str}{r:Option (List Str)}{m:Sem (Option (List Str))}(h:(if c then none else some (some x))=some r):(if c then m else pure (some x))=pure r:=by
 by_cases hc:c
 . rw [if_pos hc] at h;exact (by cases h)
 . rw [if_neg hc] at h ⊢
   exact congrArg pure (Option.some.inj h)
theorem Di {ts vs:List Expr}{k':Nat}{p p':Pos}{r:Option (List Str)}(h:Gm (env.blockKind != .function) env.kindOf ts vs=some r):swappedStores [.Tuple ts k p] (.Tuple vs k' p') env=pure r:=
 u8 h λh=>u8 h λh=>u8 h λh=>u8 h λh=>FA h
theorem kj (e:aY B fi env){ts vs:List Expr}{k':Nat}{p p':Pos}{r:Option (List Str)}(h:ui fi.scope ts vs=some r):swappedStores [.Tuple ts k p] (.Tuple vs k' p') env=pure r:=by
 refine Di ?_;rw [show (env.blockKind != .function)=false by unfold Env.blockKind;rw [e.kindF];rfl,show env.kindOf=λid=>fi.scope.names.lookup id by unfold Env.kindOf;rw [e.scope]];exact h
theorem Gg (a12 a3 b b1 b2 n:Nat)(hb:b=b1*2 ^ n+b2):((a12:Int)-((b1*2 ^ n:Nat):Int)+b1)*2 ^ n+a3-((2 ^ n-1:Nat):Int)*b2+((2 ^ n-1:Nat):Int)*b=((a12*2 ^ n+a3:Nat):Int):=by
 have h1:((2 ^ n-1:Nat):Int)=(2:Int) ^ n-1:=by rw [<-lL,Cw]
 have h2:(b:Int)=(b1:Int)*2 ^ n+b2:=by rw [hb];push_cast;rfl
 rw [h1,h2]
 push_cast
 simp only [Int.add_mul,Int.sub_mul,Ch,Cw];have h3:(2:Int) ^ n*((b1:Int)*2 ^ n)=(b1:Int)*2 ^ n*2 ^ n:=Cj _ _
 lia
theorem Eu (a12 a3 b b1 b2 n:Nat)(hb:b=b1*2 ^ n+b2):((a12%b1:Nat):Int)*2 ^ n+a3-((a12/b1:Nat):Int)*b2+((a12/b1:Nat):Int)*b=((a12*2 ^ n+a3:Nat):Int):=by
 have h1:(a12:Int)=(b1:Int)*((a12/b1:Nat):Int)+((a12%b1:Nat):Int):=by
   have:=AV a12 b1
   exact_mod_cast this.symm
 have h2:(b:Int)=(b1:Int)*2 ^ n+b2:=by rw [hb];push_cast;rfl
 have h3:((a12*2 ^ n+a3:Nat):Int)=(a12:Int)*2 ^ n+a3:=by push_cast;rfl
 rw [h3,h2];generalize ((a12/b1:Nat):Int)=qq at *;generalize ((a12%b1:Nat):Int)=rr at *;rw [h1];simp only [Int.add_mul,Ch];have h4:qq*((b1:Int)*2 ^ n)=(b1:Int)*qq*2 ^ n:=by rw [<-Cm,Cj qq]
 lia
noncomputable abbrev aGb (fi:aP)(x y:Str)(σ:St)(v:PV)(Qn:SQ):PQ:=λw H₂=>pV fi [y,x] [w,v] σ λσ'=>Qn σ' H₂
noncomputable abbrev aGm (B:aJ)(fi:aP)(d:Nat)(E:EP)(e2:Expr)(x y:Str)(σ:St)(Qn:SQ):PQ:=λv H₁=>Ev E B d fi σ H₁ e2 (aGb fi x y σ v Qn)
theorem iQ (x y:Str){ts:List Expr}{tpos:Pos}{e1 e2:Expr}{k':Nat}{epos:Pos}(hw:ui fi.scope ts [e1,e2]=some [x,y])(h:Ev E B d fi σ H e1 (aGm B fi d E e2 x y σ Qn))
   (hs:autoParam (∀env,swapsWithSole [.Tuple ts k tpos] (.Tuple [e1,e2] k' epos) pos.line env=pure false) nC)(hp:autoParam ([e1,e2].all ax=true) nA):X B fi d E (.Assign [.Tuple ts k tpos] (.Tuple [e1,e2] k' epos) pos) σ H Qn Qf:=
 gY [x,y] (λenv e=>kj e hw) (h.mono λv H₁ h₁=>Ev.mono h₁ λw H₂ h₂=>⟨rfl,h₂⟩) hs hp (AQ rfl)
theorem ut (F:DivFns B){l:Nat}(ok:aAt B F l){a12 a3 b1 b2 n:Nat}(hb:b=b1*2 ^ n+b2)(h2:b2<2 ^ n)(h1:2 ^ (n-1)<=b1)(h1':b1<2 ^ n)(hn:1<=n)(h3:a3<2 ^ n)(ha:a12<b)(hl:n<=4000*2 ^ l)(hz:n<=1048576)
   (q:Q (.tup [.int (((a12*2 ^ n+a3)/b:Nat):Int),.int (((a12*2 ^ n+a3)%b:Nat):Int)]) H):aM [] NoE H B (2*l+3) (.raw (.ref F.f3)) [.int a12,.int a3,.int b,.int b1,.int b2,.int n] Q:=by
 refine F.h3.call (d:=2*l+2) (λdoc pm an ct=>yX λS v w u v' w' u'=>F6) rfl aCv (aBm F) ?_;have est:=uJ hb h3 ha;have hp:0<2 ^ n:=As n
 have hbn:b<2 ^ (n+n):=by
   rw [hb,Aq];have:(b1+1)*2 ^ n<=2 ^ n*2 ^ n:=AW _ h1';exact nlt (AK h2 _) (Nat.succ_mul b1 (2 ^ n)▸this)
 have fin:∀qq rr:Int,(rr*2 ^ n+a3-qq*b2+qq*b=((a12*2 ^ n+a3:Nat):Int))->0<=qq->qq.natAbs<2 ^ n->0<=rr->rr<2 ^ (n+n)->(rr*2 ^ n+a3-qq*b2<b)->
     Xs NoE B (2*l+2) (gR ll "_div3n2n") H (xt a12 a3 b b1 b2 n (some (.int qq)) (some (.int rr)) F.f2) ((a8 (aL ll)).drop 1) (λO H'=>Q .none H') (PX Q):=λqq rr e hq0 hq hr0 hr hlt=>by
   obtain ⟨rn,rfl⟩:=CF hr0;have e1:((rn*2 ^ n+a3:Nat):Int)=(rn:Int)*2 ^ n+a3:=by push_cast;rfl
   refine' aE ?_;ext;refine eN (m:=n+n) (by exact_mod_cast hr) (ntr (An (An hz hz) hz) ∅) ?_;ext;rw [zr h3];refine bH (aDz hq (show (b2:Int).natAbs<2 ^ n from h2) hz hz) ?_;ext;rw [e1];refine Ec (T:=a12*2 ^ n+a3) ((Ce _ _).trans e) hlt rfl ?_;ext;exact q
 refine' aE ?_;ext;refine eR ?_;ext;by_cases hc:a12/2 ^ n=b1
 . rw [hc]
   refine' ifp (beq_self_eq_true _) ?_;have hle:b1*2 ^ n<=a12:=by rw [<-hc];exact Nat.div_mul_le_self _ _
   have hge:b1<=b1*2 ^ n:=Nat.le_mul_of_pos_right _ hp;ext;refine iQ (Ω "q") (Ω "r") (by kernel_rfl) ?_;ext;refine oC (Cd n) (iS (x:=1) (m:=1) ∅ (ntr (AD hz 1) ∅)) ?_;rw [Ci];ext;rw [lL];refine eN h1' (ntr (An hz hz) ∅) ?_
   repeat first | (refine fin _ _ ?_ ?_ ?_ ?_ ?_ ?_) | walk_at "mw"
   . exact Gg a12 a3 b b1 b2 n hb
   . (exact Cd _)
   . (clear hge hle hc hbn est hz hl ha h3 hn h1' h1 h2 hb;omega)
   . (clear hc hbn hp est hz hl ha h3 hn h1' h1 h2 hb;omega)
   . have:((2:Int) ^ (n+n))=((2 ^ (n+n):Nat):Int):=by norm_cast
     rw [this];(clear this hc hp est hz hl h3 hn h1' h1 h2 hb;omega)
   . have:=Gg a12 a3 b b1 b2 n hb
     have h8:((2 ^ n-1:Nat):Int)*b=((b*2 ^ n:Nat):Int)-b:=by
       have:((2 ^ n-1:Nat):Int)=((2 ^ n:Nat):Int)-1:=by clear this hge hle hc hbn est hz hl ha h3 hn h1' h1 h2 hb;omega
       rw [this,Int.sub_mul,Cw,Cj,<-Cz]
     (clear hge hle hc hbn hp hz hl ha h3 hn h1' h1 h2 hb;omega)
 . refine' ifn (λq=>hc (Int.ofNat.inj (eq_of_beq q))) ?_
   have hlt:a12<b1*2 ^ n:=by
     have h5:a12/2 ^ n<b1:=by
       have h6:a12/2 ^ n<b1+1:=by
         rw [AF hp,Ba]
         lia
       lia
     rw [AF hp] at h5;exact h5
   have hb1:0<b1:=nlt (As _) h1;have hr:a12%b1<b1:=Am _ hb1;have hq:a12/b1<2 ^ n:=by rw [AF hb1,Ao];exact hlt
   ext;refine ⟨aF F.h2,?_⟩;ext;refine ok _ _ n a12 b1 h1 h1' hn hlt hl (ntr ‹_› ∅) ?_
   repeat first | (refine fin _ _ ?_ ?_ ?_ ?_ ?_ ?_) | walk_at "mw"
   . exact Eu a12 a3 b b1 b2 n hb
   . exact Cd _
   . rw [Int.natAbs_natCast];exact hq
   . exact Cd _
   . have:((2:Int) ^ (n+n))=((2 ^ (n+n):Nat):Int):=by norm_cast
     have h9:2 ^ n<=2 ^ (n+n):=AP ∅ (by clear this fin hbn;(exact Ad ..));rw [this];(clear this hq hlt est hz hl ha h3 hn h1 h2 hb;omega)
   . have h8:(a12%b1+1)*2 ^ n<=b1*2 ^ n:=AW _ hr
     rw [Ba] at h8;have h9:((a12%b1:Nat):Int)*2 ^ n=((a12%b1*2 ^ n:Nat):Int):=by norm_cast
     have h10:((a12/b1:Nat):Int)*(b2:Int)=((a12/b1*b2:Nat):Int):=by norm_cast
     rw [h9,h10]
     (clear h9 hq hr hb1 hlt hbn est hz hl ha hn h1' h1 h2;omega)
end
section
noncomputable abbrev aCy (a b n:Nat)(pad half mask b1 b2 q1 r q2:Option PV)(f3:Addr):St:=[(Ω "a",.local,some (.int a)),(Ω "b",.local,some (.int b)),(Ω "n",.local,some (.int n)),(Ω "pad",.local,pad),(Ω "half_n",.local,half),(Ω "mask",.local,mask),
 (Ω "b1",.local,b1),(Ω "b2",.local,b2),(Ω "q1",.local,q1),(Ω "r",.local,r),(Ω "q2",.local,q2),(Ω "_DIV_LIMIT",.globalImplicit,some (.int 4000)),(Ω "divmod",.globalImplicit,some (.raw (.builtin "divmod"))),(Ω "_div3n2n",.globalImplicit,some (.raw (.ref f3)))]
theorem zC (F:DivFns B){a n:Nat}:Ini B [(Ω "a",.int a),(Ω "b",.int b),(Ω "n",.int n)] (aI (aL m4)).names (aCy a b n none none none none none none none none F.f3):=by
 refine .arg (by walk_at "mm") (.inl rfl) (.arg (by walk_at "mm") (.inl rfl) (.arg (by walk_at "mm") (.inl rfl) (.unset (.unset (.unset (.unset (.unset (.unset (.unset (.unset (.glob F.gl (.glob F.gd (.glob F.g3 .nil)))))))))))))
theorem zO (a h:Nat):a/2 ^ (h+h)*2 ^ h+a/2 ^ h%2 ^ h=a/2 ^ h:=by
 rw [Aq,<-Nat.div_div_eq_div_mul,Ao,AV]
theorem Dh (a b h:Nat)(hb:0<b):a/b=(a/2 ^ h)/b*2 ^ h+((a/2 ^ h)%b*2 ^ h+a%2 ^ h)/b/\a%b=((a/2 ^ h)%b*2 ^ h+a%2 ^ h)%b:=by
 have e1:a=(a/2 ^ h)*2 ^ h+a%2 ^ h:=by rw [Ao,AV]
 have e2:a/2 ^ h=(a/2 ^ h)/b*b+(a/2 ^ h)%b:=by rw [Ao,AV]
 have e3:a=(a/2 ^ h)/b*2 ^ h*b+((a/2 ^ h)%b*2 ^ h+a%2 ^ h):=by
   have:(a/2 ^ h)*2 ^ h=(a/2 ^ h)/b*2 ^ h*b+(a/2 ^ h)%b*2 ^ h:=by
     rw [Nat.mul_right_comm,<-Ba,<-e2]
   lia
 generalize (a/2 ^ h)/b*2 ^ h=q at *;generalize (a/2 ^ h)%b*2 ^ h+a%2 ^ h=t at *;rw [e3,Ak,Nat.add_mul_div_right _ _ hb,Nat.add_mul_mod_self_right];exact ⟨Ak _ _,rfl⟩
theorem vF (F:DivFns B){l:Nat}(ok:aAt B F l){a h p:Nat}(hh:1<=h)(h1:2 ^ (h+h-1)<=b)(h2:b<2 ^ (h+h))(ha:a<b*2 ^ (h+h))(hl:h<=4000*2 ^ l)(hz:h<=1048576)
   (q:Q (.tup [.int ((a/b:Nat):Int),.int ((if p=0 then a%b else a%b/2:Nat):Int)]) H) :
   Xs NoE B (2*l+3) (gR m4 "_div2n1n") H (aCy a b (h+h) (some (.int p)) none none none none none none none F.f3) ((a8 (aL m4)).drop 3) (λO H'=>Q .none H') (PX Q):=by
 have hp:0<2 ^ h:=As h;have hb0:0<b:=nlt (As _) h1;have e0:(h+h)/2 ^ 1=h:=by rw [Nat.pow_one,<-Nat.two_mul,Nat.mul_div_cancel_left _ ∅]
 have hpp:2 ^ (h+h)=2 ^ h*2 ^ h:=Aq ..
 have hb1:2 ^ (h-1)<=b/2 ^ h:=by
   rw [Nat.le_div_iff_mul_le hp,<-Aq];exact ntr (AP ∅ (Ac (Nat.sub_add_comm hh).symm)) h1
 have hb1':b/2 ^ h<2 ^ h:=by rw [AF hp,<-hpp];exact h2
 have hT:a/2 ^ h<b*2 ^ h:=by
   rw [AF hp,AM,<-hpp];exact ha
 have hT2:a/2 ^ (h+h)<b:=by rw [AF (As _)];exact ha
 have hbe:b=b/2 ^ h*2 ^ h+b%2 ^ h:=by rw [Ao,AV]
 have hq1:(a/2 ^ h)/b<2 ^ h:=by rw [AF hb0,Ao];exact hT
 have hr1:(a/2 ^ h)%b<b:=Am _ hb0
 have hq2:((a/2 ^ h)%b*2 ^ h+a%2 ^ h)/b<2 ^ h:=by
   rw [AF hb0,Ao (2 ^ h) b];exact uJ hbe (Am _ hp) hr1
 obtain ⟨t1,t2⟩:=Dh a b h hb0
 have ret:∀rr:Nat,rr=(if p=0 then a%b else a%b/2)->V2 H NoE B (2*l+3) (.int (h:Nat)) (.int ((a/2 ^ h/b:Nat):Int)) (binaryOp .LShift) λx H₁=>V2 H₁ NoE B (2*l+3) (.int (((a/2 ^ h%b*2 ^ h+a%2 ^ h)/b:Nat):Int)) x (binaryOp .BitOr) λy H₂=>Q (.tup [y,.int (rr:Nat)]) H₂:=λrr e=>by
   subst e;refine eN hq1 (ntr (An hz hz) ∅) ?_;ext;rw [zr hq2,<-t1];exact q
 refine' aE ?_;ext;refine eR (x:=h+h) (s:=1) ?_;rw [e0];ext;refine oC (Cd h) (iS (x:=1) (m:=1) ∅ (ntr (AD hz 1) ∅)) ?_;rw [Ci];ext;rw [lL];ext;refine iQ (Ω "b1") (Ω "b2") (by kernel_rfl) ?_;ext;refine eR ?_;ext;rw [k5];ext;refine ⟨aF F.h3,?_⟩;ext;refine eR ?_;ext;refine eR ?_;ext;rw [k5];ext;refine ut F ok hbe (Am _ hp) hb1 hb1' hh (Am _ hp) hT2 hl hz ?_;rw [zO];ext;refine ⟨aF F.h3,?_⟩;ext;rw [k5];ext;refine ut F ok hbe (Am _ hp) hb1 hb1' hh (Am _ hp) hr1 hl hz ?_;rw [<-t2];ext;by_cases hp0:p=0
 . subst hp0
   refine' ifn B9 ?_;ext;refine V2.mono (ret (a%b) (if_pos rfl).symm) λv H' h=>?_;ext;refine V2.mono h λv H' h=>?_;ext;exact h
 . refine' ifp (bne_iff_ne.mpr λe=>hp0 (Int.ofNat.inj e)) ?_
   ext;refine aAr ∅ ?_;rw [show ((1:Int).toNat)=1 from rfl,pT];ext;refine V2.mono (ret (a%b/2 ^ 1) (by rw [if_neg hp0,Nat.pow_one])) λv H' h=>?_;ext;refine V2.mono h λv H' h=>?_;ext;exact h
theorem n7 {a n:Nat}:(Builtin.Int.intBits (a:Int):Int)-(n:Nat)<=4000↔bits a<=n+4000:=by
 show (bits a:Int)-n<=4000↔_
 omega
theorem mV {n:Nat}(h:n%2=0):∃h,n=h+h:=⟨n/2,by lia⟩
theorem aEk (F:DivFns B):∀l,aAt B F l:=by
 have small:∀(d':Nat) (H:AH) (Q:PQ) (n a b:Nat),2 ^ (n-1)<=b->1<=n->bits a<=n+4000->Q (.tup [.int ((a/b:Nat):Int),.int ((a%b:Nat):Int)]) H->aM [] NoE H B (d'+1) (.raw (.ref F.f2)) [.int a,.int b,.int n] Q:=λd' H Q n a b h1 hn hc q=>by
   refine F.h2.call (d:=d') (λdoc pm an ct=>i8 λS v w u=>uk) rfl C3 (zC F) ?_;refine' aE ?_;ext;refine ⟨_,dP,?_⟩;ext;refine dU ?_;ext;refine' jq (n7.mpr hc) ?_;ext;refine ⟨aK,?_⟩;ext;refine q0 (Int.natCast_ne_zero.mpr (AL (nlt (As _) h1))) (aEw h1 (dK.mp hc) hn) ?_;rw [i4,lD];exact q
 intro l;have hbts:∀{n a b:Nat},b<2 ^ n->a<b*2 ^ n->bits a<=n+n:=λ{n a b} h2 ha=>dK.mpr (nlt ha (by rw [Aq];exact AW _ (Ah h2)))
 induction l with
 | zero=>
   intro H Q n a b h1 h2 hn ha hl hz q;exact small 1 H Q n a b h1 hn (ntr (hbts h2 ha) (AD hl n)) q
 | succ l ih=>
   intro H Q n a b h1 h2 hn ha hl hz q;by_cases hc:bits a<=n+4000
   . exact small (2*l+3) H Q n a b h1 hn hc q
   have hl2:n<=4000*2 ^ l+4000*2 ^ l:=by rw [AJ,<-AM,AY] at hl;exact hl
   refine F.h2.call (d:=2*l+3) (λdoc pm an ct=>i8 λS v w u=>uk) rfl C3 (zC F) ?_;refine' aE ?_;ext;refine ⟨_,dP,?_⟩;ext;refine dU ?_;ext;refine' iD (λh=>hc (n7.mp h)) ?_;ext;rw [EN];ext;by_cases hp0:n%2=0
   . rw [hp0]
     refine' ifn B9 ?_;obtain ⟨h,rfl⟩:=mV hp0;have:=vF F ih (p:=0) (H:=H) (Q:=Q) (by lia) h1 h2 ha (by lia) (by lia) (by rw [if_pos rfl];exact q);refine' jU ?_;exact this
   . refine' ifp (bne_iff_ne.mpr λe=>hp0 (Int.ofNat.inj e)) ?_
     obtain ⟨h,hnh⟩:=mV (n:=n+1) (by lia);have main:=vF F ih (a:=a*2 ^ 1) (b:=b*2 ^ 1) (h:=h) (p:=n%2) (H:=H) (Q:=Q) (by clear hp0;lia)
       (by rw [<-hnh,Nat.add_sub_cancel,<-Nat.sub_add_cancel hn,AJ];exact AW _ h1)
       (by rw [<-hnh,AJ];exact Nat.mul_lt_mul_of_pos_right h2 ∅)
       (by
         rw [<-hnh,Nat.pow_one,AJ,Nat.mul_mul_mul_comm]
         exact nlt (Nat.mul_lt_mul_of_pos_right ha ∅) (Aw _ ∅)) (by clear hp0;lia) (by clear hp0;lia)
       (by rw [if_neg hp0,Nat.mul_div_mul_right _ _ ∅,Nat.mul_mod_mul_right,Nat.pow_one,Nat.mul_div_cancel _ ∅];exact q)
     have hn1:n+1<=134217728:=ntr (AA hz 1) ∅;ext;refine vL (s:=1) (dK.mp (hbts h2 ha)) (ntr (AA (An hz hz) 1) ∅) ?_;ext;refine vL (s:=1) h2 hn1 ?_;unfold aCy at main;rw [<-hnh] at main
     repeat first | exact main | walk_at "mw"
noncomputable abbrev eB:Nat:=2097152
theorem jO:eB<=2097152:=Ab _
theorem aAx (F:DivFns B){n a:Nat}(h1:2 ^ (n-1)<=b)(h2:b<2 ^ n)(hn:1<=n)(ha:a<b*2 ^ n)(hz:n<=eB)(q:Q (.tup [.int ((a/b:Nat):Int),.int ((a%b:Nat):Int)]) H):aM [] NoE H B 22 (.raw (.ref F.f2)) [.int a,.int b,.int n] Q:=
 aEk F 10 H Q n a b h1 h2 hn ha (ntr hz ∅) hz q
end
noncomputable def aBr (p:Prop):Prop:=p
theorem Gx {n m:Str}{a:Arguments}{b:List Stmt}{ds:List Expr}{r:Option Expr}{tps:List TypeParam}{sc:Scope}{o:Option Scope}{p:Pos}
   (h:aBr (Xs E B d fi H σ (.FunctionDef n a b ds r tps sc o m p::rest) Qn Qf)):Xs E B d fi H σ (.FunctionDef n a b ds r tps sc o m p::rest) Qn Qf:=h
noncomputable def aBn (k i:Nat):Stmt:=((a8 (aL k))[i]?).getD (.Pass default)
noncomputable def gT:Stmt->Pos
 | .FunctionDef _ _ _ _ _ _ _ _ _ p=>p
 | _=>default
noncomputable def aCj (ns ks:List (Str×NameKind)):Bool:=ns.all λe=>e.2 != .free || ks.any λf=>f.1==e.1 && f.2==.cell
theorem nu {ns:List (Str×NameKind)}(h:aCj ns (σ.map λe=>(e.1,e.2.1))=true):∀n,(n,NameKind.free)∈ns->∃ov,(n,NameKind.cell,ov)∈σ:=λn hn=>by
 have:=List.all_eq_true.mp h _ hn;simp only [Cb,List.any_eq_true,Ca,beq_iff_eq] at this;rcases this with q | ⟨f,hf,h1,h2⟩
 . cases q
 . obtain ⟨⟨y,k,ov⟩,he,rfl⟩:=mmp hf
   simp only at h1 h2;subst h1 h2;exact ⟨ov,he⟩
noncomputable def o6 (nm:List Str)(s:Scope):Bool:=
 decide nm.Nodup && nm.all (λx=>s.names.any λe=>decide (e.1=x) && (e.2==.local)) && decide ((s.names.map λe=>e.1).Nodup) && s.names.all (λe=>e.2 != .cell) && (s.kind==.function) && !s.isCoroutine && !s.isGenerator
section
theorem di.call' {name qual:Str}{params:Arguments}{σ₀:St}{args:List PV}{kw bs:List (Str×PV)}{nm:List Str}(h:di B f name qual params body scope σ)
   (hb:∀clos doc pm cv ctv,cI B (fnX name qual params body scope clos .none .none doc pm none cv ctv) args kw H bs)(hnm:bs.map (λe=>e.1)=nm)(hc:o6 nm scope=true)(hi:dt B bs σ scope.names σ₀)
   (hx:Xs NoE B d ⟨scope,none,qual++".<locals>.",λO=>false⟩ H σ₀ body (λO H'=>Q .none H') (PX Q)):aM kw NoE H B (d+1) (.raw (.ref f)) args Q:=by
 simp only [o6,Ca,decide_eq_true_eq,Bool.not_eq_true',beq_iff_eq] at hc;obtain ⟨⟨⟨⟨⟨⟨h1,h2⟩,h3⟩,h4⟩,h5⟩,h6⟩,h7⟩:=hc;refine h.call hb (by rw [hnm];exact h1) (λe he=>?_) h3 (λe he=>?_) h5 h6 h7 hi hx
 . have hm:e.1∈nm:=by rw [<-hnm];exact mmr ⟨e,he,rfl⟩
   have:=List.all_eq_true.mp h2 _ hm;simp only [List.any_eq_true,Ca,decide_eq_true_eq,beq_iff_eq] at this;obtain ⟨⟨x,k⟩,hx,rfl,rfl⟩:=this;exact hx
 . have:=List.all_eq_true.mp h4 _ he
   simpa using this
theorem ae.callC {c P:Addr}{name:Str}(h:ae dV kV k name f (.ref c) B){args:List PV}{kw bs:List (Str×PV)}{nm:List Str}{σ₀:St}
   (hb:∀doc pm an ct,cI B (bR name k dV kV doc pm an (.ref c) ct) args kw H bs)(hnm:bs.map (λe=>e.1)=nm)(hc:bV nm (aI (aL k))=true)
   (hi:Ini B bs (aI (aL k)).names σ₀)(hx:Xs NoE B d ⟨aI (aL k),some (c,P),name++".<locals>.",λO=>false⟩ H σ₀ (a8 (aL k)) (λO H'=>Q .none H') (PX Q)):aM kw NoE H B (d+1) (.raw (.ref f)) args Q:=by
 obtain ⟨oc,od,osl,doc,pm,an,ct,ho⟩:=h.at_;exact qF (fd:=bR name k dV kV doc pm an (.ref c) ct) (cp:=some (c,P)) (λs I=>I.keep _ _ ho) rfl rfl (λs I=>h.code.keeps I.keep) (gL hc) (kE hc) (iY hc) rfl rfl (λO O h=>by cases h;rfl) (hb doc pm an ct)
   (by rw [hnm];exact e8 hc) (λe he=>ik hc _ (by rw [<-hnm];exact mmr ⟨e,he,rfl⟩)) (fG hc) (gN hc) hi hx
end
noncomputable def dig (n x i:Nat):Nat:=x/2 ^ (n*i)%2 ^ n
noncomputable def jw (n x L R:Nat)(xs ys:List PV):Prop:=ys.length=xs.length/\∀j,ys[j]?=if L<=j/\j<R then some (.int (dig n x (j-L):Nat)) else xs[j]?
theorem F4 {n x:Nat}(h:i<m):dig n (x%2 ^ (n*m)) i=dig n x i:=by
 unfold dig;obtain ⟨k,rfl⟩:=Nat.exists_eq_add_of_lt h;have e:n*(i+k+1)=n*i+(n+n*k):=by rw [AZ,AN,Ap,Ak (n*k)]
 rw [e,Aq,Nat.mod_mul_right_div_self,Aq,Nat.mod_mul_right_mod]
theorem zZ {n x:Nat}:dig n (x/2 ^ (n*m)) i=dig n x (m+i):=by
 unfold dig;rw [Nat.div_div_eq_div_mul,<-Aq,AN]
theorem jw.both {n x L M R:Nat}{zs:List PV}(h1:L<=M)(h2:M<=R)(hz:R<=xs.length)(a:jw n (x%2 ^ (n*(M-L))) L M xs ys)(b:jw n (x/2 ^ (n*(M-L))) M R ys zs):jw n x L R xs zs:=by
 refine ⟨b.1.trans a.1,λj=>?_⟩;rw [b.2 j,a.2 j];by_cases hj:M<=j/\j<R
 . rw [if_pos hj,if_pos ⟨ntr h1 hj.1,hj.2⟩,zZ,Ak,Nat.sub_add_sub_cancel hj.1 h1]
 . rw [if_neg hj]
   by_cases hk:L<=j/\j<M
   . rw [if_pos hk,if_pos ⟨hk.1,nlt hk.2 h2⟩,F4 (Nat.sub_lt_sub_right hk.1 hk.2)]
   . rw [if_neg hk,if_neg (by lia)]
theorem jw.one {n x L:Nat}(hx:x<2 ^ n)(hl:L<xs.length):jw n x L (L+1) xs (xs.set L (.int (x:Nat))):=by
 refine ⟨by simp,λj=>?_⟩;rw [List.getElem?_set];by_cases hj:L=j
 . subst hj
   rw [if_pos rfl,if_pos hl,if_pos ⟨Ab _,Au _⟩];simp [dig,Nat.mod_eq_of_lt hx]
 . rw [if_neg hj,if_neg (by lia)]
theorem jw.eq {n x:Nat}(h:jw n x 0 m xs ys)(hm:xs.length=m):ys=(List.range m).map λi=>PV.int (dig n x i:Nat):=by
 apply List.ext_getElem?;intro j;rw [h.2 j];by_cases hj:j<m
 . rw [if_pos ⟨Ae _,hj⟩];simp [hj]
 . rw [if_neg (by lia)]
   rw [List.getElem?_eq_none (by lia),List.getElem?_eq_none (by simp;(exact Nat.not_lt.mp ‹_›))]
section
noncomputable abbrev nI:Stmt:=aBn gG 1
noncomputable abbrev stI (a n A f:PV):St:=[(Ω "a",.local,some a),(Ω "n",.cell,some n),(Ω "a_digits",.cell,some A),(Ω "inner",.cell,some f),(Ω "len",.globalImplicit,some (.raw (.builtin "len")))]
noncomputable abbrev stJ (x L R mid shift upper lower:Option PV)(A f n:PV):St:=[(Ω "x",.local,x),(Ω "L",.local,L),(Ω "R",.local,R),(Ω "mid",.local,mid),(Ω "shift",.local,shift),(Ω "upper",.local,upper),(Ω "lower",.local,lower),
 (Ω "a_digits",.free,some A),(Ω "inner",.free,some f),(Ω "n",.free,some n)]
theorem vR {clos:List (Str×Addr)}{doc pm cv ctv v u:Value}:b9 S [] (bindArgs (fnX "inner" "_int2digits.<locals>.inner" (eu nI) (a8 nI) (aI nI) clos .none .none doc pm none cv ctv) ⟨[v,w,u],[]⟩)=some ([],[(Ω "x",v),(Ω "L",w),(Ω "R",u)]):=by kernel_rfl
theorem yx:o6 [Ω "x",Ω "L",Ω "R"] (aI nI)=true:=by decide +kernel
theorem Dl {x L R a A n:PV}(hA:fU A=true)(hn:fU n=true):dt B [(Ω "x",x),(Ω "L",L),(Ω "R",R)] (stI a n A (.raw (.ref f))) (aI nI).names (stJ (some x) (some L) (some R) none none none none A (.raw (.ref f)) n):=by
 refine .arg (by walk_at "mm") (.arg (by walk_at "mm") (.arg (by walk_at "mm") (.unset (.unset (.unset (.unset (.free (by simp) hA (.free (by simp) rfl (.free (by simp) hn .nil)))))))))
theorem cU {name qual:Str}{params:Arguments}(h:di B f name qual params body scope σ):cQ B (.raw (.ref f)):=by
 obtain ⟨clos,doc,pm,cv,ctv,ho,O⟩:=h.at_;exact ml ho rfl
theorem EO {A:Addr}{a:PV}{n:Nat}(hn:1<=n)(hn2:n<=2097152)(NF:di B f "inner" "_int2digits.<locals>.inner" (eu nI) (a8 nI) (aI nI) (stI a (.int n) (.lref A) (.raw (.ref f)))) :
   ∀(k x L R:Nat) (xs:List PV) (Q:PQ),L<R->R-L<=2 ^ k->R<=xs.length->x<2 ^ (n*(R-L))->n*(R-L)<=2 ^ 26->xs.length<=2 ^ 24->(∀ys,jw n x L R xs ys->Q .none ((A,ys)::H))->
     aM [] NoE ((A,xs)::H) B (k+1) (.raw (.ref f)) [.int x,.int L,.int R] Q:=by
 have one:∀(d' x L:Nat) (xs:List PV) (Q:PQ),L+1<=xs.length->x<2 ^ (n*(L+1-L))->xs.length<=2 ^ 24->(∀ys,jw n x L (L+1) xs ys->Q .none ((A,ys)::H))->
     aM [] NoE ((A,xs)::H) B (d'+1) (.raw (.ref f)) [.int x,.int L,.int (L+1:Nat)] Q:=λd' x L xs Q h3 h4 h6 q=>by
   refine NF.call' (d:=d') (λclos doc pm cv ctv=>i8 λS v w u=>vR) rfl yx (Dl rfl rfl) ?_;refine' aE ?_;ext;refine' ifp (beq_self_eq_true _) ?_;ext;refine o8 ?_;ext;refine rI .head (Cd _) (aDh h3 (Ai h6 ∅)) (Int.ofNat_lt.mpr h3) ?_;ext;rw [AO,Nat.mul_one] at h4;exact q _ (jw.one h4 h3)
 intro k
 induction k with
 | zero=>
   intro x L R xs Q h1 h2 h3 h4 h5 h6 q;obtain rfl:R=L+1:=A7 (Nat.sub_le_iff_le_add'.mp h2) h1;exact one 0 x L xs Q h3 h4 h6 q
 | succ k ih=>
   intro x L R xs Q h1 h2 h3 h4 h5 h6 q;by_cases hc:R=L+1
   . subst hc
     exact one (k+1) x L xs Q h3 h4 h6 q
   . refine NF.call' (d:=k+1) (λclos doc pm cv ctv=>i8 λS v w u=>vR) rfl yx (Dl rfl rfl) ?_
     have hM1:=uq h1 hc;have hM2:=vP h1;have hM3:=u0 h2 h1;have hM4:=uO h2 h1;have hLM:=Ah hM1;have hMR:=Ah hM2;refine' aE ?_;ext;refine' ifn (λe=>hc (Int.ofNat.inj (eq_of_beq e)).symm) ?_;ext;refine pL ∅ ?_;refine bN (congrArg PV.int (vX L R)) ?_;generalize (L+R)/2=M at *;have hMx:M<2 ^ 62:=nlt hM2 (ntr h3 (ntr h6 ∅));ext;refine fX (congrArg PV.int (CD hLM).symm) ?_;refine ro (Ai (Av _ _) hMx) ?_;refine bN (w:=.int ((n*(M-L):Nat):Int)) (congrArg (λz:Nat=>PV.int z) (Ao _ _)) ?_;have hs3:n*(R-L)=n*(M-L)+n*(R-M):=by rw [<-AN,<-oQ hLM hMR]
     have hs1:n*(M-L)<=n*(R-L):=hs3▸Ad _ _;have hs2:n*(R-M)<=n*(R-L):=hs3▸Al _ _
     have hu:x/2 ^ (n*(M-L))<2 ^ (n*(R-M)):=by
       rw [AF (As _),<-Aq,Ak,<-hs3];exact h4
     ext;refine eR ?_;ext;refine eN hu (ntr (Ac ((Ak _ _).trans hs3.symm)) (ntr h5 ∅)) ?_;ext;rw [Dc];ext;refine ⟨cU NF,?_⟩;ext;refine ih _ L M xs _ hM1 hM3 (ntr hMR h3) (Am _ (As _)) (ntr hs1 h5) h6 λys hy=>?_;ext;refine ⟨cU NF,?_⟩;ext;refine ih _ M R ys _ hM2 hM4 (hy.1▸h3) hu (ntr hs2 h5) (hy.1▸h6) λzs hz=>?_;ext;exact q _ (jw.both hLM hMR h3 hy hz)
end
section
theorem DO {doc pm ct:Value}{v:Value}:b9 S [] (bindArgs (bR "_int2digits" gG .none .none doc pm an cdv ct) ⟨[v,w],[]⟩)=some ([],[(Ω "a",v),(Ω "n",w)]):=by kernel_rfl
theorem Fn:bV [Ω "a",Ω "n"] (aI (aL gG))=true:=by decide +kernel
theorem FK {a n:PV}(gl:aH B "len" (.raw (.builtin "len"))):Ini B [(Ω "a",a),(Ω "n",n)] (aI (aL gG)).names [(Ω "a",.local,some a),(Ω "n",.cell,some n),(Ω "a_digits",.cell,none),(Ω "inner",.cell,none),(Ω "len",.globalImplicit,some (.raw (.builtin "len")))]:=by
 refine .arg (by walk_at "mm") (.inl rfl) (.arg (by walk_at "mm") (.inr rfl) (.unset (.unset (.glob gl .nil))))
noncomputable def nDig (a n:Nat):Nat:=(bits a+n-1)/n
theorem sR {a n:Nat}(hn:1<=n):a<2 ^ (n*nDig a n):=by
 refine nlt (ud a) (AP ∅ ?_);refine Nat.le_of_add_le_add_right (b:=n-1) ?_;rw [<-Nat.add_sub_assoc hn,<-AV (bits a+n-1) n];exact AD (Nat.le_sub_one_of_lt (Am _ hn)) _
theorem u4 {a n:Nat}:n*nDig a n<=bits a+n-1:=Nat.mul_div_le _ _
theorem CN {a n:Nat}(hn:1<=n)(ha:a≠0):0<nDig a n:=by
 exact Nat.div_pos (by rw [Ak,Nat.add_sub_assoc (pN ha).1];exact Ad _ _) hn
theorem CR (k:Nat)(x:PV):(List.replicate k [x]).flatten=List.replicate k x:=by
 induction k with
 | zero=>rfl
 | succ k ih=>rw [BO,BD,ih];rfl
theorem DL {c P:Addr}{a n:Nat}(h:ae .none .none gG "_int2digits" f (.ref c) B)(N:dE "_int2digits.<locals>.inner" (gT nI) P c B)(gl:aH B "len" (.raw (.builtin "len")))
   (hn:1<=n)(hn2:n<=2097152)(ha:bits a<=4194304)(q:∀A,Q (.lref A) ((A,(List.range (nDig a n)).map λi=>PV.int (dig n a i:Nat))::H)):aM [] NoE H B (d+26) (.raw (.ref f)) [.int a,.int n] Q:=by
 refine h.callC (d:=d+25) (P:=P) (λdoc pm an ct=>c7 λS v w=>DO) rfl Fn (FK gl) ?_
 have hl:nDig a n<=4194304+2097152:=by
   exact ntr (Nat.div_le_self _ _) (ntr (Av _ _) (An ha hn2))
 have hl24:nDig a n<=2 ^ 23:=ntr hl ∅;refine' aE ?_;ext;refine aV ?_;ext;refine ⟨_,dP,?_⟩;ext;refine dU ?_;ext;refine dT (Int.natCast_ne_zero.mpr (AL hn)) (km (Ai hn2 ∅)) ?_
 have e1:((Builtin.Int.intBits (a:Int):Int)+(n:Int)-1).fdiv (n:Int)=((nDig a n:Nat):Int):=by
   have:((Builtin.Int.intBits (a:Int):Int)+(n:Int)-1)=((bits a+n-1:Nat):Int):=by
     exact (CD (ntr hn (Al _ _))).symm
   rw [this,i4];rfl
 refine bN (congrArg PV.int e1) ?_;refine qm .list (Cs ∅ (Cd _)) (aDh (AT hl24) ∅) (by rw [Bt,Bc];exact ntr hl24 ∅) ?_;rw [CR,Ci];refine .inr λA=>?_;ext;unfold aBr;refine yY (c:=c) (P:=P) (qual:=Ω "_int2digits.<locals>.inner") (k:=.cell) (σ':=λf=>stI (.int a) (.int n) (.lref A) (.raw (.ref f))) ?hN ?hfi ?hq ?hd ?hkd ?han ?hfr ?hrep ?hst ?_
 case hN=>exact N
 case hfi=>rfl
 case hq=>kernel_rfl
 case hd=>rfl
 case hkd=>rfl
 case han=>exact λenv=>rfl
 case hfr=>exact nu (by kernel_rfl)
 case hrep=>exact λf=>.tail (.tail (.tail .head))
 case hst=>exact .inr ⟨rfl,rfl⟩
 intro g hk ht fi NF;have nf:di (B.up g hk ht) fi "inner" "_int2digits.<locals>.inner" (eu nI) (a8 nI) (aI nI) (stI (.int a) (.int n) (.lref A) (.raw (.ref fi))):=NF;ext;by_cases ha0:a=0
 . subst ha0
   refine' ifn B9 ?_;ext
   have e0:nDig 0 n=0:=by
     show (bits 0+n-1)/n=0;have:bits 0<=0:=dK.mpr ∅;exact Nat.div_eq_of_lt (by rw [Nat.le_zero.mp this,Aj];exact Nat.sub_lt hn ∅)
   have:=q A;rw [e0] at this ⊢;exact this
 . refine' ifp (bne_iff_ne.mpr λe=>ha0 (Int.ofNat.inj e)) ?_
   ext;refine ⟨cU nf,?_⟩;ext;refine ⟨aK,?_⟩;ext;refine ab (.lref mcs) (by rw [Bu];exact Ai hl24 ∅) ?_;ext;rw [Bu];have hfit:=sR (a:=a) hn;have hpos:=CN hn ha0;have hle:=u4 (a:=a) (n:=n);refine aM.le (d':=24) (dk rfl) ?_;refine EO hn hn2 nf 23 a 0 (nDig a n) _ _ hpos hl24 (Ac List.length_replicate.symm) (by rw [Nat.sub_zero];exact hfit) (by rw [Nat.sub_zero];exact ntr hle (ntr (Av _ _) (ntr (An ha hn2) ∅))) (by rw [Bu];exact ntr hl24 ∅) λys hy=>?_;ext;rw [hy.eq Bu];exact q A
end
noncomputable def valD (n:Nat):List Nat->Nat
 | []=>0
 | d::r=>d+2 ^ n*valD n r
theorem jm {n:Nat}:∀{l m:List Nat},valD n (l++m)=valD n l+2 ^ (n*l.length)*valD n m:=by
 intro l
 induction l with
 | nil=>
   intro m;show valD n m=0+2 ^ (n*0)*valD n m;rw [AR,Nat.pow_zero,Bc,Aj]
 | cons d r ih=>
   intro m;show d+2 ^ n*valD n (r++m)=d+2 ^ n*valD n r+2 ^ (n*(r.length+1))*valD n m;rw [ih,AN (2 ^ n),AN n,Nat.mul_one,Ak (n*r.length) n,Aq,AM,Ap]
theorem Ed {n:Nat}:∀{l:List Nat},(∀d∈l,d<2 ^ n)->valD n l<2 ^ (n*l.length):=by
 intro l
 induction l with
 | nil=>
   intro _;exact As _
 | cons d r ih=>
   intro h;have h1:=h d mcs;have h2:=ih λx hx=>h x (mcm _ hx);show d+2 ^ n*valD n r<2 ^ (n*(r.length+1));rw [AN,Nat.mul_one,Ak (n*r.length) n,Aq];have h3:2 ^ n*(valD n r+1)<=2 ^ n*2 ^ (n*r.length):=Aw _ h2;rw [AN] at h3
   (clear h2;lia)
noncomputable def slc (ds:List Nat)(L R:Nat):List Nat:=(ds.drop L).take (R-L)
theorem wz {ds:List Nat}{L M R:Nat}(h1:L<=M)(h2:M<=R):slc ds L R=slc ds L M++slc ds M R:=by
 unfold slc;rw [oQ h1 h2,List.take_add,BN,Be h1]
theorem vW {ds:List Nat}{L R:Nat}(h:R<=ds.length):(slc ds L R).length=R-L:=by
 unfold slc;rw [BF,BE];exact AG (Nat.sub_le_sub_right h L)
theorem Fm {ds:List Nat}{L:Nat}(h:L<ds.length):slc ds L (L+1)=[ds[L]]:=by
 unfold slc;rw [AO,BH h,List.take_succ_cons,List.take_zero]
theorem EQ {ds:List Nat}{L R:Nat}(h:d∈slc ds L R):d∈ds:=List.mem_of_mem_drop (BY h)
theorem GR {ds:List Nat}:slc ds 0 ds.length=ds:=by unfold slc;simp
section
noncomputable abbrev nO:Stmt:=aBn dA 0
noncomputable abbrev stO (A n f:PV):St:=[(Ω "digits",.cell,some A),(Ω "n",.cell,some n),(Ω "inner",.cell,some f),(Ω "len",.globalImplicit,some (.raw (.builtin "len")))]
noncomputable abbrev stP (L R mid shift:Option PV)(A f n:PV):St:=[(Ω "L",.local,L),(Ω "R",.local,R),(Ω "mid",.local,mid),(Ω "shift",.local,shift),
 (Ω "digits",.free,some A),(Ω "inner",.free,some f),(Ω "n",.free,some n)]
theorem uW {clos:List (Str×Addr)}{doc pm cv ctv v:Value}:b9 S [] (bindArgs (fnX "inner" "_digits2int.<locals>.inner" (eu nO) (a8 nO) (aI nO) clos .none .none doc pm none cv ctv) ⟨[v,w],[]⟩)=some ([],[(Ω "L",v),(Ω "R",w)]):=by kernel_rfl
theorem DQ:o6 [Ω "L",Ω "R"] (aI nO)=true:=by decide +kernel
theorem ya {L R A n:PV}(hA:fU A=true)(hn:fU n=true):dt B [(Ω "L",L),(Ω "R",R)] (stO A n (.raw (.ref f))) (aI nO).names (stP (some L) (some R) none none A (.raw (.ref f)) n):=by
 refine .arg (by walk_at "mm") (.arg (by walk_at "mm") (.unset (.unset (.free (by simp) hA (.free (by simp) rfl (.free (by simp) hn .nil))))))
theorem EX {A:Addr}{n:Nat}{ds:List Nat}(hn:1<=n)(hn2:n<=2097152)(NF:di B f "inner" "_digits2int.<locals>.inner" (eu nO) (a8 nO) (aI nO) (stO (.lref A) (.int n) (.raw (.ref f))))(hA:(A,ds.map λx:Nat=>PV.int x)∈H)
   (hd:∀x∈ds,x<2 ^ n)(hlen:ds.length<=2 ^ 24):∀(k L R:Nat) (Q:PQ),L<R->R-L<=2 ^ k->R<=ds.length->n*(R-L)<=2 ^ 26->Q (.int (valD n (slc ds L R):Nat)) H->
     aM [] NoE H B (k+1) (.raw (.ref f)) [.int L,.int R] Q:=by
 have one:∀(d' L:Nat) (Q:PQ),L+1<=ds.length->Q (.int (valD n (slc ds L (L+1)):Nat)) H->aM [] NoE H B (d'+1) (.raw (.ref f)) [.int L,.int (L+1:Nat)] Q:=λd' L Q h3 q=>by
   refine NF.call' (d:=d') (λclos doc pm cv ctv=>c7 λS v w=>uW) rfl DQ (ya rfl rfl) ?_;refine' aE ?_;ext;refine' ifp (beq_self_eq_true _) ?_;ext;refine ⟨aB (.lref hA),?_⟩;refine kB (.lref hA) (by rw [Bk];exact h3) (by rw [Bk];exact Ai hlen ∅) ?_;rw [Fm h3] at q;exact bN ((List.getElem_map _).trans (congrArg (λz:Nat=>PV.int z) (show ds[L]=valD n [ds[L]] from rfl))) q
 intro k
 induction k with
 | zero=>
   intro L R Q h1 h2 h3 h5 q;obtain rfl:R=L+1:=A7 (Nat.sub_le_iff_le_add'.mp h2) h1;exact one 0 L Q h3 q
 | succ k ih=>
   intro L R Q h1 h2 h3 h5 q;by_cases hc:R=L+1
   . subst hc
     exact one (k+1) L Q h3 q
   . refine NF.call' (d:=k+1) (λclos doc pm cv ctv=>c7 λS v w=>uW) rfl DQ (ya rfl rfl) ?_
     have hM1:=uq h1 hc;have hM2:=vP h1;have hM3:=u0 h2 h1;have hM4:=uO h2 h1;have hLM:=Ah hM1;have hMR:=Ah hM2;refine' aE ?_;ext;refine' ifn (λe=>hc (Int.ofNat.inj (eq_of_beq e)).symm) ?_;ext;refine pL ∅ ?_;refine bN (congrArg PV.int (vX L R)) ?_;generalize (L+R)/2=M at *;have hMx:M<2 ^ 62:=nlt hM2 (ntr h3 (ntr hlen ∅));ext;refine fX (congrArg PV.int (CD hLM).symm) ?_;refine ro (Ai (Av _ _) hMx) ?_;refine bN (w:=.int ((n*(M-L):Nat):Int)) (congrArg (λz:Nat=>PV.int z) (Ao _ _)) ?_;have hs3:n*(R-L)=n*(M-L)+n*(R-M):=by rw [<-AN,<-oQ hLM hMR]
     have hs1:n*(M-L)<=n*(R-L):=hs3▸Ad _ _;have hs2:n*(R-M)<=n*(R-L):=hs3▸Al _ _;ext;refine ⟨cU NF,?_⟩;ext;refine ih M R _ hM2 hM4 h3 (ntr hs2 h5) ?_;ext;have hlt:=Ed (n:=n) (l:=slc ds M R) λx hx=>hd x (EQ hx);rw [vW h3] at hlt;refine eN hlt (ntr (Ac ((Ak _ _).trans hs3.symm)) (ntr h5 ∅)) ?_;ext;refine ⟨cU NF,?_⟩;ext;refine ih L M _ hM1 hM3 (ntr hMR h3) (ntr hs1 h5) ?_;ext;rw [wz hLM hMR,jm,vW (ntr hMR h3)] at q;refine bN (congrArg (λz:Nat=>PV.int z) (show valD n (slc ds M R)*2 ^ (n*(M-L))+valD n (slc ds L M)=_ by rw [Ao,Ak])) q
theorem yl {doc pm ct:Value}{v:Value}:b9 S [] (bindArgs (bR "_digits2int" dA .none .none doc pm an cdv ct) ⟨[v,w],[]⟩)=some ([],[(Ω "digits",v),(Ω "n",w)]):=by kernel_rfl
theorem FT:bV [Ω "digits",Ω "n"] (aI (aL dA))=true:=by decide +kernel
theorem G5 {a n:PV}(gl:aH B "len" (.raw (.builtin "len"))):Ini B [(Ω "digits",a),(Ω "n",n)] (aI (aL dA)).names [(Ω "digits",.cell,some a),(Ω "n",.cell,some n),(Ω "inner",.cell,none),(Ω "len",.globalImplicit,some (.raw (.builtin "len")))]:=by
 refine .arg (by walk_at "mm") (.inr rfl) (.arg (by walk_at "mm") (.inr rfl) (.unset (.glob gl .nil)))
theorem yn {c P A:Addr}{n:Nat}{ds:List Nat}(h:ae .none .none dA "_digits2int" f (.ref c) B)(N:dE "_digits2int.<locals>.inner" (gT nO) P c B)(gl:aH B "len" (.raw (.builtin "len")))
   (hn:1<=n)(hn2:n<=2097152)(hA:(A,ds.map λx:Nat=>PV.int x)∈H)(hd:∀x∈ds,x<2 ^ n)(hlen:ds.length<=2 ^ 23)(hz:n*ds.length<=2 ^ 26)(q:Q (.int (valD n ds:Nat)) H):aM [] NoE H B (d+26) (.raw (.ref f)) [.lref A,.int n] Q:=by
 refine h.callC (d:=d+25) (P:=P) (λdoc pm an ct=>c7 λS v w=>yl) rfl FT (G5 gl) ?_;refine' Gx ?_;unfold aBr;refine yY (c:=c) (P:=P) (qual:=Ω "_digits2int.<locals>.inner") (k:=.cell) (σ':=λf=>stO (.lref A) (.int n) (.raw (.ref f))) ?hN ?hfi ?hq ?hd ?hkd ?han ?hfr ?hrep ?hst ?_
 case hN=>exact N
 case hfi=>rfl
 case hq=>kernel_rfl
 case hd=>rfl
 case hkd=>rfl
 case han=>exact λenv=>rfl
 case hfr=>exact nu (by kernel_rfl)
 case hrep=>exact λf=>.tail (.tail .head)
 case hst=>exact .inr ⟨rfl,rfl⟩
 intro g hk ht fi NF;have nf:di (B.up g hk ht) fi "inner" "_digits2int.<locals>.inner" (eu nO) (a8 nO) (aI nO) (stO (.lref A) (.int n) (.raw (.ref fi))):=NF;ext;refine bc ?_;ext;refine wA (.lref hA) (by rw [Bk];exact Ai hlen ∅) ?_
 cases hds:ds with
 | nil=>
   subst hds;simp only [List.map_nil,List.isEmpty_nil,Bool.not_true,Cc,if_false];ext;exact q
 | cons x r=>
   rw [<-hds];refine' ifp (by rw [hds];rfl) ?_;have hpos:0<ds.length:=by rw [hds];simp
   ext;refine ⟨cU nf,?_⟩;ext;refine ⟨aK,?_⟩;ext;refine ab (.lref hA) (by rw [Bk];exact Ai hlen ∅) ?_;ext;rw [Bk];refine aM.le (d':=24) (dk rfl) ?_;refine EX hn hn2 nf hA hd (ntr hlen ∅) 23 0 ds.length _ hpos hlen (Ab _) (by rw [Nat.sub_zero];exact hz) ?_;rw [GR];exact q
end
theorem wJ (n a m:Nat):valD n ((List.range m).map (dig n a))=a%2 ^ (n*m):=by
 induction m with
 | zero=>rw [AR,Nat.pow_zero,Nat.mod_one];rfl
 | succ m ih=>
   rw [List.range_succ,Bq,jm,ih,Bk,BG,Bs,List.map_nil];show a%2 ^ (n*m)+2 ^ (n*m)*(dig n a m+2 ^ n*0)=_;rw [AR,AS,AZ,Aq,Nat.mod_mul]
   rfl
theorem xE (T b n x:Nat)(hb:0<b):(T%b*2 ^ n+x)/b+2 ^ n*(T/b)=(x+2 ^ n*T)/b/\(x+2 ^ n*T)%b=(T%b*2 ^ n+x)%b:=by
 have e:x+2 ^ n*T=(T%b*2 ^ n+x)+(2 ^ n*(T/b))*b:=by
   have h1:=AV T b
   have h2:2 ^ n*T=2 ^ n*(T/b)*b+T%b*2 ^ n:=by
     rw [AM,Ao (T%b),<-AN,Ao (T/b),h1]
   rw [h2,Ak,AU,Ap,Ak (2 ^ n*(T/b)*b),Ak x]
 rw [e,Nat.add_mul_div_right _ _ hb,Nat.add_mul_mod_self_right];exact ⟨rfl,rfl⟩
section
set_option genInjectivity false in
set_option genSizeOf false in
structure DigFns (B:aJ) extends DivFns B where
 fi:Addr
 fo:Addr
 ci:Addr
 co:Addr
 pi:Addr
 po:Addr
 hi:ae .none .none gG "_int2digits" fi (.ref ci) B
 ho:ae .none .none dA "_digits2int" fo (.ref co) B
 ni:dE "_int2digits.<locals>.inner" (gT nI) pi ci B
 no:dE "_digits2int.<locals>.inner" (gT nO) po co B
 gi:aH B "_int2digits" (.raw (.ref fi))
 go:aH B "_digits2int" (.raw (.ref fo))
 gln:aH B "len" (.raw (.builtin "len"))
 grv:aH B "reversed" (.raw (.type "reversed"))
theorem F7 {doc pm ct:Value}{v:Value}:b9 S [] (bindArgs (bR "_divmod_pos" et .none .none doc pm an cdv ct) ⟨[v,w],[]⟩)=some ([],[(Ω "a",v),(Ω "b",w)]):=by kernel_rfl
theorem aA1:bV [Ω "a",Ω "b"] (aI (aL et))=true:=by decide +kernel
noncomputable abbrev stQ (a b:Nat)(n ad r qd adg qdg q:Option PV)(fi f2 fo:Addr):St:=[(Ω "a",.local,some (.int a)),(Ω "b",.local,some (.int b)),(Ω "n",.local,n),(Ω "a_digits",.local,ad),(Ω "r",.local,r),(Ω "q_digits",.local,qd),(Ω "a_digit",.local,adg),(Ω "q_digit",.local,qdg),(Ω "q",.local,q),
 (Ω "_int2digits",.globalImplicit,some (.raw (.ref fi))),(Ω "reversed",.globalImplicit,some (.raw (.type "reversed"))),(Ω "_div2n1n",.globalImplicit,some (.raw (.ref f2))),(Ω "_digits2int",.globalImplicit,some (.raw (.ref fo)))]
theorem aAc (F:DigFns B){a:Nat}:Ini B [(Ω "a",.int a),(Ω "b",.int b)] (aI (aL et)).names (stQ a b none none none none none none none F.fi F.f2 F.fo):=by
 refine .arg (by walk_at "mm") (.inl rfl) (.arg (by walk_at "mm") (.inl rfl) (.unset (.unset (.unset (.unset (.unset (.unset (.unset (.glob F.gi (.glob F.grv (.glob F.g2 (.glob F.go .nil))))))))))))
noncomputable abbrev aEx:Stmt:=aBn et 4
theorem aB2 (F:DigFns B){a n:Nat}{A C:Addr}{D:List Nat}(hb:b≠0)(hbn:n=bits b)(hn2':n<=eB)(hD:∀x∈D,x<2 ^ n)(hlen:D.length<=2 ^ 23)
   (hq:∀(qs:List Nat) (adg qdg:Option PV),(∀x∈qs,x<2 ^ n)->valD n qs.reverse=valD n D/b->qs.length=D.length->Qn (stQ a b (some (.int n)) (some (.lref A)) (some (.int (valD n D%b:Nat))) (some (.lref C)) adg qdg none F.fi F.f2 F.fo) ((C,qs.map λx:Nat=>PV.int x)::(A,D.map λx:Nat=>PV.int x)::H)) :
   ∀(ds P qs:List Nat) (adg qdg:Option PV),P++ds=D.reverse->(∀x∈qs,x<2 ^ n)->valD n qs.reverse=valD n P.reverse/b->qs.length=P.length->
   d6 B (gR et "_divmod_pos") (d+60) (au aEx) (ak aEx) [(A,D.map λx:Nat=>PV.int x)] (ds.map λx:Nat=>PV.int x) (stQ a b (some (.int n)) (some (.lref A)) (some (.int (valD n P.reverse%b:Nat))) (some (.lref C)) adg qdg none F.fi F.f2 F.fo) ((C,qs.map λx:Nat=>PV.int x)::(A,D.map λx:Nat=>PV.int x)::H) Qn Qf:=by
 have hb0:0<b:=Nat.pos_of_ne_zero hb;obtain ⟨g1,g2⟩:=pN hb;rw [<-hbn] at g1 g2;have g3:b<2 ^ n:=by rw [hbn];exact ud b
 intro ds
 induction ds with
 | nil=>
   intro P qs adg qdg e h1 h2 h3;rw [Br] at e;subst e;rw [List.reverse_reverse] at h2 ⊢;exact bp (hq qs adg qdg h1 h2 (h3.trans BP))
 | cons x ds ih=>
   intro P qs adg qdg e h1 h2 h3;have hx:x<2 ^ n:=hD x (List.mem_reverse.mp (by rw [<-e];exact List.mem_append_right _ (.head _)));have hP:P.length<=2 ^ 23:=ntr (by rw [<-BP (as:=D),<-e,Bl];exact Ad _ _) hlen;have hr:valD n P.reverse%b<b:=Am _ hb0;have hv:valD n (P++[x]).reverse=x+2 ^ n*valD n P.reverse:=by rw [B3];rfl
   have hlt:=uJ (a12:=valD n P.reverse%b) (b1:=0) (b2:=b) (n:=n) (by rw [Nat.zero_mul,Aj]) hx hr;have hqq:(valD n P.reverse%b*2 ^ n+x)/b<2 ^ n:=by rw [AF hb0,Ao (2 ^ n) b];exact hlt
   have hstep:=xE (valD n P.reverse) b n x hb0;have ih:=ih (P++[x]) (qs++[(valD n P.reverse%b*2 ^ n+x)/b]) (some (.int x)) (some (.int ((valD n P.reverse%b*2 ^ n+x)/b:Nat))) (by rw [Bn];exact e)
     (λy hy=>(mpp hy).elim (h1 y) λh=>by rw [msp h];exact hqq)
     (by
       rw [hv,B3];show _+2 ^ n*valD n qs.reverse=_
       rw [h2,hstep.1])
     (by rw [Bl,Bl,h3];rfl)
   rw [hv,hstep.2] at ih;refine ao ?_;refine' kq ?_;ext;refine' aE ?_;ext;refine ⟨aF F.h2,?_⟩;ext;refine eN (A5 hr g3) (ntr (An (ntr hn2' jO) (ntr hn2' jO)) ∅) ?_;ext;rw [<-Cf];refine aM.le (d':=22) (dk rfl) ?_;refine aAx F.toDivFns g2 g3 g1 hlt hn2' ?_;ext;refine ⟨_,b5 (.lref mcs),?_⟩;ext;refine bo .head (by rw [Bk,h3];exact ntr hP (bl rfl)) ?_;ext;refine ⟨λp hp=>by rw [msp hp];exact mcm _ mcs,?_⟩;rw [Bq] at ih;exact ih
theorem E7 (F:DigFns B){a:Nat}(h:ae .none .none et "_divmod_pos" f cdv B)(hb:b≠0)(hbz':bits b<=eB)(haz:bits a<=4194304)
   (q:Q (.tup [.int ((a/b:Nat):Int),.int ((a%b:Nat):Int)]) H):aM [] NoE H B (d+61) (.raw (.ref f)) [.int a,.int b] Q:=by
 obtain ⟨g1,g2⟩:=pN hb;refine hY (hY ?_);refine h.call (d:=d+60) (λdoc pm an ct=>c7 λS v w=>F7) rfl aA1 (aAc F) ?_;generalize hn:bits b=n at g1 g2 hbz';have hbz:=ntr hbz' jO;have hm:(List.range (nDig a n)).map (λi=>PV.int (dig n a i:Nat))=((List.range (nDig a n)).map (dig n a)).map λx:Nat=>PV.int x:=by rw [Bm];rfl
 have hval:valD n ((List.range (nDig a n)).map (dig n a))=a:=by rw [wJ,Nat.mod_eq_of_lt (sR g1)]
 have hnd:n*nDig a n<=4194304+2097152:=ntr u4 (ntr (Av _ _) (An haz hbz));have hnl:nDig a n<=n*nDig a n:=Bf _ g1;have e0:((valD n ([]:List Nat).reverse%b:Nat):Int)=0:=congrArg Int.ofNat (Nat.zero_mod b);refine' aE ?_;ext;refine ⟨_,dP,?_⟩;ext;refine dU ?_;rw [show Builtin.Int.intBits (b:Int)=n from hn];ext;refine ⟨aF F.hi,?_⟩;ext;refine aM.le (d':=0+26) (dk rfl) ?_;refine DL F.hi F.ni F.gln g1 hbz haz λA=>?_;rw [hm];generalize hDD:(List.range (nDig a n)).map (dig n a)=D at hval;have hDl:D.length=nDig a n:=by rw [<-hDD,Bk,BG]
 have hD23:D.length<=2 ^ 23:=hDl▸ntr hnl (ntr hnd ∅)
 have hDm:∀x∈D,x<2 ^ n:=λx hx=>by
   rw [<-hDD] at hx;obtain ⟨i,O,rfl⟩:=mmp hx;exact Am _ (As _)
 ext;refine dN ?_;refine iw λC=>?_;ext;refine ⟨aq,?_⟩;ext;refine xf (.lref (mcm _ mcs)) ?_;rw [<-BX];rw [<-e0];refine aB2 (d:=d) (H:=H) F (a:=a) (b:=b) (n:=n) (A:=A) (C:=C) (D:=D) hb hn.symm hbz' hDm hD23 ?_ D.reverse [] [] none none rfl (λO h=>(by cases h)) (Nat.zero_div b).symm rfl;intro qs adg qdg h1 h2 h3;rw [hval] at h2 ⊢;ext;refine ⟨_,pW (.lref mcs),?_⟩;ext;refine oX .head (by rw [Bk,h3];exact ntr hD23 (bl rfl)) ?_;rw [<-BX];ext;refine ⟨aF F.ho,?_⟩;ext;refine aM.le (d':=0+26) (dk rfl) ?_;refine yn F.ho F.no F.gln g1 hbz mcs (λx hx=>h1 x (List.mem_reverse.mp hx)) (by rw [BP,h3];exact hD23) (by rw [BP,h3,hDl];exact ntr hnd ∅) ?_;rw [h2];ext;exact ⟨_,_,rfl,_,_,rfl,q⟩
end
theorem oz (a b:Int)(hb:0<b)(ha:a<0):Builtin.bitNot ((Builtin.bitNot a).fdiv b)=a.fdiv b/\b+Builtin.bitNot ((Builtin.bitNot a).fmod b)=a.fmod b:=by
 unfold Builtin.bitNot;rw [Cn _ (Cg ‹_›),Cn _ (by lia),CI _ (by lia),CI _ (by lia)];generalize hc:-a-1=c;have hac:a=-c-1:=by lia
 subst hac;have h1:=Int.mul_ediv_add_emod c b;have h2:=Int.emod_nonneg c (show b≠0 by exact CA ‹_›);have h3:=Int.emod_lt_of_pos c hb
 have e:-c-1=(b-c%b-1)+b*(-(c/b)-1):=by
   rw [Co,Int.mul_neg];lia
 have q1:(-c-1)/b=-(c/b)-1:=by
   rw [e,Int.add_mul_ediv_left _ _ (by lia),CJ (by lia) (by lia),Cv]
 have q2:(-c-1)%b=b-c%b-1:=by
   rw [e,Int.add_mul_emod_self_left,Int.emod_eq_of_lt (by lia) (by lia)]
 rw [q1,q2];constructor <;> lia
theorem lz (a b:Int)(hb:b<0):(-a).fdiv (-b)=a.fdiv b/\-((-a).fmod (-b))=a.fmod b:=by
 refine ⟨CB _ _,?_⟩;have h1:=Int.mul_fdiv_add_fmod a b;have h2:=Int.mul_fdiv_add_fmod (-a) (-b);rw [CB,Int.neg_mul] at h2
 (clear hb;omega)
section
set_option genInjectivity false in
set_option genSizeOf false in
structure ImFns (B:aJ) extends DigFns B where
 fp:Addr
 fm:Addr
 cp:Value
 cm:Value
 hp:ae .none .none et "_divmod_pos" fp cp B
 hm:ae .none .none i0 "int_divmod" fm cm B
 gp:aH B "_divmod_pos" (.raw (.ref fp))
 gm:aH B "int_divmod" (.raw (.ref fm))
 gz:aH B "ZeroDivisionError" (.raw (.type "ZeroDivisionError"))
theorem kC {doc pm ct:Value}{v:Value}:b9 S [] (bindArgs (bR "int_divmod" i0 .none .none doc pm an cdv ct) ⟨[v,w],[]⟩)=some ([],[(Ω "a",v),(Ω "b",w)]):=by kernel_rfl
theorem pD:bV [Ω "a",Ω "b"] (aI (aL i0))=true:=by decide +kernel
noncomputable abbrev aEe (a b:Int)(q r:Option PV)(fm fp:Addr):St:=[(Ω "a",.local,some (.int a)),(Ω "b",.local,some (.int b)),(Ω "q",.local,q),(Ω "r",.local,r),
 (Ω "ZeroDivisionError",.globalImplicit,some (.raw (.type "ZeroDivisionError"))),(Ω "int_divmod",.globalImplicit,some (.raw (.ref fm))),(Ω "_divmod_pos",.globalImplicit,some (.raw (.ref fp)))]
theorem s5 (F:ImFns B){a b:Int}:Ini B [(Ω "a",.int a),(Ω "b",.int b)] (aI (aL i0)).names (aEe a b none none F.fm F.fp):=by
 refine .arg (by walk_at "mm") (.inl rfl) (.arg (by walk_at "mm") (.inl rfl) (.unset (.unset (.glob F.gz (.glob F.gm (.glob F.gp .nil))))))
theorem Gy (F:ImFns B){a:Nat}(hb:b≠0)(hbz:bits b<=eB)(haz:bits a<=4194304)
   (q:Q (.tup [.int ((a/b:Nat):Int),.int ((a%b:Nat):Int)]) H):aM [] NoE H B (d+62) (.raw (.ref F.fm)) [.int a,.int b] Q:=by
 refine F.hm.call (d:=d+61) (λdoc pm an ct=>c7 λS v w=>kC) rfl pD (s5 F) ?_;refine' aE ?_;ext;refine' ifn (λe=>hb (Int.ofNat.inj (eq_of_beq e))) ?_;ext;refine' iD (Int.not_lt.mpr (Cd b)) ?_;ext;refine' iD (Int.not_lt.mpr (Cd a)) ?_;ext;refine ⟨aF F.hp,?_⟩;ext;exact E7 F.toDigFns F.hp hb hbz haz q
theorem qa {a:Int}{N:Nat}(hm:Builtin.bitNot a=m)(h:Builtin.Int.intBits a<=N):bits m<=N:=by
 refine dK.mpr ?_;have:=intBits_le_iff.mp h;unfold Builtin.bitNot at hm;generalize 2 ^ N=M at *
 (clear h;omega)
theorem rU {b:Int}{N:Nat}(hm:-b=m)(h:Builtin.Int.intBits b<=N):bits m<=N:=by
 refine dK.mpr ?_;have:=intBits_le_iff.mp h;generalize 2 ^ N=M at *
 (clear h;omega)
theorem Gd (F:ImFns B){a:Int}(hb:b≠0)(hbz:bits b<=eB)(haz:Builtin.Int.intBits a<=4194304)
   (q:Q (.tup [.int (a.fdiv b),.int (a.fmod b)]) H):aM [] NoE H B (d+63) (.raw (.ref F.fm)) [.int a,.int b] Q:=by
 by_cases ha:0<=a
 . obtain ⟨m,rfl⟩:=CF ha
   rw [i4,lD] at q;exact Gy F (d:=d+1) hb hbz haz q
 . refine F.hm.call (d:=d+62) (λdoc pm an ct=>c7 λS v w=>kC) rfl pD (s5 F) ?_
   have hb0:(0:Int)<b:=Int.natCast_pos.mpr (Nat.pos_of_ne_zero hb);obtain ⟨e1,e2⟩:=oz a b hb0 (Int.not_le.mp ha);refine' aE ?_;ext;refine' ifn (λe=>hb (Int.ofNat.inj (eq_of_beq e))) ?_;ext;refine' iD (Int.not_lt.mpr (Cg hb0)) ?_;ext;refine' jq (Int.not_le.mp ha) ?_;ext;refine ⟨aF F.hm,?_⟩;ext;obtain ⟨m,hm⟩:=CF (show 0<=Builtin.bitNot a by unfold Builtin.bitNot;lia);have hmz:bits m<=4194304:=qa hm haz;rw [hm] at e1 e2 ⊢;rw [i4] at e1;rw [lD] at e2;refine Gy F hb hbz hmz ?_;ext;rw [e1,e2];exact q
theorem o5 (F:ImFns B){a b:Int}(hb:b≠0)(hbz:Builtin.Int.intBits b<=eB)(haz:Builtin.Int.intBits a<=4194304)
   (q:Q (.tup [.int (a.fdiv b),.int (a.fmod b)]) H):aM [] NoE H B (d+64) (.raw (.ref F.fm)) [.int a,.int b] Q:=by
 by_cases hb0:0<b
 . obtain ⟨m,rfl⟩:=CF (Cg hb0)
   exact Gd F (d:=d+1) (AL (Int.natCast_pos.mp hb0)) hbz haz q
 . refine F.hm.call (d:=d+63) (λdoc pm an ct=>c7 λS v w=>kC) rfl pD (s5 F) ?_
   have hb1:b<0:=Int.lt_iff_le_and_ne.mpr ⟨Int.not_lt.mp hb0,hb⟩;obtain ⟨e1,e2⟩:=lz a b hb1;refine' aE ?_;ext;refine' ifn (λe=>hb (eq_of_beq e)) ?_;ext;refine' jq hb1 ?_;ext;refine ⟨aF F.hm,?_⟩;ext;obtain ⟨m,hm⟩:=CF (Int.neg_nonneg_of_nonpos (Int.not_lt.mp hb0));have hmz:bits m<=eB:=rU hm hbz;rw [hm] at e1 e2 ⊢;refine Gd F (λe=>hb (Int.neg_eq_zero.mp (hm.trans (congrArg Int.ofNat e)))) hmz (intBits_neg_le haz) ?_;ext;rw [e1,e2];exact q
end
section
variable {M:Model}
open PySem.Builtin.Re in
theorem y3 {r:Option (Nat×Nat)}{Q:Sre.M->Shared->Prop}(hq:∀m',Rx.Res m' r->Q m' s):∀(k N:Nat) (m:Sre.M),Rx.Ends N m r->N<4*k->wpAny M A (reDrive k m) Q E s:=by
 intro k
 induction k with
 | zero=>intro N m h hN;exact (A0 _ hN).elim
 | succ k ih=>
   intro N m ⟨n,x,h1,h2,h3⟩ hN
   have hx:(Sre.M.runFor n m).outcome.isSome=true:=by
     rw [h2]
     cases r with
     | none=>rw [show x.outcome=_ from h3];rfl
     | some p=>rw [show x.outcome=_ from h3.1];rfl
   show wpAny M A (if (Sre.M.runFor 4 m).outcome.isSome=true then pure (Sre.M.runFor 4 m) else (do rule "sre.turn";reDrive k (Sre.M.runFor 4 m))) Q E s;refine ig (λhc=>wpAny_pure (hq _ (((Rx.runFor_same hc hx).trans h2).symm▸h3))) λhc=>wpAny_bind (wpAny_rule ?_);obtain ⟨c,rfl⟩:=Nat.exists_eq_add_of_le (Nat.le_of_not_le λh=>hc ((congrArg (λm=>m.outcome.isSome) (Rx.runFor_le h hx)).trans hx));exact ih (N-4) _ ⟨c,x,Nat.le_sub_of_add_le (Ak 4 c▸h1),(Rx.runFor_add 4 c m).symm.trans h2,h3⟩ (Nat.sub_lt_right_of_lt_add (ntr (Ad 4 c) h1) hN)
open PySem.Builtin.Re in
theorem aCz {r:Option (Nat×Nat)}{N:Nat}{m:Sre.M}{Q:Option Sre.M->Shared->Prop}(h:Rx.Ends N m r)(hN:N<=2 ^ 60)
   (hq:match r with | some (b,e)=>∀m',m'.start=b->m'.handed=e->Q (some m') s | none=>Q none s):wpAny M A (reRunToEnd m) Q E s:=by
 unfold reRunToEnd;refine wpAny_bind (y3 (r:=r) (λm' hm=>?_) (2 ^ 64) N m h (Ai ‹_› ∅));refine wpAny_bind (wpAny_forIn_list _ (λO O s'=>s'=s) (λO s'=>s'=s) (λx rest b s' hs=>?_) (λO O h=>h) _ _ rfl |> λh=>wpm h (λO s' hs=>?_))
 . subst hs
   cases r with
   | none=>
     have h1:m'.outcome=some .failed:=hm;rw [h1];exact wpAny_pure hq
   | some p=>
     obtain ⟨b,e⟩:=p;obtain ⟨h1,h2,h3⟩:=hm;rw [h1];exact wpAny_pure (hq _ h2 h3)
 . subst hs
   by_cases hc:m'.seen.has x=true
   . rw [if_pos hc]
     exact wpAny_bind (wpAny_rule (wpAny_pure rfl))
   . rw [if_neg hc]
     exact wpAny_pure rfl
end
inductive cn (h:Heap)(p:Addr)(code:Array Nat)(kind:Nat):Prop
 | mk (fs:Array Value) (osl:Array (Option Value)) (c:Addr) (oc:Obj) (items:Array Value) (n:Nat) (h1:h.get? p=some ⟨.type "re.Pattern",none,.fields fs,osl⟩) (h3:Builtin.Re.reRawNat (fs.getD 6 .none)=kind) (h4:Builtin.Re.reRawNat (fs.getD 2 .none)=0) (h5:fs.getD 5 .none=.ref c)
   (h6:h.get? c=some oc) (h7:oc.data=.seq items n) (h8:(items.map Builtin.Re.reRawOf).map (·.toNat)=code)
section
variable {M:Model}{p:Addr}{code:Array Nat}
theorem cn.keeps (x:cn h p code k)(hk:∀a o,h.get? a=some o->h'.get? a=some o):cn h' p code k:=by
 obtain ⟨fs,osl,c,oc,items,n,h1,h3,h4,h5,h6,h7,h8⟩:=x;exact ⟨fs,osl,c,oc,items,n,hk _ _ h1,h3,h4,h5,hk _ _ h6,h7,h8⟩
open PySem.Builtin.Re in
theorem mQ {t:Tok}{Q:ReTarget->Shared->Prop}(P:cn s.heap p code 0)(h:Q { pattern:=.ref p,string:=.str x t,code:=code,text:=x.cps,kind:=0,groups:=0,pos:=0,lim:=x.cps.size } s) :
   wpAny M A (reWholeTarget (.ref p) (.str x t)) Q E s:=by
 obtain ⟨fs,osl,c,oc,items,n,h1,h3,h4,h5,h6,h7,h8⟩:=P;unfold reWholeTarget;have e1:fieldsOf (.ref p)=(do match (<-load p).data with | .fields vs=>pure vs | _=>unsupported "internal:no-fields"):=rfl;rw [e1];refine wpAny_bind (wpAny_bind (wpAny_load h1 (wpAny_pure ?_)));refine wpAny_bind (wpAny_pure (a:=(x.cps,0)) ?_);simp only [h3,h4,h5]
 show wpAny M A (do
   let items<-reRawItems (.ref c)
   pure { pattern:=.ref p,string:=.str x t,code:=items.map (·.toNat),text:=x.cps,kind:=0,groups:=0,pos:=0,lim:=x.cps.size }) Q E s
 refine wpAny_bind (wpAny_bind (wpAny_seqItems h6 h7 (wpAny_pure (wpAny_pure ?_))));rw [show (((some items).getD #[]).map reRawOf).map (·.toNat)=code from h8];exact h
end
noncomputable def lV {π:Type}(pc:Nat->Nat->π)(n:Nat)(nx:Nat->Option (Nat×Nat))(rep:π):Nat->Nat->List π
 | 0,_=>[]
 | k+1,d=>match nx d with
   | some (s,e)=>(if d<s then [pc d s] else [])++rep::lV pc n nx rep k e
   | none=>if d<n then [pc d n] else []
theorem nU {π:Type}{pc:Nat->Nat->π}{n:Nat}{nx:Nat->Option (Nat×Nat)}{rep:π}{s e:Nat}(h:nx d=some (s,e)):lV pc n nx rep (k+1) d=(if d<s then [pc d s] else [])++rep::lV pc n nx rep k e:=by
 show (match nx d with | some (s,e)=>_ | none=>_)=_;rw [h]
theorem n8 {π:Type}{pc:Nat->Nat->π}{n:Nat}{nx:Nat->Option (Nat×Nat)}{rep:π}(h:nx d=none):lV pc n nx rep (k+1) d=if d<n then [pc d n] else []:=by
 show (match nx d with | some (s,e)=>_ | none=>_)=_;rw [h]
noncomputable abbrev pA (T:Array Nat)(nx:Nat->Option (Nat×Nat))(rep:Str):Nat->Nat->List Str:=lV (λb e=>(⟨T.extract b e⟩:Str)) T.size nx rep
structure qM (code:Array Nat)(T:Array Nat)(nx:Nat->Option (Nat×Nat))(V:Nat->Prop):Prop where
 go:∃N,N<=2 ^ 60/\∀s,V s->Rx.Ends N (Sre.forSearch code T 0 s T.size false) (nx s)
 ok:∀d s e,V d->nx d=some (s,e)->(d<=s/\s<e/\e<=T.size)/\V e
 v0:V 0
section
variable {hit:Nat->Bool}{en:Nat->Nat}{nx:Nat->Nat->Option (Nat×Nat)}{N:Nat}
theorem xu (h0:∀s,nx 0 s=none)(h1:∀k s,nx (k+1) s=if hit s=true then some (s,en s) else nx k (s+1))(he:∀s,s<N->s<en s/\en s<=N)(k:Nat):∀{d s e:Nat},d+k=N->nx k d=some (s,e)->d<=s/\s<e/\e<=N:=by
 induction k with
 | zero=>intro d s e _ h;cases (h0 d).symm.trans h
 | succ k ih=>
   intro d s e h hn;have hd:d<N:=nlt (AE (AB k)) (Ac h);by_cases hh:hit d=true
   . obtain ⟨rfl,rfl⟩:=Prod.mk.inj (Option.some.inj (((h1 k d).trans (if_pos hh)).symm.trans hn))
     exact ⟨Ab _,he d hd⟩
   . obtain ⟨a,b⟩:=ih ((A8 ..).trans h) (((h1 k d).trans (if_neg hh)).symm.trans hn)
     exact ⟨AC a,b⟩
end
theorem oh {N:Nat}(s:Nat)(h:s<N):s<s+1/\s+1<=N:=⟨Au s,h⟩
theorem vA {T:Array Nat}(s:Nat)(h:s<T.size):s<Rx.end3 T s/\Rx.end3 T s<=T.size:=by
 unfold Rx.end3;by_cases hc:Rx.crlfAt T s=true
 . rw [if_pos hc]
   unfold Rx.crlfAt at hc;rw [Ca,Ca,decide_eq_true_eq] at hc;exact ⟨AE ∅,hc.1.2⟩
 . rw [if_neg hc]
   exact oh s h
noncomputable def nxA (T:Array Nat)(d:Nat):Option (Nat×Nat):=if d<=T.size then Rx.nx1 T (T.size-d) d else none
noncomputable def nxC (T:Array Nat)(d:Nat):Option (Nat×Nat):=if d<=T.size then Rx.nx3 T (T.size-d) d else none
theorem z3 (T:Array Nat)(hT:T.size<=2 ^ 30):qM Rx.code1 T (nxA T) λs=>s<=T.size:=by
 refine ⟨⟨6*T.size+6,ntr (AA (Aw 6 hT) 6) ∅,λs hs=>by unfold nxA;rw [if_pos hs];exact Rx.search1 T s hs⟩,λd s e hd h=>?_,Ae _⟩;unfold nxA at h;rw [if_pos hd] at h;have:=xu (nx:=Rx.nx1 T) (λO=>rfl) (λO O=>rfl) oh _ (Be hd) h;exact ⟨this,this.2.2⟩
theorem aCs (T:Array Nat):qM Rx.code3 T (nxC T) λs=>s<=T.size:=by
 refine ⟨⟨20,by decide,λs hs=>by unfold nxC;rw [if_pos hs];exact Rx.search3 T s hs⟩,λd s e hd h=>?_,Ae _⟩;unfold nxC at h;rw [if_pos hd] at h;have:=xu (nx:=Rx.nx3 T) (λO=>rfl) (λO O=>rfl) vA _ (Be hd) h;exact ⟨this,this.2.2⟩
theorem mu:entryFor table "re.Pattern.sub" = some Builtin.«re.Pattern.sub»:=entryFor_of_tree (by kernel_rfl)
theorem lH:entryFor table "re.Pattern.sub.loop" = some Builtin.«re.Pattern.sub.loop»:=entryFor_of_tree (by kernel_rfl)
theorem fh:Slot "re.Pattern" "sub" "re.Pattern.sub":=
 .of (owner:="re.Pattern") (n:="sub") (by rw [typeLookup_type,builtinLookup_eq_fast];kernel_rfl) (by decide +kernel) (by decide +kernel) (by decide +kernel)
   (by first | exact .inl (by decide +kernel) | exact .inr (by decide +kernel)) (by rw [isSubtype_type];kernel_rfl)
theorem zQ:typeOf (.builtin "re.Pattern.sub")=pure (.type "method_descriptor"):=by show builtinType _=_;rw [builtinType_eq_fast];kernel_rfl
theorem wr:PlainAttrs "re.Pattern":=⟨⟨"object.__getattribute__",by rw [typeLookup_type,builtinLookup_eq_fast];kernel_rfl,by decide +kernel⟩,by rw [typeLookup_type,builtinLookup_eq_fast];kernel_rfl⟩
section
theorem ah.under {c:Code}(R:ah A (d+1))(hw:c.weight=0)(hu:c.cUnits=1):ah (A.under c) d:=
 ⟨R.handled,by have:=R.depth;show A.depth+c.weight+d<_;lia,by have:=R.units;show A.units+c.cUnits+8*d+100<_;lia⟩
theorem cn.isType {p:Addr}{code:Array Nat}(P:cn s.heap p code k):s.TypeIs (.ref p) "re.Pattern":=by
 obtain ⟨O,O,O,O,O,O,h1⟩:=P;exact ⟨_,h1,rfl⟩
theorem iN {p:Addr}{code:Array Nat}(P:cn B.g p code k):dI B H "sub" "re.Pattern.sub" (.raw (.ref p)):=λA E s va I r pl Q q=>by
 obtain ⟨O,rfl⟩:=r.inv;obtain ⟨O,O,O,O,O,O,h1⟩:=P.keeps I.keep;exact getMethod_builtin ⟨_,h1,rfl⟩ wr fh zQ (λa e=>by cases e;exact ⟨_,h1,rfl⟩) q
noncomputable abbrev gJ (p:Addr)(x rep:Value)(n:Int)(d:Nat)(a:Addr):Args:=⟨[.ref p,x,rep,rawInt 0,rawInt 0,rawInt n,rawInt d,rawInt d,.bool false,.ref a,.bool false],[]⟩
theorem kH {p:Addr}{x rep:Value}{n:Int}:(Code.builtin "re.Pattern.sub.loop" (gJ p x rep n d a)).weight=0:=by kernel_rfl
theorem mB {p:Addr}{x rep:Value}{n:Int}:(Code.builtin "re.Pattern.sub.loop" (gJ p x rep n d a)).cUnits=1:=by kernel_rfl
theorem lq {p:Addr}{x rep:Value}{n:Int}:(Code.builtin "re.Pattern.sub.loop" (gJ p x rep n d a)).quiet=true:=by kernel_rfl
noncomputable def oN (B:aJ)(A:Around)(R:Result->Shared->Prop)(fin:Fin)(s':Shared):Prop:=match fin with
 | .done f=>R (.ok f) s'
 | .again c'=>c'.quiet=true/\codeAny (model B.prog B.w) A c' R s'
noncomputable def tV (R:Result->Shared->Prop)(e:Value)(s':Shared):Prop:=R (.error e) s'
open PySem.Builtin.Re in
theorem rp {π:Type}{pc:Nat->Nat->π}{pv:π->PV}{rep:π}{kind:Nat}{T:Array Nat}{sv rv:Value}{J:PV}{p:Addr}{code:Array Nat}{nx:Nat->Option (Nat×Nat)}{R:Result->Shared->Prop}{s₀:Shared}{L:List π}{V:Nat->Prop}(Rm:ah A 2)(P:cn B.g p code kind)(F:qM code T nx V)
   (hw:∀{s:Shared} {A':Around} {E':EP} {Q:ReTarget->Shared->Prop},cn s.heap p code kind->Q { pattern:=.ref p,string:=sv,code:=code,text:=T,kind:=kind,groups:=0,pos:=0,lim:=T.size } s->wpAny (model B.prog B.w) A' (reWholeTarget (.ref p) sv) Q E' s)
   (hturn:reLiteralCannotBeTurned rv=pure ())(hnn:(rv != .none)=true)(hr:∀T' h,VR h T' rv (pv rep))
   (hs:∀{A':Around} {E':EP} {s:Shared} {Q:Value->Shared->Prop} (b e:Nat),(∀v t,(∀T' h,VR h T' v (pv (pc b e)))->Q v { s with toks:=t })->wpAny (model B.prog B.w) A' (reSlice T kind b e) Q E' s)
   (hj:∀{A':Around} {E':EP} {s:Shared} {Q:Value->Shared->Prop} {jv:Value},ah A' 1->Inv B ((a,L.map pv)::H) s->L≠[]->(∀T' h,VR h T' jv (pv (pc 0 0)))->(∀v s',Tr noU s' ((a,L.map pv)::H) s ((a,L.map pv)::H) B->(∀T' h,VR h T' v J)->Q v s')->
     wpAny (model B.prog B.w) A' (call (.builtin (if (kind==0)=true then "str.join" else "bytes.join")) [jv,.ref a] []) Q E' s)
   (hj0:L=[]->pv (pc 0 0)=J)(hlen:L.length<=sizeLine)
   (hR:∀s' v,Tr noU s' H s₀ H B->(∀T' h,VR h T' v J)->R (.ok (.ret v)) s') :
   ∀(k d n:Nat) (ps:List π) (s:Shared),V d->T.size<k+d->d<=T.size->L=ps++lV pc T.size nx rep k d->Tr noU s ((a,ps.map pv)::H) s₀ H B->
     codeAny (model B.prog B.w) A (.builtin "re.Pattern.sub.loop" (gJ p sv rv n d a)) R s:=by
 have push:∀{A':Around} {E':EP} {ps:List π} {s:Shared} {y:π} {v:Value} {Q':Unit->Shared->Prop},ps.length<=sizeLine->Tr noU s ((a,ps.map pv)::H) s₀ H B->(∀T' h,VR h T' v (pv y))->(∀s',Tr noU s' ((a,(ps++[y]).map pv)::H) s₀ H B->Q' () s')->
     wpAny (model B.prog B.w) A' (updateSeq a λz=>z.push v) Q' E' s:=λ{A' E' ps s y v Q'} hp Tt hv hq=>by
   refine wpm (mx (xs':=(ps++[y]).map pv) .head Tt.inv (by rw [Bk];exact hp) (by rw [Bk,Bl];exact Ag hp) λvs n O hvs=>?_) (λO s' t=>hq s' (Tt.trans t));rw [Array.toList_push,Bq];exact hvs.append (.cons (hv _ _) .nil)
 obtain ⟨⟨N,hN,hgo⟩,hok,O⟩:=F;intro k
 induction k with
 | zero=>intro d n ps s hV hk hd hL Tt;exact absurd (Aj d▸hk) (nlr hd)
 | succ k ih=>
   intro d n ps s hV hk hd hL Tt;have hpl:∀{ps r:List π},L=ps++r->ps.length<=sizeLine:=λh=>ntr (by rw [h,Bl];exact Ad _ _) hlen;refine codeAny_builtin lH ?_;unfold Builtin.«re.Pattern.sub.loop»;show wpAny _ _ _ (oN B A R) (tV R) s;refine wpAny_bind (hw (P.keeps Tt.inv.keep) ?_);refine wpAny_bind (show wpAny _ _ (reLiteralCannotBeTurned rv) _ _ _ from wpAny_of_eq hturn ?_);refine wpAny_bind ?_;show wpAny _ _ (reRunToEnd (Sre.forSearch code T 0 ((d:Int).toNat) T.size false)) _ _ _;rw [Ci];refine aCz (hgo d hV) hN ?_
   cases hn:nx d with
   | some be=>
     obtain ⟨b,e⟩:=be;obtain ⟨⟨o1,o2,o3⟩,hVe⟩:=hok d b e hV hn;intro m' hm1 hm2;subst hm1 hm2;have hmust:(m'.handed==m'.start)=false:=beq_false_of_ne (AL o2);rw [nU hn] at hL;have tail:∀(ps':List π) (s':Shared),L=ps'++rep::lV pc T.size nx rep k m'.handed->Tr noU s' ((a,ps'.map pv)::H) s₀ H B->
         wpAny (model B.prog B.w) (A.under (.builtin "re.Pattern.sub.loop" (gJ p sv rv n d a))) (do
           updateSeq a λz=>z.push rv
           again (.builtin "re.Pattern.sub.loop" (⟨[.ref p,sv,rv,rawInt 0,rawInt 0,rawInt ((n:Int)+1),rawInt m'.handed,rawInt m'.handed,.bool (m'.handed==m'.start),.ref a,.bool false],[]⟩))) (oN B A R) (tV R) s':=λps' s' hL' T'=>by
       refine wpAny_bind (push (hpl hL') T' hr λs'' T''=>wpAny_pure ?_);rw [hmust];exact ⟨lq,ih m'.handed (n+1) (ps'++[rep]) s'' hVe (by lia) o3 (by rw [hL',Bn];rfl) T''⟩
     show wpAny _ _ (if (d:Int).toNat<m'.start then _ else _) _ _ _;rw [Ci];refine ig (λhdb=>?_) λhdb=>?_
     . rw [if_pos hdb] at hL
       refine wpAny_bind (show wpAny _ _ (reSlice T kind (d:Int).toNat m'.start) _ _ _ from hs _ _ λv t hv=>?_);refine wpAny_bind (push (hpl hL) (Tt.trans (Tr.tok Tt.inv t)) hv λs' T'=>?_);refine wpAny_ite_true rfl (wpAny_bind (wpAny_pure (wpAny_ite_true (decide_eq_true hnn) ?_)));exact tail (ps++[pc d m'.start]) s' (by rw [hL,Bn]) T'
     . rw [if_neg hdb] at hL
       refine wpAny_ite_true rfl (wpAny_bind (wpAny_pure (wpAny_ite_true (decide_eq_true hnn) ?_)));exact tail ps s hL Tt
   | none=>
     rw [n8 hn] at hL
     have fin:∀(s':Shared),Tr noU s' ((a,L.map pv)::H) s₀ H B->wpAny (model B.prog B.w) (A.under (.builtin "re.Pattern.sub.loop" (gJ p sv rv n d a))) (do
         let joiner<-reSlice T kind 0 0
         let items<-seqItems? (.ref a)
         if (items.getD #[]).isEmpty=true then do
           let text<-pure joiner
           ret text
         else do
           let text<-call (.builtin (if (kind==0)=true then "str.join" else "bytes.join")) [joiner,.ref a]
           ret text) (oN B A R) (tV R) s':=λs' T'=>by
       refine wpAny_bind (hs 0 0 λjv tj hjv=>?_);have T2:=T'.trans (Tr.tok T'.inv tj);obtain ⟨hg,vs,nn,ho,hv⟩:=T2.inv.objs _ mcs;refine wpAny_bind (wpAny_seqItems ho rfl ?_);have hvl:vs.size=L.length:=hv.length.trans (Bk ..);have isz:vs.isEmpty=true↔vs.size=0:=Array.isEmpty_iff_size_eq_zero;by_cases he:vs.isEmpty=true
       . refine wpAny_ite_true (decide_eq_true he) ?_
         have hL0:L=[]:=B8 (hvl.symm.trans (isz.mp he));exact wpAny_pure (hR _ _ T2.drop_key λT' h=>hj0 hL0▸hjv T' h)
       . refine wpAny_ite_false (decide_eq_false he) ?_
         refine wpAny_bind (hj (Rm.under kH mB) T2.inv (λq=>he (isz.mpr (by rw [q] at hvl;exact hvl))) hjv λv s3 t3 r3=>?_);exact wpAny_pure (hR _ _ (T2.trans t3).drop_key r3)
     show wpAny _ _ (if (d:Int).toNat<T.size then _ else _) _ _ _;rw [Ci];refine ig (λhdb=>?_) λhdb=>?_
     . rw [if_pos hdb] at hL
       refine wpAny_bind (show wpAny _ _ (reSlice T kind (d:Int).toNat T.size) _ _ _ from hs _ _ λv t hv=>?_);refine wpAny_bind (push (hpl hL) (Tt.trans (Tr.tok Tt.inv t)) hv λs' T'=>?_);exact fin s' (hL▸T')
     . rw [if_neg hdb,Br] at hL
       exact fin s (hL▸Tt)
end
theorem v3:Manifest.owners.lookup (String.ofList ['n','r','e','t','t','a','P','.','e','r'].reverse)=some Manifest.sig_re_Pattern:=by kernel_rfl
theorem rF (a b c:Value):argsOk "re.Pattern.sub" ⟨[a,b,c],[]⟩:=by
 unfold argsOk;rw [signature?_of (id:="re.Pattern.sub") (n:=['b','u','s']) (o:=['n','r','e','t','t','a','P','.','e','r']) (by kernel_rfl) v3];kernel_rfl
theorem rD:typeLookup (.type "str") "__call__" = pure none:=by rw [typeLookup_type,builtinLookup_eq_fast];kernel_rfl
theorem lx:typeLookup (.type "bytes") "__call__" = pure none:=by rw [typeLookup_type,builtinLookup_eq_fast];kernel_rfl
section
noncomputable def tq (T:Array Nat)(nx:Nat->Option (Nat×Nat))(rep:Str):List Str:=pA T nx rep (T.size+1) 0
open PySem.Builtin.Re in
set_option tactic.hygienic true in
theorem rb {p:Addr}{code:Array Nat}{rep:Str}{nx:Nat->Option (Nat×Nat)}{V:Nat->Prop}(P:cn B.g p code 0)(F:qM code x.cps nx V)(hsum:((tq x.cps nx rep).map (·.length)).sum<=16777216)(hlen:(tq x.cps nx rep).length<=sizeLine)(hx:x.length<=sizeLine)
   (hr:rep.cps.contains 92=false)(q:Q (.str (Txt.join ⟨#[]⟩ (tq x.cps nx rep))) H):aM [] E H B (d+2) (.raw (.builtin "re.Pattern.sub")) [.raw (.ref p),.str rep,.str x] Q:=aM.at λA s R I vs r fv rf=>by
 obtain ⟨a,b,c,rfl,r1,r2,r3⟩:=r.three;obtain ⟨_,rfl⟩:=rf.inv;obtain ⟨_,rfl⟩:=r1.inv;obtain ⟨_,rfl⟩:=r2.inv;obtain ⟨_,rfl⟩:=r3.inv;rename_i u t;have P':=P.keeps I.keep;have hT:s.TypeIs (.ref p) "re.Pattern":=P'.isType;refine wpAny_call (codeAny_call_builtin fh.plain mu (fh.check _ _ _ _ _ _ _ _ hT (rF _ _ _) ?_));unfold Builtin.«re.Pattern.sub» reSubstitute;refine wpAny_bind (wpAny_pure (a:=[some (Value.str rep u),some (Value.str x t),none]) ?_);refine wpAny_bind (wpAny_pure (a:=(0:Int)) ?_);refine wpAny_bind (wpAny_specialOf (T:="str") (typeIs_str _ _ _) rD ?_);refine wpAny_bind (wpAny_pure (a:=some rep) ?_);refine wpAny_bind (wpAny_pure (a:=!rep.cps.contains 92) ?_);rw [hr];refine wpAny_bind (wpAny_pure (a:=(Value.str rep u,(0:Int))) ?_);refine wpAny_bind ?_;show wpAny _ _ (reWholeTarget (.ref p) (.str x t)) _ _ _;refine mQ P' ?_;refine wpAny_bind (wpAny_newList ?_ (Ae _));refine wpAny_pure ⟨by kernel_rfl,?_⟩;have tr:=Tr.track (vs:=[]) (xs:=[]) I .nil;have hext:∀b e,(x.cps.extract b e).size<=sizeLine:=λb e=>by rw [Array.size_extract];exact ntr (Av _ _) (ntr (AI _ _) hx)
 have ex:(⟨x.cps.extract 0 0⟩:Str)=⟨#[]⟩:=by simp
 refine rp (pc:=λb e=>(⟨x.cps.extract b e⟩:Str)) (pv:=PV.str) (J:=.str (Txt.join ⟨#[]⟩ (tq x.cps nx rep))) (n:=0) (R.le (Al 2 d)) P F mQ rfl rfl (λ_ _=>.str _ _)
   (λb e q=>show wpAny _ _ (mkStr ⟨x.cps.extract b e⟩) _ _ _ from wpAny_mkStr (q _ _ λ_ _=>.str _ _) (hext b e)) (λ{A' E' s2 Q2 jv} Ra I2 hne hjv q2=>?_) (λh=>?_) hlen (λs' v T hv=>⟨_,H,T,hv _ _,q⟩) (x.cps.size+1) 0 [] _ F.v0 (Au _) (Ae _) rfl tr
 . obtain ⟨_,rfl⟩:=(hjv (λ_=>False) s.heap).inv
   rw [ex]
   have cj:aM [] E' ((s.heap.objs.size,(tq x.cps nx rep).map PV.str)::H) B 1 (.raw (.builtin "str.join")) [.str ⟨#[]⟩,.lref s.heap.objs.size] λv H'=>v=.str (Txt.join ⟨#[]⟩ (tq x.cps nx rep))/\H'=(s.heap.objs.size,(tq x.cps nx rep).map PV.str)::H:=
     bu (.inr (.lref mcs)) hsum ⟨rfl,rfl⟩
   refine wpAny_mono (cj _ _ Ra I2 _ _ _ (.raw _) (.cons (.str _ _) (.cons (.lref _) .nil)) ⟨.nil,rfl⟩) (λr s3 hh1=>?_) λ_ _ y=>y;obtain ⟨v,H3,t3,r3,e1,e2⟩:=hh1;subst e1 e2;obtain ⟨_,rfl⟩:=r3.inv;exact q2 _ _ t3 λ_ _=>.str _ _
 . rw [h,ex];rfl
end
theorem qL:entryFor table "bytes.join" = some Builtin.«bytes.join»:=entryFor_of_tree (by kernel_rfl)
theorem lY:Slot "bytes" "join" "bytes.join":=
 .of (owner:="bytes") (n:="join") (by rw [typeLookup_type,builtinLookup_eq_fast];kernel_rfl) (by decide +kernel) (by decide +kernel) (by decide +kernel)
   (by first | exact .inl (by decide +kernel) | exact .inr (by decide +kernel)) (by rw [isSubtype_type];kernel_rfl)
theorem iU:Manifest.owners.lookup (String.ofList ['s','e','t','y','b'].reverse)=some Manifest.sig_bytes:=by kernel_rfl
theorem s6 (a b:Value):argsOk "bytes.join" ⟨[a,b],[]⟩:=by
 unfold argsOk;rw [signature?_of (id:="bytes.join") (n:=['n','i','o','j']) (o:=['s','e','t','y','b']) (by kernel_rfl) iU];kernel_rfl
theorem se {b:Array UInt8}{t:Tok}{id:String}:Builtin.Bytes.takeBufferQuiet? id (.bytes b t) 0=pure (some (b,none)):=by
 unfold Builtin.Bytes.takeBufferQuiet? Builtin.Bytes.takeBuffer?;have e:((0:Int)==Builtin.Bytes.fullReadOnly)=false:=by decide +kernel
 rw [KBy.special_eq KBy.look_buffer,KBy.own_buffer,e,KBy.buffer_eq]
 kernel_rfl
theorem kX (l:List (Array UInt8)):Builtin.Bytes.joined #[] l=l.foldl (·++·) #[]:=by
 unfold Builtin.Bytes.joined
 have:∀(l:List (Array UInt8)) (n:Nat) (acc:Array UInt8),(l.zipIdx n).foldl (λout (x:Array UInt8×Nat)=>(if x.2 > 0 then out++#[] else out)++x.1) acc=l.foldl (·++·) acc:=by
   intro l
   induction l with
   | nil=>intro n acc;rfl
   | cons b r ih=>
     intro n acc;rw [List.zipIdx_cons,BI,BI,ih];congr 1;split <;> simp
 exact this l 0 #[]
section
variable {prog:Program}{w:World}
theorem oP {M:Model}{Q:Unit->Shared->Prop}:∀(l:List (Value×Option Value)) (keep:List Value),(∀p∈l,p.2=none)->Q () s->wpAny M A (Builtin.Bytes.joinLetGo l keep) Q E s:=by
 intro l
 induction l with
 | nil=>
   intro keep _ h;exact wpAny_pure h
 | cons hd r ih=>
   intro keep hl h;obtain ⟨x,w⟩:=hd;have hw:w=none:=hl _ mcs;subst hw;exact wpAny_bind (wpAny_letGo (ih keep (λp hp=>hl p (mcm _ hp)) h))
theorem w7 (l:List (Array UInt8)):∀(acc:Array UInt8) (k:Nat),acc.size=k->(l.foldl (·++·) acc).size=l.foldl (λk b=>k+b.size) k:=by
 induction l with
 | nil=>exact λO O e=>e
 | cons b r ih=>exact λacc k e=>ih _ _ (Array.size_append.trans (congrArg (· + b.size) e))
inductive BJ (bs:List (Array UInt8))(n:Nat)(s:Shared)(rest:List Nat)(b:Array (Array UInt8)×List (Value×Option Value))(s':Shared):Prop
 | mk (i:Nat) (h1:rest=BS i (n-i) 1) (h2:s'=s) (h3:b.1.toList=bs.take i) (h4:∀p∈b.2,p.2=none) (h5:(b.2.any λx=>x.1.onHeap)=false)
theorem BJ.next {bs:List (Array UInt8)}{n x:Nat}{rest:List Nat}{b:Array (Array UInt8)×List (Value×Option Value)}(hn:n=bs.length)(j:BJ bs n s (x::rest) b s'):∃(i:Nat) (hi:i<bs.length),x=i/\s'=s/\(b.2.any λx=>x.1.onHeap)=false/\∀u,BJ bs n s rest (b.1.push bs[i],b.2++[(.bytes bs[i] u,none)]) s:=by
 obtain ⟨i,h1,h2,h3,h4,h5⟩:=j
 have hi:i<n:=by
   have:=congrArg List.length h1;rw [List.length_range',Bp] at this;exact Nat.lt_of_sub_pos (this▸AB _)
 rw [show n-i=(n-(i+1))+1 by clear h1;lia,List.range'_succ] at h1;have hi':i<bs.length:=hn▸hi;refine ⟨i,hi',(List.cons.inj h1).1,h2,h5,λu=>⟨i+1,(List.cons.inj h1).2,rfl,?_,λp hp=>(mpp hp).elim (h4 p) λq=>msp q▸rfl,?_⟩⟩
 . rw [Array.toList_push,h3,B7 hi']
 . rw [List.any_append,h5];rfl
theorem yq {vs:Array Value}{n:Nat}{bs:List (Array UInt8)}{t:Tok}{Q:Value->Shared->Prop}(ho:s.heap.get? a=some (al vs n))(hv:vs.size=bs.length)(hb:∀i (h:i<bs.length),∃u,vs[i]?=some (.bytes bs[i] u))
   (hne:bs≠[])(hsz:(bs.foldl (λk b=>k+b.size) 0)<=sizeLine)(h:∀u k,Q (.bytes (bs.foldl (·++·) #[]) u) { s with toks:=k }):wpAny (model prog w) A (call (.builtin "bytes.join") [.bytes #[] t,.ref a]) Q E s:=by
 refine wpAny_call (codeAny_call_builtin lY.plain qL (lY.check _ _ _ _ _ _ _ _ rfl (s6 _ _) ?_));unfold Builtin.«bytes.join» Builtin.Bytes.joinM;refine wpAny_bind (wpAny_pure (a:=(Value.bytes #[] t,Value.ref a)) ?_);refine wpAny_bind (wpAny_bind (wpAny_typeOf ⟨_,ho,rfl⟩ (wpAny_pure ?_)));refine wpAny_bind (wpAny_seqItems ho rfl ?_);obtain ⟨l⟩:=vs;rcases l with _ | ⟨x,_ | ⟨y,r⟩⟩
 . exact absurd (B8 hv.symm) hne
 . obtain ⟨b,rfl⟩:=List.length_eq_one_iff.mp hv.symm
   obtain ⟨u,hu⟩:=hb 0 Nat.one_pos;cases (Option.some.inj hu:x=.bytes b u);refine wpAny_bind (wpAny_of_eq (a:=Value.type "bytes") rfl ?_);refine wpAny_bind (wpAny_rule (wpAny_pure ?_));have h9:=h u s.toks;rw [BI,List.foldl_nil,Array.empty_append] at h9;exact h9
 . refine wpAny_bind ?_
   rw [Std.Legacy.Range.forIn_eq_forIn_range'];generalize hvs:(⟨x::y::r⟩:Array Value)=vs at *;refine wpAny_mono (wpAny_forIn_list _ (BJ bs vs.size s) (λb s'=>s'=s/\b.1.toList=bs/\∀p∈b.2,p.2=none) (λx rest b s' hs=>?_) (λb s' hs=>?_) _ _ ?_) (λb s' hs=>?_) λO O y=>y
   . obtain ⟨i,hi,e1,e2,hnone,nx⟩:=hs.next hv
     subst e1;subst e2;obtain ⟨u,hu⟩:=hb x hi;have hget:vs.getD x .none=.bytes bs[x] u:=by rw [Array.getD_eq_getD_getElem?,hu];rfl
     refine wpAny_bind (wpAny_seqItems ho rfl ?_);refine dS (c:=(false || b.2.any λx=>x.1.onHeap)=true) (by rw [hnone];exact B9) ?_;refine wpAny_bind (wpAny_holding (wpAny_of_eq (a:=some (bs[x],none)) (hget▸se) ?_));refine wpAny_bind (wpAny_seqItems ho rfl ?_);refine dS (c:=(vs.size != vs.size)=true) (by rw [bne_self_eq_false];exact B9) ?_;exact wpAny_pure (hget.symm▸nx u)
   . obtain ⟨i,h1,h2,h3,h4,h5⟩:=hs
     have:vs.size-i=0:=(List.length_range'▸congrArg List.length h1).symm;exact ⟨h2,h3.trans (BB (hv▸Nat.le_of_sub_eq_zero this)),h4⟩
   . exact ⟨0,by simp [Std.Legacy.Range.size],rfl,rfl,(λO h=>(by cases h)),rfl⟩
   . obtain ⟨e,h2,h3⟩:=hs
     subst e;refine wpAny_bind (wpAny_pure (a:=#[]) ?_);refine dS (c:=Builtin.Bytes.tooLong (Array.foldl (λx1 (x2:Array UInt8)=>x1+x2.size) (0*(b.1.size-1)) b.1)=true) ?_ ?_
     . rw [Nat.zero_mul,<-Array.foldl_toList,h2]
       unfold Builtin.Bytes.tooLong;exact λe=>absurd (of_decide_eq_true e) (nlr hsz)
     refine wpAny_bind (wpAny_mkBytes (b:=Builtin.Bytes.joined #[] b.1.toList) ?_ ?_)
     . refine wpAny_bind (wpAny_holding (wpAny_point (wpAny_bind (oP _ _ h3 (wpAny_pure ?_)))))
       rw [kX,h2];exact h _ _
     . rw [kX,h2,w7 bs #[] 0 rfl]
       exact hsz
end
noncomputable abbrev bG (b:Array UInt8):Array Nat:=b.map (·.toNat)
noncomputable abbrev dq (b:Array Nat):Array UInt8:=b.map (·.toUInt8)
noncomputable abbrev wv (T:Array Nat)(nx:Nat->Option (Nat×Nat))(rep:Array UInt8):Nat->Nat->List (Array UInt8):=lV (λb e=>dq (T.extract b e)) T.size nx rep
section
variable {M:Model}{p:Addr}{code:Array Nat}
open PySem.Builtin.Re in
theorem tU {b:Array UInt8}{t:Tok}:reTextOf (.bytes b t)=pure (bG b,1):=by
 unfold reTextOf;have e:asStr? (.bytes b t)=pure none:=rfl;rw [e,KBy.quiet_eq]
 rfl
open PySem.Builtin.Re in
theorem pS {b:Array UInt8}{t:Tok}:reNoCollectionInside (.bytes b t) 1=pure ():=by
 unfold reNoCollectionInside;rw [KBy.isInstance_eq]
 rfl
open PySem.Builtin.Re in
theorem oV {b:Array UInt8}{t:Tok}:reLiteralCannotBeTurned (.bytes b t)=pure ():=by
 unfold reLiteralCannotBeTurned;have e:asStr? (.bytes b t)=pure none:=rfl;rw [e,KBy.isInstance_eq]
 rfl
open PySem.Builtin.Re in
theorem jk {x:Array UInt8}{t:Tok}{Q:ReTarget->Shared->Prop}(P:cn s.heap p code 1)(h:Q { pattern:=.ref p,string:=.bytes x t,code:=code,text:=bG x,kind:=1,groups:=0,pos:=0,lim:=(bG x).size } s) :
   wpAny M A (reWholeTarget (.ref p) (.bytes x t)) Q E s:=by
 obtain ⟨fs,osl,c,oc,items,n,h1,h3,h4,h5,h6,h7,h8⟩:=P;unfold reWholeTarget;have e1:fieldsOf (.ref p)=(do match (<-load p).data with | .fields vs=>pure vs | _=>unsupported "internal:no-fields"):=rfl;rw [e1];refine wpAny_bind (wpAny_bind (wpAny_load h1 (wpAny_pure ?_)));rw [tU];refine wpAny_bind (wpAny_pure ?_);simp only [h3,h4,h5,pS]
 show wpAny M A (do
   let items<-reRawItems (.ref c)
   pure { pattern:=.ref p,string:=.bytes x t,code:=items.map (·.toNat),text:=bG x,kind:=1,groups:=0,pos:=0,lim:=(bG x).size }) Q E s
 refine wpAny_bind (wpAny_bind (wpAny_seqItems h6 h7 (wpAny_pure (wpAny_pure ?_))));rw [show (((some items).getD #[]).map reRawOf).map (·.toNat)=code from h8];exact h
end
section
noncomputable def l9 (T:Array Nat)(nx:Nat->Option (Nat×Nat))(rep:Array UInt8):List (Array UInt8):=wv T nx rep (T.size+1) 0
open PySem.Builtin.Re in
set_option tactic.hygienic true in
theorem vv {p:Addr}{code:Array Nat}{x rep:Array UInt8}{nx:Nat->Option (Nat×Nat)}{V:Nat->Prop}(P:cn B.g p code 1)(F:qM code (bG x) nx V)(hsum:((l9 (bG x) nx rep).foldl (λk b=>k+b.size) 0)<=sizeLine)(hlen:(l9 (bG x) nx rep).length<=sizeLine)(hx:x.size<=sizeLine)
   (hr:rep.contains 92=false)(q:Q (.bytes ((l9 (bG x) nx rep).foldl (·++·) #[])) H):aM [] E H B (d+2) (.raw (.builtin "re.Pattern.sub")) [.raw (.ref p),.bytes rep,.bytes x] Q:=aM.at λA s R I vs r fv rf=>by
 obtain ⟨a,b,c,rfl,r1,r2,r3⟩:=r.three;obtain ⟨_,rfl⟩:=rf.inv;obtain ⟨_,rfl⟩:=r1.inv;obtain ⟨_,rfl⟩:=r2.inv;obtain ⟨_,rfl⟩:=r3.inv;rename_i u t;have P':=P.keeps I.keep;have hT:s.TypeIs (.ref p) "re.Pattern":=P'.isType;refine wpAny_call (codeAny_call_builtin fh.plain mu (fh.check _ _ _ _ _ _ _ _ hT (rF _ _ _) ?_));unfold Builtin.«re.Pattern.sub» reSubstitute;refine wpAny_bind (wpAny_pure (a:=[some (Value.bytes rep u),some (Value.bytes x t),none]) ?_);refine wpAny_bind (wpAny_pure (a:=(0:Int)) ?_);refine wpAny_bind (wpAny_specialOf (T:="bytes") rfl lx ?_);refine wpAny_bind (wpAny_pure (a:=(none:Option Str)) ?_);refine wpAny_bind (wpAny_of_eq KBy.quiet_eq ?_);refine wpAny_bind (wpAny_pure (a:=!rep.contains 92) ?_);rw [hr];refine wpAny_bind (wpAny_pure (a:=(Value.bytes rep u,(0:Int))) ?_);refine wpAny_bind ?_;show wpAny _ _ (reWholeTarget (.ref p) (.bytes x t)) _ _ _;refine jk P' ?_;refine wpAny_bind (wpAny_newList ?_ (Ae _));refine wpAny_pure ⟨by kernel_rfl,?_⟩;have tr:=Tr.track (vs:=[]) (xs:=[]) I .nil;have hxs:(bG x).size=x.size:=Array.size_map;have hext:∀b e,(dq ((bG x).extract b e)).size<=sizeLine:=λb e=>by rw [Array.size_map,Array.size_extract];exact ntr (Av _ _) (ntr (AI _ _) (hxs▸hx))
 have ex:dq ((bG x).extract 0 0)=#[]:=by simp
 refine rp (pc:=λb e=>dq ((bG x).extract b e)) (pv:=PV.bytes) (J:=.bytes ((l9 (bG x) nx rep).foldl (·++·) #[])) (n:=0) (R.le (Al 2 d)) P F jk oV rfl (λ_ _=>.bytes _ _)
   (λb e q=>show wpAny _ _ (mkBytes (dq ((bG x).extract b e))) _ _ _ from wpAny_mkBytes (q _ _ λ_ _=>.bytes _ _) (hext b e)) (λ{A' E' s2 Q2 jv} Ra I2 hne hjv q2=>?_) (λh=>?_) hlen (λs' v T hv=>⟨_,H,T,hv _ _,q⟩) ((bG x).size+1) 0 [] _ F.v0 (Au _) (Ae _) rfl tr
 . obtain ⟨_,rfl⟩:=(hjv (λ_=>False) s.heap).inv
   rw [ex];obtain ⟨hg,vs,nn,ho,hv⟩:=I2.objs _ mcs;have hvl:vs.size=(l9 (bG x) nx rep).length:=hv.length.trans (Bk ..);refine yq (bs:=l9 (bG x) nx rep) ho hvl (λi hi=>?_) hne hsum λu' k'=>q2 _ _ (Tr.tok I2 k') λ_ _=>.bytes _ _;obtain ⟨v,h1,h2⟩:=hv.get (i:=i) (p:=.bytes (l9 (bG x) nx rep)[i]) (by rw [List.getElem?_map,List.getElem?_eq_getElem hi];rfl);obtain ⟨_,rfl⟩:=h2.inv;exact ⟨_,by rw [<-Array.getElem?_toList];exact h1⟩
 . rw [h,ex];rfl
end
section
open PySem.Builtin PySem.Builtin._codecs
theorem tK (x:PySem.Str)(t u:Tok):Builtin.«str.encode» ⟨[.str x t,.str (Ω "ascii") u],[]⟩=(do ret (<-encodeRoad "str.encode" (.str x t) x (Ω "ascii") none)):=by kernel_rfl
theorem tX (id:String)(self:Value)(x:PySem.Str):encodeRoad id self x (Ω "ascii") none=(do mkBytes (<-encodeNarrow id asciiCodec none self x)):=by kernel_rfl
theorem qo {id:String}{b:Array UInt8}:decodeRoad id b (Ω "ascii") none []=(runDecoder id asciiDecoder none true b 0 [] >>= λr=>mkStr ⟨r.1⟩):=by kernel_rfl
end
section
variable {M:Model}
theorem m9 (n:Nat):(BS [:n].start [:n].size [:n].step).length=n:=by simp [Std.Legacy.Range.size]
inductive FF (x:Str)(s:Shared):List Nat->Nat×Array UInt8×Builtin._codecs.Faults->Shared->Prop
 | start {rest:List Nat} {st:Builtin._codecs.Faults} (h:rest.length=x.length):FF x s rest (0,#[],st) s
 | fin {rest:List Nat} {st:Builtin._codecs.Faults}:FF x s rest (x.length,dq x.cps,st) s
inductive aAd (x:Str)(s:Shared):Nat×Array UInt8×Builtin._codecs.Faults->Shared->Prop
 | mk {i:Nat} {st:Builtin._codecs.Faults}:aAd x s (i,dq x.cps,st) s
open PySem.Builtin._codecs in
theorem s9 (l:List Nat):∀acc:Array UInt8,(l.foldl (λacc y=>acc++(asciiCodec.bytesOf y).toArray) acc).toList=acc.toList++l.map (·.toUInt8):=by
 induction l with
 | nil=>exact λacc=>(Br _).symm
 | cons c r ih=>
   intro acc;rw [BI,ih,Array.toList_append,Bn]
   rfl
open PySem.Builtin._codecs in
theorem x9 (x:Array Nat):Array.foldl (λacc y=>acc++(asciiCodec.bytesOf y).toArray) #[] x=dq x:=
 Array.ext' (by rw [<-Array.foldl_toList,s9,Array.toList_map];rfl)
open PySem.Builtin._codecs in
theorem kv {x:Array Nat}(hx:∀c∈x.toList,c<128){c:Nat}(e:x[i]?=some c):asciiCodec.bad c=false:=decide_eq_false (Nat.not_le.mpr (hx c (List.mem_of_getElem? ((Array.getElem?_toList ..).trans e))))
open PySem.Builtin._codecs in
theorem kx {x:Array Nat}(hx:∀c∈x.toList,c<128):Array.findIdx? asciiCodec.bad x=none:=by
 rw [Array.findIdx?_eq_none_iff];intro c hc;obtain ⟨k,hk⟩:=Array.getElem?_of_mem hc;exact kv hx hk
open PySem.Builtin._codecs in
theorem pG {id:String}{self:Value}{x:Str}{Q:Array UInt8->Shared->Prop}(hx:∀c∈x.cps.toList,c<128)(hl:x.length<=sizeLine)(h:Q (dq x.cps) s):wpAny M A (encodeNarrow id asciiCodec none self x) Q E s:=by
 unfold encodeNarrow;refine wpAny_bind ?_;rw [Std.Legacy.Range.forIn_eq_forIn_range'];refine wpAny_mono (wpAny_forIn_list _ (FF x s) (aAd x s) (λy rest b s' hs=>?_) (λb s' hs=>?_) _ _ (.start (m9 _))) (λb s' hs=>?_) λO O y=>y
 . obtain ⟨hr⟩:=hs
   . have hp:0<x.cps.size:=nlt (AB _) (Ac hr)
     refine dS (nlr (Ae _)) ?_;show wpAny M A (match x.cps[0]? with | some x_2=>_ | x=>_) _ _ _;rw [Array.getElem?_eq_getElem hp];show wpAny M A (if (!asciiCodec.bad x.cps[0])=true then _ else _) _ _ _;rw [kv hx (Array.getElem?_eq_getElem hp)];refine wpAny_pure ?_;have e0:x.cps.extract 0=x.cps:=Array.extract_size;have e1:0+(Array.findIdx? asciiCodec.bad (x.cps.extract 0)).getD (x.cps.extract 0).size=x.length:=by rw [e0,kx hx];exact Aj _
     have e2:Array.foldl (λacc y=>acc++(asciiCodec.bytesOf y).toArray) #[] ((x.cps.extract 0).extract 0 ((Array.findIdx? asciiCodec.bad (x.cps.extract 0)).getD (x.cps.extract 0).size))=dq x.cps:=by
       rw [e0,kx hx];show Array.foldl _ _ (x.cps.extract 0)=_;rw [e0];exact x9 _
     show FF x s rest (0+(Array.findIdx? asciiCodec.bad (x.cps.extract 0)).getD (x.cps.extract 0).size,Array.foldl (λacc y=>acc++(asciiCodec.bytesOf y).toArray) #[] ((x.cps.extract 0).extract 0 ((Array.findIdx? asciiCodec.bad (x.cps.extract 0)).getD (x.cps.extract 0).size)),_) s;rw [e1,e2];exact .fin
   . have hz:(dq x.cps).size=x.length:=Array.size_map
     refine dS (nlr (hz▸hl)) ?_;show wpAny M A (match x.cps[x.length]? with | some x_2=>_ | x=>_) _ _ _;rw [show x.cps[x.length]?=none from Array.getElem?_eq_none (Ab _)];exact wpAny_pure .mk
 . obtain ⟨hr⟩:=hs
   . have e:x.cps=#[]:=Array.eq_empty_of_size_eq_zero (show x.cps.size=0 from hr.symm)
     exact (show dq x.cps=#[] by rw [e];exact Array.map_empty)▸aAd.mk
   . exact .mk
 . obtain ⟨⟩:=hs
   exact wpAny_pure h
inductive aC4 (b:Array UInt8)(s:Shared):List Nat->Nat×Array Nat×Builtin._codecs.Faults->Shared->Prop
 | mk {rest:List Nat} {p:Nat} {out:Array Nat} {st:Builtin._codecs.Faults} (h:rest.length+p=b.size) (e:out.toList=(bG b).toList.take p):aC4 b s rest (p,out,st) s
inductive aFu (b:Array UInt8)(s:Shared):Nat×Array Nat×Builtin._codecs.Faults->Shared->Prop
 | mk {st:Builtin._codecs.Faults}:aFu b s (b.size,bG b,st) s
theorem rB (b:Array UInt8):(bG b).toList.length=b.size:=Array.length_toList.trans Array.size_map
open PySem.Builtin.Bytes in
theorem uK {id:String}{b:Array UInt8}{Q:Array Nat×Nat->Shared->Prop}(hb:∀c∈b.toList,c.toNat<128)(hl:b.size<=sizeLine)(h:Q (bG b,b.size) s):wpAny M A (Builtin._codecs.runDecoder id Builtin._codecs.asciiDecoder none true b 0 []) Q E s:=by
 unfold Builtin._codecs.runDecoder;refine wpAny_bind ?_;rw [Std.Legacy.Range.forIn_eq_forIn_range'];refine wpAny_mono (wpAny_forIn_list _ (aC4 b s) (aFu b s) (λy rest st s' hs=>?_) (λst s' hs=>?_) _ _ (.mk (m9 _) rfl)) (λst s' hs=>?_) λO O y=>y
 . obtain @⟨p,out,st,hr,e⟩:=hs
   have hr':rest.length+(p+1)=b.size:=(A8 ..).symm.trans hr;have hp:p<b.size:=nlt (Au p) (hr'▸Al _ _);have hos:out.size<=p:=by rw [<-Array.length_toList,e];exact List.length_take_le ..
   have hg:b.getD p 0=b[p]:=dif_pos hp;have hc:(b.getD p 0).toNat<128:=hg▸hb _ (Array.getElem_mem_toList hp);refine dS (nlr (ntr hos (ntr (Ah hp) hl))) ?_;refine dS (Nat.not_le.mpr hp) ?_;rw [show Builtin._codecs.asciiDecoder.find true b p=.text [(b.getD p 0).toNat] (p+1) from if_pos hc];refine wpAny_pure (aC4.mk hr' ?_);rw [Array.toList_append,e,hg,B7 (rB b▸hp)];exact congrArg (λc=>_++[c]) ((Array.getElem_toList ..).trans (Array.getElem_map ..)).symm
 . obtain @⟨p,out,st,hr,e⟩:=hs
   obtain rfl:p=b.size:=(Aj p).symm.trans hr;obtain rfl:out=bG b:=Array.ext' (e.trans (BB (Ac (rB b))));exact .mk
 . obtain ⟨⟩:=hs
   exact wpAny_pure h
end
section
theorem ra {x:Str}(hx:∀c∈x.cps.toList,c<128)(hl:x.length<=sizeLine)(q:Q (.bytes (dq x.cps)) H):aM [] E H B d (.raw (.builtin "str.encode")) [.str x,.str (Ω "ascii")] Q:=aM.at λA s R I vs r fv rf=>by
 obtain ⟨a,b,rfl,r1,r2⟩:=r.two;obtain ⟨O,rfl⟩:=rf.inv;obtain ⟨O,rfl⟩:=r1.inv;obtain ⟨O,rfl⟩:=r2.inv;refine wpAny_call_entry PySem.F.slot_str_encode (typeIs_str _ _ _) PySem.F.entry_str_encode ?_ (PySem.F.args_str_encode_2 _ _);rw [tK,tX];refine wpAny_bind (wpAny_bind (pG hx hl (wpAny_mkBytes ?_ (by simp;exact hl))));exact wpAny_pure ⟨_,rfl,⟨_,H,Tr.tok I _,.bytes _ _,q⟩⟩
theorem pr {b:Array UInt8}:dI B H "decode" "bytes.decode" (.bytes b):=λA E s va I r pl Q q=>by
 obtain ⟨O,rfl⟩:=r.inv;exact KBd.method q
theorem gQ (a b:Value):argsOk "bytes.decode" ⟨[a,b],[]⟩:=by
 unfold argsOk;rw [signature?_of (id:="bytes.decode") (n:=['e','d','o','c','e','d']) (o:=['s','e','t','y','b']) (by kernel_rfl) iU];kernel_rfl
theorem vw {c:UInt8}{cs:List UInt8}{t u:Tok}:Builtin.«bytes.decode» ⟨[.bytes (c::cs).toArray t,.str (Ω "ascii") u],[]⟩=(mkStr (Ω "utf-8") >>= λO=>mkStr (Ω "ascii") >>= λe=>mkStr (Ω "bytes.decode") >>= λd=>
   call (.builtin "_codecs.decode.text") [.bytes (c::cs).toArray t,e,.none,d] >>= λv=>ret v):=by kernel_rfl
theorem jL {b:Array UInt8}{t t1 t2:Tok}{d:Str}(hb:∀c∈b.toList,c.toNat<128) :
   Meets (Builtin.«_codecs.decode.text» ⟨[.bytes b t,.str (Ω "ascii") t1,.none,.str d t2],[]⟩) (λO R s=>b.size<=sizeLine/\R (.ok (.ret (.str ⟨bG b⟩ s.toks))) { s with toks:=s.toks+1 }):=by
 refine .of_wp λprog w A R s hS=>?_;obtain ⟨hsz,h⟩:=hS;show wpAny _ _ (Builtin.Bytes.bytesLike _ (.bytes b t) >>= λr=>_) _ _ s;refine wpAny_bind (wpAny_of_eq KBd.like_eq ?_);refine wpAny_bind (wpAny_of_eq KBd.held_eq ?_);show wpAny _ _ (Builtin._codecs.decodeRoad _ b (Ω "ascii") none [] >>= λv=>_) _ _ s;rw [qo];refine wpAny_bind (wpAny_bind (uK hb hsz ?_));exact wpAny_mkStr (wpAny_pure ⟨_,rfl,h⟩) (by show (bG b).size<=_;simpa using hsz)
theorem qU {b:Array UInt8}(hb:∀c∈b.toList,c.toNat<128)(hne:b≠#[])(hl:b.size<=sizeLine)(q:Q (.str ⟨bG b⟩) H):aM [] E H B d (.raw (.builtin "bytes.decode")) [.bytes b,.str (Ω "ascii")] Q:=aM.at λA s R I vs r fv rf=>by
 obtain ⟨a,e,rfl,r1,r2⟩:=r.two;obtain ⟨O,rfl⟩:=rf.inv;obtain ⟨O,rfl⟩:=r1.inv;obtain ⟨O,rfl⟩:=r2.inv;obtain ⟨l⟩:=b
 cases l with
 | nil=>exact absurd rfl hne
 | cons c cs=>
   refine wpAny_call_entry FB.slot_bytes_decode (typeIs_bytes _ _ _) FB.entry_bytes_decode ?_ (gQ _ _);show wpAny _ _ (Builtin.«bytes.decode» ⟨[.bytes (c::cs).toArray _,.str (Ω "ascii") _],[]⟩) _ _ _;rw [vw];refine wpAny_bind (wpAny_mkStr ?_ (by rw [sizeLine_eq];decide));refine wpAny_bind (wpAny_mkStr ?_ (by rw [sizeLine_eq];decide));refine wpAny_bind (wpAny_mkStr ?_ (by rw [sizeLine_eq];decide));refine wpAny_bind (call_function_meets KBd.kind_text KBd.plain_text KBd.entry_text (KBd.args_text _ _ _ _) (jL hb) ⟨hl,wpAny_pure ⟨_,rfl,?_⟩⟩);exact ⟨_,H,Tr.tok I _,.str _ _,q⟩
end
noncomputable def fK:Bool->List Nat->List Nat
 | _,[]=>[]
 | b,c::r=>if c=10 then if b=true then fK false r else 13::10::fK false r else if c=13 then 13::10::fK true r else c::fK false r
noncomputable def cO (l:List Nat):List Nat:=fK false l
noncomputable def dots:Bool->List Nat->List Nat
 | _,[]=>[]
 | b,c::r=>if b=true/\c=46 then 46::46::dots false r else c::dots (c==10) r
theorem xk (l:List Nat):∀b,(fK b l).length<=2*l.length:=by
 induction l with
 | nil=>exact λb=>Ab 0
 | cons c r ih=>
   intro b;show List.length (if c=10 then if b=true then fK false r else 13::10::fK false r else if c=13 then 13::10::fK true r else c::fK false r)<=_;by_cases h1:c=10
   . rw [if_pos h1]
     by_cases h2:b=true
     . rw [if_pos h2];exact AX (ih false)
     . rw [if_neg h2];exact Ag (Ag (ih false))
   . rw [if_neg h1]
     by_cases h2:c=13
     . rw [if_pos h2];exact Ag (Ag (ih true))
     . rw [if_neg h2];exact Ag (Ay (ih false))
theorem lW (l:List Nat):(cO l).length<=2*l.length:=xk l false
theorem kZ (b:Bool)(l:List Nat):(dots b l).length<=2*l.length:=by
 induction l generalizing b with
 | nil=>exact Ab 0
 | cons c r ih=>
   show List.length (if b=true/\c=46 then 46::46::dots false r else c::dots (c==10) r)<=_;by_cases h:b=true/\c=46
   . rw [if_pos h];exact Ag (Ag (ih false))
   . rw [if_neg h];exact Ag (Ay (ih _))
section
variable {T:Array Nat}
noncomputable abbrev dz (T:Array Nat)(d:Nat):List Nat:=T.toList.drop d
theorem jA (T:Array Nat):T.toList.length=T.size:=Array.length_toList
theorem Ez (h:d<T.size):T.toList[d]'(jA T▸h)=T.getD d 0:=(Array.getElem_toList ..).trans (dif_pos h).symm
theorem cR (h:d<T.size):dz T d=T.getD d 0::dz T (d+1):=(BH (jA T▸h)).trans (congrArg (·::T.toList.drop (d+1)) (Ez h))
theorem jB (h:T.size<=d):dz T d=[]:=BR (jA T▸h)
theorem oy {s e:Nat}:(T.extract s e).toList=(dz T s).take (e-s):=by rw [Array.toList_extract,List.extract_eq_take_drop]
theorem zV {s e:Nat}(h:s<e)(he:e<=T.size):(T.extract s e).toList=T.getD s 0::(T.extract (s+1) e).toList:=by
 obtain ⟨k,rfl⟩:=Nat.exists_eq_add_of_lt h;rw [oy,oy,cR (nlt h he),show s+k+1-s=k+1 from AO s (k+1),show s+k+1-(s+1)=k by rw [AU,AO]]
 rfl
theorem ua {s:Nat}:(T.extract s s).toList=[]:=by rw [oy,A1];rfl
theorem FJ {s:Nat}:(T.extract s T.size).toList=dz T s:=oy.trans (BB (Ac (List.length_drop.trans (congrArg (· - s) (jA T)))))
theorem qG {c:Nat}(h:¬(c=10\/c=13)):cO (c::r)=c::cO r:=(if_neg λe=>h (.inl e)).trans (if_neg λe=>h (.inr e))
theorem DB :cO (10::r)=13::10::cO r:=rfl
theorem ry {r:List Nat}(h:∀r',r≠10::r'):cO (13::r)=13::10::cO r:=by
 refine congrArg (13::10::·) (?_:fK true r=fK false r)
 cases r with
 | nil=>rfl
 | cons c r=>
   have hc:¬c=10:=λe=>h r (by rw [e]);exact (if_neg hc).trans (if_neg hc).symm
theorem yH {s:Nat}(hs:s<T.size)(hh:Rx.hit3 T s=true):cO (dz T s)=13::10::cO (dz T (Rx.end3 T s)):=by
 rw [cR hs];unfold Rx.end3;by_cases hc:Rx.crlfAt T s=true
 . rw [if_pos hc]
   unfold Rx.crlfAt at hc;rw [Ca,Ca,decide_eq_true_eq,beq_iff_eq,beq_iff_eq] at hc;rw [cR hc.1.2,hc.1.1,hc.2]
   rfl
 . rw [if_neg hc]
   unfold Rx.hit3 at hh;rw [Cb,beq_iff_eq,beq_iff_eq] at hh;rcases hh with h | h
   . rw [h];rfl
   . rw [h]
     refine ry λr' e=>hc ?_;by_cases h2:s+1<T.size
     . have e1:=(List.cons.inj ((cR h2).symm.trans e)).1
       unfold Rx.crlfAt;rw [h,e1,decide_eq_true h2];rfl
     . cases (jB (Ar h2)).symm.trans e
inductive pQ (T:Array Nat)(F:Nat->List Nat)(rl:List Nat)(s:Nat):Option (Nat×Nat)->Prop
 | hit {b e:Nat} (h1:s<=b) (h2:b<e) (h3:e<=T.size) (h4:F s=(T.extract s b).toList++(rl++F e)):pQ T F rl s (some (b,e))
 | none (h:F s=dz T s):pQ T F rl s none
section
variable {hit:Nat->Bool}{en:Nat->Nat}{nx:Nat->Nat->Option (Nat×Nat)}{F:Nat->List Nat}{rl:List Nat}
theorem px (h0:∀s,nx 0 s=none)(h1:∀k s,nx (k+1) s=if hit s=true then some (s,en s) else nx k (s+1))(he:∀s,s<T.size->s<en s/\en s<=T.size)(hF:∀s,s<T.size->hit s=true->F s=rl++F (en s))
   (nF:∀s,s<T.size->¬hit s=true->F s=T.getD s 0::F (s+1))(zF:F T.size=dz T T.size)(k:Nat):∀{s:Nat},s+k=T.size->pQ T F rl s (nx k s):=by
 induction k with
 | zero=>
   intro s h;obtain rfl:s=T.size:=h;rw [h0];exact .none zF
 | succ k ih=>
   intro s h;have hs:s<T.size:=nlt (AE (AB k)) (Ac h);rw [h1];by_cases hh:hit s=true
   . rw [if_pos hh]
     exact .hit (Ab _) (he s hs).1 (he s hs).2 (by rw [ua];exact hF s hs hh)
   . rw [if_neg hh]
     have i:=ih ((A8 ..).trans h);have n:=nF s hs hh;generalize nx k (s+1)=o at i
     cases i with
     | hit a b c e=>exact .hit (AC a) b c (by rw [n,e,zV (nlt a (Ab _)) (ntr (Ah b) c)];rfl)
     | none e=>exact .none (by rw [n,e,<-cR hs])
end
noncomputable def pH (T:Array Nat)(s:Nat):Bool:=s==0 || T.getD (s-1) 0==10
theorem jc (T:Array Nat)(s:Nat):pH T (s+1)=(T.getD s 0==10):=rfl
noncomputable def r7 (T:Array Nat)(nx:Nat->Option (Nat×Nat))(rl:List Nat)(F:Nat->List Nat):Prop:=∀d,d<=T.size->pQ T F rl d (nx d)
theorem sa:r7 T (nxC T) [13,10] λd=>cO (dz T d):=λd hd=>by
 unfold nxC;rw [if_pos hd];refine px (nx:=Rx.nx3 T) (hit:=Rx.hit3 T) (λO=>rfl) (λO O=>rfl) vA (λs=>yH) (λs hs hh=>?_) (by rw [jB (Ab _)];rfl) _ (Be hd);rw [cR hs,qG λq=>hh ?_];unfold Rx.hit3;rw [Cb,beq_iff_eq,beq_iff_eq];exact q
theorem kI:r7 T (nxA T) [46,46] λd=>dots (pH T d) (dz T d):=λd hd=>by
 unfold nxA;rw [if_pos hd];refine px (nx:=Rx.nx1 T) (hit:=Rx.hit1 T) (λO=>rfl) (λO O=>rfl) oh (λs hs hh=>?_) (λs hs hh=>?_) (by rw [jB (Ab _)];rfl) _ (Be hd)
 . unfold Rx.hit1 at hh
   rw [Ca,Ca,beq_iff_eq] at hh;rw [cR hs,jc,hh.2];exact if_pos ⟨hh.1.1,rfl⟩
 . rw [cR hs,jc]
   refine if_neg λq=>hh ?_;unfold Rx.hit1;rw [show (s==0 || T.getD (s-1) 0==10)=true from q.1,decide_eq_true hs,q.2];rfl
theorem rq {a x e N:Nat}(ha:a<=x+2)(hx:x+2*e<=N)(he:d<e):a+2*d<=N:=
 ntr (AA ha _) (ntr (Ac (by rw [Ap,Ak 2];rfl)) (ntr (AD (Aw 2 he) x) hx))
theorem nM {π β:Type}{pc:Nat->Nat->π}{cod:π->List β}{g:Nat->β}{nx:Nat->Option (Nat×Nat)}{rep:π}{rl:List Nat}{F:Nat->List Nat}(hpc:∀b e,cod (pc b e)=(T.extract b e).toList.map g)(hrep:cod rep=rl.map g)(S:r7 T nx rl F)(k:Nat) :
   ∀(d:Nat),T.size<k+d->d<=T.size->((lV pc T.size nx rep k d).map cod).flatten=(F d).map g/\(lV pc T.size nx rep k d).length+2*d<=2*T.size+1:=by
 induction k with
 | zero=>exact λd h hd=>absurd (Aj d▸h) (nlr hd)
 | succ k ih=>
   intro d h hd;have P:=S d hd;generalize hn:nx d=o at P
   cases P with
   | @hit b e h1 h2 h3 h4=>
     have hde:d<e:=Ai h1 h2;obtain ⟨i1,i2⟩:=ih e (nlt h (A8 k d▸AD hde k)) h3;have hF:(F d).map g=cod (pc d b)++(cod rep++((lV pc T.size nx rep k e).map cod).flatten):=by rw [h4,Bq,Bq,hpc,hrep,i1]
     rw [nU hn,hF];by_cases hdb:d<b
     . rw [if_pos hdb]
       exact ⟨rfl,rq (Ab _) i2 hde⟩
     . rw [if_neg hdb,hpc,show (T.extract d b).toList=[] by rw [A7 (Ar hdb) h1];exact ua]
       exact ⟨rfl,rq (Ax _) i2 hde⟩
   | none h4=>
     rw [n8 hn,h4];by_cases hdb:d<T.size
     . rw [if_pos hdb,<-FJ,<-hpc]
       exact ⟨Br _,Ak 1 (2*d)▸Ag (Aw 2 hd)⟩
     . rw [if_neg hdb,jB (Ar hdb)]
       exact ⟨rfl,Aj _▸Ay (Aw 2 hd)⟩
theorem mq {nx:Nat->Option (Nat×Nat)}{rep:Str}{F:Nat->List Nat}(S:r7 T nx rep.cps.toList F)(k d:Nat)(h:T.size<k+d)(hd:d<=T.size):((pA T nx rep k d).map (·.cps.toList)).flatten=F d/\(pA T nx rep k d).length+2*d<=2*T.size+1:=by
 have:=nM (T:=T) (pc:=λb e=>(⟨T.extract b e⟩:Str)) (cod:=λx:Str=>x.cps.toList) (g:=id) (rep:=rep) (λb e=>(List.map_id _).symm) (List.map_id _).symm S k d h hd;rwa [List.map_id] at this
theorem wN {nx:Nat->Option (Nat×Nat)}{rep:Array UInt8}{F:Nat->List Nat}(S:r7 T nx (bG rep).toList F)(k d:Nat)(h:T.size<k+d)(hd:d<=T.size):((wv T nx rep k d).map (·.toList)).flatten=(F d).map (·.toUInt8)/\(wv T nx rep k d).length+2*d<=2*T.size+1:=
 nM (T:=T) (pc:=λb e=>dq (T.extract b e)) (cod:=λx:Array UInt8=>x.toList) (g:=λn:Nat=>n.toUInt8) (rep:=rep) (λb e=>Array.toList_map) (by simp [Bm];exact (List.map_id'' (λx=>by simp) _).symm) S k d h hd
end
noncomputable def ofL (l:List Nat):Str:=⟨l.toArray⟩
theorem jD:∀(L:List Str),Txt.join ⟨#[]⟩ L=ofL (L.map (·.cps.toList)).flatten:=by
 intro L;unfold Txt.join;rw [StrLaws.glued_eq_join]
 induction L with
 | nil=>rfl
 | cons a r ih=>
   cases r with
   | nil=>simp [Str.join,ofL]
   | cons b r=>
     show a++⟨#[]⟩++Str.join ⟨#[]⟩ (b::r)=_;rw [ih];show (⟨(a.cps++#[])++_⟩:Str)=_;unfold ofL;congr 1;apply Array.ext';simp
theorem kb:∀(L:List Str),(L.map (·.length)).sum=(L.map (·.cps.toList)).flatten.length
 | []=>rfl
 | a::r=>by
   simp only [Bs,BA,BD,Bl,kb r]
   rfl
theorem vq:∀(L:List (Array UInt8)) (k:Nat),L.foldl (λk b=>k+b.size) k=k+(L.map (·.toList)).flatten.length:=by
 intro L
 induction L with
 | nil=>
   intro k;exact rfl
 | cons a r ih=>
   intro k;simp only [BI,Bs,BD,Bl,ih];simp;(exact Ap ..)
theorem s8:∀(L:List (Array UInt8)) (acc:Array UInt8),L.foldl (·++·) acc=acc++((L.map (·.toList)).flatten).toArray:=by
 intro L
 induction L with
 | nil=>
   intro acc;simp
 | cons a r ih=>
   intro acc;simp only [BI,Bs,BD,ih];apply Array.ext';simp
noncomputable def aj (w:List Nat):List (List Nat)->List Nat
 | []=>[]
 | [r]=>r
 | r::rest=>r++w++aj w rest
theorem ai {w:List Nat}{s:List Nat}{t:List (List Nat)}:aj w (r::s::t)=r++w++aj w (s::t):=rfl
theorem da {w:List Nat}:∀(rows:List (List Nat)),Txt.join (ofL w) (rows.map ofL)=ofL (aj w rows):=by
 intro rows;unfold Txt.join;rw [StrLaws.glued_eq_join]
 induction rows with
 | nil=>rfl
 | cons r t ih=>
   cases t with
   | nil=>rfl
   | cons s t=>
     show ofL r++ofL w++Str.join (ofL w) (ofL s::t.map ofL)=_;have ih':Str.join (ofL w) (ofL s::t.map ofL)=ofL (aj w (s::t)):=ih;rw [ih',ai];show (⟨(ofL r).cps++(ofL w).cps++(ofL (aj w (s::t))).cps⟩:Str)=_;unfold ofL;congr 1;apply Array.ext';simp
noncomputable def iB (r:List Nat):Prop:=∀c∈r,c≠10/\c≠13
theorem nZ {r:List Nat}(t:List Nat)(h:iB r):cO (r++t)=r++cO t:=by
 induction r with
 | nil=>rfl
 | cons c r ih=>exact (qG λq=>q.elim (h c (.head _)).1 (h c (.head _)).2).trans (congrArg (c::·) (ih λx hx=>h x (.tail _ hx)))
theorem zk (l:List (List Nat))(hl:∀x∈l,iB x):∀c∈aj [13] l,c≠10:=by
 induction l with
 | nil=>exact λc hc=>(Bo hc).elim
 | cons a b ih=>
   have ih:=ih λx hx=>hl x (.tail _ hx)
   cases b with
   | nil=>exact λc hc=>(hl a (.head _) c hc).1
   | cons b1 b2=>
     intro c hc;refine (mpp hc).elim (λhc=>(mpp hc).elim (λhc=>(hl a (.head _) c hc).1) λhc=>?_) (ih c);rw [msp hc];decide
theorem xn {w:List Nat}(hw:w=[10]\/w=[13]\/w=[13,10])(rows:List (List Nat))(h:∀r∈rows,iB r):cO (aj w rows)=aj [13,10] rows:=by
 induction rows with
 | nil=>rfl
 | cons r rows ih=>
   have hr:=h r (.head _);have ih:=ih λx hx=>h x (.tail _ hx)
   cases rows with
   | nil=>exact (congrArg cO (Br r).symm).trans ((nZ [] hr).trans (Br r))
   | cons s t=>
     rw [ai,ai,Bn,nZ _ hr,Bn];refine congrArg (r++·) ?_;rcases hw with rfl | rfl | rfl
     . exact DB.trans (congrArg (13::10::·) ih)
     . exact (ry λr' e=>zk (s::t) (λx hx=>h x (.tail _ hx)) 10 (by have e:aj [13] (s::t)=10::r':=e;rw [e];exact .head _) rfl).trans (congrArg (13::10::·) ih)
     . exact congrArg (13::10::·) ih
noncomputable def gv:List Nat->List Nat
 | c::r=>if c=46 then 46::46::r else c::r
 | []=>[]
theorem eS {b:Bool}{c:Nat}(h10:c≠10)(h:¬(b=true/\c=46)):dots b (c::r)=c::dots false r:=(if_neg h).trans (by rw [show (c==10)=false from beq_false_of_ne h10])
theorem xh {r:List Nat}(t:List Nat)(h:iB r):dots false (r++13::t)=r++13::dots false t:=by
 induction r with
 | nil=>exact eS ∅ λq=>B9 q.1
 | cons c r ih=>exact (eS (h c (.head _)).1 λq=>B9 q.1).trans (congrArg (c::·) (ih λx hx=>h x (.tail _ hx)))
theorem si {r:List Nat}(h:iB r):dots false r=r:=by
 induction r with
 | nil=>rfl
 | cons c r ih=>exact (eS (h c (.head _)).1 λq=>B9 q.1).trans (congrArg (c::·) (ih λx hx=>h x (.tail _ hx)))
theorem y1 {r:List Nat}(t:List Nat)(h:iB r):dots true (r++13::t)=gv r++13::dots false t:=by
 cases r with
 | nil=>exact eS ∅ λq=>by cases q.2
 | cons c r=>
   have hr:=xh t λx hx=>h x (.tail _ hx);by_cases h46:c=46
   . subst h46
     exact congrArg (46::46::·) hr
   . exact (eS (h c (.head _)).1 λq=>h46 q.2).trans ((congrArg (c::·) hr).trans (congrArg (·++13::dots false t) (show c::r=gv (c::r) from (if_neg h46).symm)))
theorem xH {r:List Nat}(h:iB r):dots true r=gv r:=by
 cases r with
 | nil=>rfl
 | cons c r=>
   have hr:=si λx hx=>h x (.tail _ hx);by_cases h46:c=46
   . subst h46
     exact congrArg (46::46::·) hr
   . exact (eS (h c (.head _)).1 λq=>h46 q.2).trans ((congrArg (c::·) hr).trans (if_neg h46).symm)
theorem wc (rows:List (List Nat))(h:∀r∈rows,iB r):dots true (aj [13,10] rows)=aj [13,10] (rows.map gv):=by
 induction rows with
 | nil=>rfl
 | cons r rows ih=>
   have hr:=h r (.head _);have ih:=ih λx hx=>h x (.tail _ hx)
   cases rows with
   | nil=>exact xH hr
   | cons s t=>
     have e:dots false (10::aj [13,10] (s::t))=10::dots true (aj [13,10] (s::t)):=if_neg λq=>B9 q.1;exact (congrArg (dots true) (Bn r [13,10] _)).trans ((y1 _ hr).trans ((congrArg (λu=>gv r++13::u) (e.trans (congrArg (10::·) ih))).trans (Bn (gv r) [13,10] _).symm))
theorem mF {r:List Nat}(h:iB r):iB (gv r):=by
 cases r with
 | nil=>exact h
 | cons c r=>
   show ∀x∈(if c=46 then 46::46::r else c::r),x≠10/\x≠13;split
   . exact fmc ⟨⟨by decide,by decide⟩,fmc ⟨⟨by decide,by decide⟩,λx hx=>h x (.tail _ hx)⟩⟩
   . exact h
open StrLaws Builtin.Str in
theorem GY (x:Str)(k:Nat):At x (ofL [13,10]) x.length k↔(x.cps.toList.drop k).take 2=[13,10]:=by
 unfold At;rw [subAt_eq];refine ⟨λh=>eq_of_beq h.2,λh=>⟨?_,beq_iff_eq.mpr h⟩⟩;have h1:=congrArg List.length h;rw [BF,BE] at h1;have h2:1<x.length-k:=nlt (nlt Nat.one_lt_two (Ac h1.symm)) (AI ..);show k+1<x.length;rw [Ak];exact Nat.lt_sub_iff_add_lt.mp h2
theorem zd {r:List Nat}(hr:iB r)(u:List Nat):∀{i:Nat},i<r.length->¬((r++u).drop i).take 2=[13,10]:=by
 induction r with
 | nil=>exact λhi=>(A0 _ hi).elim
 | cons c r ih=>
   intro i hi
   cases i with
   | zero=>exact λh=>(hr c (.head _)).2 (List.cons.inj h).1
   | succ i=>exact ih (λx hx=>hr x (.tail _ hx)) (Bj hi)
theorem aCl (hr:iB r)(i:Nat):¬(r.drop i).take 2=[13,10]:=λh=>by
 by_cases hi:i<r.length
 . exact zd hr [] hi ((Br r).symm▸h)
 . rw [BR (Ar hi)] at h
   cases h
open StrLaws Builtin.Str in
theorem C1 {p J:List Nat}(hx:x.cps.toList=p++J)(i:Nat):At x (ofL [13,10]) x.length (p.length+i)↔(J.drop i).take 2=[13,10]:=by
 rw [GY,hx,<-BN,BU]
open StrLaws Builtin.Str in
theorem y9 {p u:List Nat}(hx:x.cps.toList=p++(r++u))(hb:b=p.length+r.length):strSub x p.length b=ofL r:=by
 apply Str.ext';apply Array.toList_inj.mp;rw [strSub_toList,hx,hb,AO,BU];exact BK
open StrLaws Builtin.Str in
theorem t9 (x:Str)(rows:List (List Nat)):∀(r p:List Nat) (f:Nat) (cuts:List Nat),(∀y∈r::rows,iB y)->x.cps.toList=p++aj [13,10] (r::rows)->ChainG x (ofL [13,10]) x.length p.length cuts f->(∀k,f<=k->¬At x (ofL [13,10]) x.length k)->
   partsFrom x 2 p.length cuts=ofL r::rows.map ofL:=by
 induction rows with
 | nil=>
   intro r p f cuts hr hx hG hn
   cases cuts with
   | cons c cr=>
     obtain ⟨i,rfl⟩:=Nat.exists_eq_add_of_le hG.1;exact absurd ((C1 hx i).mp hG.2.1) (aCl (hr r (.head _)) i)
   | nil=>
     have hl:x.length=p.length+r.length:=(congrArg List.length hx).trans Bl;exact congrArg (·::[]) (y9 (u:=[]) (hx.trans (congrArg (p++·) (Br r).symm)) hl)
 | cons s t ih=>
   intro r p f cuts hr hx hG hn;have hr0:=hr r (.head _);have hx:x.cps.toList=p++(r++([13,10]++aj [13,10] (s::t))):=hx.trans (congrArg (p++·) (Bn r [13,10] _));have hat:At x (ofL [13,10]) x.length (p.length+r.length):=(C1 hx _).mpr (by rw [BU];rfl)
   cases cuts with
   | nil=>exact absurd hat (hn _ (ntr (Ac hG) (Ad ..)))
   | cons c cr=>
     obtain ⟨g1,g2,g3,g4⟩:=hG;obtain ⟨i,rfl⟩:=Nat.exists_eq_add_of_le g1;rcases Nat.lt_trichotomy i r.length with h | h | h
     . exact absurd ((C1 hx i).mp g2) (zd hr0 _ h)
     . subst h
       have e:(p++(r++[13,10])).length=p.length+r.length+2:=by rw [Bl,Bl];rfl
       have ih:=ih s (p++(r++[13,10])) f cr (λy hy=>hr y (.tail _ hy)) (hx.trans (by rw [Bn,Bn])) (e▸g4) hn;rw [e] at ih;show strSub x p.length (p.length+r.length)::partsFrom x 2 (p.length+r.length+2) cr=_;rw [ih,y9 hx rfl]
       rfl
     . exact absurd hat (g3 _ (Ad ..) (AK h _))
theorem vx:Builtin.Str.strKind (ofL [13,10])=1:=by decide +kernel
theorem y0 (x:Str):¬Builtin.Str.strKind x<1:=by unfold Builtin.Str.strKind;split <;> (try split) <;> decide
open StrLaws Builtin.Str in
set_option tactic.hygienic true in
theorem t7 (rows:List (List Nat))(hne:rows≠[])(hr:∀r∈rows,iB r):Txt.split (ofL (aj [13,10] rows)) (ofL [13,10])=rows.map ofL:=by
 cases rows with
 | nil=>exact absurd rfl hne
 | cons r rows=>
 generalize hx:ofL (aj [13,10] (r::rows))=x;have hxl:x.cps.toList=aj [13,10] (r::rows):=hx▸rfl;obtain ⟨f,hG,hn⟩:=occ_tight x (ofL [13,10]) ∅;have key:=t9 x rows r [] f _ hr hxl hG hn;unfold Txt.split;split
 . rename_i hc
   rw [Cb,decide_eq_true_eq,decide_eq_true_eq,vx] at hc;have hl:(aj [13,10] (r::rows)).length<2:=(congrArg List.length hxl).symm▸hc.resolve_right (y0 x)
   cases rows with
   | nil=>rw [<-hx];rfl
   | cons s t=>
     rw [ai,Bn,Bl,Bl] at hl;exact absurd hl (nlr (ntr (Ad 2 _) (Al ..)))
 . split
   . rename_i he
     have e0:occurrences x (ofL [13,10]) 0 x.length (x.length+1)=[]:=List.isEmpty_iff.mp he;rw [e0] at key;rw [<-sub_whole x];exact key
   . rw [partsBetween_eq]
     exact key
noncomputable def ss (x:Str):Str:=ofL (cO x.cps.toList)
noncomputable def aCx (x:Str):Str:=ofL (dots true x.cps.toList)
noncomputable def Ft (b:Array UInt8):Array UInt8:=((dots true (bG b).toList).map (·.toUInt8)).toArray
section
set_option genInjectivity false in
set_option genSizeOf false in
structure PatFns (B:aJ) where
 p1:Addr
 p2:Addr
 p3:Addr
 h1:cn B.g p1 Rx.code1 0
 h2:cn B.g p2 Rx.code1 1
 h3:cn B.g p3 Rx.code3 0
 g1:aH B "_twin_re_1" (.raw (.ref p1))
 g2:aH B "_twin_re_2" (.raw (.ref p2))
 g3:aH B "_twin_re_3" (.raw (.ref p3))
 gc:aH B "CRLF" (.str (ofL [13,10]))
theorem rV {p:Addr}(P:cn B.g p Rx.code3 0)(hx:x.length<=1048576)(q:Q (.str (ss x)) H):aM [] E H B (d+2) (.raw (.builtin "re.Pattern.sub")) [.raw (.ref p),.str (ofL [13,10]),.str x] Q:=by
 have hs:x.cps.size=x.length:=rfl;obtain ⟨f1,f2⟩:=mq (T:=x.cps) (rep:=ofL [13,10]) sa (x.cps.size+1) 0 (by with_reducible exact Au _) (Ae _);have hl:=lW x.cps.toList;have e0:dz x.cps 0=x.cps.toList:=rfl;refine rb P (aCs x.cps) ?_ ?_ (by rw [sizeLine_eq];(exact ntr ‹_› ∅)) (by decide +kernel) ?_
 . rw [kb]
   show ((pA x.cps (nxC x.cps) (ofL [13,10]) (x.cps.size+1) 0).map (·.cps.toList)).flatten.length<=_;rw [f1,e0];have:x.cps.toList.length=x.length:=rfl
   lia
 . show (pA x.cps (nxC x.cps) (ofL [13,10]) (x.cps.size+1) 0).length<=_
   rw [sizeLine_eq];lia
 . rw [jD]
   show Q (.str (ofL ((pA x.cps (nxC x.cps) (ofL [13,10]) (x.cps.size+1) 0).map (·.cps.toList)).flatten)) H;rw [f1,e0];exact q
theorem y8 {p:Addr}(P:cn B.g p Rx.code1 0)(hx:x.length<=4194304)(q:Q (.str (aCx x)) H):aM [] E H B (d+2) (.raw (.builtin "re.Pattern.sub")) [.raw (.ref p),.str (ofL [46,46]),.str x] Q:=by
 have hs:x.cps.size=x.length:=rfl;obtain ⟨f1,f2⟩:=mq (T:=x.cps) (rep:=ofL [46,46]) kI (x.cps.size+1) 0 (by lia) (Ae _);have hl:=kZ true x.cps.toList;have e0:dz x.cps 0=x.cps.toList:=rfl;have e1:pH x.cps 0=true:=rfl;refine rb P (z3 x.cps (ntr ‹_› ∅)) ?_ ?_ (by rw [sizeLine_eq];(exact ntr ‹_› ∅)) (by decide +kernel) ?_
 . rw [kb]
   show ((pA x.cps (nxA x.cps) (ofL [46,46]) (x.cps.size+1) 0).map (·.cps.toList)).flatten.length<=_;rw [f1,e0,e1];have:x.cps.toList.length=x.length:=rfl
   lia
 . show (pA x.cps (nxA x.cps) (ofL [46,46]) (x.cps.size+1) 0).length<=_
   rw [sizeLine_eq];lia
 . rw [jD]
   show Q (.str (ofL ((pA x.cps (nxA x.cps) (ofL [46,46]) (x.cps.size+1) 0).map (·.cps.toList)).flatten)) H;rw [f1,e0,e1];exact q
theorem vj {p:Addr}{x:Array UInt8}(P:cn B.g p Rx.code1 1)(hx:x.size<=4194304)(q:Q (.bytes (Ft x)) H):aM [] E H B (d+2) (.raw (.builtin "re.Pattern.sub")) [.raw (.ref p),.bytes #[46,46],.bytes x] Q:=by
 have hs:(bG x).size=x.size:=by simp
 obtain ⟨f1,f2⟩:=wN (T:=bG x) (rep:=#[46,46]) (by rw [show (bG #[46,46]).toList=[46,46] from by decide +kernel];exact kI) ((bG x).size+1) 0 (by with_reducible exact Au _) (Ae _);have hl:=kZ true (bG x).toList;have e0:dz (bG x) 0=(bG x).toList:=rfl;have e1:pH (bG x) 0=true:=rfl;refine vv P (z3 (bG x) (by lia)) ?_ ?_ (by rw [sizeLine_eq];(exact ntr ‹_› ∅)) (by decide +kernel) ?_
 . rw [vq]
   show 0+((wv (bG x) (nxA (bG x)) #[46,46] ((bG x).size+1) 0).map (·.toList)).flatten.length<=_;rw [f1,e0,e1,Bk,sizeLine_eq];have:(bG x).toList.length=x.size:=by simp
   lia
 . show (wv (bG x) (nxA (bG x)) #[46,46] ((bG x).size+1) 0).length<=_
   rw [sizeLine_eq];lia
 . rw [s8]
   show Q (.bytes (#[]++(((wv (bG x) (nxA (bG x)) #[46,46] ((bG x).size+1) 0).map (·.toList)).flatten).toArray)) H;rw [f1,e0,e1,Array.empty_append];exact q
theorem tJ {doc pm ct:Value}{v:Value}:b9 S [] (bindArgs (bR "quotedata" lU .none .none doc pm an cdv ct) ⟨[v],[]⟩)=some ([],[(Ω "data",v)]):=by kernel_rfl
theorem xD:bV [Ω "data"] (aI (aL lU))=true:=by decide +kernel
theorem wZ (F:PatFns B){x:PV}:Ini B [(Ω "data",x)] (aI (aL lU)).names [(Ω "data",.local,some x),(Ω "_twin_re_1",.globalImplicit,some (.raw (.ref F.p1))),(Ω "_twin_re_3",.globalImplicit,some (.raw (.ref F.p3))),(Ω "CRLF",.globalImplicit,some (.str (ofL [13,10])))]:=by
 refine .arg (by walk_at "mm") (.inl rfl) (.glob F.g1 (.glob F.g3 (.glob F.gc .nil)))
theorem Dn {doc pm ct:Value}{v:Value}:b9 S [] (bindArgs (bR "_fix_eols" r9 .none .none doc pm an cdv ct) ⟨[v],[]⟩)=some ([],[(Ω "data",v)]):=by kernel_rfl
theorem F2:bV [Ω "data"] (aI (aL r9))=true:=by decide +kernel
theorem EM (F:PatFns B){x:PV}:Ini B [(Ω "data",x)] (aI (aL r9)).names [(Ω "data",.local,some x),(Ω "_twin_re_3",.globalImplicit,some (.raw (.ref F.p3))),(Ω "CRLF",.globalImplicit,some (.str (ofL [13,10])))]:=by
 refine .arg (by walk_at "mm") (.inl rfl) (.glob F.g3 (.glob F.gc .nil))
theorem Dw {doc pm ct:Value}{v:Value}:b9 S [] (bindArgs (bR "_quote_periods" fY .none .none doc pm an cdv ct) ⟨[v],[]⟩)=some ([],[(Ω "bindata",v)]):=by kernel_rfl
theorem Er:bV [Ω "bindata"] (aI (aL fY))=true:=by decide +kernel
theorem Fy (F:PatFns B){x:PV}:Ini B [(Ω "bindata",x)] (aI (aL fY)).names [(Ω "bindata",.local,some x),(Ω "_twin_re_2",.globalImplicit,some (.raw (.ref F.p2)))]:=by
 refine .arg (by walk_at "mm") (.inl rfl) (.glob F.g2 .nil)
theorem C5:Ω ".." = ofL [46,46]:=by decide +kernel
theorem DF (F:PatFns B)(h:ae .none .none r9 "_fix_eols" f cdv B)(hx:x.length<=1048576)(q:Q (.str (ss x)) H):aM [] NoE H B (d+3) (.raw (.ref f)) [.str x] Q:=by
 refine h.call (d:=d+2) (λdoc pm an ct=>cf λS v=>Dn) rfl F2 (EM F) ?_;refine' aE ?_;ext;refine ⟨_,iN F.h3,?_⟩;ext;exact rV F.h3 hx q
theorem tw (F:PatFns B)(h:ae .none .none lU "quotedata" f cdv B)(hx:x.length<=1048576)(q:Q (.str (aCx (ss x))) H):aM [] NoE H B (d+3) (.raw (.ref f)) [.str x] Q:=by
 refine h.call (d:=d+2) (λdoc pm an ct=>cf λS v=>tJ) rfl xD (wZ F) ?_;refine' aE ?_;ext;refine ⟨_,iN F.h1,?_⟩;ext;refine ⟨_,iN F.h3,?_⟩;ext;refine rV F.h3 hx ?_;ext;rw [C5];refine y8 F.h1 ?_ q;have:=lW x.cps.toList;have e:x.cps.toList.length=x.length:=rfl;show (cO x.cps.toList).toArray.size<=_;rw [List.size_toArray]
 lia
theorem CX (F:PatFns B){x:Array UInt8}(h:ae .none .none fY "_quote_periods" f cdv B)(hx:x.size<=4194304)(q:Q (.bytes (Ft x)) H):aM [] NoE H B (d+3) (.raw (.ref f)) [.bytes x] Q:=by
 refine h.call (d:=d+2) (λdoc pm an ct=>cf λS v=>Dw) rfl Er (Fy F) ?_;refine' aE ?_;ext;refine ⟨_,iN F.h2,?_⟩;ext;exact vj F.h2 hx q
end
section
variable {α:Type}
theorem gw (xs:List α)(a b:Nat)(ha:a<=xs.length)(hb:b<=xs.length):(sliceRange (a:Int) (b:Int) 1).filterMap (xs[·]?)=(xs.drop a).take (b-a):=by
 rw [sliceRange_one];by_cases h:a<=b
 . exact StrLaws.picks xs (b-a) a (by lia)
 . rw [show b-a=0 by lia];simp
theorem ED (xs:List α)(a:Nat):pick xs (some (a:Int)) none none=xs.drop a:=by
 have e:sliceBounds (some (a:Int)) none none xs.length=(((min a xs.length:Nat):Int),((xs.length:Nat):Int),1):=by
   unfold sliceBounds;simp only [Option.getD_none,show ((1:Int) > 0) from by decide,if_true,show ¬((a:Int)<0) by lia,if_false];congr 1;lia
 unfold pick;rw [e];simp only;rw [gw xs _ _ (AI _ _) (Ab _)];by_cases h:a<=xs.length
 . rw [AG h];exact BB (by simp)
 . rw [Bd (by lia),BR (Ab _),BR (by lia)];simp
theorem FG (xs:List α)(b:Nat):pick xs none (some (b:Int)) none=xs.take b:=by
 have e:sliceBounds none (some (b:Int)) none xs.length=(((0:Nat):Int),((min b xs.length:Nat):Int),1):=by
   unfold sliceBounds;simp only [Option.getD_none,show ((1:Int) > 0) from by decide,if_true,show ¬((b:Int)<0) by lia,if_false];congr 2;lia
 unfold pick;rw [e];simp only;rw [gw xs _ _ (Ae _) (AI _ _),List.drop_zero,Nat.sub_zero];by_cases h:b<=xs.length
 . rw [AG h]
 . rw [Bd (by lia),BB (Ab _),BB (by lia)]
end
noncomputable abbrev aC (rows:List (List Nat)):List PV:=rows.map λr=>PV.str (ofL r)
theorem bP (rows:List (List Nat)):aC rows=(rows.map ofL).map PV.str:=by simp [aC]
theorem aZ (l:List Nat):(ofL l).length=l.length:=by show l.toArray.size=_;simp
theorem um {a b:List Nat}:ofL a=ofL b↔a=b:=by
 constructor
 . intro h;unfold ofL at h;injection h with h;simpa using congrArg Array.toList h
 . rintro rfl;rfl
theorem nj (w:List Nat):∀rows:List (List Nat),(aj w rows).length<=(rows.map List.length).sum+rows.length*w.length
 | []=>by simp [aj]
 | [r]=>by simp [aj]
 | r::s::t=>by
   have:=nj w (s::t);rw [ai];simp only [Bl,Bs,BA,Bp,Ba,Bc] at this ⊢
   lia
theorem j0 {w:List Nat}{c:Nat}:∀{rows:List (List Nat)},c∈aj w rows->c∈w\/∃r∈rows,c∈r
 | [r],h=>.inr ⟨r,mcs,h⟩
 | r::s::t,h=>by
   rw [ai] at h;simp only [List.mem_append] at h;rcases h with (h | h) | h
   . exact .inr ⟨r,mcs,h⟩
   . exact .inl h
   . rcases j0 h with h | ⟨x,hx,h⟩
     . exact .inl h
     . exact .inr ⟨x,mcm _ hx,h⟩
noncomputable def mK (r:List Nat):Prop:=iB r/\∀c∈r,c<128
theorem uw {r:List Nat}(h:mK r):mK (gv r):=by
 refine ⟨mF h.1,?_⟩
 cases r with
 | nil=>exact h.2
 | cons c r=>
   show ∀x∈(if c=46 then 46::46::r else c::r),x<128;split
   . exact fmc ⟨by decide,fmc ⟨by decide,λx hx=>h.2 x (.tail _ hx)⟩⟩
   . exact h.2
theorem rz {r:List Nat}(h:∀c∈r,c<128):PyData.strOk (ofL r)=true:=by
 unfold PyData.strOk;rw [<-Array.all_toList,List.all_eq_true];intro c hc;have:=h c hc;exact decide_eq_true (nlt ‹_› ∅)
theorem mo {l:List Nat}(h:∀c∈l,c<256):bG (dq l.toArray)=l.toArray:=by
 apply Array.ext';simp only [Array.toList_map];rw [Bm]
 have:∀c∈l,((λx:UInt8=>x.toNat)∘λx:Nat=>x.toUInt8) c=c:=λc hc=>by
   show (c.toUInt8).toNat=c;have:=h c hc;simp [Nat.toUInt8]
   omega
 conv=>rhs;rw [<-List.map_id l]
 exact Bv this
theorem p6 {α:Type}{z:α}{l:List α}{p:Nat}(h:p<l.length):l.getD p z=l[p]:=by rw [List.getD_eq_getElem?_getD,List.getElem?_eq_getElem h];rfl
theorem aGr {α:Type}{P:α->Prop}{a b c e:α}(ha:P a)(hb:P b)(hc:P c)(he:P e):∀x∈[a,b,c,e],P x:=
 fmc ⟨ha,fmc ⟨hb,fmc ⟨hc,fmc ⟨he,λO h=>(by cases h)⟩⟩⟩⟩
theorem lt3 {P:Nat->Prop}(a:P 0)(b:P 1)(c:P 2){p:Nat}(h:p<3):P p:=aGr a b c c p (show p∈[0,1,2,2] from List.mem_append_left [2] (List.mem_range.mpr h))
theorem rM {α:Type}{z:α}{l:List α}{p:Nat}(h:p<l.length):l.getD p z∈l:=by rw [p6 h];exact List.getElem_mem h
theorem nJ {x:PV}{n:Nat}:∀{k:Nat},x∈d3 1 (k:Int) n->∃p:Nat,p<k+n/\x=.int (p:Nat):=by
 induction n with
 | zero=>intro k h;cases h
 | succ n ih=>
   intro k h
   cases h with
   | head=>exact ⟨k,AE (AB _),rfl⟩
   | tail _ h=>
     obtain ⟨p,hp,e⟩:=ih (k:=k+1) h;exact ⟨p,A8 k n▸hp,e⟩
section
theorem jo (a:Nat)(hv:aT H v xs)(hz:xs.length<=sizeLine)(h:ju Q (xs.drop a) H):mS B d E v (some (a:Int)) none none H Q:=kD hv ∅ hz ((ED xs a).symm▸h)
theorem fL (b:Nat)(hv:aT H v xs)(hz:xs.length<=sizeLine)(h:ju Q (xs.take b) H):mS B d E v none (some (b:Int)) none H Q:=kD hv ∅ hz ((FG xs b).symm▸h)
theorem yG {w:PV}(hv:aT H v xs)(hm:m<xs.length)(hn:xs.length<2 ^ 60)(e:xs[m]=w)(q:Q w H):V2 H E B d (.int (m:Nat)) v getItem Q:=kB hv hm hn (e▸q)
theorem bq {a b:PV}(n:Nat)(ha:aT H a xs)(hb:aT H b ys)(hn:xs.length+ys.length<=n)(hz:n<=sizeLine){zs:List PV}(e:xs++ys=zs)(h:ju Q zs H):V2 H E B d b a (binaryOp .Add) Q:=iq ha hb (ntr hn hz) (e▸h)
theorem lF {rs:List (List Nat)}(hm:m<rs.length)(hn:rs.length<2 ^ 60)(q:Q (.str (ofL (rs.getD m []))) H):V2 H E B d (.int (m:Nat)) (.list (aC rs)) getItem Q:=
 yG .list (by rw [Bk];exact hm) (by rw [Bk];exact hn) ((List.getElem_map _).trans (congrArg (λr=>PV.str (ofL r)) (p6 hm).symm)) q
theorem eZ {n:Nat}{Q:IQ}(hn:n<=1000000)(h:Q (d3 1 0 n) [] H):iO B d E tgt (.raw (.type "range")) [.int (n:Nat)] H Q:=io (Cd _) (by lia) h
theorem oD {p n:Nat}{Q:IQ}(hn:p+n<=1000000)(h:Q (d3 1 (p:Int) n) [] H):iO B d E tgt (.raw (.type "range")) [.int (p:Nat),.int ((p+n:Nat):Int)] H Q:=
 o7 (Cd _) (by omega) (by lia) (by lia) (by rw [show (((p+n:Nat):Int)-(p:Int)).toNat=n by lia];exact h)
end
set_option genInjectivity false in
set_option genSizeOf false in
inductive aD where
 | leaf
 | node (l r:aD)
noncomputable def aD.n:aD->Nat
 | .leaf=>1
 | .node l r=>l.n+r.n
noncomputable def unf (M u y:Int):Int:=if y.fdiv M<u then y else if y.fdiv M=u then 2*y-M*u else y+M
noncomputable def fol (M u y:Int):Int:=if y.fdiv M<u then y else if y.fdiv M<=u+1 then (y+M*u).fdiv 2 else y-M
noncomputable def aD.lam (M:Int):aD->Int->Int
 | .leaf,z=>z
 | .node l r,z=>if (2*z).fdiv M=0 then l.lam M (2*z) else M*l.n+r.lam M (2*z-M)
noncomputable def bX (M:Int):List aD->Int->Int
 | [],y=>y
 | T::F,y=>if y.fdiv M<0 then y else if y.fdiv M=0 then T.lam M y else M*T.n+bX M F (y-M)
noncomputable def aD.opn:aD->Nat->List Nat
 | .leaf,_=>[]
 | .node l r,i=>i::(l.opn i++r.opn (i+l.n))
noncomputable def oF:List aD->Nat->List Nat
 | [],_=>[]
 | T::F,i=>T.opn i++oF F (i+T.n)
noncomputable def gP (M:Int)(us:List Nat)(y:Int):Int:=us.foldl (λy u=>unf M (u:Nat) y) y
noncomputable def wK (M:Int)(us:List Nat)(y:Int):Int:=us.foldl (λy u=>fol M (u:Nat) y) y
theorem aD.n_pos (T:aD):1<=T.n:=by
 induction T with
 | leaf=>exact Ab 1
 | node l r ih _=>exact AX ih
section
variable {M:Int}(hM:M≠0)
include hM
theorem fd0 {z:Int}:z.fdiv M=0↔(0<M/\0<=z/\z<M)\/(M<0/\z<=0/\M<z):=by
 have key:∀{M z:Int},0<M->(z.fdiv M=0↔0<=z/\z<M):=λ{M z} h=>by
   rw [Cn _ (Cg h)];exact ⟨λe=>⟨Int.not_lt.mp λh0=>absurd (Int.ediv_neg_of_neg_of_pos h0 h) (by rw [e];decide),Int.not_le.mp λh1=>absurd ((Int.le_ediv_iff_mul_le h).mpr ((Cw M).symm▸h1)) (by rw [e];decide)⟩,λe=>CJ e.1 e.2⟩
 rcases Int.lt_or_gt_of_ne hM with h | h
 . rw [<-CB,key (Int.neg_pos_of_neg h),Int.neg_nonneg,Int.neg_lt_neg_iff]
   exact ⟨λg=>.inr ⟨h,g⟩,λg=>g.elim (λg=>absurd g.1 (Int.not_lt.mpr (Cg h))) λg=>g.2⟩
 . rw [key h]
   exact ⟨λg=>.inl ⟨h,g⟩,λg=>g.elim (λg=>g.2) λg=>absurd g.1 (Int.not_lt.mpr (Cg h))⟩
theorem fdp (z k:Int):(z+M*k).fdiv M=z.fdiv M+k:=Int.add_mul_fdiv_left z k hM
theorem fd1 (z:Int):(z+M).fdiv M=z.fdiv M+1:=by have:=fdp hM z 1;rwa [Ct] at this
theorem th (z:Int):(z-M).fdiv M=z.fdiv M-1:=by have:=fd1 hM (z-M);rw [Ck] at this;rw [this,Cx]
theorem eD (z k:Int):(z-M*k).fdiv M=z.fdiv M-k:=by
 have:=fdp hM (z-M*k) k;rw [Ck] at this;rw [this,Cx]
theorem dbl {z:Int}(h:z.fdiv M=0):(2*z).fdiv M=0\/((2*z).fdiv M=1/\(2*z-M).fdiv M=0):=by
 have key:∀{M z:Int},0<=z->z<M->0<=(2*z).fdiv M/\(2*z).fdiv M<2:=λa b=>by
   have p:=CG a b;rw [Cn _ (Cg p)];exact ⟨Int.ediv_nonneg (Int.mul_nonneg ∅ a) (Cg p),Int.ediv_lt_of_lt_mul p (Int.mul_lt_mul_of_pos_left b ∅)⟩
 have e:=th hM (2*z)
 have k:0<=(2*z).fdiv M/\(2*z).fdiv M<2:=by
   rcases (fd0 hM).mp h with ⟨_,a,b⟩ | ⟨_,a,b⟩
   . exact key a b
   . rw [<-CB,<-Int.mul_neg];exact key (Int.neg_nonneg_of_nonpos a) (Int.neg_lt_neg b)
 rcases Int.le_iff_lt_or_eq.mp (Int.le_of_lt_add_one (b:=1) k.2) with g | g
 . exact .inl (Int.le_antisymm (Int.le_of_lt_add_one (b:=0) g) k.1)
 . exact .inr ⟨g,by rw [e,g];rfl⟩
theorem aBy (i:Nat)(z:Int):unf M i (z+M*i)=(if z.fdiv M<0 then z else if z.fdiv M=0 then 2*z else z+M)+M*i:=by
 unfold unf;rw [fdp hM];by_cases h1:z.fdiv M<0
 . rw [if_pos (by have:=Int.add_lt_add_right h1 (i:Int);rwa [Cv] at this),if_pos h1]
 . rw [if_neg (Int.not_lt.mpr (CK (Int.not_lt.mp h1))),if_neg h1]
   by_cases h2:z.fdiv M=0
   . rw [if_pos (by rw [h2,Cv]),if_pos h2,Ch];clear h1 h2;omega
   . rw [if_neg λg=>h2 ((Int.add_left_inj _).mp (g.trans (Cv _).symm)),if_neg h2,CL]
theorem aD.lam_in (T:aD):∀{z:Int},z.fdiv M=0->0<=(T.lam M z).fdiv M/\(T.lam M z).fdiv M<T.n:=by
 induction T with
 | leaf=>intro z h;show 0<=z.fdiv M/\z.fdiv M<1;rw [h];decide
 | node l r ihl ihr=>
   intro z h;show 0<=(if (2*z).fdiv M=0 then l.lam M (2*z) else M*l.n+r.lam M (2*z-M)).fdiv M/\(if (2*z).fdiv M=0 then l.lam M (2*z) else M*l.n+r.lam M (2*z-M)).fdiv M<((l.n+r.n:Nat):Int);rcases dbl hM h with q | ⟨q,q'⟩
   . rw [if_pos q];exact ⟨(ihl q).1,Cr (ihl q).2 (Int.ofNat_le.mpr (Ad ..))⟩
   . rw [if_neg (by rw [q];decide),Ce,fdp hM]
     exact ⟨Int.add_nonneg (ihr q').1 (Cd _),by rw [Cf,Ce _ (l.n:Int)];exact Int.add_lt_add_left (ihr q').2 _⟩
theorem v7 (T:aD):∀(i:Nat) (z:Int),gP M (T.opn i) (z+M*i)=(if z.fdiv M<0 then z else if z.fdiv M=0 then T.lam M z else z+M*((T.n:Int)-1))+M*i:=by
 induction T with
 | leaf=>
   intro i z;show z+M*i=(if z.fdiv M<0 then z else if z.fdiv M=0 then z else z+M*((1:Int)-1))+M*i;rw [Int.sub_self,Cu,Int.add_zero,ite_self,ite_self]
 | node l r ihl ihr=>
   intro i z;show gP M (i::(l.opn i++r.opn (i+l.n))) _=_;unfold gP;rw [BI,BZ,aBy hM];show gP M (r.opn (i+l.n)) (gP M (l.opn i) _)=_;rw [ihl];have far:∀w:Int,w+M*i=(w-M*l.n)+M*((i+l.n:Nat):Int):=λw=>by rw [Cf,Ch,Ce (M*i),<-Cp,Ck]
   have fm:∀w:Int,(w-M*l.n).fdiv M=w.fdiv M-l.n:=λw=>by
     have:=fdp hM (w-M*l.n) l.n;rw [Ck] at this;rw [this,Cx]
   have fin:∀{Z L R:Int},(if z.fdiv M<0 then z else if z.fdiv M=0 then 2*z else z+M)=Z->(if Z.fdiv M<0 then Z else if Z.fdiv M=0 then l.lam M Z else Z+M*((l.n:Int)-1))=L->
       (if L.fdiv M-l.n<0 then L-M*l.n else if L.fdiv M-l.n=0 then r.lam M (L-M*l.n) else L-M*l.n+M*((r.n:Int)-1))=R->R+M*l.n=(if z.fdiv M<0 then z else if z.fdiv M=0 then (aD.node l r).lam M z else z+M*(((aD.node l r).n:Int)-1))->
       gP M (r.opn (i+l.n)) ((if (if z.fdiv M<0 then z else if z.fdiv M=0 then 2*z else z+M).fdiv M<0 then (if z.fdiv M<0 then z else if z.fdiv M=0 then 2*z else z+M) else if (if z.fdiv M<0 then z else if z.fdiv M=0 then 2*z else z+M).fdiv M=0 then l.lam M (if z.fdiv M<0 then z else if z.fdiv M=0 then 2*z else z+M) else (if z.fdiv M<0 then z else if z.fdiv M=0 then 2*z else z+M)+M*((l.n:Int)-1))+M*i)=(if z.fdiv M<0 then z else if z.fdiv M=0 then (aD.node l r).lam M z else z+M*(((aD.node l r).n:Int)-1))+M*i:=λ{Z L R} e1 e2 e3 e4=>by
     rw [e1,e2,far,ihr,fm,e3,<-e4,Cf,Ch,Ce (M*i),<-Cp]
   by_cases h1:z.fdiv M<0
   . exact fin (if_pos h1) (if_pos h1) (if_pos (CG (Int.sub_le_self _ (Cd _)) h1)) (by rw [if_pos h1];(exact Ck ..))
   . by_cases h2:z.fdiv M=0
     . rcases dbl hM h2 with q | ⟨q,q'⟩
       . have:=l.lam_in hM q
         refine fin ((if_neg h1).trans (if_pos h2)) ((if_neg (by rw [q];exact Int.lt_irrefl _)).trans (if_pos q)) (if_pos (Int.sub_neg_of_lt this.2)) ?_;rw [if_neg h1,if_pos h2,show (aD.node l r).lam M z=_ from if_pos q];(exact Ck ..)
       . have e:2*z+M*((l.n:Int)-1)-M*l.n=2*z-M:=by clear q' q h1 h2 fin fm far ihl ihr;rw [Co];omega
         have f:=fdp hM (2*z) ((l.n:Int)-1);have n:(2*z).fdiv M≠0:=by rw [q];decide
         have f:=f.trans ((congrArg (· + ((l.n:Int)-1)) q).trans ((Ce ..).trans (Ck ..)));have fz:=(congrArg (· - (l.n:Int)) f).trans (Int.sub_self _);refine fin ((if_neg h1).trans (if_pos h2)) ((if_neg (by rw [q];decide)).trans (if_neg n)) ((if_neg (by rw [fz];exact Int.lt_irrefl _)).trans (if_pos fz)) ?_;rw [e,if_neg h1,if_pos h2,show (aD.node l r).lam M z=_ from if_neg n,Ce]
     . have f1:=fd1 hM z
       have f:=fdp hM (z+M) ((l.n:Int)-1);have p:0<(z+M).fdiv M:=by rw [f1];exact Int.lt_trans (Int.lt_iff_le_and_ne.mpr ⟨Int.not_lt.mp h1,Ne.symm h2⟩) (Int.lt_succ _)
       have fz:(z+M+M*((l.n:Int)-1)).fdiv M-l.n=z.fdiv M:=by rw [f,f1,Cp,Ce 1,Ck,Cx]
       refine fin ((if_neg h1).trans (if_neg h2)) ((if_neg (Int.not_lt.mpr (Cg p))).trans (if_neg (CA p))) ((if_neg (by rw [fz];exact h1)).trans (if_neg (by rw [fz];exact h2))) ?_;rw [if_neg h1,if_neg h2];show _=z+M*(((l.n+r.n:Nat):Int)-1);rw [Cf,Co,Co,Co,Ch];(clear f f1 fin p fz h1 h2;omega)
end
noncomputable def sumN:List aD->Nat
 | []=>0
 | T::F=>T.n+sumN F
noncomputable def aD.split:aD->Nat->aD
 | .leaf,_=>.node .leaf .leaf
 | .node l r,k=>if k<l.n then .node (l.split k) r else .node l (r.split (k-l.n))
noncomputable def bi:List aD->Nat->List aD
 | [],_=>[]
 | T::F,k=>if k<T.n then T.split k::F else T::bi F (k-T.n)
theorem aD.split_n (T:aD):∀k,(T.split k).n=T.n+1:=by
 induction T with
 | leaf=>exact λO=>rfl
 | node l r ihl ihr=>
   intro k;show (if k<l.n then aD.node (l.split k) r else .node l (r.split (k-l.n))).n=l.n+r.n+1;by_cases h:k<l.n
   . rw [if_pos h];show (l.split k).n+r.n=_;rw [ihl];(exact AU ..)
   . rw [if_neg h];show l.n+(r.split _).n=_;rw [ihr];lia
theorem bf (P R:List aD):sumN (P++R)=sumN P+sumN R:=by
 induction P with
 | nil=>exact (Aj _).symm
 | cons T P ih=>show T.n+sumN (P++R)=T.n+sumN P+sumN R;rw [ih,Ap]
section
variable {M:Int}(hM:M≠0)
include hM
theorem dY {y:Int}(h:y.fdiv M<0)(F:List aD):bX M F y=y:=by
 cases F with
 | nil=>rfl
 | cons T F=>exact if_pos h
theorem bY {y:Int}(h:y.fdiv M=0)(T:aD)(F:List aD):bX M (T::F) y=T.lam M y:=(if_neg (by rw [h];exact Int.lt_irrefl _)).trans (if_pos h)
theorem bZ {y:Int}(h:0<y.fdiv M)(T:aD)(F:List aD):bX M (T::F) y=M*T.n+bX M F (y-M):=(if_neg (Int.not_lt.mpr (Cg h))).trans (if_neg (CA h))
theorem sQ (F:List aD):∀(i:Nat) (z:Int),gP M (oF F i) (z+M*i)=bX M F z+M*i:=by
 induction F with
 | nil=>exact λi z=>rfl
 | cons T F ih=>
   intro i z;show (T.opn i++oF F (i+T.n)).foldl _ _=_;rw [BZ];show gP M (oF F (i+T.n)) (gP M (T.opn i) (z+M*i))=_;rw [v7 hM]
   have key:∀{R:Int},(if z.fdiv M<0 then z else if z.fdiv M=0 then T.lam M z else z+M*((T.n:Int)-1))=R->bX M F (R-M*T.n)+M*T.n=bX M (T::F) z->gP M (oF F (i+T.n)) ((if z.fdiv M<0 then z else if z.fdiv M=0 then T.lam M z else z+M*((T.n:Int)-1))+M*i)=bX M (T::F) z+M*i:=λ{R} e1 e2=>by
     rw [e1,show R+M*i=(R-M*T.n)+M*((i+T.n:Nat):Int) by rw [Cf,Ch,Ce (M*i),<-Cp,Ck],ih,<-e2,Cf,Ch,Ce (M*i),<-Cp]
   by_cases h1:z.fdiv M<0
   . refine key (if_pos h1) ?_
     rw [dY hM (by rw [eD hM];exact CG (Int.sub_le_self _ (Cd _)) h1),dY hM h1];(exact Ck ..)
   . by_cases h2:z.fdiv M=0
     . refine key ((if_neg h1).trans (if_pos h2)) ?_
       have:=T.lam_in hM h2;rw [dY hM (by rw [eD hM];exact Int.sub_neg_of_lt this.2),bY hM h2];(exact Ck ..)
     . refine key ((if_neg h1).trans (if_neg h2)) ?_
       rw [bZ hM (Int.lt_iff_le_and_ne.mpr ⟨Int.not_lt.mp h1,Ne.symm h2⟩),show z+M*((T.n:Int)-1)-M*T.n=z-M by rw [Co];lia,Ce]
theorem uX (u y:Int):fol M u (unf M u y)=y:=by
 unfold unf;by_cases h1:y.fdiv M<u
 . rw [if_pos h1];exact if_pos h1
 . rw [if_neg h1]
   by_cases h2:y.fdiv M=u
   . rw [if_pos h2]
     have e:2*y-M*u=2*(y-M*u)+M*u:=by clear h1 h2;omega
     have q:(y-M*u).fdiv M=0:=(eD hM y u).trans (Int.sub_eq_zero_of_eq h2);have f:=fdp hM (2*(y-M*u)) u;have x0:0<=(2*(y-M*u)).fdiv M/\(2*(y-M*u)).fdiv M<=1:=(dbl hM q).elim (λg=>by rw [g];decide) (λg=>by rw [g.1];decide);unfold fol;rw [e,f,if_neg (Int.not_lt.mpr (CK x0.1)),if_pos (by rw [Ce];exact Int.add_le_add_left x0.2 _),show 2*(y-M*u)+M*u+M*u=2*y by clear x0 f q e h1 h2;omega];exact Int.mul_fdiv_cancel_left y ∅
   . rw [if_neg h2]
     have f:=fd1 hM y;unfold fol;have h3:=Int.lt_iff_le_and_ne.mpr ⟨Int.not_lt.mp h1,Ne.symm h2⟩;rw [f,if_neg (Int.not_lt.mpr (Cg (Int.lt_trans h3 (Int.lt_succ _)))),if_neg (Int.not_le.mpr (Int.add_lt_add_right h3 1))];exact Cx ..
theorem wD (us:List Nat):∀y,wK M us.reverse (gP M us y)=y:=by
 induction us with
 | nil=>exact λO=>rfl
 | cons u us ih=>
   intro y;show wK M (u::us).reverse (gP M us (unf M u y))=y;unfold wK;rw [B2,BZ];show fol M u (wK M us.reverse (gP M us (unf M u y)))=y;rw [ih,uX hM]
theorem vJ (P R:List aD):∀{y:Int},y.fdiv M<P.length->bX M (P++R) y=bX M P y/\(bX M P y).fdiv M<sumN P:=by
 induction P with
 | nil=>intro y h;exact ⟨dY hM h R,h⟩
 | cons T P ih=>
   intro y h;have h:y.fdiv M<((P.length+1:Nat):Int):=h;show bX M (T::(P++R)) y=_/\_<((T.n+sumN P:Nat):Int);by_cases h1:y.fdiv M<0
   . rw [dY hM h1,dY hM h1];exact ⟨rfl,Cr h1 (Cd _)⟩
   . by_cases h2:y.fdiv M=0
     . have:=T.lam_in hM h2
       rw [bY hM h2,bY hM h2];exact ⟨rfl,Cr this.2 (Int.ofNat_le.mpr (Ad ..))⟩
     . have f:=th hM y
       have:=ih (y:=y-M) (by rw [f];exact Int.sub_right_lt_of_lt_add h);have h3:0<y.fdiv M:=Int.lt_iff_le_and_ne.mpr ⟨Int.not_lt.mp h1,Ne.symm h2⟩;rw [bZ hM h3,bZ hM h3,this.1,Ce,fdp hM];exact ⟨rfl,by rw [Cf,Ce _ (T.n:Int)];exact Int.add_lt_add_left this.2 _⟩
theorem oR (P R:List aD):∀{y:Int},(P.length:Int)<=y.fdiv M->bX M (P++R) y=M*sumN P+bX M R (y-M*P.length):=by
 induction P with
 | nil=>intro y h;show bX M R y=M*0+bX M R (y-M*0);rw [Cu,Cv,Int.sub_zero]
 | cons T P ih=>
   intro y h;have h:((P.length+1:Nat):Int)<=y.fdiv M:=h;have f:=th hM y;show bX M (T::(P++R)) y=M*((T.n+sumN P:Nat):Int)+bX M R (y-M*((P.length+1:Nat):Int));rw [bZ hM (Cr (Int.natCast_pos.mpr (AB _)) h),ih (by rw [f];exact Int.le_sub_right_of_add_le h),Cf,Cf,Ch,Ch,<-Cp];congr 2;show y-M-M*P.length=y-(M*P.length+M*1);rw [Ct,Int.sub_sub,Ce M]
end
theorem w9 (P R:List aD):bi (P++.leaf::R) (sumN P)=P++.node .leaf .leaf::R:=by
 induction P with
 | nil=>rfl
 | cons T P ih=>
   refine (if_neg (nlr (Ad T.n (sumN P)))).trans ?_;rw [show sumN (T::P)-T.n=sumN P from AO ..];exact congrArg (T::·) ih
section
variable {M:Int}(hM:M≠0)
include hM
theorem half {w:Int}(h0:0<=(2*w).fdiv M)(h1:(2*w).fdiv M<=1):w.fdiv M=0:=by
 have f:=fdp hM (2*(w-M*w.fdiv M)) (2*w.fdiv M);rw [Co,CC M 2,Ck,<-Co] at f;rw [f] at h0 h1;rcases dbl hM ((eD hM w _).trans (Int.sub_self _)) with t | ⟨t,_⟩
 . rw [t] at h0 h1;clear t f;omega
 . rw [t] at h0 h1;clear t f;omega
theorem mZ (P R:List aD)(a b:aD){y:Int}(he:y.fdiv M=P.length\/y.fdiv M=P.length+1->2*((y+M*P.length).fdiv 2)=y+M*P.length) :
   bX M (P++.node a b::R) (fol M P.length y)=bX M (P++a::b::R) y:=by
 by_cases h:y.fdiv M<P.length
 . rw [show fol M P.length y=y from if_pos h,(vJ hM P _ h).1,(vJ hM P _ h).1]
 . have hz:=eD hM y P.length
   have hk:=Int.not_lt.mp h;rw [oR hM P (a::b::R) hk];by_cases h1:y.fdiv M<=P.length+1
   . have n0:=Int.sub_nonneg_of_le hk
     have n1:=Int.sub_left_le_of_le_add h1;have e:=he ((Int.lt_or_eq_of_le h1).elim (λg=>.inl (Int.le_antisymm (Int.le_of_lt_add_one g) hk)) .inr);rw [show fol M P.length y=_ from (if_neg h).trans (if_pos h1)];generalize (y+M*P.length).fdiv 2=y' at *;have e2:y-M*P.length=2*(y'-M*P.length):=by clear hz n0 n1 hk;lia
     rw [<-hz,e2] at n0 n1;have q:=half hM n0 n1;rw [oR hM P _ (Int.le_of_eq (Int.eq_of_sub_eq_zero ((eD hM y' P.length).symm.trans q)).symm),bY hM q,e2];congr 1;by_cases h2:(2*(y'-M*P.length)).fdiv M=0
     . rw [bY hM h2];exact if_pos h2
     . have h3:=Int.lt_iff_le_and_ne.mpr ⟨n0,Ne.symm h2⟩
       rw [bZ hM h3,bY hM ((th hM _).trans (Int.sub_eq_zero_of_eq (Int.le_antisymm n1 h3)))];exact if_neg h2
   . have h1:=Int.not_le.mp h1
     have g0:(1:Int)<(y-M*P.length).fdiv M:=by rw [hz];exact Int.lt_sub_left_of_add_lt h1
     have g1:(0:Int)<(y-M*P.length-M).fdiv M:=by rw [th hM];exact Int.sub_pos_of_lt g0
     have g2:y-M-M*P.length=y-M*P.length-M:=by rw [Int.sub_sub,Int.sub_sub,Ce M]
     have g3:=eD hM (y-M) P.length;rw [g2] at g3;rw [show fol M P.length y=_ from (if_neg h).trans (if_neg (Int.not_le.mpr h1)),oR hM P _ (Cg (Int.lt_of_sub_pos (g3▸g1))),g2,bZ hM g1,bZ hM (Int.lt_trans ∅ g0),bZ hM g1];congr 1;show M*((a.n+b.n:Nat):Int)+_=_;rw [Cf,Ch,Cp]
theorem rA (P R:List aD)(a b:aD)(y:Int):bX M (P++a::b::R) (unf M P.length y)=bX M (P++.node a b::R) y:=by
 have:=mZ hM P R a b (y:=unf M P.length y) λh=>?_
 . rw [uX hM] at this;exact this.symm
 . revert h
   unfold unf;by_cases h1:y.fdiv M<P.length
   . rw [if_pos h1]
     intro g;exact absurd h1 (Int.not_lt.mpr (g.elim (λe=>Int.le_of_eq e.symm) λe=>e▸Cg (Int.lt_succ _)))
   . rw [if_neg h1]
     by_cases h2:y.fdiv M=P.length
     . rw [if_pos h2,show 2*y-M*P.length+M*P.length=2*y by exact Ck ..]
       intro _;rw [Int.mul_fdiv_cancel_left y ∅]
     . have f:=fd1 hM y
       rw [if_neg h2,f];intro g;exact absurd (Int.lt_iff_le_and_ne.mpr ⟨Int.not_lt.mp h1,Ne.symm h2⟩) (Int.not_lt.mpr (g.elim (λe=>e▸Cg (Int.lt_succ _)) λe=>Int.le_of_eq ((Int.add_left_inj _).mp e)))
theorem m6 (k b:Nat)(X:Int):unf M ((b+k:Nat):Int) (M*b+X)=M*b+unf M k X:=by
 rw [Ce (M*b) X,Cf,Ce (b:Int)];unfold unf;rw [fdp hM X b];by_cases h1:X.fdiv M<k
 . rw [if_pos (Int.add_lt_add_right h1 b),if_pos h1];exact Ce ..
 . rw [if_neg λg=>h1 (Int.lt_of_add_lt_add_right g),if_neg h1]
   by_cases h2:X.fdiv M=k
   . rw [if_pos (congrArg (· + (b:Int)) h2),if_pos h2,Ch M];clear h1 h2;omega
   . rw [if_neg λg=>h2 ((Int.add_left_inj _).mp g),if_neg h2,Ce X,Cp]
theorem t4 {k y:Int}(h:y.fdiv M<k):unf M k y=y:=if_pos h
theorem DD {k y:Int}(h:k<y.fdiv M):unf M k y=y+M:=(if_neg (by omega)).trans (if_neg (CA ‹_›))
theorem xI (T:aD):∀{k:Nat} {z:Int},k<T.n->z.fdiv M=0->(T.split k).lam M z=unf M k (T.lam M z):=by
 induction T with
 | leaf=>
   intro k z hk hz;have hk:k<1:=hk;obtain rfl:k=0:=Nat.lt_one_iff.mp hk;show (if (2*z).fdiv M=0 then 2*z else M*((1:Nat):Int)+(2*z-M))=unf M ((0:Nat):Int) z;rw [show unf M ((0:Nat):Int) z=2*z-M*((0:Nat):Int) from (if_neg (by rw [hz];exact Int.lt_irrefl _)).trans (if_pos hz),Int.natCast_zero,Cu,Int.sub_zero,Cy,Ct,Ce,Ck];exact ite_self _
 | node l r ihl ihr=>
   intro k z hk hz;have hk:k<l.n+r.n:=hk;have hd:=dbl hM hz;show (if k<l.n then aD.node (l.split k) r else .node l (r.split (k-l.n))).lam M z=unf M k (if (2*z).fdiv M=0 then l.lam M (2*z) else M*l.n+r.lam M (2*z-M));by_cases h:k<l.n
   . rw [if_pos h]
     show (if (2*z).fdiv M=0 then (l.split k).lam M (2*z) else M*(l.split k).n+r.lam M (2*z-M))=_;rcases hd with q | ⟨q,q'⟩
     . rw [if_pos q,if_pos q,ihl h q]
     . have:=r.lam_in hM q'
       have f:=fdp hM (r.lam M (2*z-M)) l.n;have n:(2*z).fdiv M≠0:=by rw [q];decide
       rw [if_neg n,if_neg n,DD hM (by rw [Ce,f];exact Cr (Int.ofNat_lt.mpr h) (CK this.1)),aD.split_n,Cf,Ch,Cy,Ct,CL]
   . rw [if_neg h]
     show (if (2*z).fdiv M=0 then l.lam M (2*z) else M*l.n+(r.split (k-l.n)).lam M (2*z-M))=_;rcases hd with q | ⟨q,q'⟩
     . have:=l.lam_in hM q
       rw [if_pos q,if_pos q,t4 hM (Cr this.2 (Int.ofNat_le.mpr (Ar h)))]
     . have e:=m6 hM (k-l.n) l.n (r.lam M (2*z-M))
       rw [A2 (Ar h)] at e;have n:(2*z).fdiv M≠0:=by rw [q];decide
       rw [if_neg n,if_neg n,ihr (Nat.sub_lt_left_of_lt_add (Ar h) hk) q',e]
theorem G7 (F:List aD):∀{y:Int},0<=y.fdiv M->0<=(bX M F y).fdiv M:=by
 induction F with
 | nil=>exact λh=>h
 | cons T F ih=>
   intro y h;by_cases h2:y.fdiv M=0
   . rw [bY hM h2];exact (T.lam_in hM h2).1
   . have f:=th hM y
     have:=ih (y:=y-M) (by omega);rw [bZ hM (by clear this f;omega),Ce,fdp hM];omega
theorem kO (F:List aD):∀{k:Nat} (y:Int),k<sumN F->bX M (bi F k) y=unf M k (bX M F y):=by
 induction F with
 | nil=>exact λy h=>absurd h (A0 _)
 | cons T F ih=>
   intro k y hk;have hk:k<T.n+sumN F:=hk;have hp:=T.n_pos;show bX M (if k<T.n then T.split k::F else T::bi F (k-T.n)) y=_;by_cases h1:y.fdiv M<0
   . rw [dY hM h1,dY hM h1,t4 hM (Cr h1 (Cd _))]
   . have h3:y.fdiv M≠0->0<y.fdiv M:=λh2=>Int.lt_iff_le_and_ne.mpr ⟨Int.not_lt.mp h1,Ne.symm h2⟩
     by_cases h:k<T.n
     . rw [if_pos h]
       by_cases h2:y.fdiv M=0
       . rw [bY hM h2,bY hM h2,xI hM T h h2]
       . have:=G7 hM F (y:=y-M) (by rw [th hM];exact Int.sub_nonneg_of_le (h3 h2))
         have g:=fdp hM (bX M F (y-M)) T.n;rw [bZ hM (h3 h2),bZ hM (h3 h2),DD hM (by rw [Ce,g];exact Cr (Int.ofNat_lt.mpr h) (CK this)),aD.split_n,Cf,Ch,Cy,Ct,CL]
     . rw [if_neg h]
       by_cases h2:y.fdiv M=0
       . have:=T.lam_in hM h2
         rw [bY hM h2,bY hM h2,t4 hM (Cr this.2 (Int.ofNat_le.mpr (Ar h)))]
       . have e:=m6 hM (k-T.n) T.n (bX M F (y-M))
         rw [A2 (Ar h)] at e;rw [bZ hM (h3 h2),bZ hM (h3 h2),ih _ (Nat.sub_lt_left_of_lt_add (Ar h) hk),e]
theorem wY (P R:List aD)(y:Int):bX M (P++.leaf::.leaf::R) (unf M P.length y)=unf M (sumN P) (bX M (P++.leaf::R) y):=by
 rw [rA hM,<-w9,kO hM];rw [bf];show _<sumN P+(1+sumN R);lia
end
noncomputable def lv:aD->Nat->Nat->Nat->List (Nat×Nat×Nat)
 | .leaf,a,b,d=>[(a,b,d)]
 | .node l r,a,b,d=>lv l (a+1) 0 (d+1)++lv r 0 (b+1) (d+1)
noncomputable def lvF:List aD->List (Nat×Nat×Nat)
 | []=>[]
 | T::F=>lv T 0 0 0++lvF F
noncomputable def aD.dp:aD->Nat->Prop
 | .leaf,_=>True
 | .node l r,k=>∃j,k=j+1/\l.dp j/\r.dp j
noncomputable def led (s:Int):List (Nat×Nat×Nat)->Int->Int
 | [],y=>y
 | p::ps,y=>if y.fdiv s<0 then y else if y.fdiv s<((2 ^ (7-p.2.2):Nat):Int) then ((2 ^ p.2.2:Nat):Int)*y else 128*s+led s ps (y-s*((2 ^ (7-p.2.2):Nat):Int))
theorem fdm {a s:Int}(hs:s≠0){w:Nat}(hw:0<w):(a.fdiv s<0↔a.fdiv (s*w)<0)/\(0<=a.fdiv s/\a.fdiv s<w↔a.fdiv (s*w)=0):=by
 have key:∀{a s:Int},0<s->(a.fdiv s<0↔a.fdiv (s*w)<0)/\(0<=a.fdiv s/\a.fdiv s<w↔a.fdiv (s*w)=0):=λ{a s} h=>by
   have hw':(0:Int)<w:=by exact Int.ofNat_lt.mpr ‹_›
   have hsw:(0:Int)<s*w:=Int.mul_pos h hw';have e:a.fdiv (s*w)=(a/s)/w:=by rw [Cn _ (Cg hsw),Int.ediv_ediv_of_nonneg (Cg h)]
   rw [e,Cn _ (Cg h)];generalize a/s=q;refine ⟨⟨λg=>Int.ediv_neg_of_neg_of_pos g hw',λg=>Int.not_le.mp λg2=>absurd (Int.ediv_nonneg g2 (Cg hw')) (Int.not_le.mpr ‹_›)⟩,⟨λg=>CJ g.1 g.2,λg=>?_⟩⟩;have m:=Int.emod_add_mul_ediv q w;rw [g,Cu,Int.add_zero] at m;rw [<-m];exact ⟨Int.emod_nonneg _ (CA ‹_›),Int.emod_lt_of_pos _ hw'⟩
 rcases Int.lt_or_gt_of_ne hs with h | h
 . have:=key (a:=-a) (s:=-s) (Int.neg_pos_of_neg h)
   rwa [CB,Int.neg_mul,CB] at this
 . exact key h
section
variable {s:Int}(hs:s≠0)
include hs
theorem kF {y:Int}(h:y.fdiv s<0)(ps:List (Nat×Nat×Nat)):led s ps y=y:=by
 cases ps with
 | nil=>rfl
 | cons p ps=>exact if_pos h
theorem Do (T:aD):∀{d:Nat} (a b:Nat) (R:List (Nat×Nat×Nat)) (y:Int),d<=7->T.dp (7-d)->0<=y.fdiv s->
   led s (lv T a b d++R) y=if y.fdiv s<((2 ^ (7-d):Nat):Int) then T.lam (128*s) (((2 ^ d:Nat):Int)*y) else 128*s*T.n+led s R (y-s*((2 ^ (7-d):Nat):Int)):=by
 induction T with
 | leaf=>
   intro d a b R y hd hT h0;show (if y.fdiv s<0 then y else if _ then _ else 128*s+_)=_;rw [if_neg (Int.not_lt.mpr ‹_›)];show _=if _ then _ else 128*s*((1:Nat):Int)+_;rw [Cy,Ct];rfl
 | node l r ihl ihr=>
   intro d a b R y hd ⟨j,ej,hl,hr⟩ h0;obtain rfl:j=7-(d+1):=by rw [Nat.sub_succ,ej];rfl
   have hd7:d+1<=7:=Nat.lt_of_sub_pos (ej▸AB _);have p2:(2 ^ (7-d):Nat)=2*2 ^ (7-(d+1)):=by rw [ej,AJ,Ao]
   have pd:(2 ^ (d+1):Nat)=2*2 ^ d:=by rw [AJ,Ao]
   have pw:2 ^ d*2 ^ (7-d)=128:=by rw [<-Aq,A2 hd]
   have hp:0<2 ^ (7-(d+1)):=As _;have hp2:0<2 ^ d:=As _;show led s ((lv l (a+1) 0 (d+1)++lv r 0 (b+1) (d+1))++R) y=_;have gr:=λy=>ihr (d:=d+1) 0 (b+1) R y hd7 hr;rw [Bn,ihl _ _ _ _ hd7 hl h0,p2];rw [pd] at gr ⊢;generalize 2 ^ (7-(d+1))=w at *;generalize 2 ^ d=k at *;rw [p2] at pw;clear ihl ihr p2 pd;have em:s*w*((2*k:Nat):Int)=128*s:=by rw [Cm,<-Cz,show w*(2*k)=128 by rw [<-pw,Ao w,Ao 2,Ao 2,AM,Ao 2],Cj];rfl
   have hk:(0:Int)<((2*k:Nat):Int):=Int.natCast_pos.mpr (Nat.mul_pos ∅ hp2);have fs:(y-s*(w:Int)).fdiv s=y.fdiv s-w:=by have:=fdp hs (y-s*w) w;rw [Ck] at this;rw [this,Cx]
   have ez:2*((k:Int)*y)=((2*k:Nat):Int)*y:=by rw [Cz,Cm];rfl
   have q:(2*((k:Int)*y)).fdiv (128*s)=y.fdiv (s*w):=by
     rw [ez,<-em,Cj (s*w)];exact Int.mul_fdiv_mul_of_pos _ _ hk
   have f:=fdm hs (a:=y) hp;show _=if _ then (if (2*((k:Int)*y)).fdiv (128*s)=0 then l.lam (128*s) (2*((k:Int)*y)) else 128*s*l.n+r.lam (128*s) (2*((k:Int)*y)-128*s)) else 128*s*((l.n+r.n:Nat):Int)+_;rw [q,ez];have w2:((2*w:Nat):Int)=w+w:=by rw [Nat.two_mul,Cf]
   by_cases h1:y.fdiv s<w
   . rw [if_pos h1,if_pos (Cr h1 (Int.ofNat_le.mpr (Bf w ∅))),if_pos (f.2.mp ⟨h0,h1⟩)]
   . rw [if_neg h1,gr _ (by rw [fs];exact Int.sub_nonneg_of_le (Int.not_lt.mp h1)),fs]
     by_cases h2:y.fdiv s<((2*w:Nat):Int)
     . rw [if_pos (Int.sub_left_lt_of_lt_add (w2▸h2)),if_pos h2,if_neg λg=>h1 (f.2.mpr g).2,Co,<-em]
       congr 3;rw [Cj,Cm]
     . rw [if_neg λg=>h2 (w2.symm▸Int.lt_add_of_sub_left_lt g),if_neg h2,Cf,Ch,Cp,Cz]
       congr 3;rw [CC];lia
theorem lE (F:List aD):∀(y:Int),(∀T∈F,T.dp 7)->led s (lvF F) y=bX (128*s) F y:=by
 induction F with
 | nil=>exact λO O=>rfl
 | cons T F ih=>
   intro y h;have f:=fdm hs (a:=y) (w:=128) ∅;have c:s*((128:Nat):Int)=128*s:=Cj ..;rw [c] at f;show led s (lv T 0 0 0++lvF F) y=if _ then _ else if _ then _ else _;by_cases h0:y.fdiv s<0
   . rw [kF hs h0,if_pos (f.1.mp h0)]
   . rw [Do hs T 0 0 _ y ∅ (h T (.head _)) (Int.not_lt.mp ‹_›),if_neg λg=>h0 (f.1.mpr g),ih _ λT h'=>h T (.tail _ h')]
     show (if y.fdiv s<((128:Nat):Int) then T.lam (128*s) (((1:Nat):Int)*y) else _+bX _ F (y-s*((128:Nat):Int)))=_;rw [c,Cy,Cw];by_cases h1:y.fdiv s<((128:Nat):Int)
     . rw [if_pos h1,if_pos (f.2.mp ⟨by clear h1;omega,h1⟩)]
     . rw [if_neg h1,if_neg λg=>h1 (f.2.mpr g).2]
end
noncomputable def dO (ps:List (Nat×Nat×Nat)):List Nat:=ps.map λp=>2 ^ (7-p.2.2)
noncomputable def cut (ps:List (Nat×Nat×Nat))(i:Nat):Nat:=((dO ps).take i).sum
theorem nN (T:aD):∀{d:Nat} (a b:Nat),d<=7->T.dp (7-d)->(dO (lv T a b d)).sum=2 ^ (7-d)/\(lv T a b d).length=T.n:=by
 induction T with
 | leaf=>exact λa b O O=>⟨rfl,rfl⟩
 | node l r ihl ihr=>
   intro d a b hd ⟨j,ej,hl,hr⟩;obtain rfl:j=7-(d+1):=by rw [Nat.sub_succ,ej];rfl
   have hd7:d+1<=7:=Nat.lt_of_sub_pos (ej▸AB _);have gl:=ihl (d:=d+1) (a+1) 0 hd7 hl;have gr:=ihr (d:=d+1) 0 (b+1) hd7 hr;show (dO (lv l (a+1) 0 (d+1)++lv r 0 (b+1) (d+1))).sum=_/\(lv l (a+1) 0 (d+1)++lv r 0 (b+1) (d+1)).length=l.n+r.n
   have e:(dO (lv l (a+1) 0 (d+1)++lv r 0 (b+1) (d+1))).sum=(dO (lv l (a+1) 0 (d+1))).sum+(dO (lv r 0 (b+1) (d+1))).sum:=by
     unfold dO;rw [Bq,List.sum_append]
   rw [Bl,e,gl.1,gl.2,gr.1,gr.2,ej,AJ];exact ⟨(AY _).symm,rfl⟩
theorem eE (p:Nat×Nat×Nat)(ps:List (Nat×Nat×Nat))(i:Nat):cut (p::ps) (i+1)=2 ^ (7-p.2.2)+cut ps i:=rfl
theorem tA {s:Int}(hs:s≠0)(ps:List (Nat×Nat×Nat)):∀{i:Nat} {y:Int} (h:i<ps.length),(cut ps i:Int)<=y.fdiv s->y.fdiv s<cut ps (i+1)->
   led s ps y=128*s*i+((2 ^ (ps[i].2.2):Nat):Int)*(y-s*cut ps i):=by
 induction ps with
 | nil=>exact λh=>absurd h (A0 _)
 | cons p ps ih=>
   intro i y h h1 h2
   cases i with
   | zero=>
     have e:cut (p::ps) (0+1)=2 ^ (7-p.2.2):=rfl;rw [e] at h2;have h1:((0:Nat):Int)<=y.fdiv s:=h1;show (if _ then _ else if _ then _ else _)=128*s*((0:Nat):Int)+((2 ^ p.2.2:Nat):Int)*(y-s*((0:Nat):Int));rw [if_neg (by clear e h2 h;(exact Int.not_lt.mpr ‹_›)),if_pos h2,Int.natCast_zero,Cu,Cu,Cv,Int.sub_zero]
   | succ i=>
     rw [eE,Cf] at h1 h2;have fs:(y-s*((2 ^ (7-p.2.2):Nat):Int)).fdiv s=y.fdiv s-((2 ^ (7-p.2.2):Nat):Int):=eD hs y _;show (if _ then _ else if _ then _ else _)=128*s*((i+1:Nat):Int)+((2 ^ (ps[i]'(Bj h)).2.2:Nat):Int)*_;have hn:(0:Int)<=((2 ^ (7-p.2.2):Nat):Int):=Cd _;rw [if_neg (Int.not_lt.mpr (Cs (Int.add_nonneg hn (Cd _)) h1)),if_neg (Int.not_lt.mpr (Cs (Int.le_add_of_nonneg_right (Cd _)) h1)),ih (Bj h) (by rw [fs];exact Int.le_sub_left_of_add_le h1) (by rw [fs];exact Int.sub_left_lt_of_lt_add h2),eE,Cf,Cf,Ch,Ch,Cy,Ct,Int.sub_sub,<-Cp,Ce (128*s)]
theorem oj {s:Int}(hs:s≠0)(ps:List (Nat×Nat×Nat)):∀{y:Int},(cut ps ps.length:Int)<=y.fdiv s->led s ps y=128*s*ps.length+(y-s*cut ps ps.length):=by
 induction ps with
 | nil=>
   intro y _;show y=128*s*((0:Nat):Int)+(y-s*((0:Nat):Int));rw [Int.natCast_zero,Cu,Cu,Cv,Int.sub_zero]
 | cons p ps ih=>
   intro y h1;have e:cut (p::ps) (p::ps).length=2 ^ (7-p.2.2)+cut ps ps.length:=rfl;rw [e,Cf] at h1;have fs:(y-s*((2 ^ (7-p.2.2):Nat):Int)).fdiv s=y.fdiv s-((2 ^ (7-p.2.2):Nat):Int):=eD hs y _;have hn:(0:Int)<=((2 ^ (7-p.2.2):Nat):Int):=Cd _;show (if _ then _ else if _ then _ else _)=128*s*((ps.length+1:Nat):Int)+_;rw [if_neg (Int.not_lt.mpr (Cs (Int.add_nonneg hn (Cd _)) h1)),if_neg (Int.not_lt.mpr (Cs (Int.le_add_of_nonneg_right (Cd _)) h1)),ih (by rw [fs];exact Int.le_sub_left_of_add_le h1),e,Cf,Cf,Ch,Ch,Cy,Ct,Int.sub_sub,<-Cp,Ce (128*s)]
theorem kh (ps:List (Nat×Nat×Nat)):∀{i:Nat} (h:i<ps.length),cut ps (i+1)=cut ps i+2 ^ (7-ps[i].2.2):=by
 induction ps with
 | nil=>exact λh=>absurd h (A0 _)
 | cons p ps ih=>
   intro i h
   cases i with
   | zero=>exact (Aj _).symm
   | succ i=>rw [eE,ih (Bj h),eE,Ap];rfl
theorem zS (ps:List (Nat×Nat×Nat))(q:Int):q<0\/(∃i,i<ps.length/\(cut ps i:Int)<=q/\q<cut ps (i+1))\/(cut ps ps.length:Int)<=q:=by
 by_cases h0:q<0
 . exact .inl h0
 . refine .inr ?_
   have:∀n,n<=ps.length->(∃i,i<ps.length/\(cut ps i:Int)<=q/\q<cut ps (i+1))\/(cut ps n:Int)<=q:=λn=>by
     induction n with
     | zero=>exact λO=>.inr (Int.not_lt.mp h0)
     | succ n ih=>
       intro h;rcases ih (AC h) with g | g
       . exact .inl g
       . by_cases h2:q<cut ps (n+1)
         . exact .inl ⟨n,h,g,h2⟩
         . exact .inr (Int.not_lt.mp h2)
   exact this _ (Ab _)
section
variable {s:Int}(hs:s≠0)
include hs
theorem aFh (y c:Int):(y-s*c).fdiv s=y.fdiv s-c:=eD hs y c
theorem oZ {ps:List (Nat×Nat×Nat)}(hd:∀p∈ps,p.2.2<=7){y:Int}(h:i<ps.length)(h1:(cut ps i:Int)<=y.fdiv s)(h2:y.fdiv s<cut ps (i+1)) :
   (led s ps y).fdiv (128*s)=i:=by
 have hM:128*s≠0:=CE ∅ hs;rw [tA hs ps h h1 h2,Ce,fdp hM];rw [kh ps h] at h2;have hdi:=hd _ (List.getElem_mem h);have pw:2 ^ ps[i].2.2*2 ^ (7-ps[i].2.2)=128:=by rw [<-Aq,A2 hdi]
 have hw:0<2 ^ (7-ps[i].2.2):=As _;have hk:0<2 ^ ps[i].2.2:=As _;generalize 2 ^ (7-ps[i].2.2)=w at *;generalize 2 ^ ps[i].2.2=k at *;have f:=(fdm hs (a:=y-s*cut ps i) hw).2.mp (by rw [aFh hs];(clear pw hk hdi h;omega));have e:(128:Int)*s=(k:Int)*(s*w):=by rw [CC,<-Cz,pw,Cj];rfl
 rw [e,Int.mul_fdiv_mul_of_pos _ _ (Int.ofNat_lt.mpr ‹_›),f];(exact Ce ..)
theorem nv {ps:List (Nat×Nat×Nat)}{y:Int}(h:(cut ps ps.length:Int)<=y.fdiv s):(ps.length:Int)<=(led s ps y).fdiv (128*s):=by
 have hM:128*s≠0:=CE ∅ hs;rw [oj hs ps h,Ce,fdp hM];have f:=fdm hs (a:=y-s*cut ps ps.length) (w:=128) ∅;have c:s*((128:Nat):Int)=128*s:=Cj ..;rw [c,aFh hs] at f;have:=f.1;omega
theorem oY {ps:List (Nat×Nat×Nat)}{y:Int}(h:y.fdiv s<0):(led s ps y).fdiv (128*s)<0:=by
 have f:=fdm hs (a:=y) (w:=128) ∅;have c:s*((128:Nat):Int)=128*s:=Cj ..;rw [c] at f;rw [kF hs h];exact f.1.mp h
theorem uo {ps qs:List (Nat×Nat×Nat)}(hp:∀p∈ps,p.2.2<=7)(hq:∀p∈qs,p.2.2<=7)(hl:ps.length=qs.length){y z:Int}(e:led s ps y=led s qs z) :
   (y.fdiv s<0->z=y)/\(∀i,i<ps.length->(cut ps i:Int)<=y.fdiv s->y.fdiv s<cut ps (i+1)->
     (y-s*cut ps i)*((cut qs (i+1):Int)-cut qs i)=(z-s*cut qs i)*((cut ps (i+1):Int)-cut ps i))/\
   ((cut ps ps.length:Int)<=y.fdiv s->z=y+((cut qs ps.length:Int)-cut ps ps.length)*s):=by
 have tz:=zS qs (z.fdiv s);refine ⟨λh=>?_,λi h h1 h2=>?_,λh=>?_⟩
 . have a:=oY hs (ps:=ps) h
   rw [e] at a;rcases tz with g | ⟨j,gj,g1,g2⟩ | g
   . rw [kF hs h,kF hs g] at e;exact e.symm
   . rw [oZ hs hq gj g1 g2] at a;exact absurd a (Int.not_lt.mpr (Cd _))
   . exact absurd a (Int.not_lt.mpr (Cs (Cd _) (nv hs g)))
 . have a:=oZ hs hp h h1 h2
   rw [e] at a;rcases tz with g | ⟨j,gj,g1,g2⟩ | g
   . have:=oY hs (ps:=qs) g;rw [a] at this;exact absurd this (Int.not_lt.mpr (Cd _))
   . rw [oZ hs hq gj g1 g2] at a
     obtain rfl:j=i:=Int.ofNat_inj.mp a;rw [tA hs ps h h1 h2,tA hs qs gj g1 g2] at e;have e:=Int.add_left_cancel e;have asc:∀a b:Int,a+b-a=b:=λa b=>by rw [Ce,Cx]
     rw [kh ps h,kh qs gj,Cf,Cf,asc,asc];have w1:=hp _ (List.getElem_mem h);have w2:=hq _ (List.getElem_mem gj);have p1:2 ^ ps[j].2.2*2 ^ (7-ps[j].2.2)=128:=by rw [<-Aq,A2 w1]
     have p2:2 ^ qs[j].2.2*2 ^ (7-qs[j].2.2)=128:=by rw [<-Aq,A2 w2]
     generalize y-s*(cut ps j:Int)=Y at *;generalize z-s*(cut qs j:Int)=Z at *;generalize 2 ^ (7-ps[j].2.2)=w at *;generalize 2 ^ (7-qs[j].2.2)=v at *;generalize 2 ^ ps[j].2.2=k at *;generalize 2 ^ qs[j].2.2=m at *;have q1:(k:Int)*w=128:=by rw [<-Cz,p1];rfl
     have q2:(m:Int)*v=128:=by rw [<-Cz,p2];rfl
     refine Int.eq_of_mul_eq_mul_left (a:=(128:Int)) ∅ ?_
     calc (128:Int)*(Y*v)=(k*Y)*(w*v):=by rw [<-q1];simp only [Cm,Cj,CC]
       _=(m*Z)*(w*v):=by rw [e]
       _=128*(Z*w):=by rw [<-q2];simp only [Cm,Cj,CC]
   . have:=nv hs g;rw [a,<-hl] at this;exact absurd (Int.ofNat_le.mp this) (Nat.not_le.mpr h)
 . have a:=nv hs h
   rw [e] at a;rcases tz with g | ⟨j,gj,g1,g2⟩ | g
   . exact absurd (oY hs (ps:=qs) g) (Int.not_lt.mpr (Cs (Cd _) a))
   . rw [oZ hs hq gj g1 g2] at a;exact absurd gj (nlr (hl▸Int.ofNat_le.mp a))
   . rw [oj hs ps h,oj hs qs g,<-hl] at e
     have e:=Int.add_left_cancel e;rw [Int.sub_mul,Cj _ s,Cj _ s];lia
end
noncomputable def aD.str:aD->List Nat
 | .leaf=>[120]
 | .node l r=>40::(l.str++(r.str++[41]))
noncomputable def cK (p:Nat×Nat×Nat):List Nat:=List.replicate p.1 40++120::List.replicate p.2.1 41
noncomputable def aR:List (Nat×Nat×Nat)->List Nat
 | []=>[]
 | p::ps=>cK p++aR ps
theorem pF (n:Nat)(c:Nat)(r:List Nat):List.replicate n c++c::r=c::(List.replicate n c++r):=by
 induction n with
 | zero=>rfl
 | succ n ih=>exact congrArg (c::·) ih
theorem xY (T:aD):∀(a b d:Nat) (R:List (Nat×Nat×Nat)),aR (lv T a b d++R)=List.replicate a 40++(T.str++(List.replicate b 41++aR R)):=by
 induction T with
 | leaf=>intro a b d R;exact Bn ..
 | node l r ihl ihr=>
   intro a b d R;show aR ((lv l (a+1) 0 (d+1)++lv r 0 (b+1) (d+1))++R)=_++(40::(l.str++(r.str++[41]))++_);rw [Bn,ihl,ihr,BW,pF,Bn,Bn]
   rfl
noncomputable def f7:List aD->List Nat
 | []=>[]
 | T::F=>T.str++f7 F
theorem cY (F:List aD):aR (lvF F)=f7 F:=by
 induction F with
 | nil=>rfl
 | cons T F ih=>exact (xY T 0 0 0 (lvF F)).trans (congrArg (T.str++·) ih)
noncomputable def opL:List (Nat×Nat×Nat)->Nat->List Nat
 | [],_=>[]
 | p::ps,i=>List.replicate p.1 i++opL ps (i+1)
theorem GW (T:aD):∀(a b d:Nat) (R:List (Nat×Nat×Nat)) (i:Nat),opL (lv T a b d++R) i=List.replicate a i++(T.opn i++opL R (i+T.n)):=by
 induction T with
 | leaf=>intro a b d R i;rfl
 | node l r ihl ihr=>
   intro a b d R i;show opL ((lv l (a+1) 0 (d+1)++lv r 0 (b+1) (d+1))++R) i=_++(i::(l.opn i++r.opn (i+l.n))++_);rw [Bn,ihl,ihr,BW,pF,Bn,Ap]
   rfl
theorem mr (F:List aD):∀i,opL (lvF F) i=oF F i:=by
 induction F with
 | nil=>exact λO=>rfl
 | cons T F ih=>exact λi=>(GW T 0 0 0 (lvF F) i).trans (congrArg (T.opn i++·) (ih _))
noncomputable def lev (c:Nat):Nat:=if c%128=0 then 0 else if c%64=0 then 1 else if c%32=0 then 2 else if c%16=0 then 3 else if c%8=0 then 4 else if c%4=0 then 5 else if c%2=0 then 6 else 7
noncomputable def okL:Nat->List (Nat×Nat×Nat)->Prop
 | _,[]=>True
 | c,p::ps=>p.2.2<=7/\lev c+p.1=p.2.2/\lev (c+2 ^ (7-p.2.2))+p.2.1=p.2.2/\okL (c+2 ^ (7-p.2.2)) ps
theorem uY (c:Nat):lev (c%128)=lev c:=by
 unfold lev;rw [Nat.mod_mod,A3 c (by decide:64 ∣ 128),A3 c (by decide:32 ∣ 128),A3 c (by decide:16 ∣ 128),A3 c (by decide:8 ∣ 128),A3 c (by decide:4 ∣ 128),A3 c (by decide:2 ∣ 128)]
theorem ug:∀c,c<128->(lev c=0->c=0)/\∀d,d<7->c%2 ^ (7-d)=0->lev ((c+2 ^ (7-(d+1)))%128)=d+1:=by decide +kernel
theorem FO {c:Nat}(hd:d<7)(h:c%2 ^ (7-d)=0):lev (c+2 ^ (7-(d+1)))=d+1:=by
 rw [<-uY,<-Nat.mod_add_mod];exact (ug _ (Am c ∅)).2 d hd ((A3 c (Nat.pow_dvd_pow 2 (Av 7 d):_ ∣ 2 ^ 7)).trans h)
theorem EA (T:aD):∀{a b d c:Nat} {R:List (Nat×Nat×Nat)},d<=7->T.dp (7-d)->c%2 ^ (7-d)=0->lev c+a=d->lev (c+2 ^ (7-d))+b=d->okL (c+2 ^ (7-d)) R->okL c (lv T a b d++R):=by
 induction T with
 | leaf=>exact λhd O O h1 h2 h3=>⟨hd,h1,h2,h3⟩
 | node l r ihl ihr=>
   intro a b d c R hd ⟨j,ej,hl,hr⟩ hc h1 h2 h3;obtain rfl:j=7-(d+1):=by clear h2 h1 hc;omega
   have hd:d<7:=by clear h3 h2 hc;lia
   have m:=FO hd hc;have p2:(2 ^ (7-d):Nat)=2 ^ (7-(d+1))+2 ^ (7-(d+1)):=by rw [show 7-d=7-(d+1)+1 by omega,AJ,AY]
   have hc':c%2 ^ (7-(d+1))=0:=by
     rw [p2,<-AY] at hc;exact Nat.mod_eq_zero_of_dvd (Nat.dvd_trans (Nat.dvd_mul_right _ 2) (Nat.dvd_of_mod_eq_zero hc))
   show okL c ((lv l (a+1) 0 (d+1)++lv r 0 (b+1) (d+1))++R);rw [p2,<-Ap] at h2 h3;rw [Bn];exact ihl hd hl hc' (by lia) (by omega) (ihr hd hr (by rw [Nat.add_mod_right,hc']) (by omega) (by lia) h3)
theorem jS (F:List aD):∀{c:Nat},(∀T∈F,T.dp 7)->c%128=0->okL c (lvF F):=by
 induction F with
 | nil=>exact λO O=>trivial
 | cons T F ih=>
   intro c h hc;have z:∀{c:Nat},c%128=0->lev c=0:=λh=>if_pos h;have hc2:(c+128)%128=0:=by lia
   exact EA T ∅ (h T (.head _)) hc (by rw [z hc]) (by rw [z hc2]) (ih (λT h'=>h T (.tail _ h')) hc2)
theorem aDd {c:Nat}:lev c=0↔c%128=0:=
 ⟨λh=>(ug _ (Am c ∅)).1 ((uY c).trans h),λh=>if_pos h⟩
noncomputable def dm:List Nat->Nat->Bool
 | [],o=>o==0
 | c::r,o=>if c=40 then dm r (o+1) else if c=41 then (o != 0) && dm r (o-1) else dm r o
theorem wU (n:Nat):∀(r:List Nat) (o:Nat),dm (List.replicate n 40++r) o=dm r (o+n):=by
 induction n with
 | zero=>exact λO O=>rfl
 | succ n ih=>exact λr o=>(ih r (o+1)).trans (by rw [Ap,Ak 1])
theorem xb (n:Nat):∀(r:List Nat) (o:Nat),dm (List.replicate n 41++r) (o+n)=dm r o:=by
 induction n with
 | zero=>exact λO O=>rfl
 | succ n ih=>exact λr o=>ih r o
theorem kQ (T:aD):∀(r:List Nat) (o:Nat),dm (T.str++r) o=dm r o:=by
 induction T with
 | leaf=>exact λO O=>rfl
 | node l r ihl ihr=>
   intro R o;show dm (l.str++(r.str++[41])++R) (o+1)=_;rw [Bn,ihl,Bn,ihr];rfl
theorem u3 (c:Nat):(lev c==0)=decide (c%128=0):=by
 by_cases h:c%128=0
 . rw [aDd.mpr h,decide_eq_true h];rfl
 . rw [decide_eq_false h];exact beq_false_of_ne λg=>h (aDd.mp g)
theorem xj (ps:List (Nat×Nat×Nat)):∀{c:Nat} (n:Nat),okL c ps->dm (aR (ps.take n)) (lev c)=decide ((c+cut ps n)%128=0):=by
 induction ps with
 | nil=>
   intro c n _;rw [BV,show cut [] n=0 from by unfold cut dO;rw [List.map_nil,BV];rfl,AS];exact u3 c
 | cons p ps ih=>
   intro c n h
   cases n with
   | zero=>
     exact u3 c
   | succ n=>
     obtain ⟨h1,h2,h3,h4⟩:=h;rw [eE,<-Ap,<-ih n h4];show dm ((List.replicate p.1 40++120::List.replicate p.2.1 41)++aR (ps.take n)) _=_;rw [Bn,wU,h2,BW];refine Eq.trans ?_ (xb p.2.1 _ _);rw [h3];rfl
theorem qz (T:aD)(o:Nat):dm T.str o=(o==0):=by
 have:=kQ T [] o;rwa [Br] at this
theorem xO (T:aD):∀{p q:List Nat} {o:Nat},T.str=p++q->q≠[]->(p=[]->1<=o)->dm p o=false:=by
 have nil0:∀{o:Nat},1<=o->dm [] o=false:=λ{o} h=>beq_false_of_ne (AL h)
 induction T with
 | leaf=>
   intro p q o e hq h
   cases p with
   | nil=>exact nil0 (h rfl)
   | cons c p=>
     have e2:[]=p++q:=(List.cons.inj e).2;exact absurd (List.append_eq_nil_iff.mp e2.symm).2 hq
 | node l r ihl ihr=>
   intro p q o e hq h
   cases p with
   | nil=>exact nil0 (h rfl)
   | cons c p=>
     obtain ⟨rfl,e2⟩:=List.cons.inj e;show dm p (o+1)=false;have full:∀(T:aD),dm T.str (o+1)=false:=λT=>(qz T _).trans (beq_false_of_ne (Nat.succ_ne_zero o));rcases List.append_eq_append_iff.mp e2 with ⟨a,rfl,e3⟩ | ⟨a,e3,rfl⟩
     . rw [kQ]
       rcases List.append_eq_append_iff.mp e3 with ⟨b,rfl,e4⟩ | ⟨b,e4,rfl⟩
       . rw [kQ]
         cases b with
         | nil=>exact nil0 (Al 1 o)
         | cons c b=>
           have e5:[]=b++q:=(List.cons.inj e4).2;exact absurd (List.append_eq_nil_iff.mp e5.symm).2 hq
       . cases b with
         | nil=>rw [Br] at e4;rw [<-e4];exact full r
         | cons c b=>exact ihr e4 (Bz c b) λO=>Al 1 o
     . cases a with
       | nil=>rw [Br] at e3;rw [<-e3];exact full l
       | cons c a=>exact ihl e3 (Bz c a) λO=>Al 1 o
theorem vE (T:aD):1<=T.str.length:=by
 cases T with
 | leaf=>exact Ab 1
 | node l r=>exact Ag (Ae _)
theorem D6 (l r:aD)(k:Nat)(h1:1<=k)(h2:k<=l.str.length):dm ((l.str++(r.str++[41])).take k) 0=decide (k=l.str.length):=by
 rw [List.take_append_of_le_length h2];by_cases e:k=l.str.length
 . rw [decide_eq_true e,e,List.take_length,qz];rfl
 . rw [decide_eq_false e]
   refine xO l (List.take_append_drop k l.str).symm (λg=>?_) λg=>?_
   . have:=congrArg List.length g;rw [BE] at this;have:l.str.length-k=0:=this;lia
   . have:=congrArg List.length g;rw [BF] at this;have:min k l.str.length=0:=this;lia
theorem DH (F:List aD):(∃n,(f7 F).reverse=List.replicate n 120/\(f7 F).count 40=0)\/∃n y,(f7 F).reverse=List.replicate n 120++41::y/\(f7 F).count 40≠0:=by
 induction F with
 | nil=>exact .inl ⟨0,rfl,rfl⟩
 | cons T F ih=>
   have er:(f7 (T::F)).reverse=(f7 F).reverse++T.str.reverse:=B3;have ec:(f7 (T::F)).count 40=T.str.count 40+(f7 F).count 40:=BL;rw [er,ec];rcases ih with ⟨n,e,c⟩ | ⟨n,y,e,c⟩
   . cases T with
     | leaf=>
       refine .inl ⟨n+1,?_,?_⟩
       . rw [e];exact List.replicate_succ'.symm
       . rw [c];rfl
     | node l r=>
       refine .inr ⟨n,(l.str++r.str).reverse++[40],?_,?_⟩
       . rw [e];congr 1
         show (40::(l.str++(r.str++[41]))).reverse=_;rw [<-Bn,B2,B3];rfl
       . show (40::_).count 40+_≠0
         rw [List.count_cons_self];lia
   . exact .inr ⟨n,y++T.str.reverse,by rw [e,Bn];rfl,by lia⟩
theorem jj (n:Nat)(r:List Nat)(o:Nat):dm (List.replicate n 120++r) o=dm r o:=by
 induction n with
 | zero=>rfl
 | succ n ih=>exact ih
theorem E0 (F:List aD):dm (f7 F).reverse 0=decide ((f7 F).count 40=0):=by
 rcases DH F with ⟨n,e,c⟩ | ⟨n,y,e,c⟩
 . rw [e,decide_eq_true c]
   have:=jj n [] 0;rwa [Br] at this
 . rw [e,decide_eq_false c,jj];rfl
theorem qD (F:List aD)(n:Nat):sumN (F++List.replicate n .leaf)=sumN F+n:=by
 rw [bf];congr 1
 induction n with
 | zero=>rfl
 | succ n ih=>show 1+sumN (List.replicate n aD.leaf)=_;rw [ih,Ak]
section
variable {M:Int}(hM:M≠0)
include hM
theorem ph (n:Nat):∀y,bX M (List.replicate n aD.leaf) y=y:=by
 induction n with
 | zero=>exact λO=>rfl
 | succ n ih=>
   intro y;show (if y.fdiv M<0 then y else if y.fdiv M=0 then y else M*((1:Nat):Int)+bX M (List.replicate n .leaf) (y-M))=y;rw [ih,Cy,Ct,show M+(y-M)=y by lia,ite_self,ite_self]
theorem qS (F:List aD)(n:Nat):∀y,bX M (F++List.replicate n .leaf) y=bX M F y:=by
 induction F with
 | nil=>exact ph hM n
 | cons T F ih=>
   intro y;show (if _ then _ else if _ then _ else _+bX M (F++List.replicate n aD.leaf) (y-M))=_;rw [ih];rfl
end
theorem zf {M u y:Int}{j:Nat}(hM:∃m,M=(2:Int) ^ (j+1)*m)(hy:∃m,y=(2:Int) ^ (j+1)*m):(∃m,fol M u y=(2:Int) ^ j*m)/\(2*((y+M*u).fdiv 2)=y+M*u):=by
 obtain ⟨m,rfl⟩:=hM;obtain ⟨n,rfl⟩:=hy;have e:(2:Int) ^ (j+1)=2 ^ j*2:=Int.pow_succ ..;rw [e];generalize (2:Int) ^ j=p;have e1:p*2*n+p*2*m*u=2*(p*(n+m*u)):=by rw [Ch,Ch];simp only [Cm,Cj,CC]
 have e2:(2*(p*(n+m*u))).fdiv 2=p*(n+m*u):=Int.mul_fdiv_cancel_left _ ∅;refine ⟨?_,by rw [e1,e2]⟩;unfold fol;rw [e1,e2];split
 . exact ⟨2*n,Cm ..⟩
 . split
   . exact ⟨_,rfl⟩
   . exact ⟨2*n-2*m,by rw [Co,<-Cm,<-Cm]⟩
theorem qg {M u y p:Int}(hM:∃m,M=p*m)(hy:∃m,y=p*m):∃m,unf M u y=p*m:=by
 obtain ⟨m,rfl⟩:=hM;obtain ⟨n,rfl⟩:=hy;unfold unf;split
 . exact ⟨n,rfl⟩
 . split
   . exact ⟨2*n-m*u,by rw [Co,CC,Cm]⟩
   . exact ⟨n+m,by rw [Ch]⟩
noncomputable def aD.bn:aD->Nat
 | .leaf=>0
 | .node l r=>l.bn+r.bn+1
noncomputable def bnF:List aD->Nat
 | []=>0
 | T::F=>T.bn+bnF F
theorem aD.dp_bn (T:aD):∀{k:Nat},T.bn<=k->T.dp k:=by
 induction T with
 | leaf=>exact λO=>trivial
 | node l r ihl ihr=>
   intro k h;have h:l.bn+r.bn+1<=k:=h
   cases k with
   | zero=>exact absurd h (Nat.not_succ_le_zero _)
   | succ j=>
     have h:=Bg h;exact ⟨j,rfl,ihl (ntr (Ad ..) h),ihr (ntr (Al ..) h)⟩
theorem yV (T:aD):T.str.count 40=T.bn:=by
 induction T with
 | leaf=>rfl
 | node l r ihl ihr=>
   show (40::(l.str++(r.str++[41]))).count 40=l.bn+r.bn+1;rw [List.count_cons_self,BL,BL,ihl,ihr];rfl
theorem gF (F:List aD):(f7 F).count 40=bnF F:=by
 induction F with
 | nil=>rfl
 | cons T F ih=>exact List.count_append.trans (by rw [yV,ih];rfl)
theorem d7 (P R:List aD):bnF (P++R)=bnF P+bnF R:=by
 induction P with
 | nil=>exact (Aj _).symm
 | cons T P ih=>show T.bn+bnF (P++R)=T.bn+bnF P+bnF R;rw [ih,Ap]
theorem j7 (F:List aD)(h:bnF F<=k):∀T∈F,T.dp k:=by
 induction F with
 | nil=>exact λT h=>(Bo h).elim
 | cons U F ih=>
   have h:U.bn+bnF F<=k:=h;intro T hT;rcases mcp hT with rfl | hT
   . exact T.dp_bn (ntr (Ad ..) h)
   . exact ih (ntr (Al ..) h) T hT
theorem ye (T:aD):∀k,(T.split k).bn=T.bn+1:=by
 induction T with
 | leaf=>exact λO=>rfl
 | node l r ihl ihr=>
   intro k;show (if k<l.n then aD.node (l.split k) r else .node l (r.split (k-l.n))).bn=l.bn+r.bn+1+1;by_cases h:k<l.n
   . rw [if_pos h];show (l.split k).bn+r.bn+1=_;rw [ihl];lia
   . rw [if_neg h];show l.bn+(r.split _).bn+1=_;rw [ihr];(exact Ap ..)
theorem wm (F:List aD):∀{k:Nat},k<sumN F->bnF (bi F k)=bnF F+1/\sumN (bi F k)=sumN F+1:=by
 induction F with
 | nil=>exact λh=>absurd h (A0 _)
 | cons T F ih=>
   intro k hk;have hk:k<T.n+sumN F:=hk;show bnF (if k<T.n then T.split k::F else T::bi F (k-T.n))=T.bn+bnF F+1/\sumN (if k<T.n then T.split k::F else T::bi F (k-T.n))=T.n+sumN F+1;by_cases h:k<T.n
   . rw [if_pos h];show (T.split k).bn+bnF F=_/\(T.split k).n+sumN F=_;rw [ye,aD.split_n];lia
   . have:=ih (k:=k-T.n) (by lia)
     rw [if_neg h];show T.bn+bnF (bi F _)=_/\T.n+sumN (bi F _)=_;lia
noncomputable def fn (M:Int)(ds:List (Nat×Nat))(y:Int):Int:=ds.foldl (λy d=>if d.1=1 then unf M d.2 y else fol M d.2 y) y
theorem jI (M:Int)(ds:List (Nat×Nat))(d:Nat×Nat)(y:Int):fn M (ds++[d]) y=if d.1=1 then unf M d.2 (fn M ds y) else fol M d.2 (fn M ds y):=BZ
noncomputable def Nst (ds:List (Nat×Nat))(F G:List aD):Prop:=sumN F=sumN G/\bnF F<=ds.length/\bnF G<=ds.length/\(ds.length<=7->∀s m:Int,s≠0->(∃n,fn (128*s) ds (128*m)=2 ^ (7-ds.length)*n)/\bX (128*s) G (128*m)=bX (128*s) F (fn (128*s) ds (128*m)))
theorem GJ:Nst [] [.leaf,.leaf] [.leaf,.leaf]:=⟨rfl,Ae _,Ae _,λO s m hs=>⟨⟨m,rfl⟩,rfl⟩⟩
theorem kf (n:Nat):bnF (List.replicate n .leaf)=0:=by
 induction n with
 | zero=>rfl
 | succ n ih=>exact (Aj _).trans ih
section
variable {ds:List (Nat×Nat)}{F G:List aD}
theorem Ei (h:Nst ds F G)(n:Nat):Nst ds (F++List.replicate n .leaf) (G++List.replicate n .leaf):=by
 obtain ⟨h1,h2,h3,h4⟩:=h;refine ⟨by rw [qD,qD,h1],by rw [d7,kf];exact h2,by rw [d7,kf];exact h3,λhk s m hs=>?_⟩;have hM:128*s≠0:=CE ∅ hs;rw [qS hM,qS hM];exact h4 hk s m hs
theorem tC (s:Int){j:Nat}(hj:j<=7):∃m,128*s=(2:Int) ^ j*m:=⟨2 ^ (7-j)*s,by rw [<-Cm,<-Int.pow_add,A2 hj];rfl⟩
theorem ng {y:Int}{j:Nat}(h:∃n,y=(2:Int) ^ (j+1)*n):∃n,y=(2:Int) ^ j*n:=by
 obtain ⟨n,rfl⟩:=h;exact ⟨2*n,by rw [Int.pow_succ,Cm]⟩
theorem uf {n:Nat}(h:n+1<=7):7-n=7-(n+1)+1:=(Nat.succ_pred_eq_of_pos (Nat.sub_pos_of_lt h)).symm
theorem yb {P R:List aD}{a b:aD}(h:Nst ds (P++a::b::R) G):Nst (ds++[(0,P.length)]) (P++.node a b::R) G:=by
 obtain ⟨h1,h2,h3,h4⟩:=h;have el:(ds++[(0,P.length)]).length=ds.length+1:=Bl;rw [d7] at h2;rw [bf] at h1;have h2:bnF P+(a.bn+(b.bn+bnF R))<=ds.length:=h2;have h1:sumN P+(a.n+(b.n+sumN R))=sumN G:=h1;refine ⟨?_,?_,by rw [el];exact Ay h3,λhk s m hs=>?_⟩
 . rw [bf];show sumN P+(a.n+b.n+sumN R)=_;rw [Ap a.n];exact h1
 . rw [d7,el];show bnF P+(a.bn+b.bn+1+bnF R)<=_;rw [AU (a.bn+b.bn) 1,Ap a.bn];exact Ag h2
 . rw [el] at hk
   obtain ⟨g1,g2⟩:=h4 (Ah ‹_›) s m hs;rw [uf hk] at g1;have ev:=zf (u:=P.length) (tC s (by rw [<-uf hk];exact Av ..)) g1;rw [jI,if_neg (show ¬(0:Nat)=1 from Nat.zero_ne_one),el];exact ⟨ev.1,g2.trans (mZ (CE ∅ hs) P R a b λO=>ev.2).symm⟩
theorem G3 {P R:List aD}{a b:aD}(h:Nst ds (P++.node a b::R) G):Nst (ds++[(1,P.length)]) (P++a::b::R) G:=by
 obtain ⟨h1,h2,h3,h4⟩:=h;have el:(ds++[(1,P.length)]).length=ds.length+1:=Bl;rw [d7] at h2;rw [bf] at h1;have h2:bnF P+(a.bn+b.bn+1+bnF R)<=ds.length:=h2;have h1:sumN P+(a.n+b.n+sumN R)=sumN G:=h1;refine ⟨?_,?_,by rw [el];exact Ay h3,λhk s m hs=>?_⟩
 . rw [bf];show sumN P+(a.n+(b.n+sumN R))=_;rw [<-Ap a.n];exact h1
 . rw [d7,el];show bnF P+(a.bn+(b.bn+bnF R))<=_;exact Ay (ntr (AD (by rw [<-Ap];exact AA (Ax _) _) _) h2)
 . rw [el] at hk
   obtain ⟨g1,g2⟩:=h4 (Ah hk) s m hs;rw [uf hk] at g1;rw [jI,if_pos rfl,el];exact ⟨qg (tC s (Av ..)) (ng g1),g2.trans (rA (CE ∅ hs) P R a b _).symm⟩
theorem yL {P R:List aD}(h:Nst ds (P++.leaf::R) G):Nst (ds++[(1,P.length)]) (P++.leaf::.leaf::R) (bi G (sumN P)):=by
 obtain ⟨h1,h2,h3,h4⟩:=h;have el:(ds++[(1,P.length)]).length=ds.length+1:=Bl;rw [d7] at h2;rw [bf] at h1;have h2:bnF P+(0+bnF R)<=ds.length:=h2;have h1:sumN P+(1+sumN R)=sumN G:=h1;have hk0:sumN P<sumN G:=by rw [<-h1];exact AE (nlt Nat.one_pos (Ad ..))
 have sp:=wm G hk0;refine ⟨?_,?_,by lia,λhk s m hs=>?_⟩
 . rw [bf];show sumN P+(1+(1+sumN R))=_;lia
 . rw [d7,el];show bnF P+(0+(0+bnF R))<=_;rw [Aj (0+bnF R)];exact Ay h2
 . rw [el] at hk
   obtain ⟨g1,g2⟩:=h4 (Ah hk) s m hs;have hM:128*s≠0:=CE ∅ hs;rw [uf hk] at g1;rw [jI,if_pos rfl,el];exact ⟨qg (tC s (Av ..)) (ng g1),(kO hM G _ hk0).trans ((congrArg _ g2).trans (wY hM P R _).symm)⟩
end
theorem Dy (T:aD):∀{a b d:Nat},d<=7->T.dp (7-d)->∀p∈lv T a b d,p.2.2<=7:=by
 induction T with
 | leaf=>intro a b d hd _ p hp;rw [msp hp];exact hd
 | node l r ihl ihr=>
   intro a b d hd ⟨j,ej,hl,hr⟩ p hp;obtain rfl:j=7-(d+1):=by omega
   rcases mpp hp with h | h
   . exact ihl (by clear hd;omega) hl p h
   . exact ihr (by clear hd;omega) hr p h
theorem fg (F:List aD)(h:∀T∈F,T.dp 7):∀p∈lvF F,p.2.2<=7:=by
 induction F with
 | nil=>exact λp h=>(Bo h).elim
 | cons T F ih=>
   intro p hp;rcases mpp hp with g | g
   . exact Dy T ∅ (h T (.head _)) p g
   . exact ih (λU hU=>h U (.tail _ hU)) p g
theorem d4 (F:List aD)(h:∀T∈F,T.dp 7):(lvF F).length=sumN F:=by
 induction F with
 | nil=>rfl
 | cons T F ih=>
   show (lv T 0 0 0++lvF F).length=T.n+sumN F;rw [Bl,(nN T 0 0 ∅ (h T (.head _))).2,ih λU hU=>h U (.tail _ hU)]
theorem Gv {M:Int}(hM:M≠0)(F:List aD)(y:Int):gP M (oF F 0) y=bX M F y:=by
 have:=sQ hM F 0 y;rwa [Int.natCast_zero,Cu,Int.add_zero,Int.add_zero] at this
theorem vK {ds:List (Nat×Nat)}{F G:List aD}(h:Nst ds F G)(hd:ds.length=7){s:Int}(hs:s≠0)(m:Int) :
   led s (lvF G) (128*m)=led s (lvF F) (fn (128*s) ds (128*m))/\
   wK (128*s) (oF F 0).reverse (gP (128*s) (oF G 0) (128*m))=fn (128*s) ds (128*m)/\(lvF G).length=(lvF F).length:=by
 obtain ⟨h1,h2,h3,h4⟩:=h;rw [hd] at h2 h3;have dF:=j7 F h2;have dG:=j7 G h3;have hM:128*s≠0:=by lia
 have e:=(h4 (by lia) s m hs).2;refine ⟨?_,?_,by rw [d4 F dF,d4 G dG,h1]⟩
 . rw [lE hs G _ dG,lE hs F _ dF,e]
 . rw [Gv hM,e,<-Gv hM F,wD hM]
theorem kr (T:aD):∀a b d,(lv T a b d).length=T.n:=by
 induction T with
 | leaf=>exact λO O O=>rfl
 | node l r ihl ihr=>exact λa b d=>List.length_append.trans (by rw [ihl,ihr];rfl)
noncomputable def two (p:Nat×Nat×Nat)(B:List (Nat×Nat×Nat)):List (Nat×Nat×Nat):=(p.1+1,0,p.2.2+1)::(0,p.2.1+1,p.2.2+1)::B
theorem vH {α:Type}{X Y A B:List α}{p:α}(e:X++Y=A++p::B):(A.length<X.length->∃C,X=A++p::C/\B=C++Y)/\(X.length<=A.length->∃C,A=X++C/\Y=C++p::B):=by
 rcases List.append_eq_append_iff.mp e with ⟨C,rfl,e2⟩ | ⟨C,rfl,e2⟩
 . refine ⟨λh=>?_,λO=>⟨C,rfl,e2⟩⟩
   rw [Bl] at h;lia
 . cases C with
   | nil=>exact ⟨λh=>by rw [Br] at h;lia,λO=>⟨[],by rw [Br,Br],e2.symm⟩⟩
   | cons c C=>
     obtain ⟨rfl,rfl⟩:=List.cons.inj e2;exact ⟨λO=>⟨C,rfl,rfl⟩,λh=>by rw [Bl,Bp] at h;lia⟩
theorem C8 (T:aD):∀{a b d:Nat} {A B:List (Nat×Nat×Nat)} {p:Nat×Nat×Nat},lv T a b d=A++p::B->lv (T.split A.length) a b d=A++two p B:=by
 induction T with
 | leaf=>
   intro a b d A B p e
   cases A with
   | nil=>obtain ⟨rfl,rfl⟩:=List.cons.inj e;rfl
   | cons c A=>have g:[]=A++p::B:=(List.cons.inj e).2;exact absurd (List.append_eq_nil_iff.mp g.symm).2 (Bz p B)
 | node l r ihl ihr=>
   intro a b d A B p e;have k:=vH (X:=lv l (a+1) 0 (d+1)) (Y:=lv r 0 (b+1) (d+1)) e;rw [kr] at k;show lv (if A.length<l.n then aD.node (l.split A.length) r else .node l (r.split (A.length-l.n))) a b d=_;by_cases h:A.length<l.n
   . obtain ⟨C,e1,rfl⟩:=k.1 h
     rw [if_pos h];show lv (l.split A.length) (a+1) 0 (d+1)++_=_;rw [ihl e1,Bn];rfl
   . obtain ⟨C,rfl,e2⟩:=k.2 (Ar h)
     rw [if_neg h];show lv l (a+1) 0 (d+1)++lv (r.split _) 0 (b+1) (d+1)=_;rw [Bl,kr,AO,ihr e2,Bn]
theorem wQ (F:List aD):∀{A B:List (Nat×Nat×Nat)} {p:Nat×Nat×Nat},lvF F=A++p::B->lvF (bi F A.length)=A++two p B:=by
 induction F with
 | nil=>exact λe=>absurd (congrArg List.length e) (by rw [Bl,Bp];exact A4 (AB _))
 | cons T F ih=>
   intro A B p e;have k:=vH (X:=lv T 0 0 0) (Y:=lvF F) e;rw [kr] at k;show lvF (if A.length<T.n then T.split A.length::F else T::bi F (A.length-T.n))=_;by_cases h:A.length<T.n
   . obtain ⟨C,e1,rfl⟩:=k.1 h
     rw [if_pos h];show lv (T.split A.length) 0 0 0++_=_;rw [C8 T e1,Bn];rfl
   . obtain ⟨C,rfl,e2⟩:=k.2 (Ar h)
     rw [if_neg h];show lv T 0 0 0++lvF (bi F _)=_;rw [Bl,kr,AO,ih e2,Bn]
noncomputable def b4:Nat->List (Nat×Nat×Nat)->List Nat
 | c,[]=>[c]
 | c,p::ps=>c::b4 (c+2 ^ (7-p.2.2)) ps
noncomputable def endC:Nat->List (Nat×Nat×Nat)->Nat
 | c,[]=>c
 | c,p::ps=>endC (c+2 ^ (7-p.2.2)) ps
noncomputable def d1:Nat->List (Nat×Nat×Nat)->List Nat
 | _,[]=>[]
 | c,p::ps=>c::d1 (c+2 ^ (7-p.2.2)) ps
theorem eJ (A:List (Nat×Nat×Nat))(B:List (Nat×Nat×Nat)):∀c,b4 c (A++B)=d1 c A++b4 (endC c A) B:=by
 induction A with
 | nil=>exact λO=>rfl
 | cons p A ih=>exact λc=>congrArg (c::·) (ih _)
theorem xV {p:Nat×Nat×Nat}(hp:p.2.2<7)(B:List (Nat×Nat×Nat))(c:Nat):b4 c (p::B)=c::b4 (c+2 ^ (7-p.2.2)) B/\
   b4 c (two p B)=c::(c+(c+2 ^ (7-p.2.2)))/2::b4 (c+2 ^ (7-p.2.2)) B:=by
 refine ⟨rfl,?_⟩;have e:2 ^ (7-p.2.2)=2 ^ (7-(p.2.2+1))+2 ^ (7-(p.2.2+1)):=by rw [show 7-p.2.2=7-(p.2.2+1)+1 by lia,AJ,AY]
 show c::(c+2 ^ (7-(p.2.2+1)))::b4 (c+2 ^ (7-(p.2.2+1))+2 ^ (7-(p.2.2+1))) B=_;rw [e,Ap,show (c+(c+(2 ^ (7-(p.2.2+1))+2 ^ (7-(p.2.2+1)))))/2=c+2 ^ (7-(p.2.2+1)) by lia]
noncomputable def aD.ds:aD->List Nat
 | .leaf=>[0]
 | .node l r=>(l.ds++r.ds).map (· + 1)
theorem Gu (T:aD):∀a b d,(lv T a b d).map (·.2.2)=T.ds.map (· + d):=by
 induction T with
 | leaf=>exact λa b d=>congrArg (·::[]) (Aj d).symm
 | node l r ihl ihr=>
   intro a b d;show (lv l (a+1) 0 (d+1)++lv r 0 (b+1) (d+1)).map _=((l.ds++r.ds).map (· + 1)).map (· + d);rw [Bq,ihl,ihr,<-Bq,Bm];exact Bv λk O=>by show k+(d+1)=k+1+d;lia
noncomputable def dsF:List aD->List Nat
 | []=>[]
 | T::F=>T.ds++dsF F
theorem D9 (F:List aD):(lvF F).map (·.2.2)=dsF F:=by
 induction F with
 | nil=>rfl
 | cons T F ih=>
   show (lv T 0 0 0++lvF F).map _=T.ds++dsF F;rw [Bq,Gu,ih];congr 1;exact List.map_id' _
theorem aBg (T:aD):T.ds.length=T.n:=by
 have:=congrArg List.length (Gu T 0 0 0);rw [Bk,Bk,kr] at this;exact this.symm
theorem sO (T:aD):T.str.count 120=T.n:=by
 induction T with
 | leaf=>rfl
 | node l r ihl ihr=>
   show (40::(l.str++(r.str++[41]))).count 120=l.n+r.n;rw [B4 ∅,BL,BL,ihl,ihr];rfl
theorem mh (ps:List (Nat×Nat×Nat)):∀(c i:Nat),i<=ps.length->(b4 c ps)[i]?=some (c+cut ps i):=by
 induction ps with
 | nil=>intro c i h;obtain rfl:i=0:=Nat.le_zero.mp h;rfl
 | cons p ps ih=>
   intro c i h
   cases i with
   | zero=>rfl
   | succ i=>exact (ih _ i (Bg h)).trans (by rw [eE,Ap])
theorem mW (ps:List (Nat×Nat×Nat)):∀c,(b4 c ps).length=ps.length+1:=by
 induction ps with
 | nil=>exact λO=>rfl
 | cons p ps ih=>exact λc=>congrArg (· + 1) (ih _)
theorem D0 (ps:List (Nat×Nat×Nat)):∀{c x:Nat},x∈b4 c ps->c<=x:=by
 induction ps with
 | nil=>exact λh=>Ac (msp h).symm
 | cons p ps ih=>
   intro c x h;rcases mcp h with rfl | h
   . exact Ab _
   . exact ntr (Ad ..) (ih h)
theorem nw (ps:List (Nat×Nat×Nat)):∀c,(b4 c ps).Pairwise (· < ·):=by
 induction ps with
 | nil=>exact λO=>List.pairwise_singleton ..
 | cons p ps ih=>exact λc=>List.pairwise_cons.mpr ⟨λx h=>nlt (AE (As _)) (D0 ps h),ih _⟩
noncomputable abbrev p9:Nat:=28
noncomputable abbrev mH:Nat:=29
noncomputable abbrev lG:Nat:=30
noncomputable abbrev i6:Nat:=31
noncomputable abbrev DA:Nat:=32
noncomputable abbrev jn:Nat:=33
noncomputable abbrev iR:Nat:=34
section
set_option genInjectivity false in
set_option genSizeOf false in
structure iV (B:aJ) extends PatFns B where
 fq:Addr
 fb:Addr
 fe:Addr
 cq:Value
 cb:Value
 ce:Value
 hq:ae .none .none lU "quotedata" fq cq B
 hb:ae .none .none fY "_quote_periods" fb cb B
 he:ae .none .none r9 "_fix_eols" fe ce B
 gq:aH B "quotedata" (.raw (.ref fq))
 gb:aH B "_quote_periods" (.raw (.ref fb))
 ge:aH B "_fix_eols" (.raw (.ref fe))
 gln:aH B "len" (.raw (.builtin "len"))
theorem vf {doc pm ct:Value}{v:Value}:b9 S [] (bindArgs (bR "_law_sent" p9 .none .none doc pm an cdv ct) ⟨[v,w],[]⟩)=some ([],[(Ω "rows",v),(Ω "cell",w)]):=by kernel_rfl
theorem xv:bV [Ω "rows",Ω "cell"] (aI (aL p9))=true:=by decide +kernel
noncomputable abbrev aB5 (F:iV B)(rows ways:PV)(mail:Option PV):St:=[(Ω "rows",.local,some rows),(Ω "cell",.local,some ways),(Ω "mail",.local,mail),
 (Ω "quotedata",.globalImplicit,some (.raw (.ref F.fq))),(Ω "_quote_periods",.globalImplicit,some (.raw (.ref F.fb))),(Ω "_fix_eols",.globalImplicit,some (.raw (.ref F.fe)))]
theorem Dj (F:iV B){rows ways:PV}:Ini B [(Ω "rows",rows),(Ω "cell",ways)] (aI (aL p9)).names (aB5 F rows ways none):=by
 refine .arg (by walk_at "mm") (.inl rfl) (.arg (by walk_at "mm") (.inl rfl) (.unset (.glob F.gq (.glob F.gb (.glob F.ge .nil)))))
theorem eX:Ω "" = ofL []:=by decide +kernel
theorem sM:Ω "\r\n" = ofL [13,10]:=by decide +kernel
theorem fx (a b:Nat)(hb:0<b):((a:Int)).fmod (b:Int)=((a%b:Nat):Int):=by
 rw [CI _ (Cd b)];rfl
theorem oq (a b:Nat):((a:Int)).fdiv (b:Int)=((a/b:Nat):Int):=by
 rw [Cn _ (Cd b)];rfl
theorem aG8 (a:Nat):((a:Int)).fmod 2=((a%2:Nat):Int):=fx a 2 ∅
theorem aG1 (a:Nat):((a:Int)).fmod 3=((a%3:Nat):Int):=fx a 3 ∅
noncomputable abbrev qB:List (List Nat):=[[10],[13],[13,10]]
noncomputable def ko (ways:Nat):List Nat:=qB.getD (ways%3) []
theorem GH:[PV.str (Ω "\n"),PV.str (Ω "\r"),PV.str (Ω "\r\n")]=aC qB:=by kernel_rfl
theorem yp (ways:Nat):ko ways=[10]\/ko ways=[13]\/ko ways=[13,10]:=
 lt3 (P:=λm=>qB.getD m []=[10]\/qB.getD m []=[13]\/qB.getD m []=[13,10]) (.inl rfl) (.inr (.inl rfl)) (.inr (.inr rfl)) (Am ways ∅)
theorem j6 (l:List Nat):(dq l.toArray).size=l.length:=Array.size_map
theorem u5 {c:Nat}(h:c∈[13,10]):c<128:=(by decide:∀c∈[13,10],c<128) c h
theorem DU {w:List Nat}{rows:List (List Nat)}(h:r∈rows)(hr:r≠[]):aj w rows≠[]:=by
 induction rows with
 | nil=>cases h
 | cons a t ih=>
   intro e
   cases t with
   | nil=>rw [msp h] at hr;exact hr e
   | cons s t=>
     rw [ai] at e;obtain ⟨e1,e2⟩:=List.append_eq_nil_iff.mp e;rcases mcp h with rfl | h
     . exact hr (List.append_eq_nil_iff.mp e1).1
     . exact ih h e2
theorem GI {r:List Nat}(h:r≠[]):gv r≠[]:=by
 cases r with
 | nil=>exact absurd rfl h
 | cons c r=>
   show (if c=46 then 46::46::r else c::r)≠[];by_cases e:c=46
   . rw [if_pos e];exact Bz _ _
   . rw [if_neg e];exact Bz _ _
theorem w6 (F:iV B){all:List (List Nat)}{ways:Nat}(h:ae .none .none p9 "_law_sent" f cdv B)(hv:aT H v (aC all))(hne2:∃r∈all,r≠[])(hallF:∀r∈all,mK r)
   (hz:(all.map List.length).sum+2*all.length<=400000)(q:Q (.list (aC (all.map gv))) H):aM [] NoE H B (d+5) (.raw (.ref f)) [v,.int ways] Q:=by
 refine h.call (d:=d+4) (λdoc pm an ct=>sJ λS v w=>vf) rfl xv (Dj F) ?_;have hsepl:(ko (ways/6)).length<=2:=(by decide:∀s∈qB,s.length<=2) _ (rM (Am _ ∅))
 have hJ:(all.map List.length).sum+all.length*(ko (ways/6)).length<=400000:=
   ntr (AD (ntr (Aw _ hsepl) (Ac (Ao ..))) _) hz
 refine' aE ?_;ext;refine aV ?_;ext;refine dT ∅ (km ∅) ?_;refine bN (congrArg PV.int (oq ways 6)) ?_;ext;refine dZ ∅ ?_;refine bN (congrArg PV.int (aG1 _)) ?_;refine ⟨aB .list,?_⟩;rw [GH];refine lF (Am _ ∅) ∅ ?_;refine ⟨_,cT,?_⟩;ext;rw [bP] at hv;refine bu (.inr hv) ?_ ?_
 . have e1:((all.map ofL).map (·.length))=all.map List.length:=by rw [Bm];exact Bv λr O=>aZ r
   rw [e1,Bk,show (ofL (qB.getD (ways/6%3) [])).length=(ko (ways/6)).length from aZ _];exact ntr hJ ∅
 rw [da];generalize hm:aj (qB.getD (ways/6%3) []) all=m;have hml:m.length<=400000:=hm▸ntr (nj (ko (ways/6)) all) hJ;have hmeol:cO m=aj [13,10] all:=by rw [<-hm];exact xn (yp (ways/6)) all λr h=>(hallF r h).1
 have hdot:dots true (cO m)=aj [13,10] (all.map gv):=by rw [hmeol];exact wc all λr h=>(hallF r h).1
 have hsplit:Txt.split (ofL (dots true (cO m))) (ofL [13,10])=(all.map gv).map ofL:=by
   rw [hdot];refine t7 _ ?_ ?_
   . obtain ⟨r,hr,O⟩:=hne2
     exact λe=>List.ne_nil_of_mem hr (List.map_eq_nil_iff.mp e)
   . intro r h
     obtain ⟨x,hx,rfl⟩:=mmp h;exact mF (hallF x hx).1
 have hel:=ntr (lW m) (Aw 2 hml);have hdl:=ntr (kZ true (cO m)) (Aw 2 hel);ext;refine dT ∅ (km ∅) ?_;refine bN (congrArg PV.int (oq ways 18)) ?_;ext;refine dZ ∅ ?_;refine bN (congrArg PV.int (aG8 _)) ?_;ext;have hl8:(ofL m).length<=1048576:=by rw [aZ];exact ntr hml ∅
 have e9:aCx (ss (ofL m))=ofL (dots true (cO m)):=rfl;by_cases hw:ways/18%2=0
 . rw [hw]
   refine' ifn B9 ?_
   have asc0:∀c∈cO m,c<128:=λc hc=>by
     rw [hmeol] at hc;rcases j0 hc with h | ⟨r,h1,h2⟩
     . exact u5 h
     . exact (hallF r h1).2 c h2
   have asc1:∀c∈dots true (cO m),c<128:=λc hc=>by
     rw [hdot] at hc;rcases j0 hc with h | ⟨r,h1,h2⟩
     . exact u5 h
     . obtain ⟨x,hx,rfl⟩:=mmp h1
       exact (uw (hallF x hx)).2 c h2
   have hne1:dots true (cO m)≠[]:=by
     obtain ⟨r,hr1,hr2⟩:=hne2;rw [hdot];exact DU (r:=gv r) (By hr1) (GI hr2)
   have hb1:bG (dq (ss (ofL m)).cps)=(cO m).toArray:=mo λc hc=>A5 (asc0 c hc) ∅
   have hb2:Ft (dq (ss (ofL m)).cps)=dq (dots true (cO m)).toArray:=by
     unfold Ft;rw [hb1];apply Array.ext';simp [dq]
   have hb3:bG (dq (dots true (cO m)).toArray)=(dots true (cO m)).toArray:=mo λc hc=>A5 (asc1 c hc) ∅;ext;refine ⟨aF F.hb,?_⟩;ext;refine ⟨aF F.he,?_⟩;ext;refine DF (d:=d+1) F.toPatFns F.he hl8 ?_;refine ⟨_,rE,?_⟩;ext;refine ra (x:=ss (ofL m)) asc0 (by show (ofL (cO m)).length<=_;rw [aZ];exact ntr hel (bl rfl)) ?_;ext;refine CX (d:=d+1) F.toPatFns F.hb (by rw [j6];exact ntr hel ∅) ?_;refine ⟨_,pr,?_⟩;ext;rw [hb2];refine qU (λc hc=>?_) ?_ (by rw [j6];exact ntr hdl (bl rfl)) ?_
   . have:c.toNat∈(bG (dq (dots true (cO m)).toArray)).toList:=by
       rw [Array.toList_map];exact mmr ⟨c,hc,rfl⟩
     rw [hb3] at this;exact asc1 _ this
   . exact λe=>hne1 (B8 ((j6 _).symm.trans (congrArg Array.size e)))
   rw [hb3];refine ⟨_,de,?_⟩;ext;rw [sM];refine dg (x:=ofL (dots true (cO m))) (by decide +kernel) (by rw [aZ];exact ntr hdl ∅) (.inl ?_);rw [hsplit,<-bP];ext;exact q
 . refine' ifp (bne_iff_ne.mpr λe=>hw (Int.ofNat.inj e)) ?_
   ext;refine ⟨aF F.hq,?_⟩;ext;refine tw (d:=d+1) F.toPatFns F.hq hl8 ?_;refine ⟨_,de,?_⟩;ext;rw [e9,sM];refine dg (by decide +kernel) (by rw [aZ];exact ntr hdl ∅) (.inl ?_);rw [hsplit,<-bP];ext;exact q
end
noncomputable def cntLt (xs:List Int)(x:Int):Nat:=xs.countP λy=>decide (y<x)
noncomputable def cE (xs:List Int)(x:Int):Nat:=xs.countP λy=>decide (y<=x)
theorem C4 {p:Int->Bool}(hp:∀a b,a<=b->p b=true->p a=true){xs:List Int}(h:xs.Pairwise (·<=·)):∀(m:Nat) (y:Int),xs[m]?=some y->p y=decide (m<xs.countP p):=by
 induction h with
 | nil=>exact λO O e=>nomatch e
 | @cons a r ha _ ih=>
   intro m y e;by_cases hx:p a=true
   . rw [List.countP_cons_of_pos hx]
     cases m with
     | zero=>cases e;rw [hx];exact (decide_eq_true (AB _)).symm
     | succ m=>exact (ih m y e).trans (decide_eq_decide.mpr Nat.succ_lt_succ_iff.symm)
   . have hr:∀b∈r,¬p b=true:=λb hb e=>hx (hp a b (ha b hb) e)
     rw [List.countP_cons_of_neg hx,List.countP_eq_zero.mpr hr];refine Bool.eq_false_iff.mpr λe'=>?_
     cases m with
     | zero=>cases e;exact hx e'
     | succ m=>exact hr y (List.mem_of_getElem? e) e'
theorem jy {xs:List Int}{x:Int}(h:xs.Pairwise (·<=·))(m:Nat)(y:Int)(e:xs[m]?=some y):decide (y<x)=decide (m<cntLt xs x):=
 C4 (λO O h e=>decide_eq_true (CG h (of_decide_eq_true e))) h m y e
theorem i3 {xs:List Int}{x:Int}(h:xs.Pairwise (·<=·))(m:Nat)(y:Int)(e:xs[m]?=some y):decide (y<=x)=decide (m<cE xs x):=
 C4 (λO O h e=>decide_eq_true (Cs h (of_decide_eq_true e))) h m y e
theorem yQ (xs:List Int)(x:Int):cntLt xs x<=xs.length:=List.countP_le_length
theorem rK (xs:List Int)(x:Int):cE xs x<=xs.length:=List.countP_le_length
noncomputable abbrev aG (xs:List Int):List PV:=xs.map PV.int
noncomputable def jz (left:Bool)(xs:List Int)(x:Int)(lo hi:Nat):Nat:=clp (if left then cntLt xs x else cE xs x) lo hi
section
set_option genInjectivity false in
set_option genSizeOf false in
structure ef (B:aJ) where
 fl:Addr
 fr:Addr
 bl:Addr
 br:Addr
 cl:Value
 cr:Value
 dl:Value
 dr:Value
 dV1:Value
 kV1:Value
 dV2:Value
 kV2:Value
 dV3:Value
 kV3:Value
 dV4:Value
 kV4:Value
 hl:ae dV1 kV1 jl "insort_left" fl cl B
 hr:ae dV2 kV2 jb "insort_right" fr cr B
 hbl:ae dV3 kV3 dw "bisect_left" bl dl B
 hbr:ae dV4 kV4 dR "bisect_right" br dr B
 D1:bE B dV1 kV1
 D2:bE B dV2 kV2
 D3:bE B dV3 kV3
 D4:bE B dV4 kV4
 gl:aH B "insort_left" (.raw (.ref fl))
 gr:aH B "insort_right" (.raw (.ref fr))
 gbl:aH B "bisect_left" (.raw (.ref bl))
 gbr:aH B "bisect_right" (.raw (.ref br))
 gV:aH B "ValueError" (.raw (.type "ValueError"))
 gln:aH B "len" (.raw (.builtin "len"))
theorem sV {xs:List Int}{y:PV}(h:(aG xs)[m]?=some y):∃z,y=.int z/\xs[m]?=some z:=by
 rw [List.getElem?_map] at h
 cases e:xs[m]? with
 | none=>rw [e] at h;cases h
 | some z=>rw [e] at h;cases h;exact ⟨z,rfl,rfl⟩
theorem wl {li:List Int}{y:Int}(hs:li.Pairwise (·<=·))(d:Nat)(m:Nat)(z:PV)(hz:(aG li)[m]?=some z):P2 (compareOp .Lt) z (.int y) (.bool (decide (m<cntLt li y))):=by
 obtain ⟨w,rfl,hw⟩:=sV hz;rw [<-jy hs m w hw];exact aCm
theorem jF {li:List Int}{y:Int}(hs:li.Pairwise (·<=·))(d:Nat)(m:Nat)(z:PV)(hz:(aG li)[m]?=some z):P2 (compareOp .Lt) (.int y) z (.bool (!decide (m<cE li y))):=by
 obtain ⟨w,rfl,hw⟩:=sV hz;rw [<-i3 hs m w hw,<-decide_not,decide_eq_decide.mpr Int.not_le];exact aCm
theorem me {doc pm ct:Value}{v u v' w':Value}:b9 S [] (bindArgs (bR "_law_laid" mH .none .none doc pm an cdv ct) ⟨[v,w,u,v',w'],[]⟩)=some ([],[(Ω "line",v),(Ω "spot",w),(Ω "low",u),(Ω "high",v'),(Ω "left",w')]):=by kernel_rfl
theorem qv {fd:FuncData}{n1 n2 n3 n4 n5:Str}{a b c a' b':PV}(hf:∀(S:Setting) v w u v' w',b9 S [] (bindArgs fd ⟨[v,w,u,v',w'],[]⟩)=some ([],[(n1,v),(n2,w),(n3,u),(n4,v'),(n5,w')])) :
   cI B fd [a,b,c,a',b'] [] H [(n1,a),(n2,b),(n3,c),(n4,a'),(n5,b')]:=λA s I vs kvs h1 h2 E Q hQ=>by
 cases h1 with | cons r1 h1=>
 cases h1 with | cons r2 h1=>
 cases h1 with | cons r3 h1=>
 cases h1 with | cons r4 h1=>
 cases h1 with | cons r5 h1=>
 cases h1;rw [h2.nil];exact b8 (os:=[]) (hf _ _ _ _ _ _) (by simp) (hQ _ (.cons r1 (.cons r2 (.cons r3 (.cons r4 (.cons r5 .nl))))))
theorem qy:bV [Ω "line",Ω "spot",Ω "low",Ω "high",Ω "left"] (aI (aL mH))=true:=by decide +kernel
theorem qu (F:ef B){a b c a' b':PV}:Ini B [(Ω "line",a),(Ω "spot",b),(Ω "low",c),(Ω "high",a'),(Ω "left",b')] (aI (aL mH)).names
   [(Ω "line",.local,some a),(Ω "spot",.local,some b),(Ω "low",.local,some c),(Ω "high",.local,some a'),(Ω "left",.local,some b'),(Ω "insort_left",.globalImplicit,some (.raw (.ref F.fl))),(Ω "insort_right",.globalImplicit,some (.raw (.ref F.fr)))]:=by
 refine .arg (by walk_at "mm") (.inl rfl) (.arg (by walk_at "mm") (.inl rfl) (.arg (by walk_at "mm") (.inl rfl) (.arg (by walk_at "mm") (.inl rfl) (.arg (by walk_at "mm") (.inl rfl) (.glob F.gl (.glob F.gr .nil))))))
theorem mn (F:ef B){A:Addr}{xs:List Int}{x:Int}{lo hi:Nat}{hv:PV}{left:Int}(h:ae .none .none mH "_law_laid" f cdv B)(hm:(A,aG xs)∈H)(hs:xs.Pairwise (·<=·))(hh:jp hv hi xs.length)(hlo:lo<=hi)(hn:xs.length<=1000000)
   (u:Upd A (aG xs) (c9 (aG xs) (jz (left != 0) xs x lo hi) (.int x)) H H')(q:Q (.lref A) H'):aM [] NoE H B (d+5) (.raw (.ref f)) [.lref A,.int x,.int lo,hv,.int left] Q:=by
 refine h.call (d:=d+4) (λdoc pm an ct=>qv λS v w u v' w'=>me) rfl qy (qu F) ?_;have hhl:hi<=xs.length:=hh.le;have hz:(aG xs).length<=sizeLine:=by rw [Bk,sizeLine_eq];(exact ntr ‹_› ∅)
 have hh':jp hv hi (aG xs).length:=by rw [Bk];exact hh
 have hpl:∀{c},clp c lo hi<=xs.length:=tY (ntr hlo hhl) hhl;have hlo':lo<=2 ^ 60:=ntr hlo (ntr hhl (ntr hn ∅));refine' aE ?_;ext;by_cases hl:left=0
 . subst hl
   refine' ifn B9 ?_;ext;refine ⟨aF F.hr,?_⟩;ext;refine t0 (d:=d+2) F.hr F.D2 F.hbr F.D4 F.gbr F.gV F.gln hm hh' hlo' hz (jF hs) (H':=H') ?_ ?_
   . rw [Bk,AG hpl];exact u
   . ext
     exact q
 . have hl':(left != 0)=true:=bne_iff_ne.mpr hl
   refine' ifp hl' ?_;rw [hl'] at u;ext;refine ⟨aF F.hl,?_⟩;ext;refine sZ (d:=d+2) F.hl F.D1 F.hbl F.D3 F.gbl F.gV F.gln hm hh' hlo' hz (wl hs) (H':=H') ?_ ?_
   . rw [Bk,AG hpl];exact u
   . ext
     exact q
end
section
noncomputable def aD0 (c:Nat):Int:=8-Builtin.Int.intBits (Builtin.bitAnd (Builtin.bitOr (c:Int) 128) (-(Builtin.bitOr (c:Int) 128)))
theorem Dv:∀c,c<2049->aD0 c=(lev c:Int):=by decide +kernel
theorem uN {doc pm ct:Value}{v:Value}:b9 S [] (bindArgs (bR "_law_level" lG .none .none doc pm an cdv ct) ⟨[v],[]⟩)=some ([],[(Ω "cut",v)]):=by kernel_rfl
theorem x8:bV [Ω "cut"] (aI (aL lG))=true:=by decide +kernel
theorem wf :Ini B [(Ω "cut",v)] (aI (aL lG)).names [(Ω "cut",.local,some v)]:=
 .arg (by walk_at "mm") (.inl rfl) .nil
theorem tg {c:Nat}(h:ae .none .none lG "_law_level" f cdv B)(hc:c<2049)(q:Q (.int (lev c)) H):aM [] NoE H B (d+2) (.raw (.ref f)) [.int c] Q:=by
 refine h.call (d:=d+1) (λdoc pm an ct=>cf λS v=>uN) rfl x8 wf ?_;have e:=Dv c hc;unfold aD0 at e;refine' aE ?_;ext;refine ⟨_,dP,?_⟩;ext;refine dU ?_;ext;refine bN (congrArg PV.int e) ?_;exact q
end
noncomputable abbrev aJ.hide (B:aJ)(a:Addr)(o:Obj):aJ:=B.hids ((a,o)::B.hid)
noncomputable abbrev bw (a b:Value):Obj:={ cls:=.type "tuple",data:=.seq #[a,b] }
section
variable {TO:Addr}{o':Obj}
theorem Trk.hide :Trk H (B.hide TO o) a↔a=TO\/Trk H B a:=by
 unfold Trk;constructor
 . rintro (h | h | h)
   . exact .inr (.inl h)
   . exact .inr (.inr (.inl h))
   . rcases mcp h with e | h
     . exact .inl e
     . exact .inr (.inr (.inr h))
 . rintro (h | h | h | h)
   . exact .inr (.inr (by rw [h];exact mcs))
   . exact .inl h
   . exact .inr (.inl h)
   . exact .inr (.inr (mcm _ h))
theorem VR.unhide {v:Value}(r:VR h (Trk H (B.hide TO o)) v p):VR h (Trk H B) v p:=r.mono (λO O e O O=>e) λO O t=>Trk.hide.mpr (.inr t)
theorem VRs.unhide {v:List Value}{p:List PV}(r:VRs h (Trk H (B.hide TO o)) v p):VRs h (Trk H B) v p:=r.mono (λO O e O O=>e) λO O t=>Trk.hide.mpr (.inr t)
theorem VRs.hide {v:List Value}{p:List PV}(r:VRs s.heap (Trk H B) v p)(hT:s.heap.objs.size<=TO)(hk:∀a ob,s.heap.get? a=some ob->s'.heap.get? a=some ob):VRs s'.heap (Trk H (B.hide TO o)) v p:=
 r.mono (λa ob e O O=>hk a ob e) λa ha t=>(Trk.hide.mp t).elim (λe=>absurd ha (nlr (by rw [e];exact hT))) id
theorem Inv.unhide (I:Inv (B.hide TO o) H s):Inv B H s:=
 ⟨I.keep,I.size,I.tabs,I.bare,I.os,I.nodup,λq hq=>I.hid q (mcm _ hq),λp hp=>let ⟨a,vs,n,b,c⟩:=I.objs p hp;⟨a,vs,n,b,c.unhide⟩⟩
theorem aA.unhide (F:aA s H σ env (B.hide TO o)):aA s H σ env B:=by
 refine ⟨F.fresh,F.apart,F.keys,F.nodup,?_,λx ov h=>?_,F.glob⟩
 . obtain ⟨m,h1,h2⟩:=F.ns
   exact ⟨m,h1,λx p hx=>let ⟨v,a,b⟩:=h2 x p hx;⟨v,a,b.unhide⟩⟩
 . obtain ⟨c,w,h1,h2,h3⟩:=F.cell x ov h
   refine ⟨c,w,h1,h2,?_⟩
   cases ov with
   | none=>trivial
   | some p=>obtain ⟨v,a,b⟩:=h3;exact ⟨v,a,b.unhide⟩
theorem Inv.hide (I:Inv B H s)(t:Tr noU s' H s H B)(hT:s.heap.objs.size<=TO)(ho:s'.heap.get? TO=some o)(hq:a9 o)(hk:∀a ob,s.heap.get? a=some ob->s'.heap.get? a=some ob):Inv (B.hide TO o) H s':=by
 have hn:TO∉H.map (·.1):=λq=>absurd (d2 I (.inl q)) (nlr hT);refine ⟨t.inv.keep,t.inv.size,t.inv.tabs,t.inv.bare,t.inv.os,t.inv.nodup,λq hq'=>?_,λp hp=>?_⟩
 . rcases mcp hq' with rfl | hq'
   . exact ⟨ho,hq,Heap.get?_none_of_le (ntr I.size hT),hn⟩
   . exact t.inv.hid q hq'
 . obtain ⟨h1,vs,n,h2,h3⟩:=I.objs p hp
   exact ⟨h1,vs,n,hk _ _ h2,h3.hide hT hk⟩
set_option genInjectivity false in
set_option genSizeOf false in
structure cD (B:aJ)(TO:Addr)(P:Addr->Prop)(H:AH)(s s':Shared):Prop where
 inv:Inv B H s'
 heap:∀a ob,s.heap.get? a=some ob->¬P a->a≠TO->s'.heap.get? a=some ob
 size:s.heap.objs.size<=s'.heap.objs.size
 gens:s'.gens=s.gens
theorem cD.seq (x:cD B TO P H s s')(hL:∀p,P p->∀ob,s.heap.get? p=some ob->bT ob):∀a ob,s.heap.get? a=some ob->a9 ob->¬Trk H (B.hide TO o) a->s'.heap.get? a=some ob:=
 λa ob e q hn=>x.heap a ob e (λp=>(hL a p ob e).1 q) λe'=>hn (Trk.hide.mpr (.inl e'))
theorem cD.make (I:Inv (B.hide TO o) H s)(hk:∀a ob,s.heap.get? a=some ob->¬P a->a≠TO->s'.heap.get? a=some ob)(hz:s.heap.objs.size<=s'.heap.objs.size)
   (hP:∀p,P p->B.g.objs.size<=p/\¬Trk H (B.hide TO o) p)(hL:∀p,P p->∀ob,s.heap.get? p=some ob->bT ob)(hnd:∀q∈B.hid,q.1≠TO)(hg:s'.gens=s.gens)(hos:s'.os=s.os):cD B TO P H s s':=by
 obtain ⟨hT1,hT2,hT3,hT4⟩:=I.hid _ mcs;have tT:Trk H (B.hide TO o) TO:=Trk.hide.mpr (.inl rfl);have ns:∀a ob,s.heap.get? a=some ob->a9 ob->a≠TO->s'.heap.get? a=some ob:=λa ob e q hne=>hk a ob e (λp=>(hL a p ob e).1 q) hne;have sq:∀a ob,s.heap.get? a=some ob->a9 ob->¬Trk H (B.hide TO o) a->s'.heap.get? a=some ob:=λa ob e q hn=>ns a ob e q λe'=>hn (e'▸tT);refine ⟨⟨λa ob e=>hk a ob (I.keep a ob e) (λp=>absurd (Heap.lt_size e) (nlr (hP a p).1)) λq=>?_,ntr I.size hz,λq hq'=>?_,hg▸I.bare,hos.trans I.os,I.nodup,λq hq'=>?_,λp hp=>?_⟩,hk,hz,hg⟩
 . rw [q] at e;rw [hT3] at e;cases e
 . obtain ⟨ps,h1,h2,h3⟩:=I.tabs q hq'
   refine ⟨ps,hk _ _ h1 (λp=>(hP _ p).2 (.inr (.inl (mmr ⟨q,hq',rfl⟩)))) (λe=>?_),h2,λpos cv hc=>?_⟩
   . rw [e,hT1] at h1;cases h1
     obtain ⟨vs,n,e2⟩:=hT2;cases e2
   . obtain ⟨qn,a1,c,oc,vs,t,e1,e2,e3,e4⟩:=h3 pos cv hc
     refine ⟨qn,a1,c,oc,vs,t,e1,hk _ _ e2 (λp=>(hL c p oc e2).2 vs _ _ e3 e4) (λe=>?_),e3,e4⟩;rw [e,hT1] at e2;cases e2;obtain ⟨vs',n,e2⟩:=hT2;rw [e3] at e2;cases e2
 . obtain ⟨h1,h2,h3,h4⟩:=I.hid q (mcm _ hq')
   exact ⟨ns _ _ h1 h2 (hnd q hq'),h2,h3,h4⟩
 . obtain ⟨h1,vs,n,h2,h3⟩:=I.objs p hp
   refine ⟨h1,vs,n,ns _ _ h2 ⟨_,_,rfl⟩ (λe=>hT4 (mmr ⟨p,hp,e⟩)),h3.mono sq λa ha t=>?_⟩;exact Trk.hide.mpr (.inr t)
theorem Inv.rehide (I:Inv (B.hide TO o) H s)(x:cD B TO P H s s')(hL:∀p,P p->∀ob,s.heap.get? p=some ob->bT ob)(ho:s'.heap.get? TO=some o')(hq:a9 o'):Inv (B.hide TO o') H s':=by
 obtain ⟨hT1,hT2,hT3,hT4⟩:=I.hid _ mcs;refine ⟨x.inv.keep,x.inv.size,x.inv.tabs,x.inv.bare,x.inv.os,x.inv.nodup,λq hq'=>?_,λp hp=>?_⟩
 . rcases mcp hq' with rfl | hq'
   . exact ⟨ho,hq,hT3,hT4⟩
   . exact x.inv.hid q hq'
 . obtain ⟨h1,vs,n,h2,h3⟩:=I.objs p hp
   refine ⟨h1,vs,n,x.heap _ _ h2 (λq=>(hL _ q _ h2).1 ⟨_,_,rfl⟩) (λe=>hT4 (mmr ⟨p,hp,e⟩)),h3.mono (x.seq hL) λa ha t=>?_⟩;exact Trk.hide.mpr (Trk.hide.mp t)
set_option genInjectivity false in
set_option genSizeOf false in
structure fP (B:aJ)(o:Obj)(z TI TO i1 i2 l1 l2:Addr)(xs ys:List PV)(deps:AH)(k:Nat)(H:AH)(s:Shared):Prop where
 inv:Inv (B.hide TO o) H s
 pair:∃a b,o=bw a b
 zip:IsZip s.heap z TI TO .none
 ti:IsPair s.heap TI (.ref i1) (.ref i2)
 it1:s.heap.IsListIter i1 l1 k
 it2:s.heap.IsListIter i2 l2 k
 s1:Src (B.hide TO o) deps H s l1 xs
 s2:Src (B.hide TO o) deps H s l2 ys
noncomputable def ZP (z i1 i2:Addr)(p:Addr):Prop:=p=z\/p=i1\/p=i2
theorem ve {z TI TO:Addr}{v:Value}(x:IsZip h z TI TO v):∀ob,h.get? z=some ob->bT ob:=λob e=>by
 rw [x] at e;cases e;exact ⟨(λhh1=>by obtain ⟨vs,n,q⟩:=hh1;exact (by cases q)),λvs q t e=>by cases e;simp⟩
theorem fP.loose {z TI i1 i2 l1 l2:Addr}{deps:AH}(Z:fP B o z TI TO i1 i2 l1 l2 xs ys deps k H s):∀p,ZP z i1 i2 p->∀ob,s.heap.get? p=some ob->bT ob:=λp hp ob e=>by
 rcases hp with rfl | rfl | rfl
 . exact ve Z.zip ob e
 . exact bt Z.it1 ob e
 . exact bt Z.it2 ob e
theorem fP.stable {z TI i1 i2 l1 l2:Addr}{deps:AH}(Z:fP B o z TI TO i1 i2 l1 l2 xs ys deps k H s)(hTI:¬Trk H (B.hide TO o) TI){G:Nat->Prop}(e:Evo (B.hide TO o) (ZP z i1 i2) G deps H s H' s') :
   fP B o z TI TO i1 i2 l1 l2 xs ys deps k H' s':=
 ⟨e.inv,Z.pair,e.own _ _ Z.zip (.inl rfl),e.seq _ _ Z.ti ⟨_,_,rfl⟩ hTI,lP e (.inr (.inl rfl)) Z.it1,lP e (.inr (.inr rfl)) Z.it2,Z.s1.stable e,Z.s2.stable e⟩
noncomputable def bU (xs ys:List PV):List PV:=(xs.zip ys).map λp=>.tup [p.1,p.2]
theorem m7 (h:xs[k]?=none\/ys[k]?=none):bU (xs.drop k) (ys.drop k)=[]:=by
 unfold bU;rcases h with h | h
 . rw [BR (List.getElem?_eq_none_iff.mp h)];rfl
 . rw [BR (List.getElem?_eq_none_iff.mp h),List.zip_nil_right];rfl
theorem tH {x y:PV}(h1:xs[k]?=some x)(h2:ys[k]?=some y):bU (xs.drop k) (ys.drop k)=.tup [x,y]::bU (xs.drop (k+1)) (ys.drop (k+1)):=by
 obtain ⟨a,e1⟩:=List.getElem?_eq_some_iff.mp h1;obtain ⟨b,e2⟩:=List.getElem?_eq_some_iff.mp h2;rw [BH a,BH b,e1,e2]
 rfl
theorem r0 {z TI i1 i2 l1 l2:Addr}{deps:AH}{elts:List Expr}{kk:Nat}(D:ZipApart z TI TO i1 i2 l1 l2)(hnd:∀q∈B.hid,q.1≠TO)(Z:fP B o z TI TO i1 i2 l1 l2 xs ys deps k H s)(hA:A.handled=none)
   (hP:∀p,ZP z i1 i2 p->B.g.objs.size<=p/\¬Trk H (B.hide TO o) p) :
   wpAny (model B.prog B.w) A (pyNext (.ref z)) (λr s₁=>(r=none/\bU (xs.drop k) (ys.drop k)=[]/\cD B TO (ZP z i1 i2) H s s₁)\/
     ∃v x y,r=some v/\bU (xs.drop k) (ys.drop k)=.tup [x,y]::bU (xs.drop (k+1)) (ys.drop (k+1))/\
       wpAny (model B.prog B.w) A (letOwnedTupleGo (.Tuple elts kk pos) (.ref z) v) (λO s₂=>∃o',cD B TO (ZP z i1 i2) H s s₂/\VR s₂.heap (Trk H (B.hide TO o')) v (.tup [x,y])/\fP B o' z TI TO i1 i2 l1 l2 xs ys deps (k+1) H s₂) NoE s₁) NoE s:=by
 obtain ⟨a,b,rfl⟩:=Z.pair;obtain ⟨⟨vs,n,hl1,hv1⟩,hd1⟩:=id Z.s1;obtain ⟨⟨ws,m,hl2,hv2⟩,hd2⟩:=id Z.s2;have hTO:IsPair s.heap TO a b:=(Z.inv.hid _ mcs).1;have hz0:=Heap.lt_size Z.zip
 have mk:∀(h':Heap),(∀c ob,c≠z->c≠TO->c≠i1->c≠i2->s.heap.get? c=some ob->h'.get? c=some ob)->s.heap.objs.size<=h'.objs.size->cD B TO (ZP z i1 i2) H s { s with heap:=h' }:=λh' hk hz=>
   cD.make Z.inv (λc ob e hp hne=>hk c ob (λe'=>hp (.inl e')) hne (λe'=>hp (.inr (.inl e'))) (λe'=>hp (.inr (.inr e'))) e) hz hP Z.loose hnd rfl rfl
 have fin:(vs[k]?=none\/ws[k]?=none)->bU (xs.drop k) (ys.drop k)=[]->wpAny (model B.prog B.w) A (pyNext (.ref z)) (λr s₁=>(r=none/\bU (xs.drop k) (ys.drop k)=[]/\cD B TO (ZP z i1 i2) H s s₁)\/
     ∃v x y,r=some v/\bU (xs.drop k) (ys.drop k)=.tup [x,y]::bU (xs.drop (k+1)) (ys.drop (k+1))/\
       wpAny (model B.prog B.w) A (letOwnedTupleGo (.Tuple elts kk pos) (.ref z) v) (λO s₂=>∃o',cD B TO (ZP z i1 i2) H s s₂/\VR s₂.heap (Trk H (B.hide TO o')) v (.tup [x,y])/\fP B o' z TI TO i1 i2 l1 l2 xs ys deps (k+1) H s₂) NoE s₁) NoE s:=λhe hn=>
   aX (wpAny_pyNext_zip_end hA D Z.zip Z.ti hTO Z.it1 Z.it2 (aS hl1) (aS hl2) he λh' hk hz=>.inl ⟨rfl,hn,mk h' hk hz⟩)
 rcases hv1.at k with ⟨e1,e2⟩ | ⟨v,p,e1,e2,hr1⟩
 . exact fin (.inl (by rw [<-Array.getElem?_toList];exact e1)) (m7 (.inl e2))
 rcases hv2.at k with ⟨f1,f2⟩ | ⟨w,q,f1,f2,hr2⟩
 . exact fin (.inr (by rw [<-Array.getElem?_toList];exact f1)) (m7 (.inr f2))
 refine wpAny_pyNext_zip_item D Z.zip Z.ti hTO Z.it1 Z.it2 (aS hl1) (aS hl2) (by rw [<-Array.getElem?_toList];exact e1) (by rw [<-Array.getElem?_toList];exact f1) λh' a1 a2 a3 a4 a5 a6 a7=>?_;refine .inr ⟨_,p,q,rfl,tH e2 f2,?_⟩;refine wpAny_letOwnedTupleGo_zip a1 λh₂ b1 b2=>?_;have hz2:s.heap.objs.size<=h₂.objs.size:=by rw [b2.1,a6];exact Ax _
 have ox:=mk h₂ (λc ob c1 c2 c3 c4 e=>(b2.2 c c1).trans (a7 c ob c1 c2 c3 c4 e)) hz2;have hTO2:h₂.get? TO=some (bw v w):=(b2.2 TO D.TOz).trans a2;have hI2:Inv (B.hide TO (bw v w)) H { s with heap:=h₂ }:=Z.inv.rehide ox Z.loose hTO2 ⟨_,_,rfl⟩;have up:∀{u:Value} {pp:PV},VR s.heap (Trk H (B.hide TO (bw a b))) u pp->VR h₂ (Trk H (B.hide TO (bw v w))) u pp:=λr=>r.mono (ox.seq Z.loose) λa ha t=>Trk.hide.mpr (Trk.hide.mp t);have ups:∀{u:List Value} {pp:List PV},VRs s.heap (Trk H (B.hide TO (bw a b))) u pp->VRs h₂ (Trk H (B.hide TO (bw v w))) u pp:=λr=>r.mono (ox.seq Z.loose) λa ha t=>Trk.hide.mpr (Trk.hide.mp t)
 have src:∀{l:Addr} {zs:List PV} {us:Array Value} {nn:Nat},s.heap.get? l=some (al us nn)->l≠TO->VRs s.heap (Trk H (B.hide TO (bw a b))) us.toList zs->(¬Trk H (B.hide TO (bw a b)) l\/((l,zs)∈deps/\(l,zs)∈H))->Src (B.hide TO (bw v w)) deps H { s with heap:=h₂ } l zs:=λe hne hv hd=>
   ⟨⟨_,_,ox.heap _ _ e (λq=>(Z.loose _ q _ e).1 ⟨_,_,rfl⟩) hne,ups hv⟩,hd.imp (λh t=>h (Trk.hide.mpr (Trk.hide.mp t))) id⟩
 refine ⟨_,ox,?_,hI2,⟨_,_,rfl⟩,b1,(b2.2 TI D.TIz).trans (a7 _ _ D.TIz D.TITO D.TIi1 D.TIi2 Z.ti),?_,?_,src hl1 D.l1TO hv1 hd1,src hl2 D.l2TO hv2 hd2⟩
 . refine .tup (vs:=#[v,w]) (n:=0) ((b2.2 _ (AL hz0)).trans a5) (λt=>?_) (.cons (up hr1) (.cons (up hr2) .nil))
   exact absurd (d2 Z.inv (Trk.hide.mpr (Trk.hide.mp t))) (Az _)
 . obtain ⟨oi,x1,x2⟩:=a3;exact ⟨oi,(b2.2 _ D.i1z).trans x1,x2⟩
 . obtain ⟨oi,x1,x2⟩:=a4;exact ⟨oi,(b2.2 _ D.i2z).trans x1,x2⟩
end
section
variable {TO:Addr}{o':Obj}
noncomputable abbrev aC3 (B:aJ)(TO:Addr)(fi:aP)(d:Nat)(tgt:Expr)(ifs:List Expr)(elt:Expr)(D:Addr)(deps:AH):List PV->List PV->St->AH->(LQ)->Prop:=pZ B (λo=>(TO,o)::B.hid) fi d tgt ifs elt D deps
theorem cD.tr {H₀:AH}{s₀:Shared}(t:Tr noU s H s₀ H₀ B)(x:cD B TO P H s s')(hP:∀p,P p->s₀.heap.objs.size<=p)(hT:s₀.heap.objs.size<=TO):Tr noU s' H s₀ H₀ B:=
 ⟨x.inv,⟨λa ob e hn=>x.heap a ob (t.step.heap a ob e hn) (λq=>absurd (Heap.lt_size e) (nlr (hP a q))) λq=>absurd (Heap.lt_size e) (nlr (by rw [q];exact hT)),ntr t.step.size x.size,
   λi y e=>by rw [x.gens];exact t.step.gens i y e⟩,t.keys⟩
theorem cD.frame (F:aA s H σ env (B.hide TO o))(x:cD B TO P H s s')(hL:∀p,P p->∀ob,s.heap.get? p=some ob->bT ob)(hT:∀ob,s.heap.get? TO=some ob->a9 ob)(h1:¬P env.locals)(h2:∀y c,env.cells.lookup y=some c->¬P c):aA s' H σ env (B.hide TO o'):=by
 have sq:∀a ob,s.heap.get? a=some ob->a9 ob->¬Trk H (B.hide TO o) a->s'.heap.get? a=some ob:=x.seq hL;have tt:∀a,a<s.heap.objs.size->Trk H (B.hide TO o') a->Trk H (B.hide TO o) a:=λa O t=>Trk.hide.mpr (Trk.hide.mp t);refine ⟨F.fresh,F.apart,F.keys,F.nodup,?_,λy ov h=>?_,F.glob⟩
 . obtain ⟨m,⟨ob,es,ep,ho,hd,r⟩,h2⟩:=F.ns
   refine ⟨m,⟨ob,es,ep,x.heap _ _ ho h1 (λe=>?_),hd,r⟩,λy p hy=>(h2 y p hy).mono sq tt⟩;obtain ⟨vs,n,e2⟩:=hT _ (e▸ho);rw [hd] at e2;cases e2
 . obtain ⟨c,w,hc,⟨ob,ho,hd⟩,hv⟩:=F.cell y ov h
   refine ⟨c,w,hc,⟨ob,x.heap _ _ ho (h2 y c hc) (λe=>?_),hd⟩,hv.mono sq tt⟩;obtain ⟨vs,n,e2⟩:=hT _ (e▸ho);rw [hd] at e2;cases e2
theorem Tr.backZ {H₁:AH}(t₁:Tr noU s₁ H₁ s H B)(t:Tr (bJ env) s' H' s₁ H₁ (B.hide TO o))(hf:∀a,bJ env a->s.heap.objs.size<=a)(hT:s.heap.objs.size<=TO):Tr noU s' H' s H B:=
 ⟨t.inv.unhide,⟨λa ob e hn=>by
     have ha:=Heap.lt_size e;refine t.step.heap a ob (t₁.step.heap a ob e hn) λq=>?_;rcases q with q | q
     . rcases Trk.hide.mp q with q | q
       . exact absurd ha (nlr (by rw [q];exact hT))
       . exact hn (.inl (Trk.new t₁.keys ha q))
     . exact absurd ha (nlr (hf a q)),
   ntr t₁.step.size t.step.size,λi x e=>t.step.gens i x (t₁.step.gens i x e)⟩,λa ha=>by
   rcases t.keys a ha with q | q
   . exact t₁.keys a q
   . exact .inr (ntr t₁.step.size q)⟩
inductive ZJ (B:aJ)(TO z TI i1 i2 l1 l2:Addr)(xs ys:List PV)(deps:AH)(cenv:Env)(s₀:Shared)(items:List PV)(o:Obj)(H:AH)(s':Shared):Prop
 | mk (k:Nat) (e:items=bU (xs.drop k) (ys.drop k)) (Z:fP B o z TI TO i1 i2 l1 l2 xs ys deps k H s') (p:∀p,(ZP z i1 i2 p\/p=TI)->s₀.heap.objs.size<=p/\p<s'.heap.objs.size/\¬Trk H (B.hide TO o) p/\p≠cenv.locals)
theorem xm {elts:List Expr}{kk:Nat}{tpos:Pos}{cenv:Env}{deps:AH}{z TI i1 i2 l1 l2:Addr}{s₀:Shared}(hA:A.handled=none)(I₀:Inv B H s₀)(ZD:ZipApart z TI TO i1 i2 l1 l2)(hnd:∀q∈B.hid,q.1≠TO)(hT:s₀.heap.objs.size<=TO)
   (hCl:∀y c,cenv.cells.lookup y=some c->c<s₀.heap.objs.size)(hU:∀a,bJ cenv a->s₀.heap.objs.size<=a):rO B (λo=>(TO,o)::B.hid) A deps (.Tuple elts kk tpos) (.ref z) cenv H s₀ (ZJ B TO z TI i1 i2 l1 l2 xs ys deps cenv s₀) where
 self:=λitems o H s E Q j q=>by
   obtain ⟨k,e,Z,O⟩:=j;exact wpAny_pyIter_zip Z.zip q
 next:=λitems o σ H₂ s₂ j T₂ F₂=>by
   obtain ⟨k,e,Z,hP⟩:=j;subst e;have hPa:∀p,ZP z i1 i2 p->s₀.heap.objs.size<=p:=λp hp=>(hP p (.inl hp)).1;have hLW:¬ZP z i1 i2 cenv.locals:=λhp=>(hP _ (.inl hp)).2.2.2 rfl;have hCW:∀y c,cenv.cells.lookup y=some c->¬ZP z i1 i2 c:=λy c hy hp=>absurd (hCl y c hy) (nlr (hPa c hp))
   have fr:∀{o' s₃},cD B TO (ZP z i1 i2) H₂ s₂ s₃->aA s₃ H₂ σ cenv (B.hide TO o'):=λox=>ox.frame F₂ Z.loose (λob e=>by
     have x:=Z.inv.hid _ mcs
     exact Option.some.inj (e.symm.trans x.a)▸x.b) hLW hCW
   refine wpm (r0 (elts:=elts) (kk:=kk) (pos:=tpos) ZD hnd Z hA (λp hp=>⟨ntr I₀.size (hPa p hp),(hP p (.inl hp)).2.2.1⟩)) (λr s₃ hr=>?_);rcases hr with ⟨e,hnil,ox⟩ | ⟨v,x,y,e,hcons,hv⟩
   . exact .done hnil e (ox.tr T₂ hPa hT) (fr (o':=o) ox).unhide
   . refine .one v _ _ hcons e (wpm hv (λO s₄ hh1=>?_))
     obtain ⟨o',ox,hvr,Z₄⟩:=hh1;have hP₄:∀p,(ZP z i1 i2 p\/p=TI)->p<s₄.heap.objs.size/\¬Trk H₂ (B.hide TO o') p:=λp hp=>⟨nlt (hP p hp).2.1 ox.size,λt=>(hP p hp).2.2.1 (Trk.hide.mpr (Trk.hide.mp t))⟩
     exact ⟨o',Z₄.inv,fr ox,hvr,λH' s' t hd=>⟨(ox.tr T₂ hPa hT).backZ t hU hT,k+1,rfl,Z₄.stable (hP₄ _ (.inr rfl)).2 (G:=λO=>False) (Evo.of_tr' (fr ox) t (λp hp=>⟨qW hLW hCW p hp,(hP₄ p (.inl hp)).2⟩) hd),
       λp hp=>⟨(hP p hp).1,nlt (hP₄ p hp).1 t.step.size,λq=>(hP₄ p hp).2 (Trk.new t.keys (hP₄ p hp).1 q),(hP p hp).2.2.2⟩⟩⟩
end
section
inductive l6 (B:aJ)(H:AH)(s:Shared)(TO:Addr)(H₁:AH)(q:List PV->LQ)(itv:Value)(s₂:Shared):Prop
 | mk (o:Obj) (z TI i1 i2 l1 l2:Addr) (xs ys:List PV) (deps:AH) (e:itv=.ref z) (t:Tr noU s₂ H₁ s H B) (ZD:ZipApart z TI TO i1 i2 l1 l2) (nd:∀q∈B.hid,q.1≠TO) (Z:fP B o z TI TO i1 i2 l1 l2 xs ys deps 0 H₁ s₂)
   (p:∀p,(ZP z i1 i2 p\/p=TI)->s.heap.objs.size<=p/\p<s₂.heap.objs.size/\¬Trk H₁ (B.hide TO o) p) (hT:s.heap.objs.size<=TO/\TO<s₂.heap.objs.size) (dp:∀p∈deps,p∈H₁) (hq:q xs ys deps)
theorem l6.toC {TO:Addr}{H₁:AH}{elts:List Expr}{kk:Nat}{tpos:Pos}{q:(ι:Type)->(ι->List (Addr×Obj))->IQ}{itv:Value}{s₂:Shared}(hA:A.handled=none)(I:Inv B H s)
   (m:l6 B H s TO H₁ (λxs ys deps=>q Obj (λo=>(TO,o)::B.hid) (bU xs ys) deps H₁) itv s₂):qA B A (.Tuple elts kk tpos) H s q itv s₂:=by
 obtain ⟨o,z,TI,i1,i2,l1,l2,xs,ys,deps,e,t,ZD,nd,Z,p,hT,dp,hq⟩:=m;subst e
 exact ⟨_,_,o,_,deps,H₁,t,Z.inv,λa ha x=>(Trk.hide.mp x).elim (λe=>absurd ha (nlr (by rw [e];exact hT.1))) (Trk.new t.keys ha),λcenv D s₄ T hL hC hU=>⟨_,xm hA I ZD nd hT.1 hC hU,0,rfl,
   Z.stable (p TI (.inr rfl)).2.2 (G:=λO=>False) (Evo.of_tr0 T (λa ha=>(p a (.inl ha)).2.2) λx hx=>.tail _ (dp x hx)),
   λa ha=>⟨(p a ha).1,nlt (p a ha).2.1 T.step.size,λq=>(p a ha).2.2 (Trk.new T.keys (p a ha).2.1 q),λe=>absurd (p a ha).2.1 (nlr (e▸hL))⟩⟩,hq⟩
theorem l6.back {s₀:Shared}{TO:Addr}{H₁:AH}{q:List PV->LQ}{itv:Value}{s₂:Shared}(T:Tr noU s H₁ s₀ H B)(m:l6 B H₁ s TO H₁ q itv s₂):l6 B H s₀ TO H₁ q itv s₂:=by
 obtain ⟨o,z,TI,i1,i2,l1,l2,xs,ys,deps,e,t,ZD,nd,Z,p,hT,dp,hq⟩:=m;exact ⟨o,z,TI,i1,i2,l1,l2,xs,ys,deps,e,T.trans t,ZD,nd,Z,λa ha=>⟨ntr T.step.size (p a ha).1,(p a ha).2⟩,⟨ntr T.step.size hT.1,hT.2⟩,dp,hq⟩
theorem rP {w:PV}{xs ys:List PV}{q:Addr->List PV->LQ}{vb:Value}(I:Inv B H s)(hv:aT H v xs)(hw:aT H w ys)(r1:VR s.heap (Trk H B) va v)(r2:VR s.heap (Trk H B) vb w)
   (hq:∀TO,q TO xs ys (cC v xs++cC w ys)) :
   wpAny (model B.prog B.w) A (call (.type "zip") [va,vb]) (λx s₁=>wpAny (model B.prog B.w) A (pyIter x) (λitv s₂=>∃TO,l6 B H s TO H (q TO) itv s₂) E s₁) E s:=by
 obtain ⟨l1,rfl,hs1,hd1⟩:=Src.of hv I r1;obtain ⟨l2,rfl,hs2,hd2⟩:=Src.of hw I r2;obtain ⟨⟨vs,n,hl1,hv1⟩,ht1⟩:=id hs1;obtain ⟨⟨ws,m,hl2,hv2⟩,ht2⟩:=id hs2;refine call_zip_2 (aS hl1) (aS hl2) λh' a1 a2 a3 a4 a5 a6 a7=>?_;refine wpAny_pyIter_zip a1 ?_;have hz:s.heap.objs.size<=h'.objs.size:=by rw [a6];exact Ad _ _
 have t:Tr noU { s with heap:=h' } H s H B:=Tr.ext I a7 hz rfl rfl;have lt1:=Heap.lt_size hl1;have lt2:=Heap.lt_size hl2;generalize hN:s.heap.objs.size=N at *;have ne:∀{a b:Addr},@LT.lt Nat _ a b->a≠b:=λh e=>absurd h (by rw [e];exact Az _);have hT3:s.heap.objs.size<=N+3:=by rw [hN];exact Ad _ _
 have I3:Inv (B.hide (N+3) (bw .none .none)) H { s with heap:=h' }:=I.hide t hT3 a3 ⟨_,_,rfl⟩ a7
 have notT:∀{p:Addr},N<=p->p≠N+3->¬Trk H (B.hide (N+3) (bw .none .none)) p:=λ{p} h1 h2 t=>by
   rcases Trk.hide.mp t with t | t
   . exact h2 t
   . exact absurd (d2 I t) (by rw [hN];exact nlr h1)
 have ap:ZipApart (N+4) (N+2) (N+3) N (N+1) l1 l2:=by
   have e1:@LT.lt Nat _ l1 N:=lt1;have e2:@LT.lt Nat _ l2 N:=lt2;constructor
   . exact ne (AK ∅ N)
   . exact ne (AK ∅ N)
   . exact ne (AE ∅)
   . exact ne (AK ∅ N)
   . exact ne (AK ∅ N)
   . exact (ne (AE (n:=N) (by decide:0<2))).symm
   . exact (ne (AK (by decide:1<2) N)).symm
   . exact (ne (AE (n:=N) (by decide:0<3))).symm
   . exact (ne (AK (by decide:1<3) N)).symm
   . exact ne (Au N)
   . exact ne (nlt e1 (Ad _ _))
   . exact ne (nlt e1 (Ad _ _))
   . exact ne e1
   . exact ne (nlt e1 (Ad _ _))
   . exact ne (nlt e2 (Ad _ _))
   . exact ne (nlt e2 (Ad _ _))
   . exact ne e2
   . exact ne (nlt e2 (Ad _ _))
 have src:∀{l:Addr} {zs:List PV} {us:Array Value} {nn:Nat} {dd:AH},s.heap.get? l=some (al us nn)->l≠N+3->VRs s.heap (Trk H B) us.toList zs->(¬Trk H B l\/((l,zs)∈dd/\(l,zs)∈H))->(∀x∈dd,x∈cC v xs++cC w ys)->Src (B.hide (N+3) (bw .none .none)) (cC v xs++cC w ys) H { s with heap:=h' } l zs:=λe hne hvv hd hsub=>
   ⟨⟨_,_,a7 _ _ e,hvv.hide hT3 a7⟩,hd.imp (λh t=>(Trk.hide.mp t).elim hne h) λh=>⟨hsub _ h.1,h.2⟩⟩
 refine ⟨N+3,_,N+4,N+2,N,N+1,l1,l2,xs,ys,_,rfl,t,ap,λq hq' e=>?_,⟨I3,⟨_,_,rfl⟩,a1,a2,a4,a5,src hl1 ap.l1TO hv1 ht1 (λx hx=>List.mem_append_left _ hx),src hl2 ap.l2TO hv2 ht2 (λx hx=>List.mem_append_right _ hx)⟩,?_,⟨hT3,?_⟩,λp hp=>?_,hq _⟩
 . have:=d2 I (.inr (.inr (mmr ⟨q,hq',e⟩)))
   exact absurd this (nlr hT3)
 . show ∀p,(ZP (N+4) N (N+1) p\/p=N+2)->s.heap.objs.size<=p/\p<h'.objs.size/\_
   rw [hN,a6]
   rintro p ((rfl | rfl | rfl) | rfl)
   . exact ⟨Ad _ _,AK ∅ N,notT (Ad _ _) ap.TOz.symm⟩
   . exact ⟨Ab _,AE ∅,notT (Ab _) ap.TOi1.symm⟩
   . exact ⟨Ad _ _,AK ∅ N,notT (Ad _ _) ap.TOi2.symm⟩
   . exact ⟨Ad _ _,AK ∅ N,notT (Ad _ _) ap.TITO⟩
 . show N+3<h'.objs.size
   rw [a6];exact Nat.lt_succ_of_lt (Au _)
 . rcases mpp hp with hp | hp
   . exact hd1 p hp
   . exact hd2 p hp
inductive aE5 (H₂:AH)(q:Addr->List PV->LQ)(f:PV)(vs:List PV):Prop
 | mk (v w:PV) (xs ys:List PV) (hf:f=.raw (.type "zip")) (hv:vs=[v,w]) (h1:aT H₂ v xs) (h2:aT H₂ w ys) (h:∀TO,q TO xs ys (cC v xs++cC w ys))
end
section
theorem gC {ι:Type}{hf:ι->List (Addr×Obj)}{elt:Expr}{ifs:List Expr}{deps:AH}{Q:LQ}{σt:Option PV->St}{f:PV->PV}{p:PV->Bool}(hd:∀p∈deps,p∈H)(items:List PV):∀(acc:List PV) (o:Option PV),
   (∀ob,∀x∈items,∀o H (K:SQ),K (σt (some x)) H->Asg (B.hids (hf ob)) fi d NoE tgt x (σt o) H K)->
   (∀ob,∀x∈items,∀acc (K:BQ),K (p x) ((D,acc)::H)->aAi (B.hids (hf ob)) fi d ifs (σt (some x)) ((D,acc)::H) K)->
   (∀ob,∀x∈items,∀acc (K:PQ),K (f x) ((D,acc)::H)->Ev NoE (B.hids (hf ob)) d fi (σt (some x)) ((D,acc)::H) elt K)->acc.length+items.length<=sizeLine->Q (acc++(items.filter p).map f) H->pZ B hf fi d tgt ifs elt D deps items acc (σt o) H Q:=by
 induction items with
 | nil=>exact λacc o O O O O q=>Br acc▸q
 | cons x xs ih=>
   intro acc o hA hT hE hz q ob;refine hA ob x (.head _) o _ _ (hT ob x (.head _) acc _ ?_);have go:=λacc'=>ih acc' (some x) (λob y hy=>hA ob y (.tail _ hy)) (λob y hy=>hT ob y (.tail _ hy)) (λob y hy=>hE ob y (.tail _ hy))
   cases hp:p x with
   | true=>
     rw [List.filter_cons_of_pos hp,Bs,List.append_cons] at q;exact hE ob x (.head _) acc _ ⟨ntr (Ad _ _) hz,H,rfl,hd,go _ (by rw [Bl,Ap,Ak [f x].length];exact hz) q⟩
   | false=>
     rw [List.filter_cons_of_neg (by rw [hp];exact B9)] at q;exact ⟨H,rfl,hd,go _ (ntr (Ax _) hz) q⟩
theorem zH {TO:Addr}{elt:Expr}{deps:AH}{Q:LQ}{σt:Option PV->St}{f:PV->PV}(hd:∀p∈deps,p∈H)(items acc:List PV)(o:Option PV)
   (hA:∀ob,∀x∈items,∀o H (K:SQ),K (σt (some x)) H->Asg (B.hide TO ob) fi d NoE tgt x (σt o) H K)
   (hE:∀ob,∀x∈items,∀acc (K:PQ),K (f x) ((D,acc)::H)->Ev NoE (B.hide TO ob) d fi (σt (some x)) ((D,acc)::H) elt K)(hz:acc.length+items.length<=sizeLine)(q:Q (acc++items.map f) H):aC3 B TO fi d tgt [] elt D deps items acc (σt o) H Q:=
 gC (p:=λO=>true) hd items acc o hA (λO O O O O k=>k) hE hz (by rw [List.filter_eq_self.mpr λO O=>rfl];exact q)
theorem eU {elt:Expr}{deps:AH}{Q:LQ}{σt:Option PV->St}{f:PV->PV}
   (hA:∀x o H (K:SQ),K (σt (some x)) H->Asg B fi d NoE tgt x (σt o) H K)(hd:∀p∈deps,p∈H)(items acc:List PV)(o:Option PV)
   (hE:∀x∈items,∀acc (K:PQ),K (f x) ((D,acc)::H)->Ev NoE B d fi (σt (some x)) ((D,acc)::H) elt K)(hz:acc.length+items.length<=sizeLine)(q:Q (acc++items.map f) H):xX B fi d tgt [] elt D deps items acc (σt o) H Q:=
 gC (p:=λO=>true) hd items acc o (λO x O=>hA x) (λO O O O O k=>k) (λO=>hE) hz (by rw [List.filter_eq_self.mpr λO O=>rfl];exact q)
theorem qk {elt c:Expr}{deps:AH}{Q:LQ}{σt:Option PV->St}{f:PV->PV}{p:PV->Bool}
   (hA:∀x o H (K:SQ),K (σt (some x)) H->Asg B fi d NoE tgt x (σt o) H K)(hd:∀p∈deps,p∈H)(items acc:List PV)(o:Option PV)
   (hT:∀x∈items,∀acc (K:BQ),K (p x) ((D,acc)::H)->Tst B fi d NoE c (σt (some x)) ((D,acc)::H) K)
   (hE:∀x∈items,∀acc (K:PQ),K (f x) ((D,acc)::H)->Ev NoE B d fi (σt (some x)) ((D,acc)::H) elt K)(hz:acc.length+items.length<=sizeLine)(q:Q (acc++(items.filter p).map f) H):xX B fi d tgt [c] elt D deps items acc (σt o) H Q:=
 gC hd items acc o (λO x O=>hA x) (λO=>hT) (λO=>hE) hz q
theorem lM {pos':Pos}{value:Expr}
   (h:Ev E B d fi σ H value λv H₁=>∃k σ',Rep x v k σ σ'/\bM fi k/\Qn σ' H₁)
   (hs:∀env,aY B fi env->swapsWith value (some (.Name x pos')) pos.line env=pure false):X B fi d E (.Assign [.Name x pos'] value pos) σ H Qn Qf:=λA s env e R I F=>by
 refine wpAny_Assign_Name (wpm (h A s env e R I F) (λv s₁ hh1=>?_)) (hs env e);obtain ⟨p,H₁,t₁,r₁,k,σ',hr,hk,q⟩:=hh1;exact wpm (dM e t₁.inv (F.tr I t₁) r₁ hr hk) (λO s₂ hh1=>by obtain ⟨t₂,F₂⟩:=hh1;exact ⟨σ',H₁,t₁.up.trans t₂,F₂,.inl ⟨rfl,q⟩⟩)
theorem kT {p:Pos}{elt:Expr}{gens:List Comprehension}{cp:Pos}{line:Nat}(e:aY B fi env)(hk:fi.scope.names.lookup x=some .cell):swapsWith (.ListComp elt gens scope cp) (some (.Name x p)) line env=pure false:=by
 show (pure (env.blockKind==.function && env.kindOf x==some .local && p.line==cp.line && !(scope.names.any λ(n,k)=>n==x && (k==.local || k==.cell))):Sem Bool)=pure false;have:env.kindOf x=some .cell:=by unfold Env.kindOf;rw [e.scope];exact hk
 rw [this];have h2:((some NameKind.cell:Option NameKind)==some .local)=false:=rfl;rw [h2,Bool.and_false,Bool.false_and,Bool.false_and]
theorem u2 {a b:Int}(hb:0<b)(ha:¬(a==0 || a==1)=true)(ha':¬(a==-1)=true)(hz:((Builtin.Int.intBits a:Nat):Int)*b<=100000000)(h:Q (.int (a ^ b.toNat)) H):V2 H E B d (.int b) (.int a) (binaryOp .Pow) Q:=λA s R I va vb r1 r2=>by
 obtain ⟨O,rfl⟩:=r1.inv;obtain ⟨O,rfl⟩:=r2.inv;refine AutoIntOps.pow_4 (Cg ‹_›) (by simp;(exact CA ‹_›)) ha ha' (by unfold Builtin.Int.intTooBig bitsLine;simp;lia) ?_;exact ⟨_,_,Tr.tok I _,.int _ _,h⟩
end
section
theorem aD4 {P Q:Prop}(h:Q):if false=true then P else Q:=by rw [if_neg B9];exact h
theorem aDw {P Q:Prop}(h:P):if true=true then P else Q:=by rw [if_pos rfl];exact h
theorem aAm {P Q:Prop}(h:Q):if (!true)=true then P else Q:=by rw [if_neg ∅];exact h
theorem aBp {P Q:Prop}(h:Q):if (BoolOp.Or==BoolOp.And)=true then P else Q:=by rw [if_neg ∅];exact h
theorem aBe {P Q:Prop}(h:P):if (BoolOp.And==BoolOp.And)=true then P else Q:=by rw [if_pos ∅];exact h
end
noncomputable def aJ.flat (B:aJ)(g:Heap)(hk:∀a o,B.g.get? a=some o->g.get? a=some o):aJ:=
 { B with g:=g,inK:=B.inK.keeps hk,nsg:=B.nsg.keeps hk,nsb:=B.nsb.keeps hk,nolimit:=B.nolimit.keeps hk,tabs:=[],tabsHidden:=(λO h=>(by cases h)),low:=(λO h=>(by cases h)),hid:=[] }
structure cX (B:aJ):Prop where
 tabs:B.tabs=[]
 hid:B.hid=[]
theorem cX.trk (h:cX B):¬Trk [] B a:=λt=>by
 rcases t with t | t | t
 . cases t
 . rw [h.tabs] at t;cases t
 . rw [h.hid] at t;cases t
theorem Tr.keeps (h:cX B)(t:Tr noU s' [] s [] B):∀a o,s.heap.get? a=some o->s'.heap.get? a=some o:=λa o e=>t.step.heap a o e λq=>q.elim h.trk False.elim
noncomputable def m5:Option Str->List Value->Prop
 | .none,ws=>ws=[]
 | some x,ws=>∃tk,ws=[.str x tk]
structure gx (B:aJ)(outer:List Env)(cls:String)(msg:Option Str)(s:Shared)(e:Value)(s':Shared):Prop where
 ex:∃ea t ws,e=.ref ea/\Heap.FlyingW B.g outer ea (.type cls) (.ref t) s'.heap/\s'.heap.TupAt t ws/\m5 msg ws/\B.g.get? t=Option.none
 slots:s.heap.UpToSlots s'.heap
 size:s.heap.objs.size<=s'.heap.objs.size
 bare:AllBare s'.gens
 gens:∀(i:Nat) (x:GenState),s.gens[i]?=some x->s'.gens[i]?=some x
 os:s'.os=s.os
noncomputable def fJ (B:aJ)(d:Nat)(f:PV)(args:List PV)(cls:String)(msg:Option Str):Prop:=
 ∀(E:EP) A s,ah A d->Inv B [] s->∀fv vs,VR s.heap (Trk [] B) fv f->VRs s.heap (Trk [] B) vs args->∀outer,A.frames=some outer->s.heap.FunFrames B.g outer->
   (∀e s',gx B outer cls msg s e s'->E e s')->wpAny (model B.prog B.w) A (call fv vs []) (λO O=>False) E s
inductive aBb (msg:Option Str)(cls:String)(s:Shared)(e:Value)(s':Shared):Prop
 | mk (h:Heap) (ws:List Value) (ea:Addr) (k:∀b o,s.heap.get? b=some o->h.get? b=some o) (he:e=.ref ea) (m:Heap.MadeExcOf h s'.heap ea (.type cls) ws) (mi:m5 msg ws) (sz:s.heap.objs.size<=s'.heap.objs.size) (ba:AllBare s'.gens) (gn:∀(i:Nat) (x:GenState),s.gens[i]?=some x->s'.gens[i]?=some x) (ho:s'.os=s.os)
noncomputable def i9 (B:aJ)(env:Env)(outer:List Env)(cls:String)(msg:Option Str)(s:Shared)(e:Value)(s':Shared):Prop:=gx B (env::outer) cls msg s e s'\/aBb msg cls s e s'
noncomputable def XsX (B:aJ)(fi:aP)(d:Nat)(b:List Stmt)(σ:St)(cls:String)(msg:Option Str):Prop:=
 ∀(E:EP) A s env,aY B fi env->ah A d->Inv B [] s->aA s [] σ env B->∀outer,A.frames=some (env::outer)->s.heap.FunFrames B.g (env::outer)->
   (∀e s',i9 B env outer cls msg s e s'->E e s')->wpAny (model B.prog B.w) A (execs b env) (λO O=>False) E s
noncomputable def XsF (B:aJ)(d:Nat)(fi:aP)(H:AH)(σ:St)(b:List Stmt)(Qn:SQ)(Qf:FQ):Prop:=
 ∀A s env,aY B fi env->ah A d->Inv B H s->aA s H σ env B->A.frames=some [env]->env.frame=some env.locals->
   wpAny (model B.prog B.w) A (execs b env) (fc B env H s Qn Qf) NoE s
section
theorem wa {oc:Value}{od:Option Addr}{osl:Array (Option Value)}{fd:FuncData}{cp:Option (Addr×Addr)}{args:List PV}{kw:List (Str×PV)}{bs:List (Str×PV)}{σ₀:St}
   (ho:∀s,Inv B H s->s.heap.get? f=some ⟨oc,od,.func fd,osl⟩)(hbody:fd.body=.stmts body)(hcl:fd.closure=[])(hcr:∀s,Inv B H s->s.heap.CodeRec fd.code fd.qualname)
   (hk:fd.scope.kind=.function)(hco:fd.scope.isCoroutine=false)(hge:fd.scope.isGenerator=false)(hgl:fd.globals=mainGlobals)(hbu:fd.builtins=builtinsNs)
   (hcp:∀c P,cp=some (c,P)->fd.code=.ref c)
   (hb:cI B fd args kw H bs)(hbn:(bs.map (λe=>e.1)).Nodup)(hbk:∀e∈bs,∃k,(e.1,k)∈fd.scope.names/\eh k)(hsn:(fd.scope.names.map (λe=>e.1)).Nodup)(hfree:∀e∈fd.scope.names,e.2≠.free)
   (hi:Ini B bs fd.scope.names σ₀)
   (h:XsF B d ⟨fd.scope,cp,fd.qualname++".<locals>.",λO=>false⟩ H σ₀ body (λO H'=>Q .none H') (PX Q)) :
   ∀A s,ah A (d+1)->A.frames=some []->Inv B H s->∀fv vs kvs,VR s.heap (Trk H B) fv (.raw (.ref f))->VRs s.heap (Trk H B) vs args->dc (Trk H B) s.heap kvs kw->
   wpAny (model B.prog B.w) A (call fv vs kvs) (aN B H s Q) NoE s:=λA s R hfr I fv vs kvs h1 h2 h3=>by
 cases h1
 exact kG ho hbody hcl hcr hk hco hge hgl hbu hcp hb hbn hbk hsn hfree hi R I h2 h3 λenv s₁ x=>
   wpAny_mono (h (A.deeper env) s₁ env x.eok (R.deeper env) x.tr.inv x.frm (Around.frames_deeper hfr) x.fr) (λO O p=>vC I x p) λO O x=>x.elim
theorem ze {oc:Value}{od:Option Addr}{osl:Array (Option Value)}{fd:FuncData}{cp:Option (Addr×Addr)}{args:List PV}{bs:List (Str×PV)}{σ₀:St}{cls:String}{msg:Option Str}(FL:cX B)
   (ho:∀s,Inv B [] s->s.heap.get? f=some ⟨oc,od,.func fd,osl⟩)(hbody:fd.body=.stmts body)(hcl:fd.closure=[])(hcr:∀s,Inv B [] s->s.heap.CodeRec fd.code fd.qualname)
   (hk:fd.scope.kind=.function)(hco:fd.scope.isCoroutine=false)(hge:fd.scope.isGenerator=false)(hgl:fd.globals=mainGlobals)(hbu:fd.builtins=builtinsNs)
   (hcp:∀c P,cp=some (c,P)->fd.code=.ref c)
   (hb:cI B fd args [] [] bs)(hbn:(bs.map (λe=>e.1)).Nodup)(hbk:∀e∈bs,∃k,(e.1,k)∈fd.scope.names/\eh k)(hsn:(fd.scope.names.map (λe=>e.1)).Nodup)(hfree:∀e∈fd.scope.names,e.2≠.free)
   (hi:Ini B bs fd.scope.names σ₀)
   (h:XsX B ⟨fd.scope,cp,fd.qualname++".<locals>.",λO=>false⟩ d body σ₀ cls msg) :
   fJ B (d+1) (.raw (.ref f)) args cls msg:=λE A s R I fv vs h1 h2 outer hfr hfun hE=>by
 cases h1;refine kG ho hbody hcl hcr hk hco hge hgl hbu hcp hb hbn hbk hsn hfree hi R I h2 ⟨.nil,rfl⟩ λenv s₁ x=>?_;obtain ⟨m,hns,O⟩:=x.frm.ns;have hff:s₁.heap.FunFrames B.g (env::outer):=Heap.FunFrames.cons (L:=env.locals) (by rw [x.eok.kindF];(intros;first | contradiction | (intro q;cases q))) x.fr hns x.frm.fresh (hfun.of_keeps λb o hb O=>⟨o,x.keep b o hb,rfl⟩);refine wpAny_mono (h _ (A.deeper env) s₁ env x.eok (R.deeper env) x.tr.inv x.frm outer (Around.frames_deeper hfr) hff (λe s' r=>r)) (λO O x=>x.elim) λe s' r=>?_;have fin:∀(ea t:Addr) (ws:List Value) (h':Heap),e=.ref ea->Heap.FlyingW B.g outer ea (.type cls) (.ref t) h'->h'.TupAt t ws->m5 msg ws->B.g.get? t=Option.none->s'.heap.UpToSlots h'->s₁.heap.UpToSlots s'.heap->s₁.heap.objs.size<=s'.heap.objs.size->s'.heap.objs.size<=h'.objs.size->
     AllBare s'.gens->(∀(i:Nat) (x:GenState),s₁.gens[i]?=some x->s'.gens[i]?=some x)->s'.os=s₁.os->E e { s' with heap:=h' }:=λea t ws h' q1 q2 q3 q4 q5 q6 q7 q8 q9 q10 q11 q12=>
   hE _ _ ⟨⟨ea,t,ws,q1,q2,q3,q4,q5⟩,((Heap.UpToSlots.of_keeps x.keep).trans q7).trans q6,ntr x.tr.step.size (ntr q8 q9),q10,λi y q=>q11 i y (x.tr.step.gens i y q),q12.trans (x.tr.inv.os.trans I.os.symm)⟩
 rcases r with ⟨⟨ea,t,ws,rfl,hfl,htup,hmsg,hnt⟩,hsl,hsz2,hb2,hg2,ho2⟩ | ⟨h₂,ws,ea,hk₂,rfl,hx,hmsg,hsz2,hb2,hg2,ho2⟩
 . exact aX (wpAny_leaves_onW (Around.frames_deeper hfr) x.fr hfl λh' x1 x2 hz=>fin ea t ws h' rfl x1 (htup.of_slots x2) hmsg hnt x2 hsl hsz2 hz hb2 hg2 ho2)
 . exact aX (wpAny_leaves_madeW (Around.frames_deeper hfr) x.fr (λb o q=>hk₂ b o (x.tr.inv.keep b o q)) (hff.of_keeps λb o hb O=>⟨o,hk₂ b o hb,rfl⟩) hx λh' t x1 x2 x3 x4 hz=>fin ea t ws h' rfl x1 x2 hmsg x3 x4 ((Heap.UpToSlots.of_keeps hk₂).trans (Heap.UpToSlots.of_keeps hx.keeps)) hsz2 hz hb2 hg2 ho2)
end
section
variable {cls:String}{msg:Option Str}
theorem i9.back {outer:List Env}{e:Value}(FL:cX B)(I:Inv B [] s)(t:Tr noU s₁ [] s [] B)(r:i9 B env outer cls msg s₁ e s'):i9 B env outer cls msg s e s':=by
 have hk:=t.keeps FL;rcases r with r | ⟨h,ws,ea,hk₂,rfl,hx,hmsg,hsz,hb,hg,ho⟩
 . exact .inl ⟨r.ex,(Heap.UpToSlots.of_keeps hk).trans r.slots,ntr t.step.size r.size,r.bare,λi x q=>r.gens i x (t.step.gens i x q),r.os.trans (t.inv.os.trans I.os.symm)⟩
 . exact .inr ⟨h,ws,ea,λb o q=>hk₂ b o (hk b o q),rfl,hx,hmsg,ntr t.step.size hsz,hb,λi x q=>hg i x (t.step.gens i x q),ho.trans (t.inv.os.trans I.os.symm)⟩
theorem j2 (FL:cX B){t:Expr}{b o:List Stmt}(h:Tst B fi d NoE t σ [] λc H'=>H'=[]/\(if c then XsX B fi d b σ cls msg else XsX B fi d o σ cls msg)):XsX B fi d (.If t b o pos::rest) σ cls msg:=λE A s env e R I F outer hfr hff hE=>by
 refine wpAny_execs_cons (wpAny_mono (Q:=λO O=>False) (E:=E) (wpAny_If (wpAny_mono (h A s env e R I F) (λc s₁ hh1=>?_) λO O x=>x.elim)) (λO O x=>x.elim) λO O x=>x);obtain ⟨H₁,t₁,hH,q⟩:=hh1;subst hH
 have go:∀body,XsX B fi d body σ cls msg->wpAny (model B.prog B.w) A (execs body env) (λO O=>False) E s₁:=λbody hb=>
   hb E A s₁ env e R t₁.inv (F.tr I t₁) outer hfr (hff.of_keeps λb o q O=>⟨o,t₁.keeps FL b o q,rfl⟩) λe s' r=>hE e s' (r.back FL I t₁)
 cases c with
 | true=>exact go b q
 | false=>exact go o q
theorem lT (FL:cX B){func:Expr}{args:List Expr}
   (h:Ev NoE B d fi σ [] func λf H₁=>H₁=[]/\cQ B f/\EvL B fi d NoE args σ [] λvs H₂=>H₂=[]/\fJ B d f vs cls msg)(hp:args.all ax=true)
   (he:∀env,eval (.Call func args [] pos) env=(do callWith pos (<-eval func env) [] (backTo pos (starEach args env)) (backToKw pos (keywordEach [] env)))){env:Env}(e:aY B fi env)(R:ah A d)(I:Inv B [] s)(F:aA s [] σ env B)
   {outer:List Env}(hfr:A.frames=some outer)(hff:s.heap.FunFrames B.g outer)(hE:∀e s',gx B outer cls msg s e s'->E e s'):wpAny (model B.prog B.w) A (eval (.Call func args [] pos) env) (λO O=>False) E s:=by
 refine Call_ (wpAny_mono (h A s env e R I F) (λfv s₁ hh1=>?_) λO O x=>x.elim) (he env);obtain ⟨f,H₁,t₁,q₁,hH,hk,h₁⟩:=hh1;subst hH;refine bD (ar hp (wpAny_mono (ay h₁ hp A s₁ env e R t₁.inv (F.tr I t₁)) (λvs s₂ hh1=>?_) λO O x=>x.elim));obtain ⟨ps,H₂,t₂,l₂,q₂,hH,h₂⟩:=hh1;subst hH;refine ⟨hk A E [] s₂ fv t₂.inv (q₁.tr t₂),?_⟩;have t:=t₁.trans t₂;refine wpm (h₂ E A s₂ R t₂.inv fv vs (q₁.tr t₂) q₂ outer hfr (hff.of_keeps λb o q O=>⟨o,t.keeps FL b o q,rfl⟩) λe s' r=>hE e s' ?_) (λO O x=>x.elim);exact ⟨r.ex,(Heap.UpToSlots.of_keeps (t.keeps FL)).trans r.slots,ntr t.step.size r.size,r.bare,λi x q=>r.gens i x (t.step.gens i x q),r.os.trans (t.inv.os.trans I.os.symm)⟩
theorem gU (FL:cX B){func:Expr}{args:List Expr}{cpos:Pos}
   (h:Ev NoE B d fi σ [] func λf H₁=>H₁=[]/\cQ B f/\EvL B fi d NoE args σ [] λvs H₂=>H₂=[]/\fJ B d f vs cls msg)(hp:autoParam (args.all ax=true) nA)
   (he:autoParam (∀env,eval (.Call func args [] cpos) env=(do callWith cpos (<-eval func env) [] (backTo cpos (starEach args env)) (backToKw cpos (keywordEach [] env)))) nC)
   (hs:autoParam (∀env,swapsWith (.Call func args [] cpos) none pos.line env=pure false) nC):XsX B fi d (.Expr (.Call func args [] cpos) pos::rest) σ cls msg:=λE A s env e R I F outer hfr hff hE=>by
 have hi:interactive env=false:=by unfold interactive;rw [e.kindF];rfl
 refine wpAny_execs_cons ?_;rw [exec_Expr env _ pos hi (hs env)];exact wpAny_bind (wpAny_standAt (wps (lT FL h hp he e R I F hfr hff λe s' r=>hE e s' (.inl r)) (λO O x=>x.elim)))
theorem fI (FL:cX B){npos:Pos}{func:Expr}{args:List Expr}{cpos:Pos}
   (h:Ev NoE B d fi σ [] func λf H₁=>H₁=[]/\cQ B f/\EvL B fi d NoE args σ [] λvs H₂=>H₂=[]/\fJ B d f vs cls msg)(hp:autoParam (args.all ax=true) nA)
   (he:autoParam (∀env,eval (.Call func args [] cpos) env=(do callWith cpos (<-eval func env) [] (backTo cpos (starEach args env)) (backToKw cpos (keywordEach [] env)))) nC)
   (hs:autoParam (∀env,swapsWith (.Call func args [] cpos) (some (.Name x npos)) pos.line env=pure false) nC):XsX B fi d (.Assign [.Name x npos] (.Call func args [] cpos) pos::rest) σ cls msg:=λE A s env e R I F outer hfr hff hE=>by
 refine wpAny_execs_cons (wpAny_mono (Q:=λO O=>False) (E:=E) (wpAny_Assign_Name (wpm (lT FL h hp he e R I F hfr hff λe s' r=>hE e s' (.inl r)) (λO O x=>x.elim)) (hs env)) (λO O x=>x.elim) λO O x=>x)
theorem kc (FL:cX B){newId initId:String}(FC:ExcCallFacts cls newId initId)(FR:ExcRaiseFacts cls){m:Str}{np cpos kp:Pos}(hm:msg=some m)
   (h:Ev NoE B d fi σ [] (.Name x np) λf H₁=>H₁=[]/\f=.raw (.type cls)) :
   XsX B fi d (.Raise (some (.Call (.Name x np) [.Constant (.str m) k kp] [] cpos)) none pos::rest) σ cls msg:=λE A s env e R I F outer hfr hff hE=>by
 subst hm;refine aX (wpAny_mono (Q:=λO O=>False) (E:=λe s'=>s.heap.objs.size<=s'.heap.objs.size->E e s') ?_ (λO O x=>x.elim) λO O x=>x);refine wpAny_execs_cons (wpAny_mono (Q:=λO O=>False) (E:=λe s'=>s.heap.objs.size<=s'.heap.objs.size->E e s') (Raise_madeB FC FR R.handled (wpAny_mono (h A s env e R I F) (λfv s₁ hh1=>?_) λO O x=>x.elim)) (λO O x=>x.elim) λO O x=>x);obtain ⟨f,H₁,t₁,q₁,hH,hf⟩:=hh1;subst hH;subst hf;obtain ⟨O,rfl⟩:=q₁.inv;refine ⟨rfl,?_⟩;have hl:EvL B fi d NoE [.Constant (.str m) k kp] σ [] λvs H₂=>H₂=[]/\vs=[.str m]:=uL ⟨rfl,rfl⟩;refine wpAny_mono (ay hl rfl A s₁ env e R t₁.inv (F.tr I t₁)) (λvs s₂ hh1=>?_) λO O x=>x.elim;obtain ⟨ps,H₂,t₂,l₂,q₂,hH,hps⟩:=hh1;subst hH;subst hps;obtain ⟨v,rfl,r⟩:=q₂.one;obtain ⟨O,rfl⟩:=r.inv;refine ⟨by show 1<=sizeLine;decide,λh' ea hx hz=>hE _ _ (.inr ?_)⟩;have t:=t₁.trans t₂;refine ⟨s₂.heap,_,ea,t.keeps FL,rfl,hx.of,⟨_,rfl⟩,hz,t.inv.bare,t.step.gens,t.inv.os.trans I.os.symm⟩
theorem j4 {v:Value}{np:Pos}{Q:Value->Shared->Prop}(e:aY B fi env)(I:Inv B H s)(F:aA s H σ env B)(hx:(x,NameKind.globalImplicit,some (PV.raw v))∈σ)(h:Q v s)
   (hd:autoParam ((x==("__debug__" : Str))=false) nB):wpAny (model B.prog B.w) A (eval (.Name x np) env) Q E s:=by
 obtain ⟨w,hv,hr⟩:=F.glob x _ hx;have hgn:s.heap.Ns env.globals B.mg:=by rw [e.globals];exact B.nsg.keeps I.keep
 have hvv:=hr (λO=>True) s.heap;cases hvv;have hk:=F.kindOf hx
 have hb:wpAny (model B.prog B.w) A (loadGlobal env x) Q E s:=by
   rcases hv with hv | ⟨h1,h2,h3⟩
   . exact Calls.loadGlobal_global hgn hv h
   . exact Calls.loadGlobal_builtin hgn h1 (by rw [e.builtins];exact B.nsb.keeps I.keep) ((B.boot x h3).trans h2) h
 refine wpAny_Name ?_ hd;exact (loadName_read e.kindF hk).symm▸hb
theorem sW {X N I:String}(FC:ExcCallFacts X N I)(FR:ExcRaiseFacts X)(hc:ExcClass X N I){prog:Program}{w:World}{s:Shared}{np:Pos}{Q:Flow->Shared->Prop}(hh:A.handled=none)
   (hx:wpAny (model prog w) A (eval (.Name x np) env) (λv s₁=>v=.type X/\s₁=s) E s)
   (h:∀h' e,Heap.MadeExc s.heap h' e X []->E (.ref e) { s with heap:=h' }) :
   wpAny (model prog w) A (exec (.Raise (some (.Name x np)) none pos) env) Q E s:=by
 show wpAny (model prog w) A (do standAt pos;raiseStmt env (some (do let v<-eval (.Name x np) env;standAt pos;pure v)) none) Q E s;refine wpAny_bind (wpAny_standAt ?_);unfold raiseStmt;dsimp only;refine wpAny_bind (wpAny_bind (wpAny_mono hx (λv s₁ h₁=>wpAny_bind (wpAny_standAt (wpAny_pure ?_))) λO O e=>e));obtain ⟨rfl,hs₁⟩:=h₁;subst s₁;refine wpAny_bind (wpAny_pure ?_);dsimp only;refine wpAny_bind (wpAny_holding ?_);unfold excFromValue isExcClass;refine wpAny_bind (wpAny_bind (wpAny_pure ?_));rw [if_pos rfl,FR.isExc];refine wpAny_pure ?_;rw [if_pos rfl];obtain ⟨hp,g,dd,tk,os⟩:=s;refine wpAny_bind (wpAny_call_exc FC (rest:=[]) (hrest:=Ae _) λh' e hn=>?_);obtain ⟨t,he,O⟩:=hn.there;have hT:(⟨h',g,dd,tk,os⟩:Shared).TypeIs (.ref e) X:=(show ∃o,h'.get? e=some o/\o.cls=.type X from ⟨_,he,rfl⟩);refine wpAny_bind (wpAny_isInstance hT FR.isExc ?_);rw [if_neg ∅];refine wpAny_pure ?_
 first | (refine wpAny_bind (m:=isType (.type X)) (wpAny_pure ?_)) | (refine wpAny_bind (wpAny_pure ?_))
 first | (rw [if_pos rfl]) | (simp only [if_true]) | dsimp only
 refine wpAny_bind (wpAny_holding ?_);unfold raisedFor
 first | (rw [if_neg ∅]) | skip
 first | (refine wpAny_bind (wpAny_typeOf hT ?_)) | (refine wpAny_bind ?_;refine wpAny_bind (wpAny_typeOf hT ?_))
 refine wpAny_bind (call_issubclass (issubclass_self hc FC.sub) ?_)
 first | (refine wpAny_bind (wpAny_truthy_bool ?_)) | (refine wpAny_truthy_bool ?_) | (dsimp only [wants];first | (refine wpAny_bind (wpAny_truthy_bool ?_)) | (refine wpAny_truthy_bool ?_))
 first | (rw [if_pos rfl]) | (simp only [if_true]) | skip
 refine wpAny_pure ?_;unfold setFlight raiseNew;refine wpAny_bind (wpAny_bind (wpAny_field (i:=1) (x:=Value.none) he rfl rfl ?_));rw [if_neg ∅];refine wpAny_pure (wpAny_bind (wpAny_handled ?_));rw [hh]
 first
   | exact wpAny_throw (h h' e hn)
   | exact wpAny_bind (wpAny_pure (wpAny_throw (h h' e hn)))
theorem sh (FL:cX B){newId initId:String}(FC:ExcCallFacts cls newId initId)(FR:ExcRaiseFacts cls)(hc:ExcClass cls newId initId){np:Pos}(hm:msg=none)(hx:(x,NameKind.globalImplicit,some (PV.raw (.type cls)))∈σ)(hd:autoParam ((x==("__debug__" : Str))=false) nB) :
   XsX B fi d (.Raise (some (.Name x np)) none pos::rest) σ cls msg:=λE A s env e R I F outer hfr hff hE=>by
 subst hm;refine aX (wpAny_mono (Q:=λO O=>False) (E:=λe s'=>s.heap.objs.size<=s'.heap.objs.size->E e s') ?_ (λO O x=>x.elim) λO O x=>x);refine wpAny_execs_cons (wpAny_mono (Q:=λO O=>False) (E:=λe s'=>s.heap.objs.size<=s'.heap.objs.size->E e s') (sW FC FR hc R.handled ?_ λh' ea hn=>?_) (λO O x=>x.elim) λO O x=>x)
 . exact j4 e I F hx ⟨rfl,rfl⟩ hd
 . exact λhz=>hE _ _ (.inr ⟨s.heap,_,ea,λO O q=>q,rfl,hn.of,rfl,hz,I.bare,λO O q=>q,rfl⟩)
theorem ae.callX (FL:cX B){name:Str}(h:ae dV kV k name f cdv B){args:List PV}{bs:List (Str×PV)}{nm:List Str}{σ₀:St}
   (hb:∀doc pm an ct,cI B (bR name k dV kV doc pm an cdv ct) args [] [] bs)(hnm:bs.map (λe=>e.1)=nm)(hc:bV nm (aI (aL k))=true)
   (hi:Ini B bs (aI (aL k)).names σ₀)(hx:XsX B (gR k name) d (a8 (aL k)) σ₀ cls msg):fJ B (d+1) (.raw (.ref f)) args cls msg:=by
 obtain ⟨oc,od,osl,doc,pm,an,ct,ho⟩:=h.at_;exact ze FL (fd:=bR name k dV kV doc pm an cdv ct) (cp:=none) (λs I=>I.keep _ _ ho) rfl rfl (λs I=>h.code.keeps I.keep) (gL hc) (kE hc) (iY hc) rfl rfl (λO O h=>(by cases h)) (hb doc pm an ct)
   (by rw [hnm];exact e8 hc) (λe he=>ik hc _ (by rw [<-hnm];exact mmr ⟨e,he,rfl⟩)) (fG hc) (gN hc) hi hx
theorem zj {name:Str}(h:ae dV kV k name f cdv B){args:List PV}{kw bs:List (Str×PV)}{nm:List Str}{σ₀:St}
   (hb:∀doc pm an ct,cI B (bR name k dV kV doc pm an cdv ct) args kw H bs)(hnm:bs.map (λe=>e.1)=nm)(hc:bV nm (aI (aL k))=true)
   (hi:Ini B bs (aI (aL k)).names σ₀)(hx:XsF B d (gR k name) H σ₀ (a8 (aL k)) (λO H'=>Q .none H') (PX Q)) :
   ∀A s,ah A (d+1)->A.frames=some []->Inv B H s->∀fv vs kvs,VR s.heap (Trk H B) fv (.raw (.ref f))->VRs s.heap (Trk H B) vs args->dc (Trk H B) s.heap kvs kw->
   wpAny (model B.prog B.w) A (call fv vs kvs) (aN B H s Q) NoE s:=by
 obtain ⟨oc,od,osl,doc,pm,an,ct,ho⟩:=h.at_;exact wa (fd:=bR name k dV kV doc pm an cdv ct) (cp:=none) (λs I=>I.keep _ _ ho) rfl rfl (λs I=>h.code.keeps I.keep) (gL hc) (kE hc) (iY hc) rfl rfl (λO O h=>(by cases h)) (hb doc pm an ct)
   (by rw [hnm];exact e8 hc) (λe he=>ik hc _ (by rw [<-hnm];exact mmr ⟨e,he,rfl⟩)) (fG hc) (gN hc) hi hx
theorem ae.flat {name:Str}(h:ae dV kV k name f cdv B){g:Heap}{hk:∀a o,B.g.get? a=some o->g.get? a=some o}:ae dV kV k name f cdv (B.flat g hk):=by
 obtain ⟨oc,od,osl,doc,pm,an,ct,ho⟩:=h.at_;exact ⟨⟨oc,od,osl,doc,pm,an,ct,hk _ _ ho⟩,h.code.keeps hk⟩
theorem bE.flat (h:bE B dV kV){g:Heap}{hk:∀a o,B.g.get? a=some o->g.get? a=some o}:bE (B.flat g hk) dV kV:=by
 obtain ⟨⟨T,n,t,h1,h2⟩,D,hs,tk,m,h3,h4⟩:=h;exact ⟨⟨T,n,t,h1,hk _ _ h2⟩,D,hs,tk,m,h3,hk _ _ h4⟩
theorem flat_flat {g:Heap}{hk:∀a o,B.g.get? a=some o->g.get? a=some o}:cX (B.flat g hk):=⟨rfl,rfl⟩
end
section
theorem cH {st:Stmt}(h:X B fi d NoE st σ H (λσ' H'=>XsF B d fi H' σ' rest Qn Qf) Qf) :
   XsF B d fi H σ (st::rest) Qn Qf:=λA s env e R I F hfr hf=>by
 refine wpAny_execs_cons (wpm (h A s env e R I F) (λfl s₁ hh1=>?_));obtain ⟨σ₁,H₁,t₁,F₁,q⟩:=hh1;rcases q with ⟨rfl,q⟩ | ⟨pf,hf',q⟩
 . exact wpm (q A s₁ env e R t₁.inv F₁ hfr hf) (λfl' s₂ hh1=>by obtain ⟨σ₂,H₂,t₂,F₂,q₂⟩:=hh1;exact ⟨σ₂,H₂,t₁.trans t₂,F₂,q₂⟩)
 . cases fl with
   | next=>cases pf <;> exact hf'.elim
   | brk=>exact ⟨σ₁,H₁,t₁,F₁,.inr ⟨pf,hf',q⟩⟩
   | cont=>exact ⟨σ₁,H₁,t₁,F₁,.inr ⟨pf,hf',q⟩⟩
   | ret v=>exact ⟨σ₁,H₁,t₁,F₁,.inr ⟨pf,hf',q⟩⟩
theorem XsF.of {b:List Stmt}(h:Xs NoE B d fi H σ b Qn Qf):XsF B d fi H σ b Qn Qf:=λA s env e R I F O O=>h A s env e R I F
theorem iP (I:Inv B H s)(F:aA s H σ env B):∀a o,B.g.get? a=some o->(c8 B.g s.heap λa=>a≠env.locals).get? a=some o:=λa o e=>by
 by_cases hp:a≠env.locals
 . rw [ey (P:=λa=>a≠env.locals) hp];exact I.keep a o e
 . rw [cu (P:=λa=>a≠env.locals) hp I.size];exact e
section
variable (I:Inv B H s)(F:aA s H σ env B)
theorem ub {a:Addr}(ha:a≠env.locals)(h:s.heap.get? a=some o):(c8 B.g s.heap λa=>a≠env.locals).get? a=some o:=by rw [ey (P:=λa=>a≠env.locals) ha];exact h
include I F in
theorem t6:(c8 B.g s.heap λa=>a≠env.locals).get? env.locals=Option.none:=by
 rw [cu (P:=λa=>a≠env.locals) (λq=>q rfl) I.size];exact F.fresh
include I F in
theorem Inv.flat:Inv (B.flat _ (iP I F)) [] s:=by
 refine ⟨λa o e=>?_,Ac dJ,(λO h=>(by cases h)),I.bare,I.os,List.nodup_nil,(λO h=>(by cases h)),(λO h=>(by cases h))⟩;change (c8 B.g s.heap λa=>a≠env.locals).get? a=some o at e;by_cases hp:a≠env.locals
 . rwa [ey (P:=λa=>a≠env.locals) hp] at e
 . rw [cu (P:=λa=>a≠env.locals) hp I.size] at e;exact I.keep a o e
inductive Fz (H:AH):List PV->List PV->Prop
 | nil:Fz H [] []
 | lref {a:Addr} {xs:List PV} {r r':List PV}:(a,xs)∈H->Fz H r r'->Fz H (.lref a::r) (.list xs::r')
 | other {p:PV} {r r':List PV}:Fz H r r'->Fz H (p::r) (p::r')
theorem VR.loose {T':Addr->Prop}(ht:∀a,¬T' a){v:Value}(r:VR h T v p):VR h T' v p:=r.mono (λO O e O O=>e) λa O t=>(ht a t).elim
theorem VRs.loose {T':Addr->Prop}(ht:∀a,¬T' a){v:List Value}{p:List PV}(r:VRs h T v p):VRs h T' v p:=r.mono (λO O e O O=>e) λa O t=>(ht a t).elim
include I in
theorem Fz.rel {T':Addr->Prop}(ht:∀a,¬T' a){ps ps':List PV}(z:Fz H ps ps'):∀{vs:List Value},VRs s.heap (Trk H B) vs ps->VRs s.heap T' vs ps':=by
 induction z with
 | nil=>intro vs r;cases r;exact .nil
 | lref hm _ ih=>
   intro vs r
   cases r with | cons r1 r2=>
   obtain ⟨O,rfl⟩:=r1.inv;obtain ⟨O,ws,n,ho,hr⟩:=I.objs _ hm;exact .cons (.list ho (ht _) (hr.loose ht)) (ih r2)
 | other _ ih=>
   intro vs r;cases r with | cons r1 r2=>exact .cons (r1.loose ht) (ih r2)
include I F in
theorem aC9 (hst:Heap.StaysIn (c8 B.g s.heap λa=>a≠env.locals) s'.heap)(hsl:s.heap.UpToSlots s'.heap)(hz:s.heap.objs.size<=s'.heap.objs.size)(hb:AllBare s'.gens)(hg:∀(i:Nat) (x:GenState),s.gens[i]?=some x->s'.gens[i]?=some x)(ho:s'.os=s.os) :
   Tr (bJ env) s' H s H B/\aA s' H σ env B:=by
 have keep:∀a o,s.heap.get? a=some o->a≠env.locals->s'.heap.get? a=some o:=λa o e ne=>hst a o (ub ne e);obtain ⟨m,hns,hm⟩:=F.ns;obtain ⟨oL,es,ep,hoL,hdL,hrest⟩:=id hns;have hlt:=Heap.lt_size hoL;let hm':Heap:=c8 s.heap s'.heap λa=>a≠env.locals;have hin:∀a,a≠env.locals->hm'.get? a=s'.heap.get? a:=λa ne=>ey (P:=λa=>a≠env.locals) ne;have hout:hm'.get? env.locals=s.heap.get? env.locals:=cu (P:=λa=>a≠env.locals) (λq=>q rfl) hz
 have hk1:∀a o,s.heap.get? a=some o->hm'.get? a=some o:=λa o e=>by
   by_cases ne:a=env.locals
   . subst ne;rw [hout];exact e
   . rw [hin a ne];exact keep a o e ne
 have hz1:s.heap.objs.size<=hm'.objs.size:=by show _<=(c8 _ _ _).objs.size;rw [dJ];exact hz
 have I1:Inv B H ⟨hm',s'.gens,s'.drawn,s'.toks,s'.os⟩:=I.ext hk1 hz1 hb ho;have hsb:Heap.SameBut env.locals hm' s'.heap:=⟨by show _=(c8 _ _ _).objs.size;rw [dJ],λb ne=>(hin b ne).symm⟩;have I2:Inv B H s':=I1.change (t:=s'.toks) (hk1 _ _ hoL) (by rw [hdL];(intros;first | contradiction | (intro q;cases q))) (by rw [hdL];(intros;first | contradiction | (intro q;cases q))) F.fresh hsb
 have hkq:∀a o,s.heap.get? a=some o->a9 o->¬Trk H B a->s'.heap.get? a=some o:=λa o e ⟨vs,n,q⟩ _=>keep a o e λne=>by
   rw [ne,hoL] at e;cases e;rw [hdL] at q;cases q
 refine ⟨⟨I2,⟨λa o e hn=>keep a o e λne=>hn (.inr (.inl ne)),hz,hg⟩,λO h=>.inl h⟩,F.fresh,F.apart,F.keys,F.nodup,⟨m,hsl.ns hns,λx p hx=>(hm x p hx).mono hkq λO O t=>t⟩,λx ov hx=>?_,F.glob⟩;obtain ⟨c,w,hc,⟨oc,hoc,hdc⟩,hv⟩:=F.cell x ov hx;exact ⟨c,w,hc,⟨oc,keep c oc hoc (λne=>by rw [ne,hoL] at hoc;cases hoc;rw [hdL] at hdc;cases hdc),hdc⟩,hv.mono hkq λO O t=>t⟩
end
noncomputable def oA:Option Str->Str
 | .none=>Ω ""
 | some x=>x
noncomputable abbrev o0 (w n:Str)(wp ap sp np scp acp aep:Pos):Stmt:=.Expr (.Call (.Attribute (.Name w wp) (Ω "append") ap) [.Call (.Name (Ω "str") sp) [.Name n np] [] scp] [] acp) aep
theorem aC0 {X nn:String}(FX:ExcStrFacts X nn){w n:Str}{wp ap sp np scp acp aep:Pos}{env:Env}{ea t W:Addr}{ws:List Value}{msg:Option Str}(e:aY B fi env)(hu:A.units+60<cLine)(I:Inv B H s)(F:aA s H σ env B)
   (hw:(w,NameKind.local,some (PV.lref W))∈σ)(hn:(n,NameKind.local,some (PV.raw (.ref ea)))∈σ)(hs:(Ω "str",NameKind.globalImplicit,some (PV.raw (.type "str")))∈σ)(hx:s.heap.ExcAt ea X (.ref t))(ht:s.heap.TupAt t ws)(hm:m5 msg ws)
   (u:Upd W xs (xs++[.str (oA msg)]) H H')(hz:xs.length<=sizeLine)(hdw:(w==("__debug__" : Str))=false)(hdn:(n==("__debug__" : Str))=false)
   (he:∀env,eval (.Call (.Attribute (.Name w wp) (Ω "append") ap) [.Call (.Name (Ω "str") sp) [.Name n np] [] scp] [] acp) env=(do
     let ov<-eval (.Name w wp) env
     standAt ap.atName
     let (f,first)<-holding [ov] (getMethod ov (Ω "append") (do return (<-importBound (.Name w wp) env).getD true))
     callWith acp f first (backTo acp (starEach [.Call (.Name (Ω "str") sp) [.Name n np] [] scp] env)) [])) :
   wpAny (model B.prog B.w) A (execs [o0 w n wp ap sp np scp acp aep] env) (λfl s'=>fl=.next/\Tr noU s' H' s H B) E s:=by
 have hi:interactive env=false:=by unfold interactive;rw [e.kindF];rfl
 refine wpAny_execs_cons ?_;rw [exec_Expr env _ aep hi rfl];refine wpAny_bind (wpAny_standAt (wpAny_bind ?_));refine wpAny_mono (Q:=λr s'=>r=.none/\Tr noU s' H' s H B) ?_ (λr s' ⟨hr,t⟩=>?_) λO O x=>x
 . obtain ⟨m,hns,hmm⟩:=F.ns
   have hW:m w=some (.ref W):=by obtain ⟨v,hv,hr⟩:=hmm w _ hw;obtain ⟨O,rfl⟩:=hr.inv;exact hv
   have hN:m n=some (.ref ea):=by obtain ⟨v,hv,hr⟩:=hmm n _ hn;obtain ⟨O,rfl⟩:=hr.inv;exact hv
   refine MethodCall_ (wpAny_Name (wpAny_loadName_local e.kindF (F.kindOf hw) hns hW ?_) hdw) (he env);refine b5 (.lref u.has) A E s (.ref W) I (.lref _) _ _ ?_;refine bD (ar rfl ?_);refine args_cons ?_ rfl;refine Call_ (j4 e I F hs ?_ ∅) rfl;refine bD (ar rfl ?_);refine args_cons ?_ rfl;refine wpAny_Name (wpAny_loadName_local e.kindF (F.kindOf hn) hns hN ?_) hdn;refine Calls.spliced_nil ⟨aq A E H s _ I (.raw _),?_⟩
   have key:∀(tk:Tok) (s':Shared),Tr noU s' H s H B->wpAny (model B.prog B.w) A (spliced (backTo acp (starEach [] env))) (λvs s₂=>(∀Q':Keeper->Shared->Prop,(∀k,Q' k s₂)->wpAny (model B.prog B.w) A (keeperOf (.builtin "list.append")) Q' E s₂)/\wpAny (model B.prog B.w) A (call (.builtin "list.append") ([.ref W]++(.str (oA msg) tk::vs)) []) (λr s'=>r=.none/\Tr noU s' H' s H B) E s₂) E s':=λtk s' t=>by
     refine Calls.spliced_nil ⟨aK A E H s' _ t.inv (.raw _),?_⟩;exact wpm (gB u t.inv (.str _ _) hz) (λr s'' hh1=>by obtain ⟨a,b⟩:=hh1;exact ⟨a,t.trans b⟩)
   cases msg with
   | none=>
     obtain rfl:ws=[]:=hm;exact P.str_of_exc_none FX (by lia) hx ht (key _ _ (Tr.tok I _))
   | some x=>
     obtain ⟨tk,rfl⟩:=hm;exact P.str_of_exc_one FX (by lia) hx ht (key _ _ (.refl I))
 . subst hr
   exact wpAny_dropValue (wpAny_execs_nil ⟨rfl,t⟩)
theorem uC {k k':NameKind}{ov ov':Option PV}(hn:(σ.map (λe=>e.1)).Nodup)(h1:(x,k,ov)∈σ)(h2:(x,k',ov')∈σ):ov=ov':=
 congrArg (·.2) (Option.some.inj ((a0 hn h1).symm.trans (a0 hn h2)))
theorem aBs {k:NameKind}{ov:Option PV}{σ:St}(hm:(x,k,ov)∈σ):∃σ',Rep x p k σ σ'/\(x,k,some p)∈σ'/\∀e∈σ,e.1≠x->e∈σ':=by
 induction σ with
 | nil=>exact (Bo hm).elim
 | cons e r ih=>
   rcases mcp hm with rfl | h
   . exact ⟨_,.head,.head _,fmc ⟨λhne=>absurd rfl hne,λe h O=>.tail _ h⟩⟩
   . obtain ⟨σ',h1,h2,h3⟩:=ih h
     exact ⟨_,.tail h1,.tail _ h2,fmc ⟨λO=>.head _,λe h hne=>.tail _ (h3 e h hne)⟩⟩
theorem Fj (e:aY B fi env)(I:Inv B H s)(F:aA s H σ' env B)(hx:(x,NameKind.local,some p)∈σ')(hk:σ.map (λe=>(e.1,e.2.1))=σ'.map (λe=>(e.1,e.2.1)))
   (hs:∀y k ov,(y,k,ov)∈σ->(y=x/\ov=Option.none)\/(y≠x/\(y,k,ov)∈σ')) :
   wpAny (model B.prog B.w) A (do bindName env x .none;unbindBehindTheSuite env x pos) (λO s'=>Tr (bJ env) s' H s H B/\aA s' H σ env B) E s:=by
 have hkx:=F.kindOf hx;obtain ⟨m,hns,hm⟩:=F.ns;refine wpAny_nameGoes_keeps hkx hns (by rw [e.kindF];rfl) λh' v hn' hs'=>⟨Tr.own1 F I hs',F.upd hs' (hk.trans F.keys) hn' (λy q hy=>?_) λe he hk'=>(hs _ _ _ he).elim (λq=>?_) λq=>q.2⟩
 . rcases hs y _ _ hy with q | q
   . exact (by cases (q.2))
   . rw [if_neg q.1]
     exact (hm y _ q.2).mono (F.loc_but hs') λO O t=>t
 . have h1:(e.1,e.2.1)∈env.scope.names:=F.keys▸hk▸By (f:=λe:Str×NameKind×Option PV=>(e.1,e.2.1)) he
   exact (hk' (Option.some.inj ((a0 F.nodup h1).symm.trans (q.1▸hkx)))).elim
set_option genInjectivity false in
set_option genSizeOf false in
structure fE (B:aJ)(env:Env)(σ:St)(H:AH)(s:Shared)(ea t:Addr)(cls:String)(ws:List Value)(s':Shared):Prop where
 tr:Tr (bJ env) s' H s H B
 frm:aA s' H σ env B
 fly:Heap.FlyingW (c8 B.g s.heap λa=>a≠env.locals) [env] ea (.type cls) (.ref t) s'.heap
 tup:s'.heap.TupAt t ws
 nt:(c8 B.g s.heap λa=>a≠env.locals).get? t=none
 sl:s.heap.UpToSlots s'.heap
section
variable {ea t:Addr}{cls:String}{ws:List Value}(I:Inv B H s)(F:aA s H σ env B)
include I F in
theorem fE.on (hfl:Heap.FlyingW (c8 B.g s.heap λa=>a≠env.locals) [env] ea (.type cls) (.ref t) s'.heap)(tup:s'.heap.TupAt t ws)(nt:(c8 B.g s.heap λa=>a≠env.locals).get? t=none)(sl:s.heap.UpToSlots s'.heap)(hz:s.heap.objs.size<=s'.heap.objs.size)(hb:AllBare s'.gens)
   (hg:∀(i:Nat) (x:GenState),s.gens[i]?=some x->s'.gens[i]?=some x)(ho:s'.os=s.os):fE B env σ H s ea t cls ws s':=
 have x:=aC9 I F hfl.1 sl hz hb hg ho
 ⟨x.1,x.2,hfl,tup,nt,sl⟩
include I F in
theorem fE.again (c:fE B env σ H s ea t cls ws s'){P:Shared->Prop}(k:∀s₃,fE B env σ H s ea t cls ws s₃->P s₃):wpAny (model B.prog B.w) A (setFlight (.ref ea) none) (λO s₃=>P s₃) E s':=
 aX (lands_againW c.fly λh₄ hfl₄ hsl₄ hz₄=>k _ (.on I F hfl₄ (c.tup.of_slots hsl₄) c.nt (c.sl.trans hsl₄) (ntr c.tr.step.size hz₄) c.tr.inv.bare c.tr.step.gens (c.tr.inv.os.trans I.os.symm)))
include I F in
theorem gx.caught {hk:∀a o,B.g.get? a=some o->(c8 B.g s.heap λa=>a≠env.locals).get? a=some o}{msg:Option Str}(hfr:A.frames=some [env])(hf:env.frame=some env.locals){e':Value}(r:gx (B.flat _ hk) [env] cls msg s e' s₁){P:Value->Shared->Prop}
   (k:∀ea t ws s₃,m5 msg ws->fE B env σ H s ea t cls ws s₃->P (.ref ea) s₃):wpAny (model B.prog B.w) A (noteFrame e' env) (λO s₂=>wpAny (model B.prog B.w) A (setFlight e' none) (λO s₃=>P e' s₃) E s₂) E s₁:=by
 obtain ⟨ea,t,ws,rfl,hfl,htup,hmsg,hnt'⟩:=r.ex
 exact aX (wpAny_looks_onW hfr hf hfl λh₂ hheld hsl₂ hz₂=>aX (wpAny_landsW hheld λh₃ hfl₃ hsl₃ hz₃=>
   k _ _ _ _ hmsg (.on I F hfl₃ (htup.of_slots (hsl₂.trans hsl₃)) hnt' (r.slots.trans (hsl₂.trans hsl₃)) (ntr r.size (ntr hz₂ hz₃)) r.bare r.gens r.os)))
theorem wR {a:Addr}(h1:(c8 B.g s.heap λa=>a≠env.locals).get? a=none)(h2:s.heap.get? a=some o):a=env.locals:=
 Classical.byContradiction λne=>(by cases (h1.symm.trans (ub ne h2)))
include I F in
theorem sX {s₄ s₅:Shared}(T:Tr (bJ env) s₅ H s₄ H B){a:Addr}(h1:(c8 B.g s.heap λa=>a≠env.locals).get? a=none)(h2:s₄.heap.get? a=some o)(h3:a≠env.locals):s₅.heap.get? a=some o:=by
 refine T.step.heap a o h2 ?_;have no:∀{o},¬s.heap.get? a=some o:=λe=>h3 (wR h1 e)
 rintro ((q | q | q) | q | ⟨x,q1,q2,_⟩)
 . obtain ⟨p,hp,rfl⟩:=mmp q
   obtain ⟨O,O,O,e1,O⟩:=I.objs p hp;exact no e1
 . obtain ⟨p,hp,rfl⟩:=mmp q
   obtain ⟨O,e1,O⟩:=I.tabs p hp;exact no e1
 . obtain ⟨p,hp,rfl⟩:=mmp q
   exact no (I.hid p hp).a
 . exact h3 q
 . obtain ⟨⟨y,k,ov⟩,hy,heq⟩:=mmp (F.keys▸mem_of_lookup q1:(x,NameKind.cell)∈σ.map _)
   cases heq;obtain ⟨c,O,hc',⟨oc,hoc,O⟩,O⟩:=F.cell _ ov (.inl hy);rw [q2] at hc';cases hc';exact no hoc
theorem yd (F:aA s' H σ env B){d:Array Value}(h:s'.heap.get? a=some o)(hd:o.data=.fields d\/∃v n,o.data=.seq v n):a≠env.locals:=λne=>by
 obtain ⟨O,⟨oL,O,O,hoL,hdL,O⟩,O⟩:=F.ns;cases hoL.symm.trans (ne▸h);rcases hd with q | ⟨_,_,q⟩ <;> cases hdL.symm.trans q
include I F in
theorem fE.exc (c:fE B env σ H s ea t cls ws s'){s₅:Shared}(T:Tr (bJ env) s₅ H s' H B):s₅.heap.ExcAt ea cls (.ref t)/\s₅.heap.TupAt t ws:=by
 obtain ⟨oe,fs,hoe,hoec,hoed,hoe0⟩:=c.fly.first;obtain ⟨ot,kt,hot,hotc,hotd⟩:=c.tup;exact ⟨⟨oe,fs,sX I F T c.fly.2.1 hoe (yd c.frm hoe (.inl hoed)),hoec,hoed,hoe0⟩,ot,kt,sX I F T c.nt hot (yd (d:=#[]) c.frm hot (.inr ⟨_,_,hotd⟩)),hotc,hotd⟩
end
theorem aA.ne (F:aA s H σ env B){y:Str}{k k':NameKind}{o o':Option PV}(h1:(x,k,o)∈σ)(h2:(y,k',o')∈σ)(hk:k≠k'):x≠y:=λq=>
 hk (Option.some.inj ((F.kindOf h1).symm.trans (q▸F.kindOf h2)))
inductive Nx (B:aJ)(env:Env)(σ:St)(H:AH)(s:Shared)(H':AH)(fl:Flow)(s':Shared):Prop
 | mk (a:fl=.next) (t:Tr (bJ env) s' H' s H B) (f:aA s' H' σ env B)
theorem Nx.up {s₀:Shared}{fl:Flow}(t:Tr noU s₀ H s H B)(x:Nx B env σ H s₀ H' fl s'):Nx B env σ H s H' fl s':=by
 obtain ⟨a,b,c⟩:=x;exact ⟨a,t.up.trans b,c⟩
theorem EC {cls nn:String}(FX:ExcStrFacts cls nn){msg:Option Str}{w n:Str}{wp ap sp np scp acp aep hp:Pos}{s₄:Shared}{env:Env}{ea t W:Addr}{ws:List Value}(e:aY B fi env)(hu:A.units+60<cLine)(I:Inv B H s)(F:aA s H σ env B)
   (c:fE B env σ H s ea t cls ws s₄)(hm:m5 msg ws)
   (hw:(w,NameKind.local,some (PV.lref W))∈σ)(hn:(n,NameKind.local,Option.none)∈σ)(hs:(Ω "str",NameKind.globalImplicit,some (PV.raw (.type "str")))∈σ)
   (u:Upd W xs (xs++[.str (oA msg)]) H H')(hz:xs.length<=sizeLine)(hwn:w≠n)(hdw:(w==("__debug__" : Str))=false)(hdn:(n==("__debug__" : Str))=false)
   (he:∀env,eval (.Call (.Attribute (.Name w wp) (Ω "append") ap) [.Call (.Name (Ω "str") sp) [.Name n np] [] scp] [] acp) env=(do
     let ov<-eval (.Name w wp) env
     standAt ap.atName
     let (f,first)<-holding [ov] (getMethod ov (Ω "append") (do return (<-importBound (.Name w wp) env).getD true))
     callWith acp f first (backTo acp (starEach [.Call (.Name (Ω "str") sp) [.Name n np] [] scp] env)) [])){E₁ E₂:EP} :
   wpAny (model B.prog B.w) (A.mark (some (.ref ea))) (storeName env n (.ref ea)) (λO s₃=>wpAny (model B.prog B.w) (A.mark (some (.ref ea))) (execs [o0 w n wp ap sp np scp acp aep] env) (λf s₄=>wpAny (model B.prog B.w) A (do bindName env n .none;unbindBehindTheSuite env n hp) (λO s₅=>Nx B env σ H s H' f s₅) E s₄) E₁ s₃) E₂ s₄:=by
 obtain ⟨σ',hrep,hrn,hro⟩:=aBs (p:=PV.raw (.ref ea)) hn;refine wpm (dM e c.tr.inv c.frm (.raw (.ref ea)) hrep (.inl rfl)) (λO s₅ x=>?_);have y:=c.exc I F x.1;refine wpm (aC0 FX e hu x.1.inv x.2 (hro _ hw hwn) hrn (hro _ hs (F.ne hs hn (by intros;first | contradiction | (intro q;cases q)))) y.1 y.2 hm u hz hdw hdn he) (λfl s₆ z=>?_);refine wpm (Fj (σ:=σ) e z.2.inv (x.2.tr x.1.inv z.2) hrn hrep.keys.symm λy k ov hy=>?_) (λO s₇ v=>⟨z.1,(c.tr.trans x.1).trans (z.2.up.trans v.1),v.2⟩);by_cases hyn:y=n
 . subst hyn
   cases (F.kindOf hn).symm.trans (F.kindOf hy);exact .inl ⟨rfl,(uC F.nodupS hn hy).symm⟩
 . exact .inr ⟨hyn,hro _ hy hyn⟩
inductive aHb (B:aJ)(d:Nat)(cls:String)(msg:Option Str)(H:AH)(f:PV)(vs:List PV)(H₂:AH):Prop
 | mk (a:H₂=H) (vs':List PV) (z:Fz H vs vs') (c:∀g hk,fJ (B.flat g hk) d f vs' cls msg)
inductive aFn (B:aJ)(fi:aP)(d:Nat)(σ:St)(cls:String)(msg:Option Str)(args:List Expr)(H:AH)(f:PV)(H₁:AH):Prop
 | mk (a:H₁=H) (fa:∃fa,f=.raw (.ref fa)) (k:cQ B f) (h:EvL B fi d NoE args σ H (aHb B d cls msg H f))
theorem zB {cls:String}{msg:Option Str}{func:Expr}{args:List Expr}{cpos:Pos}(h:Ev NoE B d fi σ H func (aFn B fi d σ cls msg args H))(hpl:args.all ax=true)
   (hec:∀env,eval (.Call func args [] cpos) env=(do callWith cpos (<-eval func env) [] (backTo cpos (starEach args env)) (backToKw cpos (keywordEach [] env)))){env:Env}(e:aY B fi env)(R:ah A d)(I:Inv B H s)(F:aA s H σ env B)(hfr:A.frames=some [env])(hf:env.frame=some env.locals){Q:Value->Shared->Prop}{E':EP}
   (k:∀s₀ (I₀:Inv B H s₀) (F₀:aA s₀ H σ env B),Tr noU s₀ H s H B->∀e' s₁,gx (B.flat _ (iP I₀ F₀)) [env] cls msg s₀ e' s₁->E' e' s₁) :
   wpAny (model B.prog B.w) A (eval (.Call func args [] cpos) env) Q E' s:=by
 refine Call_ (wpAny_mono (h A s env e R I F) (λfv s₁ hh1=>?_) λO O x=>x.elim) (hec env);obtain ⟨f,H₁,t₁,q₁,hH,⟨fa,hfa⟩,hk,h₁⟩:=hh1;subst hH;subst hfa;refine bD (ar hpl (wpAny_mono (ay h₁ hpl A s₁ env e R t₁.inv (F.tr I t₁)) (λvs s₀ hh1=>?_) λO O x=>x.elim));obtain ⟨ps,H₂,t₂,l₂,q₂,hH,vs',hz',hX⟩:=hh1;subst hH;refine ⟨hk A _ H₂ s₀ fv t₂.inv (q₁.tr t₂),?_⟩;have t₀:=t₁.trans t₂;have F₀:=F.tr I t₀;obtain ⟨m,hns,O⟩:=F₀.ns;obtain ⟨O,rfl⟩:=q₁.inv;exact wpm (hX _ (iP t₀.inv F₀) E' A s₀ R (Inv.flat t₀.inv F₀) (.ref fa) vs (.raw _) (hz'.rel t₀.inv (λa=>(flat_flat:cX (B.flat _ (iP t₀.inv F₀))).trk) q₂) [env] hfr (Heap.FunFrames.cons (L:=env.locals) (by rw [e.kindF];(intros;first | contradiction | (intro q;cases q))) hf hns (t6 t₀.inv F₀) trivial) (k s₀ t₀.inv F₀ t₀)) (λO O x=>x.elim)
theorem gS {nn:String}{cls:String}{msg:Option Str}(FX:ExcStrFacts cls nn){func:Expr}{args:List Expr}{cpos epos tpos cp hp:Pos}{cx w n:Str}{wp ap sp np scp acp aep:Pos}{W:Addr}
   (hexc:isSubtype (.type cls) (.type "BaseException")=pure true)(hnt:isSubtype (.type ((Manifest.find? cls).elim "type" λx=>x.metatype)) (.type "tuple")=pure false)(hsub:isSubtype (.type cls) (.type cls)=pure true)
   (h:Ev NoE B d fi σ H func (aFn B fi d σ cls msg args H))
   (hw:(w,NameKind.local,some (PV.lref W))∈σ)(hn:(n,NameKind.local,Option.none)∈σ)(hs:(Ω "str",NameKind.globalImplicit,some (PV.raw (.type "str")))∈σ)(hc:(cx,NameKind.globalImplicit,some (PV.raw (.type cls)))∈σ)
   (u:Upd W xs (xs++[.str (oA msg)]) H H')(hz:xs.length<=sizeLine)(hwn:w≠n)(q:XsF B d fi H' σ rest Qn Qf)
   (he:autoParam (∀env,eval (.Call (.Attribute (.Name w wp) (Ω "append") ap) [.Call (.Name (Ω "str") sp) [.Name n np] [] scp] [] acp) env=(do
     let ov<-eval (.Name w wp) env
     standAt ap.atName
     let (f,first)<-holding [ov] (getMethod ov (Ω "append") (do return (<-importBound (.Name w wp) env).getD true))
     callWith acp f first (backTo acp (starEach [.Call (.Name (Ω "str") sp) [.Name n np] [] scp] env)) [])) nC)
   (hpl:autoParam (args.all ax=true) nA)
   (hec:autoParam (∀env,eval (.Call func args [] cpos) env=(do callWith cpos (<-eval func env) [] (backTo cpos (starEach args env)) (backToKw cpos (keywordEach [] env)))) nC)
   (hsw:autoParam (∀env,swapsWith (.Call func args [] cpos) none epos.line env=pure false) nC)
   (hdw:autoParam ((w==("__debug__" : Str))=false) nB)(hdn:autoParam ((n==("__debug__" : Str))=false) nB)(hdc:autoParam ((cx==("__debug__" : Str))=false) nB) :
   XsF B d fi H σ (.Try [.Expr (.Call func args [] cpos) epos] [.ExceptHandler (some (.Name cx cp)) (some n) [o0 w n wp ap sp np scp acp aep] hp] [] [] tpos::rest) Qn Qf:=λA s env e R I F hfr hf=>by
 refine wpAny_execs_cons (wpAny_mono (Q:=Nx B env σ H s H') ?_ (λfl s' x=>?_) λO O x=>x)
 . refine wpAny_Try_except (wpAny_execs_cons ?_)
   rw [exec_Expr env _ epos (by unfold interactive;rw [e.kindF];rfl) (hsw env)];refine wpAny_bind (wpAny_standAt (wpAny_bind (zB h hpl hec e R I F hfr hf λs₀ I₀ F₀ t₀ e' s₁ r=>?_)));refine gx.caught (P:=λe' s₃=>wpAny (model B.prog B.w) A (handleBy e' env _) _ _ s₃) I₀ F₀ hfr hf r λea t ws s₃ hmsg c=>?_;obtain ⟨ob,hob,hobc⟩:=c.fly.there;refine wpAny_handleBy_builtin_as (X:=cls) (T:=cls) (b:=true) hexc hnt hsub (j4 e c.tr.inv c.frm hc ⟨rfl,⟨ob,hob,hobc⟩,?_⟩ hdc);rw [if_pos rfl];refine c.again I₀ F₀ λs₄ c=>?_;exact wpm (EC FX e (by have:=R.units;lia) I₀ F₀ c hmsg hw hn hs u hz hwn hdw hdn he) (λO O x=>wpm x (λO O x=>wpm x (λO O x=>x.up t₀)))
 . obtain ⟨hfl,t,F'⟩:=x
   subst hfl;exact wpm (q A s' env e R t.inv F' hfr hf) (λfl' s₂ hh1=>by obtain ⟨σ₂,H₂,t₂,F₂,q₂⟩:=hh1;exact ⟨σ₂,H₂,t.trans t₂,F₂,q₂⟩)
end
inductive Wk:St->St->Prop
 | nil:Wk [] []
 | same {e:Str×NameKind×Option PV} {r r':St}:Wk r r'->Wk (e::r) (e::r')
 | drop {x:Str} {k:NameKind} {ov:Option PV} {r r':St}:Wk r r'->Wk ((x,k,ov)::r) ((x,k,Option.none)::r')
section
theorem Wk.keys (h:Wk σ σ'):σ'.map (λe=>(e.1,e.2.1))=σ.map (λe=>(e.1,e.2.1)):=by
 induction h with
 | nil=>rfl
 | same _ ih=>simp only [Bs,ih]
 | drop _ ih=>simp only [Bs,ih]
theorem Wk.mem (h:Wk σ σ'){k:NameKind}{ov:Option PV}(hm:(x,k,ov)∈σ'):(x,k,ov)∈σ\/(ov=Option.none/\∃ov',(x,k,ov')∈σ):=by
 induction h with
 | nil=>cases hm
 | same _ ih=>
   rcases mcp hm with e | hm
   . exact .inl (by rw [e];exact mcs)
   . exact (ih hm).imp (λq=>mcm _ q) λ⟨a,o,b⟩=>⟨a,o,mcm _ b⟩
 | drop _ ih=>
   rcases mcp hm with e | hm
   . cases e;exact .inr ⟨rfl,_,mcs⟩
   . exact (ih hm).imp (λq=>mcm _ q) λ⟨a,o,b⟩=>⟨a,o,mcm _ b⟩
theorem aA.wk (F:aA s H σ env B)(h:Wk σ σ'):aA s H σ' env B:=by
 refine ⟨F.fresh,F.apart,h.keys.trans F.keys,F.nodup,?_,λx ov hx=>?_,λx p hx=>?_⟩
 . obtain ⟨m,hns,hm⟩:=F.ns
   refine ⟨m,hns,λx p hx=>?_⟩;rcases h.mem hx with q | ⟨q,_⟩
   . exact hm x p q
   . cases q
 . have:(∃ov',((x,NameKind.cell,ov')∈σ\/(x,NameKind.free,ov')∈σ)/\(ov=ov'\/ov=Option.none)):=by
     rcases hx with hx | hx
     . rcases h.mem hx with q | ⟨q,o,q'⟩
       . exact ⟨ov,.inl q,.inl rfl⟩
       . exact ⟨o,.inl q',.inr q⟩
     . rcases h.mem hx with q | ⟨q,o,q'⟩
       . exact ⟨ov,.inr q,.inl rfl⟩
       . exact ⟨o,.inr q',.inr q⟩
   obtain ⟨ov',hm,ho⟩:=this;obtain ⟨c,w,hc,hcell,hv⟩:=F.cell x ov' hm;refine ⟨c,w,hc,hcell,?_⟩;rcases ho with rfl | rfl
   . exact hv
   . trivial
 . rcases h.mem hx with q | ⟨q,_⟩
   . exact F.glob x p q
   . cases q
theorem XsF.wk {b:List Stmt}(h:XsF B d fi H σ' b Qn Qf)(w:Wk σ σ'):XsF B d fi H σ b Qn Qf:=λA s env e R I F hfr hf=>h A s env e R I (F.wk w) hfr hf
end
section
theorem fR {vs:Array Value}{n:Nat}(e:h.get? l=some (fF vs n)):h.IsTuple l vs:=⟨_,e,rfl,n,rfl⟩
theorem gM {it:Addr}(x:h.IsTupleIter it l i):∀o,h.get? it=some o->bT o:=by
 obtain ⟨o',ho',hc,hd⟩:=x;intro o ho;rw [ho'] at ho;cases ho;refine ⟨λ⟨vs,n,q⟩=>(by rw [hd] at q;cases q),λvs q t e=>?_⟩;rw [hd] at e;cases e;simp
inductive JU (B:aJ)(it l:Addr)(items:List PV)(H:AH)(s:Shared):Prop
 | mk (vs:Array Value) (n i:Nat) (a:s.heap.IsTupleIter it l i) (b:s.heap.get? l=some (fF vs n)) (c:VRs s.heap (Trk H B) (vs.toList.drop i) items) (d:¬Trk H B l) (e:B.g.objs.size<=it) (f:¬Trk H B it)
theorem tL {it:Addr}{vs:Array Value}{n:Nat}{items:List PV}{J:List PV->AH->Shared->Prop}(R:ah A 3)(I:Inv B H s)
   (hit:s.heap.IsTupleIter it l i)(hl:s.heap.get? l=some (fF vs n))(hv:VRs s.heap (Trk H B) (vs.toList.drop i) items)(hg:B.g.objs.size<=it)(ht:¬Trk H B it)
   (hJ:∀x xs s',items=x::xs->s'.heap.IsTupleIter it l (i+1)->cL s' (λO=>False) s H B (·=it)->J xs H s') :
   wpAny (model B.prog B.w) A (pyNext (.ref it)) (λr s₁=>match items with
     | []=>r=none/\cL s₁ (λO=>False) s H B (·=it)
     | x::xs=>∃v,r=some v/\wpAny (model B.prog B.w) A (letOwnedTupleGo tgt (.ref it) v) (λO s₂=>cL s₂ (λO=>False) s H B (·=it)/\VR s₂.heap (Trk H B) v x/\J xs H s₂) NoE s₁) NoE s:=by
 have hLo:=gM hit
 have mk:∀(h':Heap),(∀a o,s.heap.get? a=some o->a≠it->h'.get? a=some o)->s.heap.objs.size<=h'.objs.size->cL { s with heap:=h' } (λO=>False) s H B (·=it):=λh' hk hz=>
   cL.make I (λa o e hp=>hk a o e hp) hz (λp hp=>by subst hp;exact ⟨hg,ht⟩) (λp hp o ho=>by subst hp;exact hLo o ho) (λO O e O=>e) (Ab _) I.bare rfl
 cases items with
 | nil=>
   have hnil:=hv.isnil
   have hx:vs[i]?=none:=by
     rw [<-Array.getElem?_toList];exact List.getElem?_eq_none (List.drop_eq_nil_iff.mp hnil)
   exact aX (wpAny_pyNext_tuple_end R.handled hit (fR hl) hx λh' hx' hz=>⟨rfl,mk h' (λa o e hne=>hx' a o hne e) hz⟩)
 | cons x xs=>
   obtain ⟨v,ws,hd,hr,hrs⟩:=hv.head
   have hx:vs[i]?=some v:=by
     rw [<-Array.getElem?_toList];have:=congrArg (λl=>l[0]?) hd;simpa using this
   refine wpAny_pyNext_tuple_item hit (fR hl) hx λh' hit' hs'=>⟨v,rfl,?_⟩;have o:=mk h' (λa o e hne=>(hs'.2 a hne).trans e) (by rw [hs'.1];exact Ab _);obtain ⟨ob,ho,hc,O⟩:=id hit';refine dQ ho hc rfl ⟨o,hr.mono (λa ob e q O=>o.heap a ob e λeq=>(hLo ob (eq▸e)).1 q) λO O t=>t,hJ x xs _ rfl hit' o⟩
theorem aBv {G:Nat->Prop}{deps:AH}(e:Evo B P G deps H s H' s'){it:Addr}(hp:P it)(x:s.heap.IsTupleIter it l i):s'.heap.IsTupleIter it l i:=by
 obtain ⟨o,ho,r⟩:=x;exact ⟨o,e.own _ _ ho hp,r⟩
theorem aAj {it:Addr}(x:s.heap.IsTupleIter it l i):it<s.heap.objs.size:=by
 obtain ⟨o,ho,O⟩:=x;exact Heap.lt_size ho
theorem EF (tgt:Expr)(it l:Addr):oU B [] tgt (.ref it) (·=it) (λO=>False) (JU B it l) where
 self:=λitems H s A E Q j q=>by
   obtain ⟨vs,n,i,hit,O,O,O,O,O⟩:=j;exact wpAny_pyIter_tupleiter hit q
 notseq:=λitems H s j p hp o ho=>by
   obtain ⟨vs,n,i,hit,O,O,O,O,O⟩:=j;subst hp;exact (gM hit o ho).1
 stable:=λitems H s H' s' ⟨vs,n,i,hit,hl,hv,hn,hg,ht⟩ e=>
   ⟨vs,n,i,aBv e rfl hit,e.seq _ _ hl ⟨_,_,rfl⟩ hn,e.vrs hv,e.trk (Heap.lt_size hl) hn,hg,e.trk (aAj hit) ht⟩
 next:=λitems H s A ⟨vs,n,i,hit,hl,hv,hn,hg,ht⟩ R I=>by
   refine tL R I hit hl hv hg ht λx xs s' hi hit' o=>?_;subst hi;obtain ⟨v,ws,hd,hr,hrs⟩:=hv.head;refine ⟨vs,n,i+1,hit',o.heap _ _ hl λeq=>(gM hit _ (eq▸hl)).1 ⟨_,_,rfl⟩,?_,hn,hg,ht⟩;have:vs.toList.drop (i+1)=ws:=by rw [<-BN,hd];rfl
   rw [this];exact hrs.mono (λa ob e q O=>o.heap a ob e λeq=>(gM hit ob (eq▸e)).1 q) λO O t=>t
theorem GB :({ s with heap:=s.heap.push { cls:=.type "tuple_iterator",data:=.fields #[.ref l,.int 0 0] } }:Shared).heap.IsTupleIter s.heap.objs.size l 0:=
 ⟨_,Heap.get?_push_size _ rfl,rfl,rfl⟩
set_option tactic.hygienic true in
theorem jR {Q:IQ}(h:Q xs [] H):sE B d E tgt (.tup xs) H Q:=λA s R I va r=>by
 cases r with
 | tup ho hn hs=>
   rename_i a vs n;refine wpAny_pyIter_tuple (fR ho) ?_;have t:=Tr.push I { cls:=.type "tuple_iterator",data:=.fields #[.ref a,.int 0 0] }
   exact je.made ⟨xs,[],H,_,_,_,t,EF tgt s.heap.objs.size a,⟨vs,n,0,GB,Heap.get?_push_of_some _ ho,hs.tr t,hn,I.size,aW I⟩,
     λp hp=>by subst hp;exact ⟨Ab _,cZ,aW I⟩,λ_ f=>f.elim,(λ_ hm=>(by cases hm)),h⟩
end
section
theorem aBh {op:BoolOp}(h:Ev E B d fi σ H e Q):Ev E B d fi σ H (.BoolOp op [e] pos) Q:=λA s env eo R I F=>BoolOp_one (h A s env eo R I F)
theorem aCp {e₁ e₂:Expr}{rest:List Expr}
   (h:Ev E B d fi σ H e₁ λv H₁=>Tru B d E v H₁ λc H₂=>if c=true then Ev E B d fi σ H₂ (.BoolOp .And (e₂::rest) pos) Q else Q v H₂):Ev E B d fi σ H (.BoolOp .And (e₁::e₂::rest) pos) Q:=λA s env eo R I F=>by
 refine BoolOp_and (wpE (h A s env eo R I F) (λva s₁ v H₁ t₁ r₁ h₁=>?_));refine wpT (h₁ A s₁ R t₁.inv va r₁) (λc s₂ H₂ t₂ h₂=>?_)
 cases c with
 | true=>
   rw [if_pos rfl] at h₂ ⊢;exact wpm (h₂ A s₂ env eo R t₂.inv (F.tr I (t₁.trans t₂))) (λO O p=>aN.trans (t₁.trans t₂) p)
 | false=>
   rw [if_neg B9] at h₂ ⊢;exact ⟨v,H₂,t₁.trans t₂,r₁.tr t₂,h₂⟩
end
noncomputable def cat (a b:St):St:=a++b
section
variable {k:NameKind}{e:Str×NameKind×Option PV}{a b a' b':St}
theorem Has.inl (h:Has e a):Has e (cat a b):=by
 induction h with
 | head=>exact .head
 | tail _ ih=>exact .tail ih
theorem Has.inr (h:Has e b):Has e (cat a b):=by
 induction a with
 | nil=>exact h
 | cons _ _ ih=>exact .tail ih
theorem Rep.inl (h:Rep x p k a a'):Rep x p k (cat a b) (cat a' b):=by
 induction h with
 | head=>exact .head
 | tail _ ih=>exact .tail ih
theorem Rep.inr (h:Rep x p k b b'):Rep x p k (cat a b) (cat a b'):=by
 induction a with
 | nil=>exact h
 | cons _ _ ih=>exact .tail ih
theorem Wk.refl:∀a:St,Wk a a
 | []=>.nil
 | _::a=>.same (Wk.refl a)
theorem Wk.cat (h:Wk a a')(h':Wk b b'):Wk (cat a b) (cat a' b'):=by
 induction h with
 | nil=>exact h'
 | same _ ih=>exact .same ih
 | drop _ ih=>exact .drop ih
end
noncomputable abbrev lc2 (elt t1 i1 t2 i2:Expr)(scope:Scope)(pos:Pos):Expr:=.ListComp elt [⟨t1,i1,[],0⟩,⟨t2,i2,[],0⟩] scope pos
theorem ou (elt t1 i1 t2 i2:Expr)(scope:Scope)(pos:Pos)(it acc:Value)(env:Env) :
   compTurn (lc2 elt t1 i1 t2 i2 scope pos) 0 it acc env=(standAt i1.pos >>= λO=>pyNext it >>= λr=>match r with
     | none=>pure (.done .next)
     | some v=>letOwnedTupleGo t1 it v >>= λO=>assign t1 env v >>= λO=>eval i2 env >>= λx=>standAt i2.pos >>= λO=>foldedSetIterable i2 env x >>= λx=>holding [x] (pyIter x) >>= λit2=>
         runOwn (.compStart (lc2 elt t1 i1 t2 i2 scope pos) 1 it2 acc env) env >>= λO=>again (.compLoop (lc2 elt t1 i1 t2 i2 scope pos) 0 it acc env)):=by
 unfold compTurn;simp only [List.getElem?_cons_zero,List.forIn_nil];simp
 rfl
theorem pz (elt t1 i1 t2 i2:Expr)(scope:Scope)(pos:Pos)(it acc:Value)(env:Env) :
   compTurn (lc2 elt t1 i1 t2 i2 scope pos) 1 it acc env=(standAt i2.pos >>= λO=>pyNext it >>= λr=>match r with
     | none=>pure (.done .next)
     | some v=>letOwnedTupleGo t2 it v >>= λO=>assign t2 env v >>= λO=>eval elt env >>= λx=>call (.builtin "list.append") [acc,x] >>= λO=>again (.compLoop (lc2 elt t1 i1 t2 i2 scope pos) 1 it acc env)):=by
 unfold compTurn;simp only [List.getElem?_cons_succ,List.getElem?_cons_zero,List.forIn_nil];simp
 rfl
section
variable {prog:Program}{w:World}
theorem fT {elt t1 i1 t2 i2:Expr}{it acc:Value}{R:Result->Shared->Prop}
   (h0:codeAny (model prog w) A (.compLoop (lc2 elt t1 i1 t2 i2 scope pos) 1 it acc env) R s)
   (h:wpAny (model prog w) A (pyIter it) (λit' s'=>codeAny (model prog w) A (.compLoop (lc2 elt t1 i1 t2 i2 scope pos) 1 it' acc env) R s') NoE s) :
   codeAny (model prog w) A (.compStart (lc2 elt t1 i1 t2 i2 scope pos) 1 it acc env) R s:=by
 refine codeAny_of_tree ?_;show wpAny _ _ ((compStart (lc2 elt t1 i1 t2 i2 scope pos) 1 it acc env).onRaise (λx=>do noteFrame x env;standAt theWindowsPlace)) _ _ s;refine wpAny_notedAt ?_;unfold compStart;show wpAny _ _ (ask >>= _) _ _ s;refine wpAny_bind (wpAny_askSetting (ig (λO=>?_) λO=>?_))
 . first
     | exact wpAny_bind (wpAny_pure (wpAny_pure (And.intro rfl h0)))
     | exact wpAny_pure (And.intro rfl h0)
 . refine wpAny_bind (wpAny_rule ?_)
   show wpAny _ _ (standAt i2.pos >>= _) _ _ s;exact wpAny_bind (wpAny_standAt (wpAny_bind (wpAny_mono h (λit' s' h'=>wpAny_pure (And.intro rfl h')) λO O x=>x.elim)))
end
section
noncomputable def zJ (B:aJ)(fi:aP)(d:Nat)(tgt elt:Expr)(D:Addr)(deps:AH):List PV->List PV->St->AH->(List PV->SQ)->Prop
 | [],acc,σ,H,Q=>Q acc σ H
 | x::xs,acc,σ,H,Q=>Asg B fi d NoE tgt x σ ((D,acc)::H) λσ₁ H₁=>Ev NoE B d fi σ₁ H₁ elt λv H₂=>acc.length<=sizeLine/\F8 D acc deps H₂ λH₃=>zJ B fi d tgt elt D deps xs (acc++[v]) σ₁ H₃ Q
inductive aDk (B:aJ)(fi:aP)(d:Nat)(env:Env)(H:AH)(s:Shared)(J:(Addr->Prop)->List PV->AH->Shared->Prop)(deps:AH)(tgt elt:Expr)(D:Addr)(K:List PV->SQ)(n:Nat)(s':Shared):Prop
 | mk (W:Addr->Prop) (items acc:List PV) (σ':St) (H':AH) (hn:n=items.length) (t:Tr (bJ env) s' ((D,acc)::H') s H B) (F:aA s' ((D,acc)::H') σ' env B) (j:J W items ((D,acc)::H') s') (p:∀p,W p->s.heap.objs.size<=p/\¬Trk ((D,acc)::H') B p/\p<s'.heap.objs.size) (q:zJ B fi d tgt elt D deps items acc σ' H' K)
theorem GQ {elt t1 i1 t2 i2:Expr}{itv:Value}{items acc:List PV}{deps H₁:AH}{W:Addr->Prop}{G:Nat->Prop}{J:(Addr->Prop)->List PV->AH->Shared->Prop}{K:List PV->SQ}{R:Result->Shared->Prop}
   (Rm:ah A d)(hd:3<=d)(e:aY B fi env)(F:aA s H σ env B)(I:Inv B H s)(t:Tr noU s₁ ((D,acc)::H₁) s H B)(IT:qH B A deps t2 itv G J)(hJ:J W items ((D,acc)::H₁) s₁)(hP:∀p,W p->s.heap.objs.size<=p/\p<s₁.heap.objs.size/\¬Trk ((D,acc)::H₁) B p)
   (hG:∀i,G i->s.gens.size<=i/\i<s₁.gens.size)(q:zJ B fi d t2 elt D deps items acc σ H₁ K)
   (hR:∀acc' σ' H' s',Tr (bJ env) s' ((D,acc')::H') s H B->aA s' ((D,acc')::H') σ' env B->K acc' σ' H'->R (.ok .next) s') :
   codeAny (model B.prog B.w) A (.compStart (lc2 elt t1 i1 t2 i2 scope pos) 1 itv (.ref D) env) R s₁:=by
 have hloop:codeAny (model B.prog B.w) A (.compLoop (lc2 elt t1 i1 t2 i2 scope pos) 1 itv (.ref D) env) R s₁:=by
   refine codeAny_loop rfl (aDk B fi d env H s J deps t2 elt D K) ?_ items.length ⟨W,items,acc,σ,H₁,rfl,t.up,F.tr I t,hJ,λp hp=>⟨(hP p hp).1,(hP p hp).2.2,(hP p hp).2.1⟩,q⟩;intro n s₃ hi;obtain ⟨W,items,acc,σ₃,H₃,rfl,t₃,F₃,hJ₃,hP₃,q₃⟩:=hi;show wpAny _ _ ((compTurn (lc2 elt t1 i1 t2 i2 scope pos) 1 itv (.ref D) env).onRaise (λx=>do noteFrame x env;theTreesLotGoes x)) _ _ s₃;refine wpAny_noted ?_;rw [pz,show A.under (.compLoop (lc2 elt t1 i1 t2 i2 scope pos) 1 itv (.ref D) env)=A from Around.under_of_weight rfl rfl];have hPa:∀p,W p->s.heap.objs.size<=p:=λp hp=>(hP₃ p hp).1;refine aa (wpAny_bind (wpAny_standAt (wps (IT.next W items _ s₃ hJ₃ (Rm.le hd) t₃.inv) (λr s₄ hr=>?_))))
   cases items with
   | nil=>
     obtain ⟨rfl,o⟩:=hr;exact wpAny_pure (hR acc σ₃ H₃ s₄ (o.tr t₃ hPa λi hi=>(hG i hi).1) (o.frame F F₃ hPa λp hp=>IT.notseq _ _ _ _ hJ₃ p hp) q₃)
   | cons x xs=>
     obtain ⟨v,rfl,hv⟩:=hr;refine wps hv (λO s₅ hh1=>?_);obtain ⟨o,hvr,W',hW',hJ₅⟩:=hh1;have t₅:Tr (bJ env) s₅ ((D,acc)::H₃) s H B:=o.tr t₃ hPa λi hi=>(hG i hi).1;have F₅:aA s₅ ((D,acc)::H₃) σ₃ env B:=o.frame F F₃ hPa λp hp=>IT.notseq _ _ _ _ hJ₃ p hp
     have hP₅:∀p,W' p->s.heap.objs.size<=p/\¬Trk ((D,acc)::H₃) B p/\p<s₅.heap.objs.size:=λp hp=>by
       rcases hW' p hp with q | ⟨q1,q2⟩
       . exact ⟨(hP₃ p q).1,(hP₃ p q).2.1,nlt (hP₃ p q).2.2 o.size⟩
       . exact ⟨ntr t₃.step.size q1,λq=>absurd (d2 t₃.inv q) (nlr q1),q2⟩
     refine wps (q₃ A s₅ env e Rm t₅.inv F₅ v hvr) (λO s₆ hh1=>?_);obtain ⟨σ₆,H₆,t₆,F₆,q₆⟩:=hh1;refine wps (q₆ A s₆ env e Rm t₆.inv F₆) (λw s₇ hh1=>?_);obtain ⟨p,H₇,t₇,r₇,hz,H₈,e₇,hdep₇,q₇⟩:=hh1;subst e₇;refine wps (gB (xs:=acc) (H':=(D,acc++[p])::H₈) .head t₇.inv r₇ hz) (λO s₈ hh1=>wpAny_pure ⟨rfl,?_⟩);have T₈:=t₆.trans (t₇.trans hh1.2).up
     exact ⟨xs.length,Au _,W',xs,_,σ₆,H₈,rfl,t₅.trans T₈,F₆.tr t₆.inv (t₇.trans hh1.2),IT.stable _ _ _ _ _ _ hJ₅ (Evo.of_tr F F₅ T₈ (λp hp=>⟨(hP₅ p hp).1,(hP₅ p hp).2.1⟩) λp hp=>mcm _ (hdep₇ p hp)),
       λp hp=>⟨(hP₅ p hp).1,λq=>(hP₅ p hp).2.1 (Trk.new T₈.keys (hP₅ p hp).2.2 q),nlt (hP₅ p hp).2.2 T₈.step.size⟩,q₇⟩
 exact fT hloop (IT.self W items _ s₁ _ _ hJ hloop)
noncomputable def tM (B:aJ)(fi:aP)(d:Nat)(t1 t2 i2 elt:Expr)(D:Addr)(deps:AH):List PV->List PV->St->AH->(LQ)->Prop
 | [],acc,_,H,Q=>Q acc H
 | x::xs,acc,σ,H,Q=>Asg B fi d NoE t1 x σ ((D,acc)::H) λσ₁ H₁=>EvI B fi d NoE t2 i2 σ₁ H₁ λitems deps2 H₂=>F8 D acc deps H₂ λH₃=>
     zJ B fi d t2 elt D deps2 items acc σ₁ H₃ λacc' σ₂ H₄=>(∀p∈deps,p∈H₄)/\tM B fi d t1 t2 i2 elt D deps xs acc' σ₂ H₄ Q
inductive aE1 (B:aJ)(fi:aP)(d:Nat)(env:Env)(H:AH)(s:Shared)(J:List PV->Unit->AH->Shared->Prop)(deps:AH)(t1 t2 i2 elt:Expr)(D:Addr)(Q:LQ)(n:Nat)(s':Shared):Prop
 | mk (items acc:List PV) (σ':St) (H':AH) (hn:n=items.length) (t:Tr noU s' ((D,acc)::H') s H B) (F:aA s' ((D,acc)::H') σ' env B) (j:J items () ((D,acc)::H') s') (q:tM B fi d t1 t2 i2 elt D deps items acc σ' H' Q)
theorem zD {elt t1 i1 t2 i2:Expr}{itv:Value}{cenv:Env}{deps:AH}{J:List PV->Unit->AH->Shared->Prop}{Q:LQ}
   {R:Result->Shared->Prop}{σ₀:St}{H₁:AH}{s₀:Shared}{items:List PV}(Rm:ah A d)(hd:3<=d)(hs2:∀env x,foldedSetIterable i2 env x=pure x)(ek:aY B fi cenv)(TT:rO B (λ_:Unit=>B.hid) A deps t1 itv cenv H s₀ J)(T₁:Tr noU s₁ ((D,[])::H₁) s₀ H B)
   (F₁:aA s₁ ((D,[])::H₁) σ₀ cenv B)(hJ:J items () ((D,[])::H₁) s₁)(hgo:tM B fi d t1 t2 i2 elt D deps items [] σ₀ H₁ Q)
   (hR:∀acc σ' H' s',Tr noU s' ((D,acc)::H') s₀ H B->aA s' ((D,acc)::H') σ' cenv B->Q acc H'->R (.ok .next) s') :
   codeAny (model B.prog B.w) A (.compStart (lc2 elt t1 i1 t2 i2 scope pos) 0 itv (.ref D) cenv) R s₁:=by
 have hloop:codeAny (model B.prog B.w) A (.compLoop (lc2 elt t1 i1 t2 i2 scope pos) 0 itv (.ref D) cenv) R s₁:=by
   refine codeAny_loop rfl (aE1 B fi d cenv H s₀ J deps t1 t2 i2 elt D Q) ?_ items.length ⟨items,[],σ₀,H₁,rfl,T₁,F₁,hJ,hgo⟩;intro n s₂ hi;obtain ⟨items,acc,σ₂,H₂,rfl,T₂,F₂,hJ₂,q₂⟩:=hi;show wpAny _ _ ((compTurn (lc2 elt t1 i1 t2 i2 scope pos) 0 itv (.ref D) cenv).onRaise (λx=>do noteFrame x cenv;theTreesLotGoes x)) _ _ s₂;refine wpAny_noted ?_;rw [ou,show A.under (.compLoop (lc2 elt t1 i1 t2 i2 scope pos) 0 itv (.ref D) cenv)=A from Around.under_of_weight rfl rfl];refine aa (wpAny_bind (wpAny_standAt (wps (TT.next items () σ₂ _ s₂ hJ₂ T₂ F₂) (λr s₃ hr=>?_))))
   cases hr with
   | done hi hr t f=>
     subst hi;subst hr;exact wpAny_pure (hR acc σ₂ H₂ s₃ t f q₂)
   | one v x xs hi hr hv=>
     subst hi;subst hr;refine wps hv (λO s₄ hh1=>?_);obtain ⟨o',I₄,F₄,hvr,st⟩:=hh1;have I₄:Inv B ((D,acc)::H₂) s₄:=I₄;have F₄:aA s₄ ((D,acc)::H₂) σ₂ cenv B:=F₄;refine wps (q₂ A s₄ cenv ek Rm I₄ F₄ v hvr) (λO s₅ hh1=>?_);obtain ⟨σ₅,H₅,t₅,F₅,q₅⟩:=hh1;refine wps (q₅ A s₅ cenv ek Rm t₅.inv F₅) (λy s₆ hh1=>?_);refine wpAny_bind (wpAny_standAt (wpAny_bind (wpAny_of_eq (hs2 cenv y) (wpAny_bind (wpAny_holding (wpm hh1 λit2 s₇ m=>?_))))));obtain ⟨items2,deps2,H₇,W,G,J2,t₇,IT,hJ₇,hP,hG,hdep,q₇⟩:=m;obtain ⟨H₈,e₇,hdep₇,q₈⟩:=q₇;subst e₇;refine wpAny_bind (wpAny_runOwn (GQ Rm hd ek F₅ t₅.inv t₇ IT hJ₇ hP hG q₈ λacc' σ' H' s' t' F' k=>?_));refine wpAny_pure ⟨rfl,?_⟩;have z:=st _ _ (t₅.trans t') λp hp=>mcm _ (k.1 p hp);exact ⟨xs.length,Au _,xs,_,σ',H',rfl,z.1,F',z.2,k.2⟩
 exact codeAny_compStart_list hloop (TT.self items () _ s₁ _ _ hJ hloop)
theorem kn {env:Env}{t1 i1 t2 i2 elt:Expr}{Q:LQ}{use:Option (Value->Sem Unit)}{K:Value->Shared->Prop}
   (e:aY B fi env)(R:ah A d)(I:Inv B H s)(F:aA s H σ env B)(hd:3<=d)(hs2:∀env x,foldedSetIterable i2 env x=pure x)
   (hi:EvI B fi d NoE t1 i1 σ H λitems deps H₁=>∀D,tM B (cfi fi scope σ') d t1 t2 i2 elt D deps items [] σ' H₁ Q)
   (hc:CSt B σ scope.names σ')(hn:(scope.names.map λe=>e.1).Nodup)(hk:scope.kind=.function)(hco:scope.isCoroutine=false)(hs:∀x,foldedSetIterable i1 env x=pure x)
   (hK:∀D acc H' C s',Tr noU s' ((D,acc)::H') s H B->(∃m,s'.heap.Ns C m)->s.heap.objs.size<=C->Q acc H'->compPost (model B.prog B.w) A NoE use K (.ref D) C (.ok .next) s') :
   wpAny (model B.prog B.w) A (comprehension (lc2 elt t1 i1 t2 i2 scope pos) scope env (firstIterPos [⟨t1,i1,[],0⟩,⟨t2,i2,[],0⟩] pos) (newList []) (firstAsync [⟨t1,i1,[],0⟩,⟨t2,i2,[],0⟩]) (firstIter [⟨t1,i1,[],0⟩,⟨t2,i2,[],0⟩] env) use) K NoE s:=by
 obtain ⟨cl,L⟩:=hc.clos F;refine wpAny_comprehension_free (gs:=[⟨t2,i2,[],0⟩]) rfl hs L.e hk (λx hx hl=>a0 hn (by rw [<-hl];exact hx)) (wpm (hi A s env e R I F) (λx s₁ h₁=>wpm h₁ (λitv s₂ m=>rQ hc.nocell hk λs₄ keep hns hg ho=>?_)));obtain ⟨items,deps,H₁,W,G,J,t₂,IT,j,p,g,dp,q⟩:=m;have T0:=Tr.fresh t₂.inv keep (Ah hns.lt) hg ho;have T:=t₂.trans T0;have hC:s₂.heap.objs.size<=(s₂.heap.push (al #[] 0)).objs.size:=by rw [Heap.size_push];exact Ax _
 have hCs:=ntr t₂.step.size hC
 have hU:∀a,bJ (compEnvC scope cl (s₂.heap.push (al #[] 0)).objs.size env) a->s.heap.objs.size<=a:=λa u=>by
   rcases u with rfl | ⟨x,_,hx,hlt⟩
   . exact hCs
   . exact absurd (A5 (nlt (L.lt x a hx) hCs) hlt) (Az _)
 have ek:aY B (cfi fi scope σ') (compEnvC scope cl (s₂.heap.push (al #[] 0)).objs.size env):=⟨congrArg (λn=>({ scope with names:=n }:Scope)) (hc.keys F e.kindF).symm,hk,hco,e.globals,e.builtins,e.qual,(λc P h=>(by cases h)),(λO h=>(by cases h)),(λO h=>(by cases h))⟩;refine zD R hd hs2 ek (rT (R.le hd) I IT (λi hi=>(g i hi).1) L.lt hU) T (lQ (l:=B.hid) I F e.kindF hc hn L T hCs hns λa ha x=>?_)
   ⟨W,IT.stable _ _ _ _ _ _ j (Evo.of_tr0 T0 (λa ha=>(p a ha).2.2) λx hx=>.tail _ (dp x hx)),λa ha=>⟨(p a ha).1,nlt (p a ha).2.1 T0.step.size,λq=>(p a ha).2.2 (Trk.new T0.keys (p a ha).2.1 q),λe=>absurd (p a ha).2.1 (nlr (e▸hC))⟩⟩ (q _) λacc σ'' H' s' T' F' hq=>?_
 . exact Trk.new T.keys ha x
 . obtain ⟨m,hns,O⟩:=F'.ns
   exact hK _ acc H' _ s' T' ⟨m,hns⟩ hCs hq
theorem pE {t1 i1 t2 i2 elt:Expr}(σ':St)
   (hc:CSt B σ scope.names σ')
   (hi:EvI B fi d NoE t1 i1 σ H λitems deps H₁=>∀D,tM B (cfi fi scope σ') d t1 t2 i2 elt D deps items [] σ' H₁ λacc H'=>Q (.list acc) H')
   (hn:autoParam ((scope.names.map λe=>e.1).Nodup) nF)(hk:autoParam (scope.kind=.function) nA)(hco:autoParam (scope.isCoroutine=false) nA)(hs:autoParam (∀env x,foldedSetIterable i1 env x=pure x) nC)(hs2:autoParam (∀env x,foldedSetIterable i2 env x=pure x) nC)
   (hd:autoParam (3<=d) nB):Ev E B d fi σ H (lc2 elt t1 i1 t2 i2 scope pos) Q:=λA s env e R I F=>by
 show wpAny _ A (comprehension (lc2 elt t1 i1 t2 i2 scope pos) scope env (firstIterPos [⟨t1,i1,[],0⟩,⟨t2,i2,[],0⟩] pos) (newList []) (firstAsync [⟨t1,i1,[],0⟩,⟨t2,i2,[],0⟩]) (firstIter [⟨t1,i1,[],0⟩,⟨t2,i2,[],0⟩] env)) _ _ s;refine wpAny_mono (kn (K:=aN B H s Q) e R I F hd hs2 hi hc hn hk hco (hs env) ?_) (λO O x=>x) λO O x=>x.elim
 rintro D acc H' C s' t ⟨m,hns⟩ hC q
 refine ⟨m,hns,λh' hsb=>?_⟩;have t':=t.turnedC I hns hC hsb;exact ⟨.list acc,H',t'.drop_key,t'.inv.freeze,q⟩
theorem js {x:Str}{pos':Pos}{t1 i1 t2 i2 elt:Expr}{cpos:Pos}(σ':St)
   (hc:CSt B σ scope.names σ')
   (hi:EvI B fi d NoE t1 i1 σ H λitems deps H₁=>∀D,tM B (cfi fi scope σ') d t1 t2 i2 elt D deps items [] σ' H₁ λacc H'=>∃σ₂,Rep x (.list acc) .local σ σ₂/\Qn σ₂ H')
   (hx:∃ov,(x,NameKind.local,ov)∈σ)(hl:autoParam ((pos'.line==cpos.line)=true) nA)(hno:autoParam ((scope.names.any λ(n,k)=>n==x && (k==.local || k==.cell))=false) nF)
   (hn:autoParam ((scope.names.map λe=>e.1).Nodup) nF)(hk:autoParam (scope.kind=.function) nA)(hco:autoParam (scope.isCoroutine=false) nA)(hs:autoParam (∀env x,foldedSetIterable i1 env x=pure x) nC)(hs2:autoParam (∀env x,foldedSetIterable i2 env x=pure x) nC)
   (hd:autoParam (3<=d) nB):X B fi d E (.Assign [.Name x pos'] (lc2 elt t1 i1 t2 i2 scope cpos) pos) σ H Qn Qf:=λA s env e R I F=>by
 obtain ⟨ov,hx⟩:=hx;rw [exec_Assign_Name_used x pos' _ pos (d9 e.kindF (F.kindOf hx) hl hno)];refine wpAny_bind (wpAny_standAt (wpAny_bind ?_));show wpAny _ A (do let _<-comprehension (lc2 elt t1 i1 t2 i2 scope cpos) scope env (firstIterPos [⟨t1,i1,[],0⟩,⟨t2,i2,[],0⟩] cpos) (newList []) (firstAsync [⟨t1,i1,[],0⟩,⟨t2,i2,[],0⟩]) (firstIter [⟨t1,i1,[],0⟩,⟨t2,i2,[],0⟩] env) (some (assign (.Name x pos') env))) _ _ s;refine wpAny_bind (wpAny_mono (kn (K:=λO s'=>∃σ₂ H',Tr (bJ env) s' H' s H B/\aA s' H' σ₂ env B/\Qn σ₂ H') e R I F hd hs2 hi hc hn hk hco (hs env) ?_) (λO s' hh1=>by obtain ⟨σ₂,H',t,F',q⟩:=hh1;exact wpAny_pure (wpAny_pure ⟨σ₂,H',t,F',.inl ⟨rfl,q⟩⟩)) λO O x=>x.elim);exact λD acc H' C s' t hns hC hh1=>by obtain ⟨σ₂,hr,q⟩:=hh1;exact jQ e I F t hns hC hr q
theorem yi {elt:Expr}{deps:AH}{σt:Option PV->St}{f:PV->PV}{Q:List PV->SQ}(hdep:∀p∈deps,p∈H)
   (ha:∀x o acc K,K (σt (some x)) ((D,acc)::H)->Asg B fi d NoE tgt x (σt o) ((D,acc)::H) K):∀(xs:List PV) (acc:List PV) (o:Option PV),
   (∀x∈xs,∀acc K,K (f x) ((D,acc)::H)->Ev NoE B d fi (σt (some x)) ((D,acc)::H) elt K)->acc.length+xs.length<=sizeLine->(∀o,Q (acc++xs.map f) (σt o) H)->zJ B fi d tgt elt D deps xs acc (σt o) H Q:=by
 intro xs
 induction xs with
 | nil=>exact λacc o O O q=>(Br acc)▸q o
 | cons x xs ih=>
   intro acc o he hz q;refine ha x o acc _ (he x (.head _) acc _ ⟨ntr (Ad _ _) hz,H,rfl,hdep,?_⟩);refine ih (acc++[f x]) (some x) (λy hy=>he y (.tail _ hy)) (by rw [Bl,Ap,Ak [f x].length];exact hz) λo=>?_;rw [Bn];exact q o
end
section
variable {TO:Addr}{o':Obj}
theorem cD.trU {U:Addr->Prop}{H₀:AH}{s₀:Shared}(t:Tr U s H s₀ H₀ B)(x:cD B TO P H s s')(hP:∀p,P p->s₀.heap.objs.size<=p)(hT:s₀.heap.objs.size<=TO):Tr U s' H s₀ H₀ B:=
 ⟨x.inv,⟨λa ob e hn=>x.heap a ob (t.step.heap a ob e hn) (λq=>absurd (Heap.lt_size e) (nlr (hP a q))) λq=>absurd (Heap.lt_size e) (nlr (by rw [q];exact hT)),ntr t.step.size x.size,
   λi y e=>by rw [x.gens];exact t.step.gens i y e⟩,t.keys⟩
theorem Tr.overZ {U:Addr->Prop}{H₁:AH}(t₁:Tr U s₁ H₁ s H B)(t:Tr U s' H' s₁ H₁ (B.hide TO o))(hT:s.heap.objs.size<=TO):Tr U s' H' s H B:=
 ⟨t.inv.unhide,⟨λa ob e hn=>by
     have ha:=Heap.lt_size e;refine t.step.heap a ob (t₁.step.heap a ob e hn) λq=>?_;rcases q with q | q
     . rcases Trk.hide.mp q with q | q
       . exact absurd ha (nlr (by rw [q];exact hT))
       . exact hn (.inl (Trk.new t₁.keys ha q))
     . exact hn (.inr q),
   ntr t₁.step.size t.step.size,λi x e=>t.step.gens i x (t₁.step.gens i x e)⟩,λa ha=>by
   rcases t.keys a ha with q | q
   . exact t₁.keys a q
   . exact .inr (ntr t₁.step.size q)⟩
theorem aA.trZ (F:aA s H σ env B)(I:Inv B H s)(t:Tr noU s' H' s H B)(hT:s.heap.objs.size<=TO):aA s' H' σ env (B.hide TO o):=by
 have hk:∀a ob,s.heap.get? a=some ob->¬Trk H B a->s'.heap.get? a=some ob:=λa ob e n=>t.step.heap a ob e λq=>q.elim n False.elim;have ht:∀a,a<s.heap.objs.size->Trk H' (B.hide TO o) a->Trk H B a:=λa ha x=>(Trk.hide.mp x).elim (λe=>absurd ha (nlr (by rw [e];exact hT))) (Trk.new t.keys ha);refine ⟨F.fresh,F.apart,F.keys,F.nodup,?_,λy ov hy=>?_,F.glob⟩
 . obtain ⟨m,⟨ob,es,ep,ho,hd,r⟩,hm⟩:=F.ns
   exact ⟨m,⟨ob,es,ep,hk _ _ ho (b6 I ho (by rw [hd];intro _ _ q;cases q) (by rw [hd];intro _ q;cases q)),hd,r⟩,λy p hy=>(hm y p hy).mono (λa ob e O n=>hk a ob e n) ht⟩
 . obtain ⟨c,w,hc,⟨ob,ho,hd⟩,hv⟩:=F.cell y ov hy
   exact ⟨c,w,hc,⟨ob,hk _ _ ho (b6 I ho (by rw [hd];intro _ _ q;cases q) (by rw [hd];intro _ q;cases q)),hd⟩,hv.mono (λa ob e O n=>hk a ob e n) ht⟩
theorem cD.frameF {σ₀:St}{H₀:AH}{s₀:Shared}(F₀:aA s₀ H₀ σ₀ env B)(F:aA s H σ env (B.hide TO o))(x:cD B TO P H s s')(hL:∀p,P p->∀ob,s.heap.get? p=some ob->bT ob)(hT:∀ob,s.heap.get? TO=some ob->a9 ob)(hP:∀p,P p->s₀.heap.objs.size<=p):aA s' H σ env (B.hide TO o'):=by
 have sq:∀a ob,s.heap.get? a=some ob->a9 ob->¬Trk H (B.hide TO o) a->s'.heap.get? a=some ob:=x.seq hL;have tt:∀a,a<s.heap.objs.size->Trk H (B.hide TO o') a->Trk H (B.hide TO o) a:=λa O t=>Trk.hide.mpr (Trk.hide.mp t);refine ⟨F.fresh,F.apart,F.keys,F.nodup,?_,λy ov hy=>?_,F.glob⟩
 . obtain ⟨m,⟨ob,es,ep,ho,hd,r⟩,h2⟩:=F.ns
   refine ⟨m,⟨ob,es,ep,x.heap _ _ ho (λp=>absurd (F₀.own_lt (.inl rfl)) (nlr (hP _ p))) (λe=>?_),hd,r⟩,λy p hy=>(h2 y p hy).mono sq tt⟩;obtain ⟨vs,n,e2⟩:=hT _ (e▸ho);rw [hd] at e2;cases e2
 . have find:∀{k},(y,k,ov)∈σ->∃ov',(y,k,ov')∈σ₀:=λhm=>by
     obtain ⟨⟨y',k',ov'⟩,he,heq⟩:=mmp ((F₀.keys.trans F.keys.symm)▸By (f:=λe:Str×NameKind×Option PV=>(e.1,e.2.1)) hm);cases heq;exact ⟨ov',he⟩
   obtain ⟨c,w,hc,⟨ob,ho,hd⟩,hv⟩:=F.cell y ov hy;obtain ⟨c',hc',hlt⟩:∃c',env.cells.lookup y=some c'/\c'<s₀.heap.objs.size:=hy.elim (λh=>(find h).elim λO h=>(F₀.cell _ _ (.inl h)).look) λh=>(find h).elim λO h=>(F₀.cell _ _ (.inr h)).look;refine ⟨c,w,hc,⟨ob,x.heap _ _ ho (λp=>absurd (Option.some.inj (hc'.symm.trans hc)▸hlt) (nlr (hP _ p))) (λe=>?_),hd⟩,hv.mono sq tt⟩;obtain ⟨vs,n,e2⟩:=hT _ (e▸ho);rw [hd] at e2;cases e2
noncomputable def uA (B:aJ)(TO:Addr)(fi:aP)(d:Nat)(tgt:Expr)(body:List Stmt)(deps:AH):List PV->St->AH->(SQ)->Prop
 | [],σ,H,Qn=>Qn σ H
 | x::xs,σ,H,Qn=>∀o,Asg (B.hide TO o) fi d NoE tgt x σ H λσ₁ H₁=>Xs NoE (B.hide TO o) d fi H₁ σ₁ body (λσ₂ H₂=>(∀p∈deps,p∈H₂)/\uA B TO fi d tgt body deps xs σ₂ H₂ Qn) (λO O O=>False)
inductive GX (B:aJ)(fi:aP)(d:Nat)(env:Env)(H:AH)(s:Shared)(z TI TO i1 i2 l1 l2:Addr)(xs ys:List PV)(deps:AH)(tgt:Expr)(body:List Stmt)(Qn:SQ)(n:Nat)(s':Shared):Prop
 | mk (k:Nat) (σ':St) (H':AH) (o:Obj) (hn:n=(bU (xs.drop k) (ys.drop k)).length) (t:Tr (bJ env) s' H' s H B) (F:aA s' H' σ' env (B.hide TO o)) (Z:fP B o z TI TO i1 i2 l1 l2 xs ys deps k H' s')
     (p:∀p,(ZP z i1 i2 p\/p=TI)->s.heap.objs.size<=p/\p<s'.heap.objs.size/\¬Trk H' (B.hide TO o) p) (dp:∀p∈deps,p∈H') (q:uA B TO fi d tgt body deps (bU (xs.drop k) (ys.drop k)) σ' H' Qn)
theorem aAk {elts:List Expr}{kk:Nat}{tpos:Pos}{func:Expr}{args:List Expr}{ipos:Pos}
   (hi:Ev NoE B d fi σ H func λf H₁=>cQ B f/\EvL B fi d NoE args σ H₁ λvs H₂=>aE5 H₂ (λTO xs ys deps=>uA B TO fi d (.Tuple elts kk tpos) body deps (bU xs ys) σ H₂ Qn) f vs)
   (hp:args.all ax=true)(he:∀env,eval (.Call func args [] ipos) env=(do callWith ipos (<-eval func env) [] (backTo ipos (starEach args env)) (backToKw ipos (keywordEach [] env))))
   (hs:∀env x,foldedSetIterable (.Call func args [] ipos) env x=pure x):X B fi d NoE (.For (.Tuple elts kk tpos) (.Call func args [] ipos) body [] pos) σ H Qn Qf:=λA s env e R I F=>by
 show wpAny _ A (do standAt pos;let x<-foldedSetIterable (.Call func args [] ipos) env (<-eval (.Call func args [] ipos) env);standAt (Expr.Call func args [] ipos).pos;runOwn (.forLoop (.Tuple elts kk tpos) (<-holding [x] (pyIter x)) body [] env) env) _ _ s
 have main:wpAny (model B.prog B.w) A (eval (.Call func args [] ipos) env) (λx s₁=>wpAny (model B.prog B.w) A (pyIter x) (λitv s₂=>∃TO H₂,l6 B H s TO H₂ (λxs ys deps=>uA B TO fi d (.Tuple elts kk tpos) body deps (bU xs ys) σ H₂ Qn) itv s₂) NoE s₁) NoE s:=by
   refine Call_ (wpm (hi A s env e R I F) (λfv s₁ hh=>?_)) (he env);obtain ⟨f,H₁,t₁,q₁,hk₁,h₁⟩:=hh;refine bD (ar hp (wpL (ay h₁ hp A s₁ env e R t₁.inv (F.tr I t₁)) (λvs s₂ ps H₂ t₂ l₂ q₂ h₂=>?_)));refine ⟨hk₁ A NoE H₂ s₂ fv t₂.inv (q₁.tr t₂),?_⟩;obtain ⟨v,w,xs,ys,hf,hv,h1,h2,hq⟩:=h₂;subst hf;subst hv;obtain ⟨va,vb,rfl,r1,r2⟩:=q₂.two;obtain ⟨O,rfl⟩:=q₁.inv;exact wpm (rP (q:=λTO xs ys deps=>uA B TO fi d (.Tuple elts kk tpos) body deps (bU xs ys) σ H₂ Qn) t₂.inv h1 h2 r1 r2 hq) (λx s₃ h₃=>wpm h₃ (λitv s₄ m=>by obtain ⟨TO,m⟩:=m;exact ⟨TO,H₂,m.back (t₁.trans t₂)⟩))
 refine wpAny_bind (wpAny_standAt (wpAny_bind (wpm main (λx s₁ h₁=>?_))));refine wpAny_bind (wpAny_of_eq (hs env x) (wpAny_bind (wpAny_standAt (wpAny_bind (wpAny_holding (wpm h₁ (λitv s₂ m=>?_)))))));obtain ⟨TO,H₁,o,z,TI,i1,i2,l1,l2,xs,ys,deps,rfl,t,ZD,nd,Z,hP,hT,hdep,q⟩:=m;refine wpAny_runOwn ?_;have lt_own:∀{p:Addr},s.heap.objs.size<=p->¬bJ env p:=λhp u=>absurd (F.own_lt u) (nlr hp);refine codeAny_forLoop_any (GX B fi d env H s z TI TO i1 i2 l1 l2 xs ys deps (.Tuple elts kk tpos) body Qn) ?_ (bU xs ys).length ⟨0,σ,H₁,o,rfl,t.up,F.trZ I t hT.1,Z,hP,hdep,q⟩
 rintro n s₃ ⟨k,σ₃,H₃,o₃,rfl,t₃,F₃,Z₃,hP₃,hd₃,q₃⟩
 have hPa:∀p,ZP z i1 i2 p->s.heap.objs.size<=p:=λp hp=>(hP₃ p (.inl hp)).1
 have fr:∀{o' s'},cD B TO (ZP z i1 i2) H₃ s₃ s'->aA s' H₃ σ₃ env (B.hide TO o'):=λox=>ox.frameF F F₃ Z₃.loose (λob e=>by
   have x:=Z₃.inv.hid _ mcs
   exact Option.some.inj (e.symm.trans x.a)▸x.b) hPa
 refine wpm (r0 (elts:=elts) (kk:=kk) (pos:=tpos) ZD nd Z₃ R.handled (λp hp=>⟨ntr I.size (hPa p hp),(hP₃ p (.inl hp)).2.2⟩)) (λr s₄ hr=>?_) |> λh=>wpAny_mono h (λO O x=>x) λO O x=>x.elim;rcases hr with ⟨rfl,hnil,ox⟩ | ⟨v,x,y,rfl,hcons,hv⟩
 . rw [hnil] at q₃
   dsimp only;exact aa (wpAny_execs_nil ⟨σ₃,H₃,ox.trU t₃ hPa hT.1,(fr (o':=o₃) ox).unhide,.inl ⟨rfl,q₃⟩⟩)
 . rw [hcons] at q₃ ⊢
   dsimp only;refine aa (wpm hv (λO s₅ hh1=>?_));obtain ⟨o',ox,hvr,Z₅⟩:=hh1;have t₅:Tr (bJ env) s₅ H₃ s H B:=ox.trU t₃ hPa hT.1;have F₅:aA s₅ H₃ σ₃ env (B.hide TO o'):=fr ox;have hP₅:∀p,(ZP z i1 i2 p\/p=TI)->p<s₅.heap.objs.size/\¬Trk H₃ (B.hide TO o') p:=λp hp=>⟨nlt (hP₃ p hp).2.1 ox.size,λt=>(hP₃ p hp).2.2 (Trk.hide.mpr (Trk.hide.mp t))⟩;refine aa (wpm (q₃ o' A s₅ env e.hids R Z₅.inv F₅ v hvr) (λO s₆ hh1=>?_));obtain ⟨σ₆,H₆,t₆,F₆,q₆⟩:=hh1;refine aa (wpm (q₆ A s₆ env e.hids R t₆.inv F₆) (λfl s₇ hh1=>?_));obtain ⟨σ₇,H₇,t₇,F₇,q₇⟩:=hh1;have T₇:=t₆.trans t₇;rcases q₇ with ⟨rfl,hd₇,q₇⟩ | ⟨pf,hf,q₇⟩
   . refine ⟨_,Au _,k+1,σ₇,H₇,o',rfl,t₅.overZ T₇ hT.1,F₇,Z₅.stable (hP₅ _ (.inr rfl)).2 (G:=λO=>False) (Evo.of_tr' F₅ T₇ (λp hp=>⟨lt_own (hPa p hp),(hP₅ p (.inl hp)).2⟩) hd₇),
       λp hp=>⟨(hP₃ p hp).1,nlt (hP₅ p hp).1 T₇.step.size,λq=>(hP₅ p hp).2 (Trk.new T₇.keys (hP₅ p hp).1 q)⟩,hd₇,q₇⟩
   . exact q₇.elim
end
section
theorem jr {x:Str}{pos':Pos}{elts:List Expr}{kk:Nat}{tpos:Pos}{func:Expr}{args:List Expr}{ipos:Pos}{elt:Expr}{ifs:List Expr}{cpos:Pos}(σ':St)
   (hc:CSt B σ scope.names σ')
   (hi:Ev NoE B d fi σ H func λf H₁=>cQ B f/\EvL B fi d NoE args σ H₁ λvs H₂=>aE5 H₂ (λTO xs ys deps=>∀D,aC3 B TO (cfi fi scope σ') d (.Tuple elts kk tpos) ifs elt D deps (bU xs ys) [] σ' H₂ λacc H'=>∃σ₂,Rep x (.list acc) .local σ σ₂/\Qn σ₂ H') f vs)
   (hx:∃ov,(x,NameKind.local,ov)∈σ)(hl:(pos'.line==cpos.line)=true)(hno:(scope.names.any λ(n,k)=>n==x && (k==.local || k==.cell))=false)
   (hp:args.all ax=true)(he:∀env,eval (.Call func args [] ipos) env=(do callWith ipos (<-eval func env) [] (backTo ipos (starEach args env)) (backToKw ipos (keywordEach [] env))))
   (hn:(scope.names.map λe=>e.1).Nodup)(hk:scope.kind=.function)(hco:scope.isCoroutine=false)(hs:∀env x,foldedSetIterable (.Call func args [] ipos) env x=pure x)
   (hd:3<=d)(hifs:ifs.length<=1):X B fi d E (.Assign [.Name x pos'] (.ListComp elt [⟨.Tuple elts kk tpos,.Call func args [] ipos,ifs,0⟩] scope cpos) pos) σ H Qn Qf:=λA s env e R I F=>by
 obtain ⟨ov,hx⟩:=hx;rw [exec_Assign_Name_used x pos' _ pos (d9 e.kindF (F.kindOf hx) hl hno)];refine wpAny_bind (wpAny_standAt (wpAny_bind ?_));show wpAny _ A (do let _<-comprehension (.ListComp elt [⟨.Tuple elts kk tpos,.Call func args [] ipos,ifs,0⟩] scope cpos) scope env (firstIterPos [⟨.Tuple elts kk tpos,.Call func args [] ipos,ifs,0⟩] cpos) (newList []) (firstAsync [⟨.Tuple elts kk tpos,.Call func args [] ipos,ifs,0⟩]) (firstIter [⟨.Tuple elts kk tpos,.Call func args [] ipos,ifs,0⟩] env) (some (assign (.Name x pos') env))) _ _ s;refine wpAny_bind (wpAny_mono (jK (K:=λO s'=>∃σ₂ H',Tr (bJ env) s' H' s H B/\aA s' H' σ₂ env B/\Qn σ₂ H') e R I F hifs (Q:=λacc H'=>∃σ₂,Rep x (.list acc) .local σ σ₂/\Qn σ₂ H') ?_ hc hn hk hco (hs env) ?_) (λO s' hh1=>by obtain ⟨σ₂,H',t,F',q⟩:=hh1;exact wpAny_pure (wpAny_pure ⟨σ₂,H',t,F',.inl ⟨rfl,q⟩⟩)) λO O x=>x.elim)
 . refine Call_ (wpm (hi A s env e R I F) (λfv s₁ hh=>?_)) (he env)
   obtain ⟨f,H₁,t₁,q₁,hk₁,h₁⟩:=hh;refine bD (ar hp (wpL (ay h₁ hp A s₁ env e R t₁.inv (F.tr I t₁)) (λvs s₂ ps H₂ t₂ l₂ q₂ h₂=>?_)));refine ⟨hk₁ A NoE H₂ s₂ fv t₂.inv (q₁.tr t₂),?_⟩;obtain ⟨v,w,xs,ys,hf,hv,h1,h2,hq⟩:=h₂;subst hf;subst hv;obtain ⟨va,vb,rfl,r1,r2⟩:=q₂.two;obtain ⟨O,rfl⟩:=q₁.inv;exact wpm (rP (q:=λTO xs ys deps=>∀D,aC3 B TO (cfi fi scope σ') d (.Tuple elts kk tpos) ifs elt D deps (bU xs ys) [] σ' H₂ λacc H'=>∃σ₂,Rep x (.list acc) .local σ σ₂/\Qn σ₂ H') t₂.inv h1 h2 r1 r2 hq) (λx s₃ h₃=>wpm h₃ (λitv s₄ m=>by obtain ⟨TO,m⟩:=m;exact (m.back (t₁.trans t₂)).toC R.handled I))
 . exact λD acc H' C s' t hns hC hh1=>by obtain ⟨σ₂,hr,q⟩:=hh1;exact jQ e I F t hns hC hr q
end
section
theorem p7 {t1 t2 i2 elt:Expr}{deps:AH}{σt:Option PV->Option PV->St}{its:PV->List PV}{f:PV->PV->PV}{Q:LQ}(hd:∀p∈deps,p∈H)
   (hB:∀x y o acc (K:SQ),K (σt (some x) (some y)) ((D,acc)::H)->Asg B fi d NoE t2 y (σt (some x) o) ((D,acc)::H) K):∀(items acc:List PV) (o1 o2:Option PV),
   (∀x∈items,∀o1 o2 acc (K:SQ),K (σt (some x) o2) ((D,acc)::H)->Asg B fi d NoE t1 x (σt o1 o2) ((D,acc)::H) K)->
   (∀x∈items,∀o2 acc (K:IQ),K (its x) [] ((D,acc)::H)->EvI B fi d NoE t2 i2 (σt (some x) o2) ((D,acc)::H) K)->
   (∀x∈items,∀y∈its x,∀acc (K:PQ),K (f x y) ((D,acc)::H)->Ev NoE B d fi (σt (some x) (some y)) ((D,acc)::H) elt K)->
   acc.length+(items.flatMap its).length<=sizeLine->Q (acc++items.flatMap λx=>(its x).map (f x)) H->tM B fi d t1 t2 i2 elt D deps items acc (σt o1 o2) H Q:=by
 intro items
 induction items with
 | nil=>exact λacc O O O O O O q=>(Br acc)▸q
 | cons x xs ih=>
   intro acc o1 o2 hA hI hE hz q;rw [List.flatMap_cons,Bl] at hz;rw [List.flatMap_cons,<-Bn] at q;refine hA x (.head _) o1 o2 acc _ (hI x (.head _) o2 acc _ ⟨H,rfl,hd,?_⟩);refine yi (σt:=σt (some x)) (f:=f x) (λp hp=>(Bo hp).elim) (hB x) (its x) acc o2 (hE x (.head _)) (ntr (AD (Ad _ _) _) hz) λo=>?_;exact ⟨hd,ih _ (some x) o (λy hy=>hA y (.tail _ hy)) (λy hy=>hI y (.tail _ hy)) (λy hy=>hE y (.tail _ hy)) (by rw [Bl,Bk,Ap];exact hz) q⟩
end
theorem wW {c:Nat}{rows:List (List Nat)}(h:∀r∈rows,c∉r)(hn:rows≠[]):∀{rows':List (List Nat)},(∀r∈rows',c∉r)->rows'≠[]->aj [c] rows=aj [c] rows'->rows=rows':=by
 have one:∀{a b s t:List Nat},c∉a->c∉b->a++c::s=b++c::t->a=b/\s=t:=λ{a}=>by
   induction a with
   | nil=>
     intro b s t _ hb e
     cases b with
     | nil=>exact ⟨rfl,(List.cons.inj e).2⟩
     | cons x b=>exact absurd ((List.cons.inj e).1▸mcs) hb
   | cons x a ih=>
     intro b s t ha hb e
     cases b with
     | nil=>exact absurd ((List.cons.inj e).1▸mcs) ha
     | cons y b=>
       obtain ⟨e1,e2⟩:=List.cons.inj e;obtain ⟨e3,e4⟩:=ih (λg=>ha (.tail _ g)) (λg=>hb (.tail _ g)) e2;exact ⟨by rw [e1,e3],e4⟩
 induction rows with
 | nil=>intro _ _ _ _;exact absurd rfl hn
 | cons r rows ih=>
   intro rows' h' hn' e
   cases rows' with
   | nil=>exact absurd rfl hn'
   | cons r' rows'=>
     cases rows with
     | nil=>
       cases rows' with
       | nil=>exact congrArg (·::[]) e
       | cons s' rows'=>
         have e:r=aj [c] (r'::s'::rows'):=e;rw [ai] at e;exact absurd (by rw [e];simp) (h r (.head _))
     | cons s rows=>
       cases rows' with
       | nil=>
         have e:aj [c] (r::s::rows)=r':=e;rw [ai] at e;exact absurd (by rw [<-e];simp) (h' r' (.head _))
       | cons s' rows'=>
         rw [ai,ai] at e;have e:r++c::aj [c] (s::rows)=r'++c::aj [c] (s'::rows'):=by simpa using e
         obtain ⟨e1,e2⟩:=one (h r (.head _)) (h' r' (.head _)) e;rw [e1,ih (λx g=>h x (.tail _ g)) (Bz _ _) (λx g=>h' x (.tail _ g)) (Bz _ _) e2]
theorem md {c:Nat}{rows:List (List Nat)}(h:∀r∈rows,c∉r)(hn:rows≠[]):Txt.split (ofL (aj [c] rows)) (ofL [c])=rows.map ofL:=by
 have e1:=StrLaws.join_split (ofL (aj [c] rows)) (ofL [c]);have e2:=StrLaws.split_free (ofL (aj [c] rows)) c;have e3:=PyProof.Rows.split_pos (ofL (aj [c] rows)) (ofL [c]);change ∀p∈Txt.split (ofL (aj [c] rows)) (ofL [c]),c∉p.cps.toList at e2;generalize Txt.split (ofL (aj [c] rows)) (ofL [c])=l at *
 have el:l=(l.map (·.cps.toList)).map ofL:=by
   rw [Bm];exact (List.map_id' l).symm.trans (Bv λx O=>rfl)
 have e1:Txt.join (ofL [c]) l=ofL (aj [c] rows):=by unfold Txt.join;rw [StrLaws.glued_eq_join];exact e1
 rw [el,da] at e1;rw [el];refine congrArg _ (wW (λr hr=>?_) (λe=>?_) h hn (congrArg (λx:Str=>x.cps.toList) e1))
 . obtain ⟨x,hx,rfl⟩:=mmp hr
   exact e2 x hx
 . rw [List.map_eq_nil_iff.mp e] at e3;exact absurd e3 ∅
noncomputable def spH:List Nat->List Nat
 | []=>[]
 | c::r=>if c=120 then [] else c::spH r
noncomputable def spT:List Nat->List (List Nat)
 | []=>[]
 | c::r=>if c=120 then spH r::spT r else spT r
theorem u1 (t:List Nat):aj [120] (spH t::spT t)=t/\∀r∈spH t::spT t,120∉r:=by
 induction t with
 | nil=>exact ⟨rfl,λr h=>by rw [msp h];exact Bo⟩
 | cons c t ih=>
   show aj [120] ((if c=120 then [] else c::spH t)::(if c=120 then spH t::spT t else spT t))=c::t/\∀r∈(if c=120 then [] else c::spH t)::(if c=120 then spH t::spT t else spT t),120∉r;by_cases h:c=120
   . subst h
     rw [if_pos rfl,if_pos rfl,ai,ih.1];refine ⟨rfl,λr hr=>?_⟩;rcases mcp hr with rfl | hr
     . exact Bo
     . exact ih.2 r hr
   . rw [if_neg h,if_neg h]
     refine ⟨?_,λr hr=>?_⟩
     . have e:=ih.1
       cases q:spT t with
       | nil=>rw [q] at e;exact congrArg (c::·) e
       | cons s l=>rw [q,ai] at e;rw [ai];exact congrArg (c::·) e
     . rcases mcp hr with rfl | hr
       . exact λg=>(mcp g).elim (λe=>h e.symm) (ih.2 _ (.head _))
       . exact ih.2 r (.tail _ hr)
noncomputable abbrev fZ:List (List Nat):=[[97],[92,40],[92,92],[92,41],[34,41,34,98],[34,40,92,34,34,99],[92,34]]
noncomputable def sg (w:Nat):List Nat:=fZ.getD (w%7) []
noncomputable def am:Nat->List Nat->List Nat
 | _,[]=>[]
 | w,c::r=>if c=120 then sg w++am (w+1) r else c::am w r
noncomputable def jH:Nat->List (List Nat)->List (List Nat)
 | _,[]=>[]
 | w,p::ps=>(sg w++p)::jH (w+1) ps
theorem kz (t:List Nat):∀w,am w t=spH t++(jH w (spT t)).flatten:=by
 induction t with
 | nil=>exact λO=>rfl
 | cons c t ih=>
   intro w;show (if c=120 then sg w++am (w+1) t else c::am w t)=(if c=120 then [] else c::spH t)++(jH w (if c=120 then spH t::spT t else spT t)).flatten;by_cases h:c=120
   . rw [if_pos h,if_pos h,if_pos h,ih]
     show _=((sg w++spH t)::jH (w+1) (spT t)).flatten;rw [BD,Bn]
   . rw [if_neg h,if_neg h,if_neg h,ih];rfl
theorem vY (t:List Nat):(spT t).length=t.count 120:=by
 induction t with
 | nil=>rfl
 | cons c t ih=>
   show (if c=120 then spH t::spT t else spT t).length=_;by_cases h:c=120
   . subst h;rw [if_pos rfl,List.count_cons_self,<-ih];rfl
   . rw [if_neg h,B4 h,ih]
theorem vM (t:List Nat):Txt.split (ofL t) (ofL [120])=(spH t::spT t).map ofL:=by
 have:=md (u1 t).2 (Bz _ _);rwa [(u1 t).1] at this
theorem j5 {a:Nat}(hab:a<=b)(hb:b<=x.length):aw x (some (a:Int)) (some (b:Int)) none=ofL ((x.cps.toList.drop a).take (b-a)):=StrLaws.sliceText_nat x hab hb
theorem qt {a:Nat}(ha:a<=x.length):aw x (some (a:Int)) none none=ofL (x.cps.toList.drop a):=by
 have:=j5 (x:=x) ha (Ab _);unfold aw at this ⊢;rw [Option.getD_none,StrLaws.sliceIdx_none_hi];rw [Option.getD_none] at this;rw [this,BB (by have:x.cps.toList.length=x.length:=rfl;rw [BE];lia)]
set_option tactic.hygienic true in
theorem EG (c:Nat)(n:Int):Txt.mul (ofL [c]) n=ofL (List.replicate n.toNat c):=by
 unfold Txt.mul;split
 . rename_i h
   have:n.toNat=0:=by lia
   rw [this];rfl
 . rename_i h
   split
   . rename_i h2
     simp only [Cb,beq_iff_eq] at h2;rcases h2 with rfl | h2
     . rfl
     . cases h2
   . have:∀(k:Nat) (acc:Array Nat),(List.replicate k (ofL [c]).cps).foldl (·++·) acc=acc++(List.replicate k c).toArray:=by
       intro k
       induction k with
       | zero=>intro acc;simp
       | succ k ih=>
         intro acc;rw [BO,BI,ih,BO];apply Array.ext';simp [ofL]
     rw [this];unfold ofL;congr 1;simp
theorem iK (a b:List Nat):ofL a++ofL b=ofL (a++b):=by
 show (⟨(ofL a).cps++(ofL b).cps⟩:Str)=_;unfold ofL;congr 1;simp
theorem xN {c:Nat}{n:Int}(hn:n<=16000000)(hn2:-16000000<=n):MulOk (ofL [c]) n:=by
 refine ⟨?_,λO O=>?_,λO O=>?_⟩
 . simp only [Bool.or_eq_false_iff,decide_eq_false_iff_not];lia
 . intro h
   have e:((ofL [c]).length:Int)=1:=rfl;rw [e] at h
   have:(2 ^ 63-1:Int)/n ≥ 1:=by
     have hp:0<n:=by clear e h hn;(exact Int.not_lt.mp ‹_›)
     rw [ge_iff_le,Int.le_ediv_iff_mul_le hp]
     lia
   lia
 . unfold Builtin.Str.tooLong
   have e:(ofL [c]).length=1:=rfl;rw [e,Bc,sizeLine_eq];exact decide_eq_false (by lia)
theorem gI {c:Nat}(h:c≠92):aU i false (c::r)=(i,[c])::aU (i+1) false r:=if_neg h
theorem fy {c:Nat}:aU i false (92::c::r)=(i+1,[92,c])::aU (i+1+1) false r:=rfl
noncomputable def cW (acc:List Str):List Nat:=(acc.map (·.cps.toList)).flatten
theorem mU (acc:List Str)(x:Str):cW (acc++[x])=cW acc++x.cps.toList:=by
 unfold cW;rw [Bq,List.flatten_append];exact congrArg _ (Br _)
theorem na {X:Str}{p pre b x:List Nat}{T:List (Nat×List Nat)}{st:Nat}{acc:List Str}(hp:1<=p.length)(hT:T=[(pre.length+(p.length-1),[34])]\/∃t:Nat×List Nat,t.2≠[34]/\(T=[t,(pre.length+(p.length-1),[34])]\/∃u:Nat×List Nat,u.2≠[34]/\T=[t,u,(pre.length+(p.length-1),[34])]))
   (hX:X.cps.toList=pre++(p++x))(hs:st<=pre.length)(ih:∀st acc,st<=(pre++p).length->cW (ag X (aU (pre++p).length false x) st none acc)=cW acc++(pre++p).drop st++b) :
   cW (ag X ((pre.length,[34])::(T++aU (pre++p).length false x)) st none acc)=cW acc++pre.drop st++b:=by
 have hlen:pre.length+(p.length-1)+1=(pre++p).length:=by rw [Bl];lia
 have hxl:pre.length<=X.length:=by
   show _<=X.cps.size;rw [<-Array.length_toList,hX,Bl];exact Ad _ _
 have fin:∀T',cW (ag X ((pre.length+(p.length-1),[34])::T') st (some pre.length) acc)=cW (ag X T' (pre++p).length none (if st≠pre.length then acc++[aw X (some (st:Int)) (some (pre.length:Int)) none] else acc)):=λT'=>by
   rw [<-hlen];exact congrArg cW (if_pos rfl)
 have ih':=ih (pre++p).length (if st≠pre.length then acc++[aw X (some (st:Int)) (some (pre.length:Int)) none] else acc) (Ab _)
 have res:cW (ag X (aU (pre++p).length false x) (pre++p).length none (if st≠pre.length then acc++[aw X (some (st:Int)) (some (pre.length:Int)) none] else acc))=cW acc++pre.drop st++b:=by
   rw [ih',List.drop_length,Br];by_cases e:st=pre.length
   . rw [if_neg λn=>n e,e,List.drop_length,Br]
   . rw [if_pos e,mU,j5 hs hxl,hX]
     show _++((pre++_).drop st).take _++b=_;rw [List.drop_append_of_le_length hs,List.take_append_of_le_length (Ac List.length_drop.symm),BB (Ac BE)]
 rw [ew rfl];rcases hT with rfl | ⟨t,ht,rfl | ⟨u,hu,rfl⟩⟩
 . exact (fin _).trans res
 . refine Eq.trans (congrArg cW (b7 (p:=t.1) ht)) ((fin _).trans res)
 . refine Eq.trans (congrArg cW ((b7 (p:=t.1) ht).trans (b7 (p:=u.1) hu))) ((fin _).trans res)
theorem wg:∀(pre:List Nat) (st:Nat) (acc:List Str) (X:Str),X.cps.toList=pre->st<=pre.length->cW (ag X [] st none acc)=cW acc++pre.drop st:=by
 intro pre st acc X hx hs;have hl:X.length=pre.length:=congrArg List.length hx;rw [dy];by_cases h:st<X.length
 . rw [if_pos h,mU,qt (Ah h),hx];rfl
 . rw [if_neg h,BR (by lia),Br]
noncomputable def Sp (x b:List Nat):Prop:=(∀(pre:List Nat) (st:Nat) (acc:List Str) (X:Str),X.cps.toList=pre++x->st<=pre.length->cW (ag X (aU pre.length false x) st none acc)=cW acc++pre.drop st++b)/\(34∉x->b=x)
section
variable {x b:List Nat}{c:Nat}
theorem Sp.nil:Sp [] []:=⟨λpre st acc X hx hs=>by
 rw [Br] at hx ⊢
 exact wg pre st acc X hx hs,λO=>rfl⟩
theorem Sp.more {p x b:List Nat}(h:Sp x b){pre:List Nat}{st:Nat}{acc:List Str}{X:Str}(hx:X.cps.toList=pre++(p++x))(hs:st<=pre.length):cW (ag X (aU (pre.length+p.length) false x) st none acc)=cW acc++pre.drop st++(p++b):=by
 rw [<-Bl,h.1 (pre++p) st acc X (by rw [Bn];exact hx) (ntr hs (by rw [Bl];exact Ad _ _)),List.drop_append_of_le_length hs,Bn,Bn,Bn]
theorem Sp.pair (h:Sp x b):Sp (92::c::x) (92::c::b):=⟨λpre st acc X hx hs=>by
 rw [fy,b7 (by intro h;cases h)]
 exact h.more (p:=[92,c]) hx hs,λhq=>by rw [h.2 λm=>hq (.tail _ (.tail _ m))]⟩
theorem Sp.sign (h1:c≠92)(h2:c≠34)(h:Sp x b):Sp (c::x) (c::b):=⟨λpre st acc X hx hs=>by
 rw [gI h1,b7 (λe=>h2 (List.cons.inj e).1)]
 exact h.more (p:=[c]) hx hs,λhq=>by rw [h.2 λm=>hq (.tail _ m)]⟩
theorem Sp.quo1 (h:Sp x b):Sp (34::41::34::x) b:=⟨λpre st acc X hx hs=>by
 rw [show aU pre.length false (34::41::34::x)=(pre.length,[34])::([(pre.length+1,[41]),(pre.length+(3-1),[34])]++aU (pre++[34,41,34]).length false x) by rw [Bl];rfl]
 exact na (p:=[34,41,34]) ∅ (.inr ⟨(pre.length+1,[41]),(by decide:([41]:List Nat)≠[34]),.inl rfl⟩) hx hs λst acc h'=>h.1 _ _ _ _ (by rw [Bn];exact hx) h',λhq=>(hq (.head _)).elim⟩
theorem Sp.quo2 (h:Sp x b):Sp (34::40::92::34::34::x) b:=⟨λpre st acc X hx hs=>by
 rw [show aU pre.length false (34::40::92::34::34::x)=(pre.length,[34])::([(pre.length+1,[40]),(pre.length+1+1+1,[92,34]),(pre.length+(5-1),[34])]++aU (pre++[34,40,92,34,34]).length false x) by rw [Bl];rfl]
 exact na (p:=[34,40,92,34,34]) ∅ (.inr ⟨(pre.length+1,[40]),(by decide:([40]:List Nat)≠[34]),.inr ⟨(pre.length+1+1+1,[92,34]),(by decide:([92,34]:List Nat)≠[34]),rfl⟩⟩) hx hs λst acc h'=>h.1 _ _ _ _ (by rw [Bn];exact hx) h',λhq=>(hq (.head _)).elim⟩
end
theorem Sp.strip {x b:List Nat}(h:Sp x b):dj (ofL x)=ofL b:=by
 unfold dj;rw [show Txt.contains (ofL x) ⟨#[34]⟩=decide (34∈x) from StrLaws.found_one (ofL x) 34];by_cases hq:34∈x
 . rw [decide_eq_true hq,if_pos rfl,jD]
   exact congrArg ofL (h.1 [] 0 [] (ofL x) rfl (Ab _))
 . rw [decide_eq_false hq,if_neg B9,h.2 hq]
noncomputable def chM:Bool->List Nat->Nat->Bool
 | _,[],o=>o==0
 | true,_::r,o=>chM false r o
 | false,c::r,o=>if c=92 then chM true r o else if c=40 then chM false r (o+1) else if c=41 then (if o=0 then false else chM false r (o-1)) else chM false r o
noncomputable abbrev chL (x:List Nat)(o:Nat):Bool:=chM false x o
theorem yy {c:Nat}{o:Nat}(h1:c≠92)(h2:c≠40)(h3:c≠41):chL (c::r) o=chL r o:=(if_neg h1).trans ((if_neg h2).trans (if_neg h3))
theorem zR {o:Nat}:chL (40::r) o=chL r (o+1):=rfl
theorem yo {o:Nat}:chL (41::r) (o+1)=chL r o:=rfl
theorem Fd :chL (41::r) 0=false:=rfl
theorem yh {c:Nat}{o:Nat}:chL (92::c::r) o=chL r o:=rfl
theorem C9 {o:Nat}:chL [92] o=(o==0):=rfl
theorem GU (n:Nat):∀(x:List Nat) (i o:Nat),x.length<=n->du (aU i false x) (o:Int)=chL x o:=by
 have nl:∀o:Nat,decide ((o:Int)=0)=(o==0):=λo=>by cases o <;> rfl
 induction n with
 | zero=>
   intro x i o h;obtain rfl:=List.length_eq_zero_iff.mp (Nat.le_zero.mp h);exact nl o
 | succ n ih=>
   intro x i o h
   cases x with
   | nil=>exact nl o
   | cons c r=>
     have hr:r.length<=n:=Bg h;by_cases h1:c=92
     . subst h1
       cases r with
       | nil=>
         rw [C9];exact nl o
       | cons c' r=>
         rw [fy,yh];refine (fH (by intro e;cases e) (by intro e;cases e)).trans (ih r _ o (AC hr))
     . rw [gI h1]
       by_cases h2:c=40
       . subst h2
         rw [zR];exact (gh rfl).trans (ih r _ (o+1) hr)
       . by_cases h3:c=41
         . subst h3
           cases o with
           | zero=>rw [Fd];exact nP rfl ∅
           | succ o=>
             rw [yo];refine (fQ rfl (by lia)).trans ?_;rw [show ((o+1:Nat):Int)-1=(o:Nat) by lia];exact ih r _ o hr
         . rw [yy h1 h2 h3]
           exact (fH (λe=>h2 (List.cons.inj e).1) (λe=>h3 (List.cons.inj e).1)).trans (ih r _ o hr)
theorem Fi {x b:List Nat}(h:Sp x b):gO (ofL x)=chL b 0:=by
 unfold gO;rw [h.strip];exact GU _ b 0 0 (Ab _)
theorem om:∀n,n<30->sliceRange (sliceBounds none none (some (-1)) n).1 (sliceBounds none none (some (-1)) n).2.1 (sliceBounds none none (some (-1)) n).2.2=(List.range n).reverse:=by decide +kernel
theorem lB {α:Type}:∀(xs ys:List α),(BS ys.length xs.length).filterMap ((ys++xs)[·]?)=xs:=by
 intro xs
 induction xs with
 | nil=>
   intro _;exact rfl
 | cons x xs ih=>
   intro ys;have h:(ys++x::xs)[ys.length]?=some x:=by rw [List.getElem?_append_right (Ab _),A1];rfl
   have ih:=ih (ys++[x]);rw [Bl,Bn] at ih;show (ys.length::BS (ys.length+1) xs.length).filterMap _=_;rw [B6 h];exact congrArg (x::·) ih
theorem z1 {α:Type}(xs:List α)(h:xs.length<30):pick xs none none (some (-1))=xs.reverse:=by
 unfold pick;rw [om xs.length h,List.filterMap_reverse,List.range_eq_range'];exact congrArg _ (lB xs [])
theorem aO {n:Nat}(e:m<=n)(h:autoParam (Nat.ble n 16777216=true) nA):m<=sizeLine:=ntr e (AQ h)
theorem vV {a b:List Nat}{n:Nat}(ha:a.length<=m)(hb:b.length<=n):(a++b).length<=m+n:=Bl▸An ha hb
section
theorem sS {a b:List Nat}(h:a.length+b.length<=16777216)(q:Q (.str (ofL (a++b))) H):V2 H E B d (.str (ofL b)) (.str (ofL a)) (binaryOp .Add) Q:=
 sF (by rw [aZ,aZ,sizeLine_eq];exact h) (bN (congrArg PV.str (iK a b)) q)
theorem aFk {w:PV}(h:Ev E B d fi σ H e λv H'=>v=w/\H'=H)(q:Q w H):Ev E B d fi σ H e Q:=h.mono λO O e=>by rw [e.1,e.2];exact q
theorem f9 {a b:List Nat}{n:Nat}(ha:a.length<=m)(hb:b.length<=n)(q:Q (.str (ofL (a++b))) H)(h:autoParam (Nat.ble (m+n) 16777216=true) nA):V2 H E B d (.str (ofL b)) (.str (ofL a)) (binaryOp .Add) Q:=
 sS (ntr (An ha hb) (AQ h)) q
theorem ke {a b:List Nat}{n:Nat}(e:x=ofL a)(ha:a.length<=m)(hb:b.length<=n)(q:Q (.str (ofL (a++b))) H)(h:autoParam (Nat.ble (m+n) 16777216=true) nA):V2 H E B d (.str (ofL b)) (.str x) (binaryOp .Add) Q:=by
 subst e;exact f9 ha hb q h
theorem m8 {l:List Nat}{n:Nat}(e:l.length=n)(h:l.length<=1000000)(q:Q (.int (n:Nat)) H):aM [] E H B d (.raw (.builtin "len")) [.str (ofL l)] Q:=
 ip (aZ l▸Ai h ∅) (by rw [aZ,e];exact q)
end
section
theorem eC {ts vs:List Expr}{k':Nat}{tpos vpos:Pos}(h:Ev E B d fi σ H (.Tuple vs k' vpos) (qAt B fi d E (.Tuple ts k tpos) σ Qn))(hw:ui fi.scope ts vs=some none)
   (hs:∀env,swapsWithSole [.Tuple ts k tpos] (.Tuple vs k' vpos) pos.line env=pure false):X B fi d E (.Assign [.Tuple ts k tpos] (.Tuple vs k' vpos) pos) σ H Qn Qf:=
 gW h hs λO e=>kj e hw
end
noncomputable def tm (w:Nat):PV->PV
 | .tup [.int i,.str x]=>.str (ofL (fZ.getD ((w+i.toNat)%7) [])++x)
 | v=>v
theorem yJ:[PV.str (Ω "a"),PV.str (Ω "\\("),PV.str (Ω "\\\\"),PV.str (Ω "\\)"),PV.str (Ω "\")\"b"),PV.str (Ω "\"(\\\"\"c"),PV.str (Ω "\\\"")]=aC fZ:=by kernel_rfl
theorem ir:Ω "x" = ofL [120]:=by decide +kernel
theorem uH (w:Nat)(ps:List (List Nat)):∀k,(dC k (aC ps)).map (tm w)=aC (jH (w+k) ps):=by
 induction ps with
 | nil=>exact λO=>rfl
 | cons p ps ih=>
   intro k;show PV.str (ofL (fZ.getD ((w+k)%7) [])++ofL p)::(dC (k+1) (aC ps)).map (tm w)=.str (ofL (fZ.getD ((w+k)%7) []++p))::aC (jH (w+k+1) ps);rw [ih,iK,Ap]
theorem nr :(fZ.getD (k%7) []).length<=6:=(by decide:∀s∈fZ,s.length<=6) _ (rM (Am _ ∅))
theorem eI (t:List Nat):∀w,(am w t).length<=6*t.length:=by
 induction t with
 | nil=>exact λO=>Ab 0
 | cons c t ih=>
   intro w;show (if c=120 then sg w++am (w+1) t else c::am w t).length<=6*(t.length+1);by_cases h:c=120
   . rw [if_pos h,Bl,AZ,Ak]
     exact An (ih _) nr
   . rw [if_neg h]
     exact ntr (Ag (ih _)) (by lia)
theorem qp (l:List (List Nat)):aj [] l=l.flatten:=by
 induction l with
 | nil=>rfl
 | cons a l ih=>
   cases l with
   | nil=>exact (Br a).symm
   | cons b l=>rw [ai,ih,Br];rfl
noncomputable def en1:PV->PV
 | .tup [a,_]=>a
 | v=>v
noncomputable def en2:PV->PV
 | .tup [_,b]=>b
 | v=>v
noncomputable abbrev aFj (w:Nat)(o:Option PV):St:=[(Ω ".0",.local,none),(Ω "place",.local,o.map en1),(Ω "part",.local,o.map en2),(Ω "signs",.cell,some (.list (aC fZ))),(Ω "ways",.cell,some (.int (w:Nat)))]
theorem f0 (l:List PV):∀(k:Nat) (x:PV),x∈dC k l->∃(n:Nat) (y:PV),x=.tup [.int (n:Nat),y]/\y∈l:=by
 induction l with
 | nil=>exact λO O h=>(Bo h).elim
 | cons y l ih=>
   intro k x h;rcases mcp h with rfl | h
   . exact ⟨k,y,rfl,.head _⟩
   . obtain ⟨n,z,e,hz⟩:=ih _ x h
     exact ⟨n,z,e,.tail _ hz⟩
theorem Dt (l:List PV):∀k,(dC k l).length=l.length:=by
 induction l with
 | nil=>exact λO=>rfl
 | cons y l ih=>exact λk=>congrArg (· + 1) (ih _)
theorem Gl (t:List Nat):(spH t).length<=t.length/\∀r∈spT t,r.length<=t.length:=by
 induction t with
 | nil=>exact ⟨Ab 0,λO h=>(Bo h).elim⟩
 | cons c t ih=>
   show (if c=120 then [] else c::spH t).length<=t.length+1/\∀r∈(if c=120 then spH t::spT t else spT t),r.length<=t.length+1;by_cases h:c=120
   . rw [if_pos h,if_pos h]
     exact ⟨Ae _,fmc ⟨Ay ih.1,λr hr=>Ay (ih.2 r hr)⟩⟩
   . rw [if_neg h,if_neg h]
     exact ⟨Ag ih.1,λr hr=>Ay (ih.2 r hr)⟩
theorem zX {t:List Nat}{n:Nat}(h:t.length<=n)(r:List Nat)(hr:r∈spT t):r.length<=n:=ntr ((Gl t).2 r hr) h
section
theorem eL {elt:Expr}{deps:AH}{Q:LQ}{σt:Option PV->St}{f:PV->PV}(hd:∀p∈deps,p∈H)(items acc:List PV)(o:Option PV)
   (hA:∀x∈items,∀o H (K:SQ),K (σt (some x)) H->Asg B fi d NoE tgt x (σt o) H K)
   (hE:∀x∈items,∀acc (K:PQ),K (f x) ((D,acc)::H)->Ev NoE B d fi (σt (some x)) ((D,acc)::H) elt K)(hz:acc.length+items.length<=sizeLine)(q:Q (acc++items.map f) H):xX B fi d tgt [] elt D deps items acc (σt o) H Q:=
 gC (p:=λO=>true) hd items acc o (λO=>hA) (λO O O O O k=>k) (λO=>hE) hz (by rw [List.filter_eq_self.mpr λO O=>rfl];exact q)
end
section
set_option genInjectivity false in
set_option genSizeOf false in
structure kW (B:aJ) where
 fd:Addr
 cd:Value
 hd:ae .none .none i6 "_law_dressed" fd cd B
 gd:aH B "_law_dressed" (.raw (.ref fd))
 gE:aH B "enumerate" (.raw (.type "enumerate"))
theorem oO {doc pm ct:Value}{v:Value}:b9 S [] (bindArgs (bR "_law_dressed" i6 .none .none doc pm an cdv ct) ⟨[v,w],[]⟩)=some ([],[(Ω "text",v),(Ω "ways",w)]):=by kernel_rfl
theorem qC:bV [Ω "text",Ω "ways"] (aI (aL i6))=true:=by decide +kernel
noncomputable abbrev aG5 (v w:PV)(sgn parts:Option PV):St:=[(Ω "text",.local,some v),(Ω "ways",.cell,some w),(Ω "signs",.cell,sgn),(Ω "parts",.local,parts),(Ω "enumerate",.globalImplicit,some (.raw (.type "enumerate")))]
theorem sD (F:kW B){w:PV}:Ini B [(Ω "text",v),(Ω "ways",w)] (aI (aL i6)).names (aG5 v w none none):=
 .arg (by walk_at "mm") (.inl rfl) (.arg (by walk_at "mm") (.inr rfl) (.unset (.unset (.glob F.gE .nil))))
theorem ib (F:kW B){t:List Nat}{w:Nat}(ht:t.length<=400)(q:Q (.str (ofL (am w t))) H):aM [] NoE H B (d+10) (.raw (.ref F.fd)) [.str (ofL t),.int (w:Nat)] Q:=by
 refine F.hd.call (d:=d+9) (λdoc pm an ct=>sJ λS v w=>oO) rfl qC (sD F) ?_;have hl:(spT t).length<=400:=by rw [vY];exact ntr B5 ht
 refine' aE ?_;refine eC ?_ (by kernel_rfl) (by intro _;rfl);ext;refine aV ?_;ext;refine ⟨_,de,?_⟩;ext;rw [ir];refine dg (by decide +kernel) (by rw [aZ];exact ntr ht ∅) (.inl ?_);rw [vM,<-bP,yJ];ext;refine ⟨aB .list,lF (m:=0) (AB _) (Ai (show (spH t::spT t).length<=401 from Ag hl) ∅) ?_⟩;ext;refine ⟨_,cT,?_⟩;ext;refine bB (aFj w none) (.loc (.loc (.loc (.capC (.tail _ (.tail _ (.head _))) (.capC (.tail _ (.head _)) .nil))))) ?_ (by decide +kernel) (by rfl) (by rfl) (by intro _ _;rfl) (Al ..) (Ae 1);ext;refine ⟨aq,?_⟩;ext;refine ⟨aB .list,jo 1 .list (by rw [Bk,sizeLine_eq];exact ntr (Ag hl) ∅) (.inl ?_)⟩;ext;refine iF .list λD=>?_;rw [<-BM];show xX B _ _ _ _ _ D _ (dC 0 (aC (spT t))) _ _ _ _;refine eL (σt:=aFj w) (f:=tm w) (λp hp=>(Bo hp).elim) _ _ none ?_ ?_ ?_ ?_
 . intro x hx o H K k
   obtain ⟨n,y,rfl,O⟩:=f0 _ 0 x hx;refine cw rfl rfl ?_;ext;exact k
 . intro x hx acc K k
   obtain ⟨n,y,rfl,hy⟩:=f0 _ 0 x hx;obtain ⟨r,hr,rfl⟩:=mmp hy;have hr:r.length<=400:=zX ht r hr;show Ev _ _ _ _ [(Ω ".0",.local,none),(Ω "place",.local,some (.int (n:Nat))),(Ω "part",.local,some (.str (ofL r))),(Ω "signs",.cell,some (.list (aC fZ))),(Ω "ways",.cell,some (.int (w:Nat)))] _ _ _;ext;refine dZ ∅ ?_;refine bN (congrArg PV.int (fx (w+n) 7 ∅)) ?_;refine ⟨aB .list,lF (Am _ ∅) ∅ ?_⟩;ext;refine f9 (m:=6) (n:=400) nr hr ?_;exact bN (congrArg PV.str (iK _ _).symm) k
 . rw [Dt,Bk,sizeLine_eq];exact ntr (Ac (Aj _)) (ntr hl ∅)
 rw [Bw,uH];ext;rw [bP];refine bu (.inr .list) ?_ ?_
 . rw [Bm,show (Ω "").length=0 by decide +kernel,AR,AS]
   refine ntr (Ac (congrArg List.sum (Bv λr O=>aZ r))) ?_;have:=eI t w;rw [kz,Bl,B1] at this;rw [AS];exact ntr (Al _ _) (ntr this (ntr (Aw 6 ht) ∅))
 rw [eX,da,qp];ext;have hz:=eI t w;rw [kz,Bl] at hz;refine sS (ntr hz (ntr (Aw 6 ht) ∅)) ?_;rw [kz] at q;exact q
end
section
theorem xc {ns:List Int}:∀{vs:List Value},VRs h T vs (ns.map PV.int)->PyProof.Rows.IntsAre vs ns:=by
 induction ns with
 | nil=>intro vs r;rw [r.isnil];exact .nil
 | cons n ns ih=>
   intro vs r;obtain ⟨v,ws,rfl,r1,r2⟩:=r.un;obtain ⟨t,rfl⟩:=r1.inv;exact .cons n t (ih r2)
theorem F5 {x:Int}{ns:List Int}(h:Q (.bool (ns.any (·==x))) H):V2 H E B d (.tup (ns.map PV.int)) (.int x) (compareOp .In) Q:=λA s R I va vb r1 r2=>by
 obtain ⟨O,rfl⟩:=r1.inv;obtain ⟨a,vs,n,rfl,ho,O,hr⟩:=r2.inv;exact in_tuple_ints ⟨_,ho,rfl,n,rfl⟩ (xc hr) (aN.here I (.bool _) h)
end
structure rm (bs:List Int)(b:Nat->Nat)(n:Nat):Prop where
 len:bs.length=n+1
 get:∀i,i<=n->bs[i]?=some (b i:Int)
 le:∀i,i<=n->b i<=2048
 srt:bs.Pairwise (·<=·)
noncomputable def DV (a b:Nat->Nat)(n:Nat)(s y z:Int):Prop:=
 (y.fdiv s<0->z=y)/\(∀i,i<n->(b i:Int)<=y.fdiv s->y.fdiv s<b (i+1)->(y-s*b i)*((a (i+1):Int)-a i)=(z-s*a i)*((b (i+1):Int)-b i))/\((b n:Int)<=y.fdiv s->z=y+((a n:Int)-b n)*s)
theorem rm.at {bs:List Int}{b:Nat->Nat}{n:Nat}(h:rm bs b n)(hi:i<=n):(aG bs)[i]?=some (.int (b i:Nat)):=by
 rw [List.getElem?_map,h.get i hi];rfl
theorem rm.cnt {bs:List Int}{b:Nat->Nat}{n:Nat}(h:rm bs b n)(hi:i<=n){x:Int}:(b i:Int)<=x↔i<cE bs x:=by
 have:=i3 (x:=x) h.srt i _ (h.get i hi);exact ⟨λg=>of_decide_eq_true (this▸decide_eq_true g),λg=>of_decide_eq_true (this.trans (decide_eq_true g))⟩
theorem aCi {n:Nat}(h:n<=2048):Builtin.Int.intBits (n:Int)<=64:=intBits_le_64 (by omega) (by omega)
theorem sj {n:Nat}(hm:m<=2048)(hn:n<=2048):Builtin.Int.intBits ((m:Int)-n)<=64:=intBits_le_64 (by omega) (by omega)
theorem aCd {x:Int}{n:Nat}(g1:(m:Int)<=x)(g2:x<n)(hn:n<=2048):Builtin.Int.intBits (x-m)<=64:=intBits_le_64 (by omega) (by omega)
theorem aDs {n:Nat}(hm:m<=2048)(hn:n<=2048):((m:Int)-n).natAbs<=2048:=by omega
theorem pg {c:Nat}:((m:Int)-1=(c:Int)-1)↔c=m:=by omega
theorem EV {c n:Nat}:([-1,((n+1:Nat):Int)-1].any (·==(c:Int)-1))=decide (c=0\/c=n+1):=by
 rw [List.any_cons,List.any_cons,List.any_nil,Bool.or_false,kA,kA,<-Bool.decide_or];exact decide_eq_decide.mpr (or_congr (pg (m:=0)) pg)
theorem GN {y s b:Int}:(y.fdiv s-b)*s+y.fmod s=y-s*b:=by
 rw [Int.sub_mul,Cj b,Int.sub_eq_add_neg,CL,Int.fdiv_mul_add_fmod];rfl
theorem yj {s y c w:Int}{N:Nat}(sN:s.natAbs<2 ^ N)(yN:y.natAbs<2 ^ N)(hc:c.natAbs<=2048)(hw:w.natAbs<=2048):Builtin.Int.intBits ((y-s*c)*w)<=N+24:=by
 rw [intBits_le_iff,Cq];have h1:(y-s*c).natAbs<=y.natAbs+s.natAbs*c.natAbs:=Cq s c▸Int.natAbs_sub_le y (s*c);have h2:s.natAbs*c.natAbs<=2 ^ N*2048:=Nat.mul_le_mul (Ah sN) hc
 have h3:(y-s*c).natAbs<2 ^ N*2049:=by
   rw [AZ];(clear sN;lia)
 refine Ai (Nat.mul_le_mul (Ah h3) hw) ?_;rw [Aq,AM];exact (Nat.mul_lt_mul_left (As N)).mpr ∅
section
theorem qN {fd:FuncData}{n1 n2 n3 n4:Str}{a b c a':PV}(hf:∀(S:Setting) v w u v',b9 S [] (bindArgs fd ⟨[v,w,u,v'],[]⟩)=some ([],[(n1,v),(n2,w),(n3,u),(n4,v')])) :
   cI B fd [a,b,c,a'] [] H [(n1,a),(n2,b),(n3,c),(n4,a')]:=λA s I vs kvs h1 h2 E Q hQ=>by
 obtain ⟨v,w,u,v',rfl,r1,r2,r3,r4⟩:=h1.four;rw [h2.nil];exact b8 (os:=[]) (hf _ _ _ _ _) (by simp) (hQ _ (.cons r1 (.cons r2 (.cons r3 (.cons r4 .nl)))))
set_option genInjectivity false in
set_option genSizeOf false in
structure oW (B:aJ) extends ImFns B where
 Y:ef B
 fl:Addr
 cl:Value
 hl:ae .none .none DA "_law_led" fl cl B
 gle:aH B "_law_led" (.raw (.ref fl))
theorem yA {doc pm ct:Value}{v u v':Value}:b9 S [] (bindArgs (bR "_law_led" DA .none .none doc pm an cdv ct) ⟨[v,w,u,v'],[]⟩)=some ([],[(Ω "below",v),(Ω "above",w),(Ω "size",u),(Ω "spot",v')]):=by kernel_rfl
theorem Ex:bV [Ω "below",Ω "above",Ω "size",Ω "spot"] (aI (aL DA))=true:=by decide +kernel
noncomputable abbrev aHc (F:oW B)(bv av s y:PV)(wh re le of pa lf:Option PV):St:=[(Ω "below",.local,some bv),(Ω "above",.local,some av),(Ω "size",.local,some s),(Ω "spot",.local,some y),(Ω "where",.local,wh),(Ω "rest",.local,re),(Ω "letter",.local,le),(Ω "offset",.local,of),(Ω "part",.local,pa),(Ω "left",.local,lf),
 (Ω "int_divmod",.globalImplicit,some (.raw (.ref F.fm))),(Ω "bisect_right",.globalImplicit,some (.raw (.ref F.Y.br))),(Ω "len",.globalImplicit,some (.raw (.builtin "len")))]
theorem F3 (F:oW B){bv av s y:PV}:Ini B [(Ω "below",bv),(Ω "above",av),(Ω "size",s),(Ω "spot",y)] (aI (aL DA)).names (aHc F bv av s y none none none none none none):=
 .arg (by walk_at "mm") (.inl rfl) (.arg (by walk_at "mm") (.inl rfl) (.arg (by walk_at "mm") (.inl rfl) (.arg (by walk_at "mm") (.inl rfl) (.unset (.unset (.unset (.unset (.unset (.unset (.glob F.gm (.glob F.Y.gbr (.glob F.Y.gln .nil))))))))))))
theorem pq (F:oW B){bv av:PV}{bs as:List Int}{a b:Nat->Nat}{n N:Nat}{s y z:Int}(hb:aT H bv (aG bs))(ha:aT H av (aG as))(cb:rm bs b n)(ca:rm as a n)(hn:1<=n)(hn2:n<=1000)(hs:s≠0)(b0:b 0=0)(hL:DV a b n s y z)
   (hN:N<=1100000)(sN:s.natAbs<2 ^ N)(yN:y.natAbs<2 ^ N)(q:Q (.int z) H):aM [] NoE H B (d+66) (.raw (.ref F.fl)) [bv,av,.int s,.int y] Q:=by
 refine F.hl.call (d:=d+65) (λdoc pm an ct=>qN λS v w u v'=>yA) rfl Ex (F3 F) ?_;have hM:N<=eB:=ntr hN ∅;have sB:Builtin.Int.intBits s<=eB:=ntr (intBits_le_iff.mpr sN) hM;have yB:Builtin.Int.intBits y<=4194304:=ntr (intBits_le_iff.mpr yN) (ntr hN ∅);have lb:(aG bs).length=n+1:=by rw [Bk,cb.len]
 have la:(aG as).length=n+1:=by rw [Bk,ca.len]
 have l60:n+1<2 ^ 60:=Ai (Ag hn2) ∅;have getb:∀{i:Nat} {Q:PQ} (_:i<=n) (_:Q (.int (b i:Nat)) H),V2 H NoE B (d+65) (.int (i:Nat)) bv getItem Q:=λhi q=>fS hb (Cd _) (by lia) (cb.at hi) q;have geta:∀{i:Nat} {Q:PQ} (_:i<=n) (_:Q (.int (a i:Nat)) H),V2 H NoE B (d+65) (.int (i:Nat)) av getItem Q:=λhi q=>fS ha (Cd _) (by lia) (ca.at hi) q;refine' aE ?_;ext;refine ⟨aF F.hm,?_⟩;ext;refine o5 (d:=d+1) F.toImFns hs sB yB ?_;refine cw rfl rfl ?_;ext;refine ⟨aF F.Y.hbr,?_⟩;ext;refine tI (d:=d+64) F.Y.hbr F.Y.D4 F.Y.gV F.Y.gln hb (by rw [lb];exact l60) (jF cb.srt) ?_;rw [FE (ntr (rK _ _) (Ac (by rw [lb,cb.len])))];generalize hc:cE bs (y.fdiv s)=c;have hcn:c<=n+1:=by rw [<-hc,<-cb.len];exact rK _ _
 ext;refine ⟨aK,?_⟩;ext;refine ab hb (by rw [lb];exact l60) ?_;rw [lb];ext;refine F5 (ns:=[-1,((n+1:Nat):Int)-1]) ?_;rw [EV];ext;rcases c with _ | i
 . refine' jq (.inl rfl) ?_
   have hneg:y.fdiv s<0:=Int.not_le.mp λg=>by
     have:=(cb.cnt (Ae n)).mp (by rw [b0];exact g);rw [hc] at this;exact A0 _ this
   ext;refine bc ?_;ext;refine' iD ∅ ?_;ext;rw [<-hL.1 hneg];exact q
 by_cases h1:n=i
 . subst h1
   refine' jq (.inr rfl) ?_
   have ln:∀{v:PV} {xs:List Int} {c:Nat->Nat} {Q:PQ} (_:aT H v (aG xs)) (_:rm xs c n) (_:Q (.int (c n:Nat)) H),V2 H NoE B (d+65) (.int (-1)) v getItem Q:=λhv cc q=>by
     have l:(aG _).length=n+1:=(Bk _).trans cc.len;exact ei hv ∅ (by rw [l];(clear l hc la lb hn;lia)) ∅ (by rw [l,show ((-1:Int)+((n+1:Nat):Int)).toNat=n by lia];exact cc.at (Ab n)) q
   ext;refine bc ?_;ext;refine' jq (by lia) ?_;ext;refine ⟨aB ha,ln ha ca ?_⟩;ext;refine ⟨aB hb,ln hb cb ?_⟩;ext;refine bH (IntMulOk.of_left (sj (ca.le _ (Ab _)) (cb.le _ (Ab _)))) ?_;refine ny ?_;rw [<-hL.2.2 ((cb.cnt (Ab n)).mpr (by rw [hc];exact Au n))];exact q
 have hi:i<n:=Nat.lt_of_le_of_ne (Bg hcn) λe=>h1 e.symm;have hi1:i+1<=n:=hi;have g1:(b i:Int)<=y.fdiv s:=(cb.cnt (Ah hi)).mpr (hc▸Au i);have g2:y.fdiv s<b (i+1):=Int.not_le.mp λg=>Az _ (hc▸(cb.cnt hi1).mp g);have e:=hL.2.1 i hi g1 g2;have hw0:0<(b (i+1):Int)-b i:=Int.sub_pos_of_lt (CG g1 g2);have hw:=CA hw0;have oB:Builtin.Int.intBits ((y-s*b i)*((a (i+1):Int)-a i))<=4194304:=ntr (yj sN yN (cb.le _ (Ah hi)) (aDs (ca.le _ hi1) (ca.le _ (Ah hi)))) (ntr (AA hN 24) ∅);rw [e] at oB;rw [show ((i+1:Nat):Int)-1=(i:Int) from (congrArg (· - 1) (Int.natCast_succ i)).trans (Cx ..)];refine' iD (λg=>g.elim (Nat.succ_ne_zero _) λg=>h1 (Nat.succ.inj g).symm) ?_;ext;refine ⟨aB hb,getb (Ah hi) ?_⟩;ext;refine bH (IntMulOk.of_left (aCd g1 g2 (cb.le _ hi1))) ?_;ext;rw [GN];refine ⟨aB ha,iT (congrArg PV.int (Int.natCast_succ i).symm) (geta hi1 ?_)⟩;ext;refine ⟨aB ha,geta (Ah hi) ?_⟩;ext;refine bH (IntMulOk.of_right (sj (ca.le _ hi1) (ca.le _ (Ah hi)))) ?_;rw [e];ext;refine ⟨aF F.hm,?_⟩;ext;refine ⟨aB hb,iT (congrArg PV.int (Int.natCast_succ i).symm) (getb hi1 ?_)⟩;ext;refine ⟨aB hb,getb (Ah hi) ?_⟩;ext;refine o5 (d:=d+1) F.toImFns hw (ntr (sj (cb.le _ hi1) (cb.le _ (Ah hi))) ∅) oB ?_;rw [Int.mul_fdiv_cancel _ hw,Int.mul_fmod_left];refine cw rfl rfl ?_;ext;refine bc ?_;ext;refine' ifp rfl ?_;ext;refine ⟨aB ha,geta (Ah hi) ?_⟩;ext;refine bH (IntMulOk.of_left (aCi (ca.le _ (Ah hi)))) ?_;ext;exact bN (congrArg PV.int (show (a i:Int)*s+(z-s*a i)=z by rw [Cj];lia)) q
end
theorem aDa {a b:Int}(hk:k<=4000)(h:a.natAbs<=b.natAbs*2 ^ k):Builtin.divisionGoesByPylong a b=false:=by
 have key:(if a==0 then 0 else a.natAbs.log2/30+1)<=(if b==0 then 0 else b.natAbs.log2/30+1)+150:=by
   by_cases ha:(a==0)=true
   . rw [if_pos ha];exact Ae _
   . rw [if_neg ha]
     have ha0:a.natAbs≠0:=λe=>ha (beq_iff_eq.mpr (Int.natAbs_eq_zero.mp e));by_cases hb:(b==0)=true
     . rw [beq_iff_eq.mp hb] at h
       exact absurd (Nat.le_zero.mp (by simpa using h)) ha0
     . rw [if_neg hb]
       have hb0:b.natAbs≠0:=λe=>hb (beq_iff_eq.mpr (Int.natAbs_eq_zero.mp e))
       have h2:a.natAbs.log2<b.natAbs.log2+1+k:=(Nat.log2_lt ha0).mpr (Ai h (by
         rw [Aq]
         exact (Nat.mul_lt_mul_right (As k)).mpr ((Nat.log2_lt hb0).mp (Au _))))
       lia
 unfold Builtin.divisionGoesByPylong;simp only;rw [decide_eq_false (nlr key),Bool.and_false]
theorem uQ {y z:Int}{X:Nat}(hy:y.natAbs<=X)(hz:z.natAbs<=X):y.natAbs<=4*X/\(2*y-z).natAbs<=4*X/\(y+z).natAbs<=4*X/\(y-z).natAbs<=4*X/\((y+z).fdiv 2).natAbs<=4*X:=by
 have h1:X<=4*X:=Bf X ∅;have h2:X+X<=4*X:=Nat.two_mul X▸AW X ∅;have h3:2*X+X<=4*X:=Nat.succ_mul 2 X▸AW X ∅;have hs:=ntr (CH y z) (ntr (An hy hz) h2);refine ⟨ntr hy h1,ntr (Int.natAbs_sub_le _ z) (ntr (An ?_ hz) h3),hs,ntr (Int.natAbs_sub_le y z) (ntr (An hy hz) h2),?_⟩
 . rw [Cq];exact Aw 2 hy
 . rw [Cn _ ∅];exact ntr (Int.natAbs_ediv_le_natAbs ..) hs
theorem y2 {M u y:Int}(hu:u.natAbs<=31)(hk:5<=k)(h:y.natAbs<=M.natAbs*2 ^ k):(unf M u y).natAbs<=M.natAbs*2 ^ (k+2)/\(fol M u y).natAbs<=M.natAbs*2 ^ (k+2):=by
 have h32:2 ^ 5<=2 ^ k:=AP ∅ hk;have hm:(M*u).natAbs<=M.natAbs*2 ^ k:=by rw [Cq];exact Aw _ (ntr hu (ntr ∅ h32))
 have hM:M.natAbs<=M.natAbs*2 ^ k:=Nat.le_mul_of_pos_right _ (As k);have h4:M.natAbs*2 ^ (k+2)=4*(M.natAbs*2 ^ k):=by rw [Aq,<-AM,Ao]
 have z_:=uQ h hm;have a:=z_.1;have b:=z_.2.1;have c:=z_.2.2.2.2;have z_:=uQ h hM;have e:=z_.2.2.1;have f:=z_.2.2.2.1;rw [h4];unfold unf fol;constructor
 . split
   . exact a
   . split
     . exact b
     . exact e
 . split
   . exact a
   . split
     . exact c
     . exact f
section
theorem ql {Q:IQ}(hv:aT H v xs)(h:∀deps,(∀p∈deps,p∈H)->Q xs deps H):sE B d E tgt v H Q:=by
 rcases hv with rfl | ⟨a,rfl,ha⟩
 . exact bS (h [] λp hp=>(Bo hp).elim)
 . exact db ha (h _ λp hp=>by rw [msp hp];exact ha)
end
noncomputable abbrev bF (e:Nat×Nat):PV:=.tup [.int (e.1:Nat),.int (e.2:Nat)]
section
set_option genInjectivity false in
set_option genSizeOf false in
structure ie (B:aJ) extends ImFns B where
 fdo:Addr
 cdo:Value
 hdo:ae .none .none jn "_law_done" fdo cdo B
 gdo:aH B "_law_done" (.raw (.ref fdo))
theorem vp {doc pm ct:Value}{v u v':Value}:b9 S [] (bindArgs (bR "_law_done" jn .none .none doc pm an cdv ct) ⟨[v,w,u,v'],[]⟩)=some ([],[(Ω "deeds",v),(Ω "size",w),(Ω "spot",u),(Ω "side",v')]):=by kernel_rfl
theorem zo:bV [Ω "deeds",Ω "size",Ω "spot",Ω "side"] (aI (aL jn))=true:=by decide +kernel
noncomputable abbrev E9 (F:ie B)(dv s y sd:PV)(ki un pl:Option PV):St:=[(Ω "deeds",.local,some dv),(Ω "size",.local,some s),(Ω "spot",.local,some y),(Ω "side",.local,some sd),(Ω "kind",.local,ki),(Ω "unit",.local,un),(Ω "place",.local,pl),(Ω "int_divmod",.globalImplicit,some (.raw (.ref F.fm)))]
theorem DT (F:ie B){dv s y sd:PV}:Ini B [(Ω "deeds",dv),(Ω "size",s),(Ω "spot",y),(Ω "side",sd)] (aI (aL jn)).names (E9 F dv s y sd none none none):=
 .arg (by walk_at "mm") (.inl rfl) (.arg (by walk_at "mm") (.inl rfl) (.arg (by walk_at "mm") (.inl rfl) (.arg (by walk_at "mm") (.inl rfl) (.unset (.unset (.unset (.glob F.gm .nil)))))))
noncomputable abbrev yM:Stmt:=((a8 (aL jn))[0]?).getD (.Pass default)
theorem zE (F:ie B){dv:PV}{s sd:Int}{N:Nat}{deps:AH}(hdp:∀p∈deps,p∈H)(hs:s≠0)(hN:N<=1100000)(sN:(128*s).natAbs<2 ^ N)(hsd:sd=0\/sd=1\/sd=-1):∀(ds:List (Nat×Nat)) (y:Int) (ki un pl:Option PV) (k:Nat),
   (∀e∈ds,e.1<=1/\e.2<=31)->5<=k->k+2*ds.length<=1000->y.natAbs<=(128*s).natAbs*2 ^ k->(∀ki un pl,Qn (E9 F dv (.int s) (.int (fn (128*s) ds y)) (.int sd) ki un pl) H)->
   d6 B (gR jn "_law_done") (d+65) (au yM) (ak yM) deps (ds.map bF) (E9 F dv (.int s) (.int y) (.int sd) ki un pl) H Qn Qf:=by
 intro ds
 induction ds with
 | nil=>intro y ki un pl k _ _ _ _ q;exact bp (q ki un pl)
 | cons e ds ih=>
   intro y ki un pl k he hk5 hk hy q;obtain ⟨he1,he2⟩:=he e (.head _);have hk':k+2+2*ds.length<=1000:=by rw [Bp] at hk;lia
   refine ao ?_;show Asg B _ (d+65) NoE (au yM) (.tup [.int (e.1:Nat),.int (e.2:Nat)]) _ _ _;refine cw rfl rfl ?_;ext;refine' aE ?_;ext;have hM:128*s≠0:=by lia
   have np:Builtin.divisionGoesByPylong y (128*s)=false:=aDa (k:=k) (by lia) hy
   have im:∀{a b:Int} {Q:PQ},a.natAbs=y.natAbs->b.natAbs=(128*s).natAbs->Q (.tup [.int (a.fdiv b),.int (a.fmod b)]) H->aM [] NoE H B (d+65) (.raw (.ref F.fm)) [.int a,.int b] Q:=λ{a b _} ha hb q=>by
     refine o5 (d:=d+1) F.toImFns (λe=>by rw [e] at hb;exact hM (Int.natAbs_eq_zero.mp hb.symm)) ?_ ?_ q
     . exact ntr (intBits_le_iff.mpr (hb▸sN)) (ntr hN ∅)
     . refine ntr (intBits_le_iff (m:=N+k) |>.mpr ?_) (by lia)
       rw [ha,Aq];exact Ai hy ((Nat.mul_lt_mul_right (As k)).mpr sN)
   refine aFk (w:=.int (y.fdiv (128*s))) ?_ ?_
   . refine bc ?_
     ext;rcases hsd with rfl | hsd
     . refine' ifn B9 ?_
       ext;refine bH (IntMulOk.of_left ∅) ?_;refine dT hM np ?_;exact ⟨rfl,rfl⟩
     . have hsd0:sd≠0:=by lia
       refine' ifp (bne_iff_ne.mpr hsd0) ?_;ext;refine ⟨aF F.hm,?_⟩;have sm:Builtin.Int.intBits sd<=64:=intBits_le_64 (by lia) (by lia);ext;refine bH (IntMulOk.of_left sm) ?_;ext;refine bH (IntMulOk.of_left sm) ?_;ext;refine bH (IntMulOk.of_left (intBits_le_64 (by lia) (by lia))) ?_;ext;refine im (by rcases hsd with rfl | rfl <;> lia) (by rcases hsd with rfl | rfl <;> lia) ?_;ext;refine ⟨c5 vy,Ey (j:=0) ∅ ∅ (by rfl) rfl ?_⟩;refine ⟨congrArg PV.int ?_,rfl⟩;rcases hsd with rfl | rfl
       . rw [Cw,Cw]
       . rw [Int.neg_mul,Cw,show (-1:Int)*128*s=-(128*s) by lia,CB]
   ext
   have fin:∀(y':Int) pl,y'=(if e.1=1 then unf (128*s) e.2 y else fol (128*s) e.2 y)->(∀p∈deps,p∈H)/\d6 B (gR jn "_law_done") (d+65) (au yM) (ak yM) deps (ds.map bF) (E9 F dv (.int s) (.int y') (.int sd) (some (.int (e.1:Nat))) (some (.int (e.2:Nat))) pl) H Qn Qf:=λy' pl e'=>by
     subst e';refine ⟨hdp,ih _ _ _ _ (k+2) (λx hx=>he x (.tail _ hx)) (AX hk5) hk' ?_ q⟩;have:=y2 (M:=128*s) (u:=(e.2:Nat)) he2 hk5 hy;split
     . exact this.1
     . exact this.2
   have h2:∀{Q:PQ},Q (.int (2*y)) H->V2 H NoE B (d+65) (.int y) (.int 2) (binaryOp .Mult) Q:=λq=>bH (IntMulOk.of_left ∅) q;have h128:∀{Q:PQ},Q (.int (128*s)) H->V2 H NoE B (d+65) (.int s) (.int 128) (binaryOp .Mult) Q:=λq=>bH (IntMulOk.of_left ∅) q;have hMu:∀{Q:PQ},Q (.int (128*s*(e.2:Nat))) H->V2 H NoE B (d+65) (.int (e.2:Nat)) (.int (128*s)) (binaryOp .Mult) Q:=λq=>bH (IntMulOk.of_right (intBits_le_64 (Cd _) (by lia))) q;rcases Nat.le_one_iff_eq_zero_or_eq_one.mp he1 with h0 | h1
   . have e1:∀{x:Int},(if e.1=1 then unf (128*s) e.2 y else x)=x:=if_neg (by rw [h0];decide)
     refine' ifn (by rw [h0];decide) ?_;ext;by_cases hp:(e.2:Int)<=y.fdiv (128*s)
     . refine' jq hp ?_
       ext;refine bc ?_;ext;by_cases hq:y.fdiv (128*s)<=(e.2:Int)+1
       . refine' jq hq ?_
         ext;refine h128 ?_;ext;refine hMu ?_;ext;refine dT ∅ (km ∅) ?_;ext;exact fin _ _ (e1.trans ((if_neg (Int.not_lt.mpr hp)).trans (if_pos hq))).symm
       . refine' iD hq ?_
         ext;refine h128 ?_;ext;exact fin _ _ (e1.trans ((if_neg (Int.not_lt.mpr hp)).trans (if_neg hq))).symm
     . refine' iD hp ?_
       ext;exact fin _ _ (e1.trans (if_pos (Int.not_le.mp hp))).symm
   . have e1:∀{x:Int},(if e.1=1 then unf (128*s) e.2 y else x)=unf (128*s) e.2 y:=if_pos h1
     refine' ifp (by rw [h1];decide) ?_;ext;by_cases hp:(e.2:Int)<=y.fdiv (128*s)
     . refine' jq hp ?_
       ext;refine bc ?_;ext;by_cases hq:y.fdiv (128*s)=(e.2:Int)
       . refine' ifp (beq_iff_eq.mpr hq) ?_
         ext;refine h2 ?_;ext;refine h128 ?_;ext;refine hMu ?_;ext;exact fin _ _ (e1.trans ((if_neg (Int.not_lt.mpr hp)).trans (if_pos hq))).symm
       . refine' ifn (λg=>hq (beq_iff_eq.mp g)) ?_
         ext;refine h128 ?_;ext;exact fin _ _ (e1.trans ((if_neg (Int.not_lt.mpr hp)).trans (if_neg hq))).symm
     . refine' iD hp ?_
       ext;refine' iD hp ?_;ext;exact fin _ _ (e1.trans (if_pos (Int.not_le.mp hp))).symm
theorem mR (F:ie B){dv:PV}{ds:List (Nat×Nat)}{s sd y z:Int}{N:Nat}(hv:aT H dv (ds.map bF))(hs:s≠0)(hN:N<=1100000)(sN:(128*s).natAbs<2 ^ N)(hsd:sd=0\/sd=1\/sd=-1)
   (hds:∀e∈ds,e.1<=1/\e.2<=31)(hk5:5<=k)(hk:k+2*ds.length<=1000)(hy:y.natAbs<=(128*s).natAbs*2 ^ k)(hz:fn (128*s) ds y=z)(q:Q (.int z) H):aM [] NoE H B (d+66) (.raw (.ref F.fdo)) [dv,.int s,.int y,.int sd] Q:=by
 refine F.hdo.call (d:=d+65) (λdoc pm an ct=>qN λS v w u v'=>vp) rfl zo (DT F) ?_;refine' aE ?_;ext;refine cB ?_;ext;refine ql hv λdeps hdp=>?_;refine zE F hdp hs hN sN hsd ds y none none none k hds hk5 hk hy λki un pl=>?_;rw [hz];refine' aE ?_;ext;exact q
end
section
structure gX (H' H:AH):Prop where
 mem:∀p∈H',p∈H
 nodup:(H.map (·.1)).Nodup->(H'.map (·.1)).Nodup
theorem gX.of_sub (h:H'.Sublist H):gX H' H:=⟨λp hp=>h.subset hp,λn=>n.sublist (h.map _)⟩
theorem gX.of_perm (h:H'.Perm H):gX H' H:=⟨λp hp=>h.subset hp,λn=>(h.map _).nodup_iff.mpr n⟩
theorem gX.key (h:gX H' H)(t:a∈H'.map (·.1)):a∈H.map (·.1):=by
 obtain ⟨p,hp,rfl⟩:=mmp t;exact mmr ⟨p,h.mem p hp,rfl⟩
theorem Inv.shift (I:Inv B H s)(h:gX H' H):Inv B H' s:=
 ⟨I.keep,I.size,I.tabs,I.bare,I.os,h.nodup I.nodup,λq hq=>let ⟨a,b,c,e⟩:=I.hid q hq;⟨a,b,c,λt=>e (h.key t)⟩,λp hp=>let ⟨a,vs,n,b,c⟩:=I.objs p (h.mem p hp);⟨a,vs,n,b,c.mono (λO O e O O=>e) λO O t=>t.imp h.key id⟩⟩
theorem Tr.shift {U:Addr->Prop}{H₀:AH}{s₀:Shared}(t:Tr U s H s₀ H₀ B)(h:gX H' H):Tr U s H' s₀ H₀ B:=
 ⟨t.inv.shift h,t.step,λa ha=>t.keys a (h.key ha)⟩
theorem Xs.shift {b:List Stmt}(h:Xs E B d fi H' σ b Qn Qf)(w:gX H' H):Xs E B d fi H σ b Qn Qf:=λA s env eo R I F=>by
 have t:Tr noU s H' s H B:=(Tr.refl I).shift w;exact wpm (h A s env eo R t.inv (F.tr I t)) (λfl s' hh1=>by obtain ⟨σ',H',t',F',q⟩:=hh1;exact ⟨σ',H',t.up.trans t',F',q⟩)
theorem XsF.shift {b:List Stmt}(h:XsF B d fi H' σ b Qn Qf)(w:gX H' H):XsF B d fi H σ b Qn Qf:=λA s env eo R I F hfr hf=>by
 have t:Tr noU s H' s H B:=(Tr.refl I).shift w;exact wpm (h A s env eo R t.inv (F.tr I t) hfr hf) (λfl s' hh1=>by obtain ⟨σ',H',t',F',q⟩:=hh1;exact ⟨σ',H',t.up.trans t',F',q⟩)
theorem nq {α:Type}{st:Stmt}{S:α->St}{K:α->AH}(h:X B fi d E st σ H (λσ' H'=>∃a,σ'=S a/\H'=K a) Qf)(q:∀a,Qn (S a) (K a)):X B fi d E st σ H Qn Qf:=
λA s env eo R I F=>wpm (h A s env eo R I F) (λfl s' p=>by
   obtain ⟨σ',H',t,F',hq⟩:=p;rcases hq with ⟨e,a,rfl,rfl⟩ | h
   . exact ⟨_,_,t,F',.inl ⟨e,q a⟩⟩
   . exact ⟨σ',H',t,F',.inr h⟩)
theorem E6 {x:PV}(hv:aT H v (xs++[x]))(h:Q x H):V2 H E B d (.int (-1)) v getItem Q:=
 ei hv ∅ (by rw [Bl,Bt];lia) ∅ (by rw [Bl,Bt,show ((-1:Int)+((xs.length+1:Nat):Int)).toNat=xs.length by lia,List.getElem?_append_right (Ab _),A1];rfl) h
theorem kY {y:Str}{a b:List Nat}{n:Nat}(e:y=ofL b)(ha:a.length<=m)(hb:b.length<=n)(q:Q (.str (ofL (a++b))) H)(h:autoParam (Nat.ble (m+n) 16777216=true) nA):V2 H E B d (.str y) (.str (ofL a)) (binaryOp .Add) Q:=by
 subst e;exact f9 ha hb q h
theorem wL {α:Type}(n:Nat)(x:α):(List.replicate n [x]).flatten=List.replicate n x:=by
 induction n with
 | zero=>rfl
 | succ n ih=>rw [BO,BO,BD,ih];rfl
theorem kJ {x:PV}(hk:k<=1000)(q:ju Q (List.replicate k x) H):V2 H E B d (.int (k:Nat)) (.list [x]) (binaryOp .Mult) Q:=
 qm .list (Cd _) (by lia) (by rw [Bt,Bc,Ci];exact ntr hk ∅) (by rw [wL,Ci];exact q)
theorem Dg {a e:Nat}(ha:2<=a)(ha2:a<2 ^ 62)(he:e<=1000)(h:Q (.int (a ^ e:Nat)) H):V2 H E B d (.int (e:Nat)) (.int (a:Nat)) (binaryOp .Pow) Q:=by
 cases e with
 | zero=>
   intro A s R I va vb r1 r2;obtain ⟨O,rfl⟩:=r1.inv;obtain ⟨O,rfl⟩:=r2.inv;exact AutoIntOps.pow_0 ∅ rfl ⟨_,_,Tr.tok I _,.int _ _,h⟩
 | succ e=>
   refine u2 (by clear h;lia) (by simp only [Cb,beq_iff_eq];lia) (by simp only [beq_iff_eq];lia) ?_ ?_
   . have:=intBits_le_64 (k:=(a:Nat)) (by clear ha;(exact Cd _)) (by lia)
     exact Cs (Int.mul_le_mul (Int.ofNat_le.mpr this) (Int.ofNat_le.mpr he) (Cd _) ∅) ∅
   . rw [Ci,<-Int.natCast_pow]
     exact h
theorem zG (a:Nat):(1:Int)+(a:Nat)=((1+a:Nat):Int):=(Cf 1 a).symm
theorem iZ (k:Nat){a:Nat}(q:Q (.int (a/k:Nat)) H)(hb:autoParam (0<k) nB)(h2:autoParam (k<2 ^ 64) nB):V2 H E B d (.int (k:Nat)) (.int (a:Nat)) (binaryOp .FloorDiv) Q:=dT (Int.ofNat_ne_zero.mpr (AL hb)) (km h2) (oq a k▸q)
theorem bI (k:Nat){a:Nat}(q:Q (.int (a%k:Nat)) H)(hb:autoParam (0<k) nB):V2 H E B d (.int (k:Nat)) (.int (a:Nat)) (binaryOp .Mod) Q:=dZ (Int.ofNat_ne_zero.mpr (AL hb)) (fx a k hb▸q)
end
section
noncomputable abbrev aD9 (fi:aP)(x y z:Str)(σ:St)(v w:PV)(Qn:SQ):PQ:=λu H₃=>pV fi [z,y,x] [u,w,v] σ λσ'=>Qn σ' H₃
noncomputable abbrev aDc (B:aJ)(fi:aP)(d:Nat)(E:EP)(e3:Expr)(x y z:Str)(σ:St)(v:PV)(Qn:SQ):PQ:=λw H₂=>Ev E B d fi σ H₂ e3 (aD9 fi x y z σ v w Qn)
noncomputable abbrev aEu (B:aJ)(fi:aP)(d:Nat)(E:EP)(e2 e3:Expr)(x y z:Str)(σ:St)(Qn:SQ):PQ:=λv H₁=>Ev E B d fi σ H₁ e2 (aDc B fi d E e3 x y z σ v Qn)
theorem FM (x y z:Str){ts:List Expr}{tpos:Pos}{e1 e2 e3:Expr}{k':Nat}{epos:Pos}(hw:ui fi.scope ts [e1,e2,e3]=some [x,y,z])(h:Ev E B d fi σ H e1 (aEu B fi d E e2 e3 x y z σ Qn))
   (hs:autoParam (∀env,swapsWithSole [.Tuple ts k tpos] (.Tuple [e1,e2,e3] k' epos) pos.line env=pure false) nC)(hp:autoParam ([e1,e2,e3].all ax=true) nA):X B fi d E (.Assign [.Tuple ts k tpos] (.Tuple [e1,e2,e3] k' epos) pos) σ H Qn Qf:=
 gY [x,y,z] (λenv e=>kj e hw) (h.mono λv H₁ h₁=>Ev.mono h₁ λw H₂ h₂=>Ev.mono h₂ λu H₃ h₃=>⟨rfl,h₃⟩) hs hp (AQ rfl)
end
section
set_option genInjectivity false in
set_option genSizeOf false in
structure aQ (B:aJ) where
 Y:ef B
 S:iV B
 M:gA B
 I:ImFns B
 D:kW B
 fl:Addr
 cl:Value
 hl:ae .none .none DA "_law_led" fl cl B
 gle:aH B "_law_led" (.raw (.ref fl))
 fdo:Addr
 cdo:Value
 hdo:ae .none .none jn "_law_done" fdo cdo B
 gdo:aH B "_law_done" (.raw (.ref fdo))
 fla:Addr
 cla:Value
 hla:ae .none .none mH "_law_laid" fla cla B
 gla:aH B "_law_laid" (.raw (.ref fla))
 flv:Addr
 clv:Value
 hlv:ae .none .none lG "_law_level" flv clv B
 glv:aH B "_law_level" (.raw (.ref flv))
 fs:Addr
 cs:Value
 hs:ae .none .none p9 "_law_sent" fs cs B
 gs:aH B "_law_sent" (.raw (.ref fs))
 fp:Addr
 cp:Value
 hp:ae .none .none lm "_pre_parse_validation" fp cp B
 gp:aH B "_pre_parse_validation" (.raw (.ref fp))
 gr:aH B "range" (.raw (.type "range"))
 gZ:aH B "zip" (.raw (.type "zip"))
 gSum:aH B "sum" (.raw (.builtin "sum"))
 gAbs:aH B "abs" (.raw (.builtin "abs"))
 gMax:aH B "max" (.raw (.builtin "max"))
 gMin:aH B "min" (.raw (.builtin "min"))
 gStr:aH B "str" (.raw (.type "str"))
 gli:aH B "list" (.raw (.type "list"))
noncomputable abbrev aQ.led (F:aQ B):oW B:={ F.I with Y:=F.Y,fl:=F.fl,cl:=F.cl,hl:=F.hl,gle:=F.gle }
noncomputable abbrev aQ.don (F:aQ B):ie B:={ F.I with fdo:=F.fdo,cdo:=F.cdo,hdo:=F.hdo,gdo:=F.gdo }
noncomputable abbrev aGi {B:aJ}(F:aQ B):St:=cat [(Ω "sum",.globalImplicit,some (.raw (.builtin "sum"))),(Ω "enumerate",.globalImplicit,some (.raw (.type "enumerate"))),(Ω "range",.globalImplicit,some (.raw (.type "range"))),(Ω "len",.globalImplicit,some (.raw (.builtin "len"))),(Ω "_law_sent",.globalImplicit,some (.raw (.ref F.fs))),(Ω "min",.globalImplicit,some (.raw (.builtin "min"))),(Ω "_law_laid",.globalImplicit,some (.raw (.ref F.fla))),(Ω "_check_parenthesis",.globalImplicit,some (.raw (.ref F.M.c))),(Ω "_law_dressed",.globalImplicit,some (.raw (.ref F.D.fd))),(Ω "zip",.globalImplicit,some (.raw (.type "zip"))),(Ω "_law_level",.globalImplicit,some (.raw (.ref F.flv))),(Ω "_iter_escaped_chars",.globalImplicit,some (.raw (.ref F.M.g)))] [(Ω "_strip_quoted_realnames",.globalImplicit,some (.raw (.ref F.M.f))),(Ω "_pre_parse_validation",.globalImplicit,some (.raw (.ref F.fp))),(Ω "abs",.globalImplicit,some (.raw (.builtin "abs"))),(Ω "_law_done",.globalImplicit,some (.raw (.ref F.fdo))),(Ω "_law_led",.globalImplicit,some (.raw (.ref F.fl))),(Ω "max",.globalImplicit,some (.raw (.builtin "max"))),(Ω "list",.globalImplicit,some (.raw (.type "list"))),(Ω "ValueError",.globalImplicit,some (.raw (.type "ValueError"))),(Ω "str",.globalImplicit,some (.raw (.type "str"))),(Ω "int_divmod",.globalImplicit,some (.raw (.ref F.I.fm))),(Ω "ZeroDivisionError",.globalImplicit,some (.raw (.type "ZeroDivisionError")))]
noncomputable abbrev stV (script_:Option PV:=none)(cells_:Option PV:=none)(total_:Option PV:=none)(lines_:Option PV:=none)(normal_:Option PV:=none)(words_:Option PV:=none)(place_:Option PV:=none)(x_:Option PV:=none)(upper_:Option PV:=none)(lower_:Option PV:=none)(below_:Option PV:=none)(deeds_:Option PV:=none)(cell_:Option PV:=none)(unit_:Option PV:=none)(last_:Option PV:=none)(more_:Option PV:=none)(ahead_:Option PV:=none)(rows_:Option PV:=none)(text_:Option PV:=none)(sent_:Option PV:=none)(halves_:Option PV:=none)(head_:Option PV:=none)(tail_:Option PV:=none)(middle_:Option PV:=none)(bound_:Option PV:=none)(cut_:Option PV:=none)(told_:Option PV:=none)(many_:Option PV:=none)(kind_:Option PV:=none)(nests_:Option PV:=none)(units_:Option PV:=none)(wide_:Option PV:=none)(cuts_:Option PV:=none)(low_:Option PV:=none)(high_:Option PV:=none)(fronts_:Option PV:=none)(hand_:Option PV:=none)(kept_:Option PV:=none)(opened_:Option PV:=none)(above_:Option PV:=none)(size_:Option PV:=none)(side_:Option PV:=none)(spot_:Option PV:=none)(image_:Option PV:=none)(left_:Option PV:=none)(refusal_:Option PV:=none){B:aJ}(F:aQ B):St:=cat (cat [(Ω "script",.local,script_),(Ω "cells",.cell,cells_),(Ω "total",.local,total_),(Ω "lines",.local,lines_),(Ω "normal",.local,normal_),(Ω "words",.local,words_),(Ω "place",.local,place_),(Ω "x",.local,x_),(Ω "upper",.local,upper_),(Ω "lower",.local,lower_),(Ω "below",.cell,below_),(Ω "deeds",.local,deeds_)] [(Ω "cell",.local,cell_),(Ω "unit",.local,unit_),(Ω "last",.local,last_),(Ω "more",.local,more_),(Ω "ahead",.local,ahead_),(Ω "rows",.local,rows_),(Ω "text",.local,text_),(Ω "sent",.local,sent_),(Ω "halves",.local,halves_),(Ω "head",.local,head_),(Ω "tail",.local,tail_),(Ω "middle",.local,middle_)]) (cat (cat [(Ω "bound",.local,bound_),(Ω "cut",.local,cut_),(Ω "told",.local,told_),(Ω "many",.local,many_),(Ω "kind",.cell,kind_),(Ω "nests",.local,nests_),(Ω "units",.cell,units_),(Ω "wide",.cell,wide_),(Ω "cuts",.local,cuts_),(Ω "low",.local,low_),(Ω "high",.local,high_),(Ω "fronts",.local,fronts_)] [(Ω "hand",.local,hand_),(Ω "kept",.local,kept_),(Ω "opened",.local,opened_),(Ω "above",.local,above_),(Ω "size",.local,size_),(Ω "side",.local,side_),(Ω "spot",.cell,spot_),(Ω "image",.local,image_),(Ω "left",.local,left_),(Ω "refusal",.local,refusal_)]) (aGi F))
theorem CZ {doc pm ct:Value}{v:Value}:b9 S [] (bindArgs (bR "law" iR .none .none doc pm an cdv ct) ⟨[v],[]⟩)=some ([],[(Ω "script",v)]):=by kernel_rfl
theorem E1:bV [Ω "script"] (aI (aL iR))=true:=by decide +kernel
theorem Fa (F:aQ B){a:PV}:Ini B [(Ω "script",a)] (aI (aL iR)).names (stV (F:=F) (script_:=some a)):=by
 exact .arg (by walk_at "mm") (.inl rfl) (.unset (.unset (.unset (.unset (.unset (.unset (.unset (.unset (.unset (.unset (.unset (.unset (.unset (.unset (.unset (.unset (.unset (.unset (.unset (.unset (.unset (.unset (.unset (.unset (.unset (.unset (.unset (.unset (.unset (.unset (.unset (.unset (.unset (.unset (.unset (.unset (.unset (.unset (.unset (.unset (.unset (.unset (.unset (.unset (.unset (.glob F.gSum (.glob F.D.gE (.glob F.gr (.glob F.Y.gln (.glob F.gs (.glob F.gMin (.glob F.gla (.glob F.M.gc (.glob F.D.gd (.glob F.gZ (.glob F.glv (.glob F.M.gg (.glob F.M.gf (.glob F.gp (.glob F.gAbs (.glob F.gdo (.glob F.gle (.glob F.gMax (.glob F.gli (.glob F.Y.gV (.glob F.gStr (.glob F.I.gm (.glob F.I.gz (.nil)))))))))))))))))))))))))))))))))))))))))))))))))))))))))))))))))))))
noncomputable abbrev fiV (F:aQ B):aP:=⟨aI (aL iR),none,"law"++".<locals>.",λO=>false⟩
noncomputable abbrev bW (k:Nat):List Stmt:=(a8 (aL iR)).drop k
end
set_option maxHeartbeats 4000000
section
noncomputable abbrev az (l:List Nat):List PV:=l.map λn=>PV.int (n:Nat)
section
theorem eK {l:List Nat}{j:Nat}(hv:aT H v (az l))(hj:j<l.length)(hn:l.length<2 ^ 60)(q:Q (.int (l.getD j 0:Nat)) H):V2 H E B d (.int (j:Nat)) v getItem Q:=
 yG hv (by rw [Bk];exact hj) (by rw [Bk];exact hn) (by rw [List.getElem_map,List.getD_eq_getElem?_getD,List.getElem?_eq_getElem hj];rfl) q
noncomputable def lZ:List Int->Nat->List Nat->List Nat
 | [],_,cs=>cs
 | x::ns,k,cs=>lZ ns (k+1) (cs.set (k%7) (cs.getD (k%7) 0+(x.fmod 1000000).toNat))
noncomputable abbrev g1:Stmt:=((a8 (aL iR))[1]?).getD (.Pass default)
theorem aF5 (a:Nat):((a:Int)).fmod 7=((a%7:Nat):Int):=fx a 7 ∅
noncomputable abbrev st1 (F:aQ B)(scr:PV)(C W:Addr)(tot:Int)(pl xx:Option PV):St:=stV (F:=F) (script_:=some scr) (cells_:=some (.lref C)) (total_:=some (.int tot)) (lines_:=some (.list [])) (normal_:=some (.list [])) (words_:=some (.lref W)) (place_:=pl) (x_:=xx)
theorem xT (F:aQ B){scr:PV}{tot:Int}{C W:Addr}:∀(ns:List Int) (k:Nat) (pl xx:Option PV) (cs:List Nat),cs.length=7->
   (∀pl xx,Qn (st1 F scr C W tot pl xx) ((W,[])::(C,az (lZ ns k cs))::H))->
   d6 B (fiV F) (d+70) (au g1) (ak g1) [] (dC (k:Nat) (aG ns)) (st1 F scr C W tot pl xx) ((W,[])::(C,az cs)::H) Qn Qf:=by
 intro ns
 induction ns with
 | nil=>intro k pl xx cs hc q;exact bp (q pl xx)
 | cons x ns ih=>
   intro k pl xx cs hc q;have ih:=λcs' hc'=>ih (k+1) (some (.int (k:Nat))) (some (.int x)) cs' hc';have hj:k%7<cs.length:=by rw [hc];exact Am _ ∅
   have hc60:cs.length<2 ^ 60:=by rw [hc];decide
   refine ao ?_;show Asg B _ (d+70) NoE (au g1) (.tup [.int (k:Nat),.int x]) _ _ _;refine cw rfl rfl ?_;ext;refine' aE ?_;refine jt ?_;ext;refine dZ ∅ ?_;rw [aF5];refine eK (.lref (.tail _ (.head _))) hj hc60 ?_;ext;refine u2 ∅ ∅ ∅ ∅ ?_;refine bN (w:=.int 1000000) (congrArg PV.int ∅) ?_;refine dZ ∅ ?_;ext;have e:((cs.getD (k%7) 0:Nat):Int)+x.fmod 1000000=((cs.getD (k%7) 0+(x.fmod 1000000).toNat:Nat):Int):=by rw [Cf,Int.toNat_of_nonneg (Int.fmod_nonneg_of_pos x ∅)]
   refine rI (xs:=az cs) (H':=(W,[])::(C,az (cs.set (k%7) (cs.getD (k%7) 0+(x.fmod 1000000).toNat)))::H) ?_ (Cd _) (by clear hj;lia) (by rw [Bk];exact Int.ofNat_lt.mpr hj) ?_
   . rw [Ci,az,az,List.map_set,e];exact .tail .head
   ext;exact ⟨(λp hp=>nomatch hp),ih _ (by rw [List.length_set,hc]) q⟩
noncomputable def fw (sl:List Int):List Nat:=lZ (sl.take 60) 0 [1,26,30,27,18,1,16]
theorem sn:∀(ns:List Int) (k:Nat) (cs:List Nat),(lZ ns k cs).length=cs.length:=by
 intro ns
 induction ns with
 | nil=>
   intro _ _;exact rfl
 | cons x ns ih=>
   intro k cs;exact (ih (k+1) _).trans List.length_set
theorem bQ (sl:List Int):(fw sl).length=7:=sn _ _ _
noncomputable def eO (sl:List Int):Int:=(sl.take 60).sum
theorem aCn (F:aQ B){sl:List Int}(hsl:sl.length<=63)
   (h:∀C W pl xx,XsF B (d+70) (fiV F) ((W,[])::(C,az (fw sl))::H) (st1 F (.list (aG sl)) C W (eO sl) pl xx) (bW 2) (λO H'=>Q .none H') (PX Q)) :
   XsF B (d+70) (fiV F) H (stV (F:=F) (script_:=some (.list (aG sl)))) (bW 0) (λO H'=>Q .none H') (PX Q):=by
 have hz:(aG sl).length<=sizeLine:=by rw [Bk,sizeLine_eq];exact ntr hsl ∅
 refine cH ?_;ext;refine dN ?_;ext;intro C;ext;refine ⟨aK,?_⟩;ext;refine ⟨aB .list,?_⟩;refine fL 60 .list hz (.inl ?_);rw [<-Bx];refine kN (ns:=sl.take 60) .list ?_;ext;refine aV ?_;ext;refine aV ?_;ext;refine dN ?_;ext;intro W;ext;refine cH ?_;ext;refine ⟨aq,?_⟩;ext;refine ⟨aB .list,?_⟩;refine fL 60 .list hz (.inl ?_);rw [<-Bx];ext;refine iF .list ?_;refine xT F (sl.take 60) 0 none none [1,26,30,27,18,1,16] rfl λpl xx=>?_;exact @h C W pl xx
end
end
set_option maxHeartbeats 1000000
section
noncomputable def bx (k:Nat):List Nat:=List.replicate (k+1) 46
noncomputable def af (T:aD):List (List Nat):=T.ds.map bx
noncomputable abbrev tN (T:aD):PV:=.list [.list (aC (af T)),.str (ofL T.str)]
noncomputable abbrev bC (F:List aD):List PV:=F.map tN
noncomputable abbrev aFo (p:Nat×Nat×Nat):PV:=.list [.str (ofL (bx p.2.2)),.str (ofL (cK p))]
noncomputable abbrev bL (ps:List (Nat×Nat×Nat)):List PV:=ps.map aFo
noncomputable def ac (ps:List (Nat×Nat×Nat)):List Int:=(b4 0 ps).map λc:Nat=>(c:Int)
structure Kn where
 sl:List Int
 C:Addr
 W:Addr
 pl:Option PV
 xx:Option PV
noncomputable abbrev Kn.cs (K:Kn):List Nat:=fw K.sl
noncomputable def bA (c:Nat):List (List Nat):=[[45,46],[]].take (1+c/5%2)
theorem Ea:[PV.str (Ω "-."),PV.str (Ω "")]=aC [[45,46],[]]:=by kernel_rfl
theorem Dd:[PV.list [PV.list [PV.str (Ω ".")],PV.str (Ω "x")],PV.list [PV.list [PV.str (Ω ".")],PV.str (Ω "x")]]=bC [.leaf,.leaf]:=by kernel_rfl
theorem Fo:[PV.list [PV.str (Ω "."),PV.str (Ω "x")],PV.list [PV.str (Ω "."),PV.str (Ω "x")]]=bL (lvF [.leaf,.leaf]):=by kernel_rfl
section
noncomputable abbrev stD (F:aQ B)(K:Kn)(up lo:PV)(A D:Addr)(cell_:Option PV:=none)(unit_:Option PV:=none)(last_:Option PV:=none)(more_:Option PV:=none)(ahead_:Option PV:=none)(rows_:Option PV:=none)(text_:Option PV:=none)(sent_:Option PV:=none)(halves_:Option PV:=none)(head_:Option PV:=none)(tail_:Option PV:=none)(middle_:Option PV:=none)(bound_:Option PV:=none)(cut_:Option PV:=none)(told_:Option PV:=none)(many_:Option PV:=none):St:=
 stV (F:=F) (script_:=some (.list (aG K.sl))) (cells_:=some (.lref K.C)) (total_:=some (.int (eO K.sl))) (lines_:=some (.list [])) (normal_:=some (.list [])) (words_:=some (.lref K.W)) (place_:=K.pl) (x_:=K.xx) (upper_:=some up) (lower_:=some lo) (below_:=some (.lref A)) (deeds_:=some (.lref D))
   (cell_:=cell_) (unit_:=unit_) (last_:=last_) (more_:=more_) (ahead_:=ahead_) (rows_:=rows_) (text_:=text_) (sent_:=sent_) (halves_:=halves_) (head_:=head_) (tail_:=tail_) (middle_:=middle_) (bound_:=bound_) (cut_:=cut_) (told_:=told_) (many_:=many_)
theorem aA5 (F:aQ B)(K:Kn)
   (h:∀A D,XsF B (d+70) (fiV F) ((A,aG (ac (lvF [.leaf,.leaf])))::(D,[])::(K.W,[])::(K.C,az K.cs)::H) (stD F K (.list (bC [.leaf,.leaf])) (.list (bL (lvF [.leaf,.leaf]))) A D) (bW 3) (λO H'=>Q .none H') (PX Q)) :
   XsF B (d+70) (fiV F) ((K.W,[])::(K.C,az K.cs)::H) (st1 F (.list (aG K.sl)) K.C K.W (eO K.sl) K.pl K.xx) (bW 2) (λO H'=>Q .none H') (PX Q):=by
 refine cH ?_;ext
 iterate 5
   refine aV ?_;ext
 iterate 3
   refine aV ?_;ext
 rw [Dd,Fo];refine dN ?_;ext;intro A;ext;refine dN ?_;ext;intro D;ext;exact XsF.shift (@h A D) (.of_perm (.swap _ _ _))
end
end
set_option maxHeartbeats 1000000
section
structure DI (ds:List (Nat×Nat))(F G:List aD):Prop where
 nst:Nst ds F G
 hG:G.length<=4+ds.length
 hF:G.length<=F.length+ds.length
 hF2:F.length<=4+ds.length
 hG2:2<=G.length
 len:ds.length<=7
 ok:∀e∈ds,e.1<=1/\e.2<=31
theorem oK (P R:List aD):lvF (P++R)=lvF P++lvF R:=by
 induction P with
 | nil=>rfl
 | cons T P ih=>show lv T 0 0 0++lvF (P++R)=lv T 0 0 0++lvF P++lvF R;rw [ih,Bn]
theorem aD.n_bn (T:aD):T.n=T.bn+1:=by
 induction T with
 | leaf=>rfl
 | node l r ihl ihr=>show l.n+r.n=l.bn+r.bn+1+1;rw [ihl,ihr];(exact AU ..)
theorem jx (F:List aD):sumN F=bnF F+F.length:=by
 induction F with
 | nil=>rfl
 | cons T F ih=>show T.n+sumN F=T.bn+bnF F+(F.length+1);rw [ih,aD.n_bn];lia
theorem ym {u l:Nat}(hu:u<=2)(hl:l<=18):-(2 ^ 62)<=(u:Int)+2-l/\(u:Int)+2-l<2 ^ 62:=by omega
theorem DI.let_le {ds:List (Nat×Nat)}{F G:List aD}(h:DI ds F G):sumN G<=18/\F.length<=18/\sumN F<=18:=by
 have l:=AD h.len 4;have a:sumN G<=18:=ntr (Ac (jx G)) (An (ntr h.nst.2.2.1 h.len) (ntr h.hG l));exact ⟨a,ntr h.hF2 (ntr l ∅),ntr (Ac h.nst.1) a⟩
theorem DI.pad {ds:List (Nat×Nat)}{F G:List aD}(h:DI ds F G){u n:Nat}(hu:u<=2)(hn:n<=u+2-F.length):DI ds (F++List.replicate n .leaf) (G++List.replicate n .leaf):=by
 have eF:(F++List.replicate n aD.leaf).length=F.length+n:=by rw [Bl,Bu]
 have eG:(G++List.replicate n aD.leaf).length=G.length+n:=by rw [Bl,Bu]
 have hn4:n<=4-F.length:=ntr hn (Nat.sub_le_sub_right (AA hu 2) _);have g2:G.length+n<=F.length+n+ds.length:=by rw [AU];exact AA h.hF n
 have k:F.length+n<=4+ds.length/\G.length+n<=4+ds.length:=by
   rcases Nat.le_total F.length 4 with q | q
   . have q:=Nat.add_le_of_le_sub' q hn4
     exact ⟨AX q,ntr g2 (AA q _)⟩
   . rw [Nat.sub_eq_zero_of_le q] at hn4
     rw [Nat.le_zero.mp hn4];exact ⟨h.hF2,h.hG⟩
 refine ⟨Ei h.nst n,?_,?_,?_,by rw [eG];exact AX h.hG2,h.len,h.ok⟩
 . rw [eG];exact k.2
 . rw [eG,eF];exact g2
 . rw [eF];exact k.1
theorem rN (ps:List (Nat×Nat×Nat))(c:Nat):b4 c ps=d1 c ps++[endC c ps]:=by
 have:=eJ ps [] c;rwa [Br] at this
theorem zT (ps:List (Nat×Nat×Nat)):ac (ps++[(0,0,0)])=ac ps++[(endC 0 ps:Int)+128]:=by
 unfold ac;rw [eJ,rN ps 0];show ((d1 0 ps++[endC 0 ps,endC 0 ps+128]).map _)=(d1 0 ps++[endC 0 ps]).map _++_;rw [Bq,Bq,Bn];rfl
theorem wy (ps:List (Nat×Nat×Nat)):aG (ac ps)=(d1 0 ps).map (λc:Nat=>PV.int (c:Nat))++[.int (endC 0 ps:Nat)]:=by
 unfold ac;rw [rN,aG,Bm,Bq];rfl
theorem EZ (G:List aD):aG (ac (lvF G))++[.int ((endC 0 (lvF G):Nat)+128)]=aG (ac (lvF (G++[.leaf]))):=by
 rw [oK,show lvF [.leaf]=[(0,0,0)] from rfl,zT,aG,aG,Bq];rfl
theorem dL (ps:List (Nat×Nat×Nat)):(ac ps).length=ps.length+1:=(Bk _).trans (mW ps 0)
theorem aB9 (F:List aD):bC F++[.list [.list [.str (Ω ".")],.str (Ω "x")]]=bC (F++[.leaf]):=by
 rw [bC,bC,Bq];exact congrArg _ (by kernel_rfl)
theorem EJ (G:List aD):bL (lvF G)++[.list [.str (Ω "."),.str (Ω "x")]]=bL (lvF (G++[.leaf])):=by
 rw [bL,bL,oK,Bq];exact congrArg _ (by kernel_rfl)
theorem py {α:Type}(n:Nat)(x:α)(l:List α):l++[x]++List.replicate n x=l++List.replicate (n+1) x:=by
 rw [Bn];rfl
noncomputable abbrev g3:Stmt:=((a8 (aL iR))[3]?).getD (.Pass default)
noncomputable abbrev cJ (k:Nat):List Stmt:=(ak g3).drop k
noncomputable abbrev g32:Stmt:=((ak g3)[2]?).getD (.Pass default)
section
noncomputable abbrev HD (K:Kn)(G:List aD)(A D:Addr)(ds:List (Nat×Nat))(H:AH):AH:=(A,aG (ac (lvF G)))::(D,ds.map bF)::(K.W,[])::(K.C,az K.cs)::H
theorem Ew (F:aQ B)(K:Kn){ds:List (Nat×Nat)}{cell unit last ahead rows text sent halves head tail middle bound cut told many:Option PV}:∀(n:Nat) (k:Int) (Fs G:List aD) (A:Addr) (more:Option PV),Fs.length+n<=1000->(lvF G).length+n<=1000->
   (∀A more,Qn (stD F K (.list (bC (Fs++List.replicate n .leaf))) (.list (bL (lvF (G++List.replicate n .leaf)))) A D cell unit last more ahead rows text sent halves head tail middle bound cut told many) (HD K (G++List.replicate n .leaf) A D ds H))->
   d6 B (fiV F) (d+70) (au g32) (ak g32) [] (d3 1 k n) (stD F K (.list (bC Fs)) (.list (bL (lvF G))) A D cell unit last more ahead rows text sent halves head tail middle bound cut told many) (HD K G A D ds H) Qn Qf:=by
 intro n
 induction n with
 | zero=>intro k Fs G A more _ _ q;rw [List.replicate_zero,Br,Br] at q;exact bp (q A more)
 | succ n ih=>
   intro k Fs G A more hF hG q;have ih:=λA more=>ih (k+1) (Fs++[.leaf]) (G++[.leaf]) A more (by rw [Bl];exact ntr (Ac (by rw [Bt,Ap,Ak 1 n])) hF) (by rw [oK,Bl];exact ntr (Ac (AU _ 1 n)) hG)
     (λA more=>by rw [py,py];exact q A more)
   refine ao ?_;show Asg B _ (d+70) NoE (au g32) (.int k) _ _ _;refine' kq ?_;ext;refine' aE ?_;refine nq (S:=λA'=>stD F K (.list (bC (Fs++[.leaf]))) (.list (bL (lvF (G++[.leaf])))) A' D cell unit last (some (.int k)) ahead rows text sent halves head tail middle bound cut told many) (K:=λA'=>(A',aG (ac (lvF (G++[.leaf]))))::HD K G A D ds H) ?_ λA'=>?_
   . refine eC ?_ (by kernel_rfl) (by intro _;rfl)
     ext
     iterate 3
       refine aV ?_;ext
     refine iq .list .list (by rw [Bk,Bt];exact aO (n:=1001) (AA (A9 hF) 1)) (.inl ?_);rw [aB9];ext
     iterate 2
       refine aV ?_;ext
     refine iq .list .list (by rw [Bk,Bt];exact aO (n:=1001) (AA (A9 hG) 1)) (.inl ?_);rw [EJ];ext;refine aV ?_;ext;refine ⟨aB (.lref (.head _)),E6 (.lref (by rw [<-wy];exact .head _)) ?_⟩;ext;refine iq (.lref (.head _)) .list (by rw [Bk,dL,Bt];exact aO (n:=1002) (Ag (Ag (A9 hG)))) (.inr λA'=>?_);rw [EZ];ext;exact ⟨A',rfl,rfl⟩
   . exact Xs.shift (jU ⟨(λp hp=>nomatch hp),ih A' _⟩) (.of_sub (.cons_cons _ (.cons _ (.refl _))))
noncomputable def unitOf (c:Nat):Nat:=c/2%3
theorem aAb (F:aQ B)(K:Kn){A:Addr}{ds:List (Nat×Nat)}{Fs G:List aD}(I:DI ds Fs G){c:Nat}{unit last more ahead rows text sent halves head tail middle bound cut told many:Option PV}
   (q:∀Fs G A more,DI ds Fs G->unitOf c+2<=Fs.length->Xs NoE B (d+70) (fiV F) (HD K G A D (ds++[(c%2,unitOf c)]) H) (stD F K (.list (bC Fs)) (.list (bL (lvF G))) A D (some (.int (c:Nat))) (some (.int (unitOf c:Nat))) (some (.list (aC (bA c)))) more ahead rows text sent halves head tail middle bound cut told many) (cJ 3) Qn Qf) :
   Xs NoE B (d+70) (fiV F) (HD K G A D ds H) (stD F K (.list (bC Fs)) (.list (bL (lvF G))) A D (some (.int (c:Nat))) unit last more ahead rows text sent halves head tail middle bound cut told many) (cJ 0) Qn Qf:=by
 have hu:unitOf c<=2:=Bh (Am _ ∅);have hl:=I.let_le;have hn:((c/2%3:Nat)+2-(Fs.length:Int)).toNat=unitOf c+2-Fs.length:=Int.toNat_sub (unitOf c+2) Fs.length;have n4:unitOf c+2-Fs.length<=4:=ntr (Av ..) (AA hu 2);refine' aE ?_;refine iQ (Ω "unit") (Ω "last") (by kernel_rfl) ?_;ext;refine iZ 2 ?_;ext;refine bI 3 ?_;ext;refine aV ?_;ext;refine iZ 5 ?_;ext;refine bI 2 ?_;ext;rw [zG,Ea];refine ⟨aB .list,fL (1+c/5%2) .list (aO (n:=2) (Ab 2)) (.inl ?_)⟩;rw [<-Bx];ext;refine ⟨_,b5 (.lref (.tail _ (.head _))),?_⟩;ext;refine bI 2 ?_;ext;refine bo (xs:=ds.map bF) (H':=HD K G A D (ds++[(c%2,unitOf c)]) H) ?_ ?_ ?_
 . rw [HD,HD,Bq];exact .tail .head
 . rw [Bk];exact aO (n:=7) I.len
 ext;refine ⟨aq,?_⟩;ext;refine ⟨aK,?_⟩;ext;refine ab .list (by rw [Bk];exact Ai I.let_le.2.1 ∅) ?_;ext;rw [Bk];refine io (ym hu hl.2.1).1 (ym hu hl.2.1).2 ?_;rw [hn];refine Ew F K _ 0 Fs G A more (ntr (An hl.2.1 n4) ∅) (by rw [d4 G (j7 G (ntr I.nst.2.2.1 I.len))];exact ntr (An hl.1 n4) ∅) λA more=>?_;exact q _ _ A more (I.pad hu (Ab _)) (by rw [Bl,Bu];exact Nat.sub_le_iff_le_add'.mp (Ab _))
end
end
set_option maxHeartbeats 1000000
section
noncomputable def aE6:PV->PV
 | .list [.list rs,_]=>.int rs.length
 | v=>v
theorem dH (T:aD):(af T).length=T.n:=(Bk _).trans (aBg T)
theorem w8 (F:List aD):(bC F).map aE6=(F.map λT=>(T.n:Int)).map PV.int:=by
 rw [Bm,Bm];exact Bv λT O=>congrArg (λn:Nat=>PV.int n) ((Bk _).trans (dH T))
theorem wM (F:List aD):(F.map λT=>(T.n:Int)).sum=(sumN F:Nat):=by
 induction F with
 | nil=>rfl
 | cons T F ih=>rw [Bs,BA,ih];exact (Cf _ _).symm
noncomputable abbrev stN (o:Option PV):St:=[(Ω ".0",.local,none),(Ω "nest",.local,o),(Ω "len",.globalImplicit,some (.raw (.builtin "len")))]
section
theorem aBi (F:aQ B)(K:Kn){lo:PV}{A:Addr}{Fs:List aD}{u:Nat}(hF:Fs.length<=18)(hs:∀T∈Fs,T.n<=100){cell last more ahead rows text sent halves head tail middle bound cut told many:Option PV}
   (q:Xs NoE B (d+70) (fiV F) H (stD F K (.list (bC Fs)) lo A D cell (some (.int (u:Nat))) last more (some (.int (sumN (Fs.take u):Nat))) rows text sent halves head tail middle bound cut told many) (cJ 4) Qn Qf) :
   Xs NoE B (d+70) (fiV F) H (stD F K (.list (bC Fs)) lo A D cell (some (.int (u:Nat))) last more ahead rows text sent halves head tail middle bound cut told many) (cJ 3) Qn Qf:=by
 have hl:(Fs.take u).length<=18:=by rw [BF];exact ntr (AI _ _) hF
 refine aE (eT (S:=stD F K (.list (bC Fs)) lo A D cell (some (.int (u:Nat))) last more (some (.int (sumN (Fs.take u):Nat))) rows text sent halves head tail middle bound cut told many) ?_ @q);ext;refine ⟨aK,?_⟩;ext;refine bB (stN none) (.loc (.loc (.globS (by walk_at "mm") .nil))) ?_ (by decide +kernel) (by rfl) (by rfl) (by intro _ _;rfl) (Al ..) (Ae 1);refine cB ?_;ext;refine ⟨aB .list,fL u .list (by rw [Bk];exact aO hF) (.inl ?_)⟩;rw [<-Bx];refine bS λDa=>?_;refine eU (σt:=stN) (f:=aE6) ?_ (λp hp=>(Bo hp).elim) _ _ none ?_ ?_ ?_
 . intro x o H K k
   ext;exact k
 . intro x hx acc K k
   obtain ⟨T,hT,rfl⟩:=mmp hx;have hT:(af T).length<=100:=by rw [dH];exact hs T (BY hT)
   ext;refine ⟨aK,?_⟩;ext;refine ⟨aB .list,fS .list ∅ ∅ rfl ?_⟩;ext;refine ab .list (by rw [Bk];exact Ai hT ∅) ?_;exact k
 . rw [Bk];exact aO (n:=18) (ntr (Ac (Aj _)) hl)
 rw [Bw,w8];ext;refine kN .list ?_;rw [wM];ext;exact ⟨rfl,rfl⟩
end
end
set_option maxHeartbeats 1000000
section
noncomputable def aFg:PV->PV
 | .str x=>.str (ofL [46]++x)
 | v=>v
theorem xw (rs:List (List Nat)):(aC rs).map aFg=aC (rs.map (46::·)):=by
 rw [aC,aC,Bm,Bm];exact Bv λr O=>congrArg PV.str (iK [46] r)
theorem FW (k:Nat):mK (bx k):=by
 refine ⟨λc h=>?_,λc h=>?_⟩
 . rw [BC h];decide
 . rw [BC h];decide
theorem d0 (k:Nat):(bx k).length=k+1:=Bu
theorem Dq {c:Nat}:∀r∈bA c,mK r:=λr h=>by
 have:r∈[[45,46],[]]:=BY h;rcases mcp this with rfl | h
 . exact ⟨(by decide:∀c∈[45,46],c≠10/\c≠13),by decide⟩
 . rw [msp h];exact ⟨(by decide:∀c∈([]:List Nat),c≠10/\c≠13),by decide⟩
theorem tu {c:Nat}:(bA c).map gv=bA c:=by
 unfold bA;rw [Bx];rfl
theorem gD {c:Nat}:(bA c).length<=2/\((bA c).map List.length).sum<=2:=by
 unfold bA;have:c/5%2<2:=Am _ ∅;rcases Nat.le_one_iff_eq_zero_or_eq_one.mp (Bh this) with h | h <;> rw [h] <;> decide
structure oJ (rs:List (List Nat)):Prop where
 ne:rs≠[]
 len:rs.length<=40
 dots:∀r∈rs,∃k,k<=40/\r=bx k
theorem oJ.sent {rs:List (List Nat)}(h:oJ rs){c:Nat}:(rs++bA c).map gv=rs.map (46::·)++bA c:=by
 rw [Bq,tu];exact congrArg (·++bA c) (Bv λr hr=>by obtain ⟨k,O,rfl⟩:=h.dots r hr;rfl)
theorem E8 {rs:List (List Nat)}(h:∀r∈rs,r.length<=m):(rs.map List.length).sum<=rs.length*m:=by
 induction rs with
 | nil=>exact Ae _
 | cons r rs ih=>
   rw [Bs,BA,Bp,Nat.succ_mul,Ak];exact An (ih λr hr=>h r (.tail _ hr)) (h r (.head _))
theorem oJ.all_ok {rs:List (List Nat)}(h:oJ rs){c:Nat}:(∃r∈rs++bA c,r≠[])/\(∀r∈rs++bA c,mK r)/\((rs++bA c).map List.length).sum+2*(rs++bA c).length<=400000:=by
 refine ⟨?_,λr hr=>?_,?_⟩
 . obtain ⟨r,hr⟩:=List.exists_mem_of_ne_nil _ h.ne
   obtain ⟨k,O,rfl⟩:=h.dots r hr;exact ⟨_,List.mem_append_left _ hr,Bz _ _⟩
 . rcases mpp hr with g | g
   . obtain ⟨k,O,rfl⟩:=h.dots r g;exact FW k
   . exact Dq r g
 . have h1:=E8 (m:=41) λr hr=>by obtain ⟨k,hk,rfl⟩:=h.dots r hr;rw [d0];exact Ag hk
   have h2:=h.len;have h3:=gD (c:=c);rw [Bq,List.sum_append,Bl]
   lia
theorem kL {rs:List (List Nat)}(h:∀r∈rs,∀c∈r,c<128):∀x∈rs.map ofL,PyData.strOk x=true:=λx hx=>by
 obtain ⟨r,hr,rfl⟩:=mmp hx;exact rz (h r hr)
theorem mM {a b:PV}{x:List (List Nat)}(ha:aT H a (aC x))(hb:aT H b (aC x))(hx:∀r∈x,∀c∈r,c<128)(q:Q (.bool false) H):V2 H E B d b a (compareOp .NotEq) Q:=by
 rw [bP] at ha hb;refine qQ ha hb (kL hx) (kL hx) ?_;rw [decide_eq_true rfl];exact q
noncomputable abbrev stR (o:Option PV):St:=[(Ω ".0",.local,none),(Ω "row",.local,o)]
section
theorem jV (F:aQ B)(K:Kn){up lo:PV}{A:Addr}{rs:List (List Nat)}{c:Nat}(hr:oJ rs){unit more ahead text sent halves head tail middle bound cut told many:Option PV}
   (q:Xs NoE B (d+70) (fiV F) H (stD F K up lo A D (some (.int (c:Nat))) unit (some (.list (aC (bA c)))) more ahead (some (.list (aC rs))) text (some (.list (aC (rs.map (46::·)++bA c)))) halves head tail middle bound cut told many) (cJ 8) Qn Qf) :
   Xs NoE B (d+70) (fiV F) H (stD F K up lo A D (some (.int (c:Nat))) unit (some (.list (aC (bA c)))) more ahead (some (.list (aC rs))) text sent halves head tail middle bound cut told many) (cJ 6) Qn Qf:=by
 obtain ⟨ok1,ok2,ok3⟩:=hr.all_ok (c:=c);have l2:rs.length+(bA c).length<=42:=An hr.len gD.1
 have asc:∀r∈rs.map (46::·)++bA c,∀x∈r,x<128:=by
   rw [<-hr.sent];intro r h;obtain ⟨y,hy,rfl⟩:=mmp h;exact (uw (ok2 y hy)).2
 refine aE (eT (S:=stD F K up lo A D (some (.int (c:Nat))) unit (some (.list (aC (bA c)))) more ahead (some (.list (aC rs))) text (some (.list (aC (rs.map (46::·)++bA c)))) halves head tail middle bound cut told many) ?_ ?_)
 . ext
   refine ⟨aF F.hs,?_⟩;ext;refine bq 42 .list .list (by rw [Bk,Bk];exact l2) (aO (n:=42) (Ab _)) List.map_append.symm (.inl ?_);ext;refine w6 (d:=d+65) F.S F.hs .list ok1 ok2 ok3 ?_;rw [hr.sent];ext;exact ⟨rfl,rfl⟩
 refine aE (eT (S:=stD F K up lo A D (some (.int (c:Nat))) unit (some (.list (aC (bA c)))) more ahead (some (.list (aC rs))) text (some (.list (aC (rs.map (46::·)++bA c)))) halves head tail middle bound cut told many) ?_ @q);ext;refine bB (stR none) (.loc (.loc .nil)) ?_ (by decide +kernel) (by rfl) (by rfl) (by intro _ _;rfl) (Al ..) (Ae 1);refine cB ?_;ext;refine bS λDa=>?_;refine eU (σt:=stR) (f:=aFg) ?_ (λp hp=>(Bo hp).elim) _ _ none ?_ ?_ ?_
 . intro x o H K k
   ext;exact k
 . intro x hx acc K k
   obtain ⟨r,hr',rfl⟩:=mmp hx;obtain ⟨n,hn,rfl⟩:=hr.dots r hr';ext;refine ke (m:=1) (n:=41) (x:=Ω ".") (a:=[46]) (by decide +kernel) (Ab 1) (by rw [d0];exact Ag hn) ?_;exact bN (congrArg PV.str (iK _ _).symm) k
 . rw [Bk];exact aO (n:=40) (ntr (Ac (Aj _)) hr.len)
 rw [Bw,xw];ext;refine bq 42 .list .list (by rw [Bk,Bk,Bk];exact l2) (aO (n:=42) (Ab _)) List.map_append.symm (.inl ?_);ext;refine mM .list .list asc ?_;ext;exact ⟨rfl,rfl⟩
end
end
set_option maxHeartbeats 1000000
section
theorem Gp (T:aD):∀k∈T.ds,k<=T.bn:=by
 induction T with
 | leaf=>intro k h;rw [msp h];exact Ae _
 | node l r ihl ihr=>
   intro k h;obtain ⟨j,hj,rfl⟩:=mmp h;show j+1<=l.bn+r.bn+1;rcases mpp hj with g | g
   . have:=ihl j g;lia
   . have:=ihr j g;lia
theorem uj (T:aD):T.str.length=T.n+2*T.bn:=by
 induction T with
 | leaf=>rfl
 | node l r ihl ihr=>
   show (40::(l.str++(r.str++[41]))).length=l.n+r.n+2*(l.bn+r.bn+1);rw [Bp,Bl,Bl,ihl,ihr,Bt];lia
theorem gK {T:aD}(h:T.bn<=m):∀r∈af T,∃k,k<=m/\r=bx k:=λr hr=>by
 obtain ⟨k,hk,rfl⟩:=mmp hr;exact ⟨k,ntr (Gp T k hk) h,rfl⟩
theorem kP (l r:aD):af (.node l r)=(af l++af r).map (46::·):=by
 show ((l.ds++r.ds).map (· + 1)).map bx=(l.ds.map bx++r.ds.map bx).map (46::·);rw [<-Bq,Bm,Bm];rfl
structure cy (a:aD):Prop where
 n:a.n<=18
 bn:a.bn<=7
theorem cy.len {a:aD}(h:cy a):a.str.length<=32:=by rw [uj];have:=h.n;have:=h.bn;lia
theorem qK {P R:List aD}{a:aD}(hb:bnF (P++a::R)<=7)(hn:sumN (P++a::R)<=18):cy a:=by
 rw [d7] at hb;rw [bf] at hn;have hb:bnF P+(a.bn+bnF R)<=7:=hb;have hn:sumN P+(a.n+sumN R)<=18:=hn;exact ⟨by lia,by lia⟩
theorem ft {a b:aD}(ha:cy a)(hb:cy b)(h:a.n+b.n<=18):oJ (af a++af b):=by
 have l:(af a++af b).length=a.n+b.n:=by rw [Bl,dH,dH]
 refine ⟨λe=>?_,by rw [l];(exact ntr ‹_› ∅),λr hr=>?_⟩
 . rw [e] at l
   have:=a.n_pos;have l:0=a.n+b.n:=l
   lia
 . rcases mpp hr with g | g
   . exact gK (ntr ha.bn ∅) r g
   . exact gK (ntr hb.bn ∅) r g
theorem Ek {rs:List (List Nat)}(h:oJ rs){c:Nat}:(rs.map (46::·)++bA c).length<=sizeLine:=by
 rw [Bl,Bk];exact aO (n:=42) (An h.len gD.1)
theorem D8 {α β:Type}{f:α->β}{l:List α}{r:List β}:(l.map f++r).take l.length=l.map f:=List.take_left' (Bk f)
theorem D5 {α:Type}{P R:List α}{a b:α}:(P++a::b::R).drop (P.length+2)=R:=by
 rw [<-BN,BU];rfl
theorem ia:Ω "(" = ofL [40]:=by decide +kernel
theorem qV:Ω ")" = ofL [41]:=by decide +kernel
theorem vt {a b:aD}:[PV.list [.list (aC ((af a++af b).map (46::·))),.str (ofL ([40]++a.str++b.str++[41]))]]=bC [.node a b]:=by
 rw [<-kP,Bn ([40]++a.str),Bn [40]];rfl
section
theorem bh {n:Nat}{i:Int}(hv:aT H v xs)(hi:i=(n:Nat))(hx:xs[n]?=some p)(q:Q p H)(hn:n<2 ^ 60:=by lia):V2 H E B d (.int i) v getItem Q:=by
 subst hi;exact fS hv (Cd n) (by lia) hx q
theorem Ge (P R:List aD)(a:aD):(bC (P++a::R))[P.length]?=some (tN a):=by
 rw [List.getElem?_map,List.getElem?_append_right (Ab _),A1];rfl
theorem DR (P R:List aD)(a b:aD):(bC (P++a::b::R))[P.length+1]?=some (tN b):=by
 rw [List.getElem?_map,List.getElem?_append_right (Ad _ _),AO];rfl
theorem cz {α:Type}{f:α->PV}{x y z:List α}(e:x++y=z)(hz:z.length<=1000)(q:Q (.list (z.map f)) H):V2 H E B d (.list (y.map f)) (.list (x.map f)) (binaryOp .Add) Q:=
 bq 1000 .list .list (by rw [Bk,Bk,<-Bl,e];exact hz) (aO (n:=1000) (Ab _)) (by rw [<-e,Bq]) (.inl q)
end
section
theorem wi (F:aQ B)(K:Kn){lo:PV}{A:Addr}{P R:List aD}{a b:aD}{c:Nat}(hc:c%2=0)(hP:(P++a::b::R).length<=18)(ha:cy a)(hb:cy b)(hab:a.n+b.n<=18){more ahead rows text sent halves head tail middle bound cut told many:Option PV}
   (q:∀rows text sent halves,Qn (stD F K (.list (bC (P++.node a b::R))) lo A D (some (.int (c:Nat))) (some (.int (P.length:Nat))) (some (.list (aC (bA c)))) more ahead rows text sent halves head tail middle bound cut told many) H) :
   Xs NoE B (d+70) (fiV F) H (stD F K (.list (bC (P++a::b::R))) lo A D (some (.int (c:Nat))) (some (.int (P.length:Nat))) (some (.list (aC (bA c)))) more ahead rows text sent halves head tail middle bound cut told many) (cJ 4) Qn Qf:=by
 have hP':P.length<=18:=ntr (by rw [Bl];exact Ad _ _) hP;have mod0:∀{E:EP} {Q:PQ},Q (.int (0:Nat)) H->V2 H E B (d+70) (.int 2) (.int (c:Nat)) (binaryOp .Mod) Q:=λq=>bI 2 (by rw [hc];exact q);refine aE (eT (S:=stD F K (.list (bC (P++a::b::R))) lo A D (some (.int (c:Nat))) (some (.int (P.length:Nat))) (some (.list (aC (bA c)))) more ahead (some (.list (aC (af a)))) (some (.str (ofL a.str))) sent halves head tail middle bound cut told many) ?_ ?_)
 . ext
   refine ⟨aB .list,bh .list rfl (Ge P (b::R) a) ?_⟩;refine eW (.inr .list) rfl ?_;ext;exact ⟨rfl,rfl⟩
 refine aE (eT (S:=stD F K (.list (bC (P++a::b::R))) lo A D (some (.int (c:Nat))) (some (.int (P.length:Nat))) (some (.list (aC (bA c)))) more ahead (some (.list (aC (af a++af b)))) (some (.str (ofL a.str))) sent halves head tail middle bound cut told many) ?_ ?_)
 . ext
   refine mod0 ?_;ext;refine' ifp rfl ?_;ext;refine ⟨aB .list,bh .list rfl (DR P R a b) ?_⟩;ext;refine ⟨aB .list,bh (n:=0) .list rfl rfl ?_⟩;ext;refine cz rfl (ntr (ft ha hb hab).len ∅) ?_;ext;exact ⟨rfl,rfl⟩
 refine jV F K (ft ha hb hab) ?_;refine aE (eT (S:=stD F K (.list (bC (P++a::b::R))) lo A D (some (.int (c:Nat))) (some (.int (P.length:Nat))) (some (.list (aC (bA c)))) more ahead (some (.list (aC (af a++af b)))) (some (.str (ofL a.str))) (some (.list (aC ((af a++af b).map (46::·)++bA c)))) (some (.list (bC [.node a b]))) head tail middle bound cut told many) ?_ ?_)
 . ext
   refine mod0 ?_;ext;refine' ifp rfl ?_;ext
   iterate 2
     refine aV ?_;ext
   refine ⟨aK,?_⟩;ext;refine ab .list (by rw [Bk];exact Ai (ft ha hb hab).len ∅) ?_;rw [Bk];ext;refine ⟨aB .list,fL (af a++af b).length .list (by rw [Bk];exact Ek (ft ha hb hab)) (.inl ?_)⟩;rw [<-Bx,D8];ext;refine ke (a:=[40]) (m:=1) (n:=32) ia (Ab 1) ha.len ?_;ext;refine ⟨aB .list,bh .list rfl (DR P R a b) ?_⟩;ext;refine ⟨aB .list,bh (n:=1) .list rfl rfl ?_⟩;ext;refine f9 (m:=33) (n:=32) (Ag ha.len) hb.len ?_;ext;refine kY (b:=[41]) (m:=65) (n:=1) qV (vV (m:=33) (n:=32) (Ag ha.len) hb.len) (Ab 1) ?_;ext;rw [vt];exact ⟨rfl,rfl⟩
 refine aE ?_;ext;refine ⟨aB .list,fL P.length .list (by rw [Bk];exact aO hP) (.inl ?_)⟩;rw [<-Bx,BK];ext;refine cz rfl (by rw [Bl];exact ntr (Ag hP') ∅) ?_;ext;refine mod0 ?_;ext;rw [show ((P.length:Nat):Int)+2-(0:Nat)=((P.length+2:Nat):Int) by lia];refine ⟨aB .list,jo (P.length+2) .list (by rw [Bk];exact aO hP) (.inl ?_)⟩;rw [<-BM,D5];ext;refine cz (z:=P++.node a b::R) (by rw [Bn];rfl) ?_ ?_
 . rw [Bl,Bp,Bp] at hP
   rw [Bl,Bp];lia
 ext;exact q _ _ _ _
end
end
set_option maxHeartbeats 1000000
section
theorem dn (A:List (Nat×Nat×Nat)):∀c,(d1 c A).length=A.length:=by
 induction A with
 | nil=>exact λO=>rfl
 | cons p A ih=>exact λc=>congrArg (· + 1) (ih _)
theorem k8 (ps:List (Nat×Nat×Nat))(c:Nat):∃r,b4 c ps=c::r:=by
 cases ps with
 | nil=>exact ⟨_,rfl⟩
 | cons p ps=>exact ⟨_,rfl⟩
noncomputable abbrev pB (p:Nat×Nat×Nat):Nat:=2 ^ (7-p.2.2)
theorem sK (ps:List (Nat×Nat×Nat)):(ac ps).Pairwise (· < ·):=by
 unfold ac;exact List.pairwise_map.mpr ((nw ps 0).imp λh=>Int.ofNat_lt.mpr h)
theorem eY (ps:List (Nat×Nat×Nat)):(ac ps).Pairwise (·<=·):=(sK ps).imp Cg
section
variable {A B:List (Nat×Nat×Nat)}{p:Nat×Nat×Nat}
theorem l5:(ac (A++p::B))[A.length]?=some (endC 0 A:Int)/\(ac (A++p::B))[A.length+1]?=some ((endC 0 A+pB p:Nat):Int):=by
 obtain ⟨r,hr⟩:=k8 B (endC 0 A+pB p);have e:b4 0 (A++p::B)=d1 0 A++endC 0 A::(endC 0 A+pB p)::r:=by rw [eJ];exact congrArg (λx=>d1 0 A++endC 0 A::x) hr
 unfold ac;rw [e,List.getElem?_map,List.getElem?_map];constructor
 . rw [List.getElem?_append_right (Ac (dn A 0)),dn,A1];rfl
 . rw [List.getElem?_append_right (ntr (Ac (dn A 0)) (Ad _ 1)),dn,AO];rfl
noncomputable abbrev midP (A:List (Nat×Nat×Nat))(p:Nat×Nat×Nat):Nat:=(endC 0 A+(endC 0 A+pB p))/2
theorem aA8 (hp:p.2.2<7):endC 0 A<midP A p/\midP A p<endC 0 A+pB p:=by
 have:2<=pB p:=by
   have:=AP (n:=2) ∅ (show 1<=7-p.2.2 by omega);exact this
 unfold midP
 (clear hp;omega)
theorem Fu (hp:p.2.2<7)(b:Bool):(if b then cntLt (ac (A++p::B)) (midP A p:Nat) else cE (ac (A++p::B)) (midP A p:Nat))=A.length+1:=by
 obtain ⟨h1,h2⟩:=l5 (A:=A) (B:=B) (p:=p);obtain ⟨m1,m2⟩:=aA8 (A:=A) hp;have a1:=jy (x:=(midP A p:Nat)) (eY _) _ _ h1;have a2:=jy (x:=(midP A p:Nat)) (eY _) _ _ h2;have b1:=i3 (x:=(midP A p:Nat)) (eY _) _ _ h1;have b2:=i3 (x:=(midP A p:Nat)) (eY _) _ _ h2;have i1:=Int.ofNat_lt.mpr m1;have i2:=Int.ofNat_lt.mpr m2
 cases b with
 | true=>exact A7 (Nat.not_lt.mp λg=>Int.lt_asymm ((decide_eq_decide.mp a2).mpr g) i2) ((decide_eq_decide.mp a1).mp i1)
 | false=>exact A7 (Nat.not_lt.mp λg=>Int.not_le.mpr i2 ((decide_eq_decide.mp b2).mpr g)) ((decide_eq_decide.mp b1).mp (Cg i1))
theorem w0 (hp:p.2.2<7)(b:Bool){hi:Nat}(h:A.length+1<=hi):jz b (ac (A++p::B)) (midP A p:Nat) A.length hi=A.length+1:=by
 unfold jz;rw [Fu hp,clp,AG h];exact A6 (Ax _)
theorem E5 (hp:p.2.2<7):c9 (aG (ac (A++p::B))) (A.length+1) (.int (midP A p:Nat))=aG (ac (A++two p B)):=by
 have l:(d1 0 A++[endC 0 A]).length=A.length+1:=by rw [Bl,dn];rfl
 have e1:b4 0 (A++p::B)=(d1 0 A++[endC 0 A])++b4 (endC 0 A+pB p) B:=by rw [eJ,Bn];rfl
 have e2:b4 0 (A++two p B)=(d1 0 A++[endC 0 A])++midP A p::b4 (endC 0 A+pB p) B:=by rw [eJ,(xV hp B _).2,Bn];rfl
 unfold ac c9;rw [e1,e2,aG,aG,Bm,Bm,<-Bx,<-BM,List.take_left' l,List.drop_left' l,Bq (l₂:=midP A p::_)]
 rfl
theorem so:Txt.split (ofL (cK p)) (ofL [120])=[ofL (List.replicate p.1 40),ofL (List.replicate p.2.1 41)]:=by
 have:=md (c:=120) (rows:=[List.replicate p.1 40,List.replicate p.2.1 41]) ?_ (Bz _ _)
 . rw [ai] at this;exact (congrArg (λx=>Txt.split (ofL x) (ofL [120])) (by rw [Bn];rfl)).trans this
 . intro r hr
   rcases mcp hr with rfl | hr
   . exact λh=>absurd (BC h) ∅
   . rw [msp hr];exact λh=>absurd (BC h) ∅
theorem Fx (r:List (List Nat)):[PV.list [.str (ofL (46::bx p.2.2)),.str (ofL (List.replicate p.1 40++[40,120]))],.list [.str (ofL (46::bx p.2.2)),.str (ofL ([120,41]++List.replicate p.2.1 41))]]=bL (two p []):=by
 rw [show List.replicate p.1 40++[40,120]=cK (p.1+1,0,p.2.2+1) from pF p.1 40 [120]];rfl
end
theorem rL {α:Type}{P R:List α}{a:α}:(P++a::R).drop (P.length+1)=R:=by
 rw [<-BN,BU];rfl
theorem zI {A B:List (Nat×Nat×Nat)}{p:Nat×Nat×Nat}:(bL (A++p::B))[A.length]?=some (aFo p):=by
 rw [List.getElem?_map,List.getElem?_append_right (Ab _),A1];rfl
theorem DG (h:k<=40):oJ [bx k,bx k]:=by
 refine ⟨Bz _ _,AQ rfl,λr hr=>⟨k,h,?_⟩⟩;rcases mcp hr with rfl | hr
 . rfl
 . exact msp hr
end
set_option maxHeartbeats 1000000
section
section
theorem mf (F:aQ B)(K:Kn){lo:PV}{A:Addr}{P R:List aD}{a:aD}(hP:P.length<=18){cell last more ahead rows text sent halves head tail middle bound cut told many:Option PV}
   (q:Xs NoE B (d+70) (fiV F) H (stD F K (.list (bC (P++a::R))) lo A D cell (some (.int (P.length:Nat))) last more ahead (some (.list (aC (af a)))) (some (.str (ofL a.str))) sent halves head tail middle bound cut told many) (cJ 5) Qn Qf) :
   Xs NoE B (d+70) (fiV F) H (stD F K (.list (bC (P++a::R))) lo A D cell (some (.int (P.length:Nat))) last more ahead rows text sent halves head tail middle bound cut told many) (cJ 4) Qn Qf:=by
 refine aE (eT (S:=stD F K (.list (bC (P++a::R))) lo A D cell (some (.int (P.length:Nat))) last more ahead (some (.list (aC (af a)))) (some (.str (ofL a.str))) sent halves head tail middle bound cut told many) ?_ @q);ext;refine ⟨aB .list,bh .list rfl (Ge P R a) ?_⟩;refine eW (.inr .list) rfl ?_;ext;exact ⟨rfl,rfl⟩
theorem rW (F:aQ B)(K:Kn){lo:PV}{A:Addr}{P R S:List aD}{a:aD}{c:Nat}(hc:c%2=1)(hP:(P++a::R).length<=18)(hS:S.length<=2){last more ahead rows text sent head tail middle bound cut told many:Option PV}
   (q:Qn (stD F K (.list (bC (P++(S++R)))) lo A D (some (.int (c:Nat))) (some (.int (P.length:Nat))) last more ahead rows text sent (some (.list (bC S))) head tail middle bound cut told many) H) :
   Xs NoE B (d+70) (fiV F) H (stD F K (.list (bC (P++a::R))) lo A D (some (.int (c:Nat))) (some (.int (P.length:Nat))) last more ahead rows text sent (some (.list (bC S))) head tail middle bound cut told many) (cJ 9) Qn Qf:=by
 have hl:=hP;rw [Bl,Bp] at hl;refine aE ?_;ext;refine ⟨aB .list,fL P.length .list (by rw [Bk];exact aO hP) (.inl ?_)⟩;rw [<-Bx,BK];ext;refine cz rfl (by rw [Bl];lia) ?_;ext;refine bI 2 ?_;rw [hc];ext;rw [show ((P.length:Nat):Int)+2-(1:Nat)=((P.length+1:Nat):Int) by lia];refine ⟨aB .list,jo (P.length+1) .list (by rw [Bk];exact aO hP) (.inl ?_)⟩;rw [<-BM,rL];ext;refine cz (z:=P++(S++R)) (Bn ..) ?_ ?_
 . rw [Bl,Bl];lia
 ext;exact q
theorem wq (F:aQ B)(K:Kn){A:Addr}{P R:List aD}{Aa Bb:List (Nat×Nat×Nat)}{p:Nat×Nat×Nat}{c:Nat}(hc:c%2=1)(hP:P.length<=18)(hA:Aa.length<=18){last more rows sent halves head tail middle bound cut told many:Option PV}
   (q:Xs NoE B (d+70) (fiV F) H (stD F K (.list (bC (P++.leaf::R))) (.list (bL (Aa++p::Bb))) A D (some (.int (c:Nat))) (some (.int (P.length:Nat))) last more (some (.int (Aa.length:Nat))) (some (.list (aC [bx p.2.2,bx p.2.2]))) (some (.str (ofL [120]))) sent halves head tail middle bound cut told many) (cJ 6) Qn Qf) :
   Xs NoE B (d+70) (fiV F) H (stD F K (.list (bC (P++.leaf::R))) (.list (bL (Aa++p::Bb))) A D (some (.int (c:Nat))) (some (.int (P.length:Nat))) last more (some (.int (Aa.length:Nat))) rows (some (.str (ofL [120]))) sent halves head tail middle bound cut told many) (cJ 5) Qn Qf:=by
 refine aE (eT (S:=stD F K (.list (bC (P++.leaf::R))) (.list (bL (Aa++p::Bb))) A D (some (.int (c:Nat))) (some (.int (P.length:Nat))) last more (some (.int (Aa.length:Nat))) (some (.list (aC [bx p.2.2,bx p.2.2]))) (some (.str (ofL [120]))) sent halves head tail middle bound cut told many) ?_ @q);ext;refine bI 2 ?_;rw [hc];ext;refine' ifn ∅ ?_;ext;refine bc ?_;ext;rw [ir];refine' aD5 rfl ?_;ext;refine aV ?_;ext;refine ⟨aB .list,bh .list rfl zI ?_⟩;ext;refine ⟨aB .list,bh (n:=0) .list rfl rfl ?_⟩;ext;refine kJ (k:=2) ∅ (.inl ?_);ext;exact ⟨rfl,rfl⟩
end
end
set_option maxHeartbeats 1000000
section
theorem qi (a b:Nat):((min a b:Nat):Int)=min (a:Int) b:=by
 rcases Nat.le_total a b with h | h
 . rw [AG h,Int.min_eq_left (Int.ofNat_le.mpr h)]
 . rw [Bd h,Int.min_eq_right (Int.ofNat_le.mpr h)]
theorem za (a b:Nat):((max a b:Nat):Int)=max (a:Int) b:=by
 rcases Nat.le_total a b with h | h
 . rw [A6 h,Int.max_eq_right (Int.ofNat_le.mpr h)]
 . rw [Nat.max_eq_left h,Int.max_eq_left (Int.ofNat_le.mpr h)]
theorem mz {xs:List Int}{n:Nat}{x:Int}(h:xs[n]?=some x):(aG xs)[n]?=some (.int x):=by rw [List.getElem?_map,h];rfl
section
theorem DW (F:aQ B)(K:Kn){A:Addr}{up:PV}{Aa Bb:List (Nat×Nat×Nat)}{p:Nat×Nat×Nat}{c:Nat}(hc:c%2=1)(hA:(Aa++p::Bb).length<=18)(hd:p.2.2<7)(h1:p.1<=7)(h2:p.2.1<=7)(hM:(A,aG (ac (Aa++p::Bb)))∈H)(hU:Upd A (aG (ac (Aa++p::Bb))) (aG (ac (Aa++two p Bb))) H H')
   {unit last more rows head tail halves middle bound cut told many:Option PV}{r:List (List Nat)}(hr:r.length<=2)
   (q:∀head tail middle bound,Xs NoE B (d+70) (fiV F) H' (stD F K up (.list (bL (Aa++two p Bb))) A D (some (.int (c:Nat))) unit last more (some (.int (Aa.length:Nat))) rows (some (.str (ofL [120]))) (some (.list (aC ((46::bx p.2.2)::(46::bx p.2.2)::r)))) (some (.list (bC [.leaf,.leaf]))) head tail middle bound cut told many) (cJ 9) Qn Qf) :
   Xs NoE B (d+70) (fiV F) H (stD F K up (.list (bL (Aa++p::Bb))) A D (some (.int (c:Nat))) unit last more (some (.int (Aa.length:Nat))) rows (some (.str (ofL [120]))) (some (.list (aC ((46::bx p.2.2)::(46::bx p.2.2)::r)))) halves head tail middle bound cut told many) (cJ 8) Qn Qf:=by
 have hl:=hA;rw [Bl,Bp] at hl
 have hu:(cK p).length<=15:=by
   show (List.replicate p.1 40++120::List.replicate p.2.1 41).length<=15;rw [Bl,Bu,Bp,Bu];exact An h1 (Ag h2)
 have l1:(List.replicate p.1 40).length<=7:=by rw [Bu];exact h1
 have l2:(List.replicate p.2.1 41).length<=7:=by rw [Bu];exact h2
 have lc:(ac (Aa++p::Bb)).length<=19:=by rw [dL];exact Ag hA
 have lc2:Aa.length+1<=(ac (Aa++p::Bb)).length:=by rw [dL,Bl,Bp];exact Ag (Ad ..)
 have iu:=Dd;refine aE (nq (S:=λx:PV×PV×PV×PV=>stD F K up (.list (bL (Aa++two p Bb))) A D (some (.int (c:Nat))) unit last more (some (.int (Aa.length:Nat))) rows (some (.str (ofL [120]))) (some (.list (aC ((46::bx p.2.2)::(46::bx p.2.2)::r)))) (some (.list (bC [.leaf,.leaf]))) (some x.1) (some x.2.1) (some x.2.2.1) (some x.2.2.2) cut told many) (K:=λO=>H') ?_ λx=>q (some x.1) (some x.2.1) (some x.2.2.1) (some x.2.2.2));ext;refine bI 2 ?_;rw [hc];ext;refine' ifn ∅ ?_;ext;rw [ir];refine' jq rfl ?_;ext;refine ⟨aB .list,bh .list rfl zI ?_⟩;ext;refine ⟨aB .list,bh (n:=1) .list rfl rfl ?_⟩;ext;refine ⟨_,de,?_⟩;ext;refine dg (by decide +kernel) (by rw [aZ];exact ntr hu ∅) (.inl ?_);rw [show (Txt.split (ofL (cK p)) (ofL [120])).map PV.str=[.str (ofL (List.replicate p.1 40)),.str (ofL (List.replicate p.2.1 41))] by rw [so];rfl];refine eW (.inr .list) rfl ?_;ext;refine ⟨aB .list,fL Aa.length .list (by rw [Bk];exact aO hA) (.inl ?_)⟩;rw [<-Bx,BK];ext
 iterate 2
   refine aV ?_;ext
 refine ⟨aB .list,bh (n:=0) (p:=.str (ofL (46::bx p.2.2))) .list rfl rfl ?_⟩;ext;refine kY (b:=[40,120]) (m:=7) (n:=2) (by decide +kernel) l1 (Ab 2) ?_;ext;refine aV ?_;ext;refine ⟨aB .list,bh (n:=1) (p:=.str (ofL (46::bx p.2.2))) .list rfl rfl ?_⟩;ext;refine ke (a:=[120,41]) (m:=2) (n:=7) (by decide +kernel) (Ab 2) l2 ?_;ext;refine iT (congrArg PV.list (Fx r)) ?_;refine cz rfl (by rw [Bl];exact ntr (AA (ntr (Ad ..) hl) 2) ∅) ?_;ext;rw [show ((Aa.length:Nat):Int)+1=((Aa.length+1:Nat):Int) from rfl];refine ⟨aB .list,jo (Aa.length+1) .list (by rw [Bk];exact aO hA) (.inl ?_)⟩;rw [<-BM,rL];ext;refine cz (z:=Aa++two p Bb) (Bn ..) ?_ ?_
 . show (Aa++_::_::Bb).length<=1000
   rw [Bl,Bp,Bp];(exact Ai ‹_› ∅)
 ext;refine iQ (Ω "middle") (Ω "bound") (by kernel_rfl) ?_;ext;refine ⟨aB (.lref hM),bh (.lref hM) rfl (mz l5.1) ?_⟩;ext;refine ⟨aB (.lref hM),bh (.lref hM) rfl (mz l5.2) ?_⟩;ext;refine fX (c:=.int ((endC 0 Aa+(endC 0 Aa+pB p):Nat):Int)) (congrArg PV.int (Cf _ _).symm) ?_;refine iZ 2 ?_;ext;refine ⟨aK,?_⟩;ext;refine bI 5 ?_;ext;refine ⟨aK,?_⟩;ext;refine ab (.lref hM) (by rw [Bk];exact Ai lc ∅) ?_;rw [Bk];ext;refine mN ?_;rw [show min (((Aa.length:Nat):Int)+1+(c%5:Nat)) ((ac (Aa++p::Bb)).length:Nat)=((min (Aa.length+1+c%5) (ac (Aa++p::Bb)).length:Nat):Int) from (qi ..).symm];ext;refine ⟨aF F.hla,?_⟩;ext;refine iZ 36 ?_;ext;refine bI 2 ?_;ext;refine mn (d:=d+65) F.Y F.hla hM (eY _) (.inr ⟨rfl,AI _ _⟩) (Nat.le_min.mpr ⟨AX (Ax _),AC lc2⟩) (ntr lc ∅) (H':=H') ?_ ?_
 . rw [w0 hd _ (Nat.le_min.mpr ⟨Ad ..,lc2⟩),E5 hd];exact hU
 ext
 iterate 5
   refine aV ?_;ext
 rw [ir] at iu;rw [iu];exact ⟨(_,_,_,_),rfl,rfl⟩
end
end
noncomputable abbrev kg:List (List Nat):=[[97],[92,40],[92,92],[92,41],[98],[99],[92,34]]
noncomputable def bg (w:Nat):List Nat:=kg.getD (w%7) []
noncomputable def bare:Nat->List Nat->List Nat
 | _,[]=>[]
 | w,c::r=>if c=120 then bg w++bare (w+1) r else c::bare w r
noncomputable def Brk (t:List Nat):Prop:=∀c∈t,c=40\/c=41\/c=120
theorem lt7 {P:Nat->Prop}(h0:P 0)(h1:P 1)(h2:P 2)(h3:P 3)(h4:P 4)(h5:P 5)(h6:P 6){k:Nat}(h:k<7):P k:=by
 rcases k with _ | _ | _ | _ | _ | _ | _ | k
 . exact h0
 . exact h1
 . exact h2
 . exact h3
 . exact h4
 . exact h5
 . exact h6
 . exact absurd h (by lia)
theorem aE0 {x b:List Nat}(h:Sp x b)(w:Nat):Sp (sg w++x) (bg w++b):=
 lt7 (P:=λk=>Sp (fZ.getD k []++x) (kg.getD k []++b)) (.sign ∅ ∅ h) (.pair h) (.pair h) (.pair h) (.quo1 (.sign ∅ ∅ h)) (.quo2 (.sign ∅ ∅ h)) (.pair h) (Am w ∅)
theorem qe (t:List Nat)(ht:Brk t):∀w,Sp (am w t) (bare w t):=by
 induction t with
 | nil=>exact λO=>.nil
 | cons c t ih=>
   intro w;have ih:=ih λx hx=>ht x (.tail _ hx);show Sp (if c=120 then sg w++am (w+1) t else c::am w t) (if c=120 then bg w++bare (w+1) t else c::bare w t);by_cases h:c=120
   . rw [if_pos h,if_pos h];exact aE0 (ih _) w
   . rw [if_neg h,if_neg h]
     have:=ht c (.head _);exact .sign (by lia) (by lia) (ih w)
theorem aB4 (w:Nat)(r:List Nat)(o:Nat):chL (bg w++r) o=chL r o:=
 lt7 (P:=λk=>chL (kg.getD k []++r) o=chL r o) rfl rfl rfl rfl rfl rfl rfl (Am w ∅)
theorem y5 (t:List Nat)(ht:Brk t):∀w o,chL (bare w t) o=dm t o:=by
 induction t with
 | nil=>exact λO O=>rfl
 | cons c t ih=>
   intro w o;have ih:=ih λx hx=>ht x (.tail _ hx);rcases ht c (.head _) with rfl | rfl | rfl
   . exact ih w (o+1)
   . cases o with
     | zero=>rfl
     | succ o=>exact ih w o
   . exact (aB4 w _ o).trans (ih (w+1) o)
theorem jZ {t:List Nat}(ht:Brk t)(w:Nat):gO (ofL (am w t))=dm t 0:=(Fi (qe t ht w)).trans (y5 t ht w 0)
theorem jd {t:List Nat}(ht:Brk t)(w:Nat):dj (ofL (am w t))=ofL (bare w t):=(qe t ht w).strip
noncomputable def toks:Nat->List Nat->List (List Nat)
 | _,[]=>[]
 | w,c::r=>if c=120 then bg w::toks (w+1) r else [c]::toks w r
theorem aC5 (w i:Nat)(r:List Nat):∃j k,aU i false (bg w++r)=(j,bg w)::aU k false r:=
 lt7 (P:=λn=>∃j k,aU i false (kg.getD n []++r)=(j,kg.getD n [])::aU k false r) ⟨_,_,gI ∅⟩ ⟨_,_,fy⟩ ⟨_,_,fy⟩ ⟨_,_,fy⟩ ⟨_,_,gI ∅⟩ ⟨_,_,gI ∅⟩ ⟨_,_,fy⟩ (Am w ∅)
theorem CQ (t:List Nat)(ht:Brk t):∀w i,(aU i false (bare w t)).map (·.2)=toks w t:=by
 induction t with
 | nil=>exact λO O=>rfl
 | cons c t ih=>
   intro w i;have ih:=ih λx hx=>ht x (.tail _ hx)
   have br:c≠120->c≠92->(aU i false (c::bare w t)).map (·.2)=[c]::toks w t:=λO h=>by
     rw [gI h];exact congrArg (_::·) (ih w (i+1))
   show (aU i false (if c=120 then bg w++bare (w+1) t else c::bare w t)).map (·.2)=if c=120 then bg w::toks (w+1) t else [c]::toks w t;rcases ht c (.head _) with rfl | rfl | rfl
   . exact br ∅ ∅
   . exact br ∅ ∅
   . obtain ⟨j,k,e⟩:=aC5 w i (bare (w+1) t)
     rw [if_pos rfl,if_pos rfl,e];exact congrArg (_::·) (ih (w+1) k)
noncomputable def unS (s:List Nat):List Nat:=if Txt.contains (ofL [40,41]) (ofL s)=true then s else [120]
theorem aC6 (w:Nat):unS (bg w)=[120]:=
 lt7 (P:=λk=>unS (kg.getD k [])=[120]) (by decide +kernel) (by decide +kernel) (by decide +kernel) (by decide +kernel) (by decide +kernel) (by decide +kernel) (by decide +kernel) (Am w ∅)
theorem Fw (t:List Nat)(ht:Brk t):∀w,(toks w t).map unS=t.map λc=>[c]:=by
 induction t with
 | nil=>exact λO=>rfl
 | cons c t ih=>
   intro w;have ih:=ih λx hx=>ht x (.tail _ hx);show (if c=120 then bg w::toks (w+1) t else [c]::toks w t).map unS=[c]::t.map λc=>[c];rcases ht c (.head _) with rfl | rfl | rfl
   . rw [if_neg ∅,Bs,ih,show unS [40]=[40] by decide +kernel]
   . rw [if_neg ∅,Bs,ih,show unS [41]=[41] by decide +kernel]
   . rw [if_pos rfl,Bs,ih,aC6]
theorem u9 (t:List Nat):(t.map λc=>[c]).flatten=t:=by
 induction t with
 | nil=>rfl
 | cons c t ih=>exact congrArg (c::·) ih
theorem Brk.app {s t:List Nat}(hs:Brk s)(ht:Brk t):Brk (s++t):=λc hc=>(mpp hc).elim (hs c) (ht c)
theorem Brk.of_take {t:List Nat}(ht:Brk t)(n:Nat):Brk (t.take n):=λc hc=>ht c (BY hc)
theorem EL (T:aD):Brk T.str:=by
 induction T with
 | leaf=>intro c hc;exact .inr (.inr (msp hc))
 | node l r ihl ihr=>
   exact Brk.app (s:=[40]) (λc hc=>.inl (msp hc)) (ihl.app (ihr.app λc hc=>.inr (.inl (msp hc))))
theorem aC7 (w:Nat):∀c∈sg w,c<128:=lt7 (P:=λk=>∀c∈fZ.getD k [],c<128) ∅ ∅ ∅ ∅ ∅ ∅ ∅ (Am w ∅)
theorem jW (t:List Nat)(ht:Brk t):∀w,∀c∈am w t,c<128:=by
 induction t with
 | nil=>exact λO c hc=>(Bo hc).elim
 | cons c t ih=>
   intro w x hx;have ih:=ih λx hx=>ht x (.tail _ hx);have hx:x∈(if c=120 then sg w++am (w+1) t else c::am w t):=hx;by_cases h:c=120
   . rw [if_pos h] at hx
     exact (mpp hx).elim (aC7 w x) (ih _ x)
   . rw [if_neg h] at hx
     have:=ht c (.head _);rcases mcp hx with rfl | hx
     . lia
     . exact ih w x hx
theorem j3 (l:List Nat)(c:Nat):Txt.count (ofL l) (ofL [c])=(l.count c:Nat):=by
 refine (count_is (ofL l) c).trans ?_;show cnt c l=_
 induction l with
 | nil=>rfl
 | cons x l ih=>
   rw [cnt_cons,ih,List.count_cons,Cf,Ce];by_cases h:x=c
   . rw [if_pos h,if_pos (beq_iff_eq.mpr h)];rfl
   . rw [if_neg h,if_neg (λg=>h (beq_iff_eq.mp g))];rfl
theorem Ef:∀n,n<60->Builtin.Str.strSliceIndices none none (-1) n=(List.range n).reverse:=by decide +kernel
theorem wo {l:List Nat}(h:l.length<60):aw (ofL l) none none (some (-1))=ofL l.reverse:=by
 have e:aw (ofL l) none none (some (-1))=⟨((Builtin.Str.strSliceIndices none none (-1) l.length).filterMap (l.toArray[·]?)).toArray⟩:=rfl;rw [e,Ef _ h,List.filterMap_reverse,List.range_eq_range'];have:=lB l [];show ofL _=ofL _;congr 2;exact (congrArg (λf=>List.filterMap f (BS 0 l.length)) (funext λi=>List.getElem?_toArray ..)).trans this
set_option maxHeartbeats 1000000
section
noncomputable def HF:PV->PV
 | .str x=>.str (aw x (some (1:Nat)) none none)
 | v=>v
theorem wH {rs:List (List Nat)}(h:∀r∈rs,1<=r.length):(aC rs).map HF=aC (rs.map (·.drop 1)):=by
 rw [aC,aC,Bm,Bm];exact Bv λr hr=>congrArg PV.str (qt (x:=ofL r) (a:=1) (by rw [aZ];exact h r hr))
theorem tQ (l r:aD):(af (.node l r)).map (·.drop 1)=af l++af r:=by
 rw [kP,Bm];exact List.map_id' _
theorem mP {l r:aD}(h:cy (.node l r)):oJ (af l++af r)/\cy l/\cy r/\l.n+r.n<=18:=by
 have h1:l.n+r.n<=18:=h.n;have h2:l.bn+r.bn+1<=7:=h.bn;have sl:cy l:=⟨by lia,by lia⟩;have sr:cy r:=⟨by lia,by lia⟩;exact ⟨ft sl sr h1,sl,sr,h1⟩
noncomputable def z9:Stmt->List Stmt
 | .If _ _ o _=>o
 | _=>[]
section
theorem v4 (F:aQ B)(K:Kn){A:Addr}{up lo:PV}{l r:aD}{c:Nat}(hc:c%2=1)(hs:cy (.node l r)){unit last more ahead sent halves head tail middle bound cut told many:Option PV}
   (q:Xs NoE B (d+70) (fiV F) H (stD F K up lo A D (some (.int (c:Nat))) unit last more ahead (some (.list (aC (af l++af r)))) (some (.str (ofL (aD.node l r).str))) sent halves head tail middle bound cut told many) (cJ 6) Qn Qf) :
   Xs NoE B (d+70) (fiV F) H (stD F K up lo A D (some (.int (c:Nat))) unit last more ahead (some (.list (aC (af (.node l r))))) (some (.str (ofL (aD.node l r).str))) sent halves head tail middle bound cut told many) (cJ 5) Qn Qf:=by
 have hx:¬ofL (aD.node l r).str=ofL [120]:=λe=>absurd (List.cons.inj (um.mp e)).1 ∅;refine aE (eT (S:=stD F K up lo A D (some (.int (c:Nat))) unit last more ahead (some (.list (aC (af l++af r)))) (some (.str (ofL (aD.node l r).str))) sent halves head tail middle bound cut told many) ?_ @q);ext;refine bI 2 ?_;rw [hc];ext;refine' ifn ∅ ?_;ext;refine bc ?_;ext;rw [ir];refine' aEy hx ?_;refine bB (stR none) (.loc (.loc .nil)) ?_ (by decide +kernel) (by rfl) (by rfl) (by intro _ _;rfl) (Al ..) (Ae 1);refine cB ?_;ext;refine bS λDa=>?_;refine eU (σt:=stR) (f:=HF) ?_ (λp hp=>(Bo hp).elim) _ _ none ?_ ?_ ?_
 . intro x o H K k
   ext;exact k
 . intro x hx acc K k
   obtain ⟨r',hr',rfl⟩:=mmp hx;obtain ⟨n,hn,rfl⟩:=gK hs.bn r' hr';ext;refine ⟨c5 cS,f8 ∅ (by rw [aZ,d0];exact aO (n:=8) (Ag hn)) ?_⟩;exact k
 . rw [Bk,dH];exact aO (n:=18) (ntr (Ac (Aj _)) hs.n)
 rw [Bw,wH (λr hr=>by obtain ⟨n,O,rfl⟩:=gK hs.bn r hr;rw [d0];exact Al 1 n),tQ];ext;exact ⟨rfl,rfl⟩
end
end
set_option maxHeartbeats 1000000
section
theorem jG {l:List Nat}{a:Nat}(hab:a<=b)(hb:b<=l.length):aw (ofL l) (some (a:Int)) (some (b:Int)) none=ofL ((l.drop a).take (b-a)):=j5 hab (by rw [aZ];exact hb)
theorem yT {l:List Nat}(hb:b<=l.length):aw (ofL l) none (some (b:Int)) none=ofL (l.take b):=
 (StrLaws.sliceText_to (x:=ofL l) (j:=(b:Int)) ⟨Cd b,Int.ofNat_le.mpr hb⟩).trans (by rw [Int.sub_zero,Ci];rfl)
theorem wu {l:List Nat}{a:Nat}(ha:a+1<=l.length):aw (ofL l) (some (a:Int)) (some (-1)) none=ofL ((l.drop a).take (l.length-1-a)):=by
 refine (StrLaws.sliceText_neg_hi (ofL l) (some (a:Int)) (j:=-1) ∅ (by rw [aZ];lia)).trans ?_;rw [aZ,show (-1:Int)+(l.length:Nat)=((l.length-1:Nat):Int) by lia];exact jG (Nat.le_sub_of_add_le ‹_›) (by clear ha;(exact Av ..))
section
variable {l r:aD}
theorem EK:(aD.node l r).str.take (l.str.length+1)=40::l.str:=by
 show (40::(l.str++(r.str++[41]))).take (l.str.length+1)=_;rw [List.take_succ_cons,BK]
theorem GG:((aD.node l r).str.drop 1).take (l.str.length+1-1)=l.str:=BK
theorem Ds:((aD.node l r).str.drop (l.str.length+1)).take ((aD.node l r).str.length-1-(l.str.length+1))=r.str:=by
 have e:(aD.node l r).str.length-1-(l.str.length+1)=r.str.length:=by
   show (40::(l.str++(r.str++[41]))).length-1-(l.str.length+1)=_;rw [Bp,Bl,Bl,Bt];lia
 rw [e];show ((40::(l.str++(r.str++[41]))).drop (l.str.length+1)).take _=_;rw [List.drop_succ_cons,BU,BK]
theorem nz:(40::l.str).count 120=l.n:=(B4 ∅).trans (sO l)
end
noncomputable abbrev g38:Stmt:=((ak g3)[8]?).getD (.Pass default)
noncomputable abbrev aF3:Stmt:=((z9 g38)[0]?).getD (.Pass default)
noncomputable abbrev aB1:Stmt:=((z9 aF3)[0]?).getD (.Pass default)
section
theorem FN (F:aQ B)(K:Kn){A:Addr}{up lo:PV}{l r:aD}{c:Nat}(hs:cy (.node l r)){unit last more ahead rows sent halves head tail middle bound many:Option PV}
   (q:Qn (stD F K up lo A D (some (.int (c:Nat))) unit last more ahead rows (some (.str (ofL (aD.node l r).str))) sent halves head tail middle bound (some (.int (l.str.length+1:Nat))) (some (.bool true)) many) H):∀(n k:Nat) (cut told:Option PV),2<=k->k<=l.str.length+1->l.str.length+2<=k+n->
   d6 B (fiV F) (d+70) (au aB1) (ak aB1) [] (d3 1 (k:Nat) n) (stD F K up lo A D (some (.int (c:Nat))) unit last more ahead rows (some (.str (ofL (aD.node l r).str))) sent halves head tail middle bound cut told many) H Qn Qf:=by
 intro n
 induction n with
 | zero=>intro k cut told h1 h2 h3;exact absurd (ntr h3 h2) (by lia)
 | succ n ih=>
   intro k cut told h1 h2 h3;have ih:=λtold=>ih (k+1) (some (.int (k:Nat))) told (Ay h1);have tl:(aD.node l r).str.length<=32:=hs.len
   have hk:k<=(aD.node l r).str.length:=by
     show k<=(40::(l.str++(r.str++[41]))).length;rw [Bp,Bl];lia
   refine ao ?_;show Asg B _ (d+70) NoE (au aB1) (.int (k:Nat)) _ _ _;refine' kq ?_;have e1:((aD.node l r).str.drop 1).take (k-1)=(l.str++(r.str++[41])).take (k-1):=rfl;have hb:Brk (((aD.node l r).str.drop 1).take (k-1)):=Brk.of_take (λx hx=>EL (.node l r) x (List.mem_of_mem_drop hx)) _;have hl:(((aD.node l r).str.drop 1).take (k-1)).length<=32:=by rw [BF,BE];exact ntr (AI ..) (ntr (Av ..) tl)
   have hck:gO (ofL (am c (((aD.node l r).str.drop 1).take (k-1))))=decide (k-1=l.str.length):=by
     rw [jZ hb,e1,D6 l r (k-1) (Nat.le_sub_of_add_le ‹_›) (by lia)]
   ext;refine' aE ?_;ext;refine ⟨aF F.M.hc,?_⟩;ext;refine ⟨aF F.D.hd,?_⟩;ext;refine ⟨c5 cS,f8 ∅ (by rw [aZ];exact aO tl) ?_⟩;refine bN (congrArg PV.str (jG (a:=1) (Ah ‹_›) hk)) ?_;ext;refine ib (d:=d+60) F.D (ntr hl ∅) ?_;ext;refine rR (d:=d+57) F.M (jW _ hb c) (by rw [aZ];exact ntr (eI _ c) (ntr (Aw 6 hl) ∅)) hck ?_;ext;generalize hbb:decide (k-1=l.str.length)=bb
   cases bb with
   | true=>
     obtain rfl:k=l.str.length+1:=(Nat.sub_eq_iff_eq_add (Ah h1)).mp (of_decide_eq_true hbb);refine' ifp rfl ?_;ext;exact q
   | false=>
     have hne:k-1≠l.str.length:=of_decide_eq_false hbb;refine' ifn ∅ ?_;ext;exact ⟨(λp hp=>nomatch hp),ih _ (by clear q;lia) (by lia)⟩
theorem xo (F:aQ B)(K:Kn){A:Addr}{up lo:PV}{l r:aD}{c:Nat}(hc:c%2=1)(hs:cy (.node l r)){unit last more ahead sent halves head tail middle bound cut told many:Option PV}
   (q:∀cut told many,Xs NoE B (d+70) (fiV F) H (stD F K up lo A D (some (.int (c:Nat))) unit last more ahead (some (.list (aC (af l++af r)))) (some (.str (ofL (aD.node l r).str))) sent (some (.list (bC [l,r]))) head tail middle bound cut told many) (cJ 9) Qn Qf) :
   Xs NoE B (d+70) (fiV F) H (stD F K up lo A D (some (.int (c:Nat))) unit last more ahead (some (.list (aC (af l++af r)))) (some (.str (ofL (aD.node l r).str))) sent halves head tail middle bound cut told many) (cJ 8) Qn Qf:=by
 have hx:¬ofL (aD.node l r).str=ofL [120]:=λe=>absurd (List.cons.inj (um.mp e)).1 ∅;have tl:(aD.node l r).str.length<=32:=hs.len
 have te:(aD.node l r).str.length=2+(l.str.length+r.str.length):=by
   show (40::(l.str++(r.str++[41]))).length=_;rw [Bp,Bl,Bl];show _=_;simp only [Bt];lia
 have hr1:=vE r;have hl1:=vE l;have k2:l.str.length+1+1<=(aD.node l r).str.length:=by rw [te];lia
 have lr:(aC (af l++af r)).length<=sizeLine:=by rw [Bk];exact aO (n:=40) (mP hs).1.len
 refine aE (eT (S:=stD F K up lo A D (some (.int (c:Nat))) unit last more ahead (some (.list (aC (af l++af r)))) (some (.str (ofL (aD.node l r).str))) sent (some (.list (bC [l,r]))) head tail middle bound (some (.int (l.str.length+1:Nat))) (some (.bool true)) (some (.int (l.n:Nat)))) ?_ (@q _ _ _));ext;refine bI 2 ?_;rw [hc];ext;refine' ifn ∅ ?_;ext;rw [ir];refine' iD hx ?_;ext;refine ⟨aq,?_⟩;ext;refine ⟨aK,?_⟩;ext;refine m8 te (ntr tl ∅) ?_;ext;refine oD (p:=2) (n:=l.str.length+r.str.length) (by lia) ?_;refine FN F K hs ?_ _ 2 cut told (Ab 2) (AT ‹_›) (by lia);ext;refine' ifn ∅ ?_;ext;refine ⟨c5 cS,f8 ∅ (by rw [aZ];exact aO tl) ?_⟩;rw [(yT (b:=l.str.length+1) (AC k2)).trans (congrArg ofL EK)];refine ⟨_,fj,?_⟩;ext;refine f6 ?_;rw [j3,nz];ext
 iterate 2
   refine aV ?_;ext
 refine ⟨aB .list,fL l.n .list lr (.inl ?_)⟩;rw [<-Bx,List.take_left' (dH l)];ext;refine ⟨c5 cS,f8 ∅ (by rw [aZ];exact aO tl) ?_⟩;refine bN (congrArg PV.str ((jG (a:=1) (b:=l.str.length+1) (Al 1 _) (AC k2)).trans (congrArg ofL GG))) ?_;ext;refine aV ?_;ext;refine ⟨aB .list,jo l.n .list lr (.inl ?_)⟩;rw [<-BM,List.drop_left' (dH l)];ext;refine ⟨c5 cS,f8 ∅ (by rw [aZ];exact aO tl) ?_⟩;refine bN (congrArg PV.str ((wu (a:=l.str.length+1) k2).trans (congrArg ofL Ds))) ?_;ext;exact ⟨rfl,rfl⟩
theorem wB (F:aQ B)(K:Kn){lo:PV}{A:Addr}{P R:List aD}{l r:aD}{c:Nat}(hc:c%2=1)(hP:(P++.node l r::R).length<=18)(hs:cy (.node l r)){more ahead rows text sent halves head tail middle bound cut told many:Option PV}
   (q:∀rows text sent halves cut told many,Qn (stD F K (.list (bC (P++l::r::R))) lo A D (some (.int (c:Nat))) (some (.int (P.length:Nat))) (some (.list (aC (bA c)))) more ahead rows text sent halves head tail middle bound cut told many) H) :
   Xs NoE B (d+70) (fiV F) H (stD F K (.list (bC (P++.node l r::R))) lo A D (some (.int (c:Nat))) (some (.int (P.length:Nat))) (some (.list (aC (bA c)))) more ahead rows text sent halves head tail middle bound cut told many) (cJ 4) Qn Qf:=by
 have hl:=hP;rw [Bl,Bp] at hl;refine mf F K (by lia) ?_;refine v4 F K hc hs ?_;refine jV F K (mP hs).1 ?_;refine xo F K hc hs λcut told many=>?_;exact rW F K (S:=[l,r]) hc hP (Ab 2) (q _ _ _ _ _ _ _)
end
end
set_option maxHeartbeats 1000000
section
theorem v6 {α:Type}(l:List α){u:Nat}(h:u+2<=l.length):∃P a b R,l=P++a::b::R/\P.length=u:=by
 induction l generalizing u with
 | nil=>exact absurd h (Nat.not_succ_le_zero _)
 | cons x l ih=>
   cases u with
   | zero=>
     cases l with
     | nil=>exact absurd (show 2<=1 from h) ∅
     | cons y l=>exact ⟨[],x,y,l,rfl,rfl⟩
   | succ u=>
     obtain ⟨P,a,b,R,rfl,rfl⟩:=ih (u:=u) (Bg h);exact ⟨x::P,a,b,R,rfl,rfl⟩
theorem Dr {α:Type}(l:List α){u:Nat}(h:u<l.length):∃A p B,l=A++p::B/\A.length=u:=
 ⟨l.take u,l[u],l.drop (u+1),by rw [<-BH h,List.take_append_drop],by rw [BF];exact AG (Ah h)⟩
theorem g8 (F:List aD):∀k,(bi F k).length=F.length:=by
 induction F with
 | nil=>exact λO=>rfl
 | cons T F ih=>
   intro k;show (if k<T.n then T.split k::F else T::bi F (k-T.n)).length=F.length+1;split
   . rfl
   . exact congrArg (· + 1) (ih _)
theorem aAg (F:List aD):∀k∈dsF F,k<=bnF F:=by
 induction F with
 | nil=>exact λO h=>(Bo h).elim
 | cons T F ih=>
   intro k h;show k<=T.bn+bnF F;rcases mpp h with g | g
   . exact ntr (Gp T k g) (Ad _ _)
   . exact ntr (ih k g) (Al _ _)
theorem Ff {F:List aD}{p:Nat×Nat×Nat}(h:p∈lvF F):p.2.2<=bnF F:=aAg F _ (by rw [<-D9];exact mmr ⟨p,h,rfl⟩)
theorem G4 {ps:List (Nat×Nat×Nat)}{p:Nat×Nat×Nat}:∀{c:Nat},okL c ps->p∈ps->p.1<=7/\p.2.1<=7:=by
 induction ps with
 | nil=>exact λO h=>(Bo h).elim
 | cons q ps ih=>
   intro c h hp;obtain ⟨h1,h2,h3,h4⟩:=h;rcases mcp hp with rfl | hp
   . exact ⟨by lia,by lia⟩
   . exact ih h4 hp
theorem DI.deep {ds:List (Nat×Nat)}{F G:List aD}(h:DI ds F G):(∀T∈F,T.dp 7)/\∀T∈G,T.dp 7:=⟨j7 F (ntr h.nst.2.1 h.len),j7 G (ntr h.nst.2.2.1 h.len)⟩
section
variable {ds:List (Nat×Nat)}{P R G:List aD}{a b:aD}
theorem oG (h:∀e∈ds,e.1<=1/\e.2<=31){x y:Nat}(hx:x<=1)(hy:y<=31):∀e∈ds++[(x,y)],e.1<=1/\e.2<=31:=λe he=>by
 rcases mpp he with g | g
 . exact h e g
 . rw [msp g];exact ⟨hx,hy⟩
theorem DI.fold (h:DI ds (P++a::b::R) G)(hl:ds.length<=6)(hu:P.length<=2):DI (ds++[(0,P.length)]) (P++.node a b::R) G:=by
 obtain ⟨h1,h2,h3,h4,h7,h5,h6⟩:=h;rw [Bl,Bp,Bp] at h3 h4;exact ⟨yb h1,by rw [Bl,Bt];(exact Ay ‹_›),by rw [Bl,Bl,Bt,Bp];lia,by rw [Bl,Bl,Bt,Bp];lia,h7,by rw [Bl,Bt];(clear h5;(exact AT ‹_›)),oG h6 ∅ (ntr ‹_› ∅)⟩
theorem DI.unf (h:DI ds (P++.node a b::R) G)(hl:ds.length<=6)(hu:P.length<=2):DI (ds++[(1,P.length)]) (P++a::b::R) G:=by
 obtain ⟨h1,h2,h3,h4,h7,h5,h6⟩:=h;rw [Bl,Bp] at h3 h4;exact ⟨G3 h1,by rw [Bl,Bt];lia,by rw [Bl,Bl,Bt,Bp,Bp];lia,by rw [Bl,Bl,Bt,Bp,Bp];(exact AT ‹_›),h7,by rw [Bl,Bt];(clear h5;lia),oG h6 ∅ (by lia)⟩
theorem DI.leaf (h:DI ds (P++.leaf::R) G)(hl:ds.length<=6)(hu:P.length<=2):DI (ds++[(1,P.length)]) (P++.leaf::.leaf::R) (bi G (sumN P)):=by
 obtain ⟨h1,h2,h3,h4,h7,h5,h6⟩:=h;rw [Bl,Bp] at h3 h4;exact ⟨yL h1,by rw [g8,Bl,Bt];lia,by rw [g8,Bl,Bl,Bt,Bp,Bp];lia,by rw [Bl,Bl,Bt,Bp,Bp];lia,by rw [g8];exact h7,by rw [Bl,Bt];lia,oG h6 ∅ (by lia)⟩
end
section
theorem wX (F:aQ B)(K:Kn){A:Addr}{P R:List aD}{Aa Bb:List (Nat×Nat×Nat)}{p:Nat×Nat×Nat}{c:Nat}(hc:c%2=1)(hP:(P++.leaf::R).length<=18)(hA:(Aa++p::Bb).length<=18)(hd:p.2.2<7)(h1:p.1<=7)(h2:p.2.1<=7)(hM:(A,aG (ac (Aa++p::Bb)))∈H)(hU:Upd A (aG (ac (Aa++p::Bb))) (aG (ac (Aa++two p Bb))) H H')
   {more rows text sent halves head tail middle bound cut told many:Option PV}
   (q:∀rows text sent halves head tail middle bound,Qn (stD F K (.list (bC (P++.leaf::.leaf::R))) (.list (bL (Aa++two p Bb))) A D (some (.int (c:Nat))) (some (.int (P.length:Nat))) (some (.list (aC (bA c)))) more (some (.int (Aa.length:Nat))) rows text sent halves head tail middle bound cut told many) H') :
   Xs NoE B (d+70) (fiV F) H (stD F K (.list (bC (P++.leaf::R))) (.list (bL (Aa++p::Bb))) A D (some (.int (c:Nat))) (some (.int (P.length:Nat))) (some (.list (aC (bA c)))) more (some (.int (Aa.length:Nat))) rows text sent halves head tail middle bound cut told many) (cJ 4) Qn Qf:=by
 have hl:=hP;rw [Bl,Bp] at hl;have hA':=hA;rw [Bl,Bp] at hA';refine mf F K (by lia) ?_;refine wq F K hc (by lia) (by lia) ?_;refine jV F K (DG (by lia)) ?_;refine DW F K hc hA hd h1 h2 hM hU (r:=bA c) gD.1 λhead tail middle bound=>?_;exact rW F K (S:=[.leaf,.leaf]) hc hP (Ab 2) (q _ _ _ _ _ _ _ _)
theorem xW (F:aQ B)(K:Kn){A:Addr}{ds:List (Nat×Nat)}{Fs G:List aD}(I:DI ds Fs G)(hl:ds.length<=6){c:Nat}{unit last more ahead rows text sent halves head tail middle bound cut told many:Option PV}
   (q:∀Fs G A unit last more ahead rows text sent halves head tail middle bound cut told many,DI (ds++[(c%2,unitOf c)]) Fs G->Qn (stD F K (.list (bC Fs)) (.list (bL (lvF G))) A D (some (.int (c:Nat))) unit last more ahead rows text sent halves head tail middle bound cut told many) (HD K G A D (ds++[(c%2,unitOf c)]) H)) :
   Xs NoE B (d+70) (fiV F) (HD K G A D ds H) (stD F K (.list (bC Fs)) (.list (bL (lvF G))) A D (some (.int (c:Nat))) unit last more ahead rows text sent halves head tail middle bound cut told many) (cJ 0) Qn Qf:=by
 refine aAb F K I λFs G A more I hu=>?_;have hle:=I.let_le;refine aBi F K hle.2.1 (λT hT=>?_) ?_
 . obtain ⟨P,R,rfl⟩:=List.append_of_mem hT
   have:=hle.2.2;rw [bf] at this;have this:sumN P+(T.n+sumN R)<=18:=this
   lia
 obtain ⟨P,a,b,R,rfl,hP⟩:=v6 Fs hu;rw [<-hP,BK];have hP2:P.length<=2:=by rw [hP];exact Bh (Am _ ∅)
 have hb7:bnF (P++a::b::R)<=7:=ntr I.nst.2.1 I.len;have hsa:cy a:=qK hb7 hle.2.2;rw [<-hP] at q;rcases Nat.mod_two_eq_zero_or_one c with hc | hc
 . rw [hc] at q ⊢
   have hsb:cy b:=qK (P:=P++[a]) (R:=R) (by rw [Bn];exact hb7) (by rw [Bn];exact hle.2.2);refine wi F K hc hle.2.1 hsa hsb ?_ λrows text sent halves=>q _ _ _ _ _ _ _ _ _ _ _ _ _ _ _ _ _ _ (I.fold hl hP2);have:=hle.2.2;rw [bf] at this;have this:sumN P+(a.n+(b.n+sumN R))<=18:=this
   lia
 . rw [hc] at q ⊢
   cases a with
   | node l r=>exact wB F K hc hle.2.1 hsa λrows text sent halves cut told many=>q _ _ _ _ _ _ _ _ _ _ _ _ _ _ _ _ _ _ (I.unf hl hP2)
   | leaf=>
     have hlen:(lvF G).length=sumN G:=d4 G I.deep.2
     obtain ⟨Aa,p,Bb,e,hA⟩:=Dr (lvF G) (u:=sumN P) (by
       rw [hlen,<-I.nst.1,bf]
       exact AE (show 0<1+sumN (b::R) from nlt Nat.zero_lt_one (Ad _ _)))
     have hp:p∈lvF G:=by rw [e];exact List.mem_append_right _ (.head _)
     have hd:p.2.2<7:=Ai (ntr (Ff hp) I.nst.2.2.1) (AT hl);obtain ⟨h1,h2⟩:=G4 (jS (c:=0) G I.deep.2 rfl) hp;have es:=wQ G e;rw [<-hA,e];have q:=λmore rows text sent halves head tail middle bound cut told many=>q _ _ A (some (.int (P.length:Nat))) (some (.list (aC (bA c)))) more (some (.int (Aa.length:Nat))) rows text sent halves head tail middle bound cut told many (I.leaf hl hP2);rw [<-hA,es] at q;have hM:(A,aG (ac (Aa++p::Bb)))∈HD K G A D (ds++[(1,P.length)]) H:=by rw [<-e];exact .head _
     have hU:Upd A (aG (ac (Aa++p::Bb))) (aG (ac (Aa++two p Bb))) (HD K G A D (ds++[(1,P.length)]) H) (HD K (bi G Aa.length) A D (ds++[(1,P.length)]) H):=by rw [<-e,<-es];exact .head
     exact wX F K hc hle.2.1 (by rw [<-e,hlen];exact hle.1) hd h1 h2 hM hU λrows text sent halves head tail middle bound=>q _ _ _ _ _ _ _ _ _ _ _ _
noncomputable def cM (cs:List Nat):List (Nat×Nat):=cs.map λc=>(c%2,unitOf c)
theorem xA (F:aQ B)(K:Kn):∀(cs:List Nat) (ds:List (Nat×Nat)) (Fs G:List aD) (A:Addr) (cell unit last more ahead rows text sent halves head tail middle bound cut told many:Option PV),DI ds Fs G->ds.length+cs.length<=7->
   (∀Fs G A cell unit last more ahead rows text sent halves head tail middle bound cut told many,DI (ds++cM cs) Fs G->Qn (stD F K (.list (bC Fs)) (.list (bL (lvF G))) A D cell unit last more ahead rows text sent halves head tail middle bound cut told many) (HD K G A D (ds++cM cs) H))->
   d6 B (fiV F) (d+70) (au g3) (ak g3) [(K.C,az K.cs)] (az cs) (stD F K (.list (bC Fs)) (.list (bL (lvF G))) A D cell unit last more ahead rows text sent halves head tail middle bound cut told many) (HD K G A D ds H) Qn Qf:=by
 intro cs
 induction cs with
 | nil=>
   intro ds Fs G A cell unit last more ahead rows text sent halves head tail middle bound cut told many I _ q;rw [show ds++cM []=ds from Br ds] at q;exact bp (q _ _ _ _ _ _ _ _ _ _ _ _ _ _ _ _ _ _ _ I)
 | cons c cs ih=>
   intro ds Fs G A cell unit last more ahead rows text sent halves head tail middle bound cut told many I hl q;rw [Bp] at hl;rw [show ds++cM (c::cs)=ds++[(c%2,unitOf c)]++cM cs from by rw [Bn];rfl] at q;refine ao ?_;show Asg B _ (d+70) NoE (au g3) (.int (c:Nat)) _ _ _;refine' kq ?_;ext;refine xW F K I (by lia) λFs G A unit last more ahead rows text sent halves head tail middle bound cut told many I=>?_;refine ⟨λp hp=>?_,ih _ Fs G A _ _ _ _ _ _ _ _ _ _ _ _ _ _ _ _ I (by rw [Bl,Bt];lia) q⟩;rw [msp hp];exact .tail _ (.tail _ (.tail _ (.head _)))
end
end
theorem Fb:∀d,d<=7->lev (2 ^ (7-d))=d:=by
 intro d h;have:∀d,d<8->lev (2 ^ (7-d))=d:=by decide
 exact this d (AT h)
theorem nb (ps:List (Nat×Nat×Nat)):(List.range (ps.length+1)).map (cut ps)=b4 0 ps:=by
 refine List.ext_getElem? λi=>?_;by_cases h:i<ps.length+1
 . rw [mh ps 0 i (Bh h),List.getElem?_map,List.getElem?_range h,Aj];rfl
 . rw [List.getElem?_eq_none (by rw [Bk,BG];exact Ar h),List.getElem?_eq_none (by rw [mW];exact Ar h)]
theorem Fe {c:Nat}{p:Nat×Nat×Nat}{ps:List (Nat×Nat×Nat)}(h:okL c (p::ps)):lev (2 ^ (7-p.2.2))-lev c=p.1/\lev (2 ^ (7-p.2.2))-lev (c+2 ^ (7-p.2.2))=p.2.1/\lev c<=lev (2 ^ (7-p.2.2))/\lev (c+2 ^ (7-p.2.2))<=lev (2 ^ (7-p.2.2)):=by
 obtain ⟨h1,h2,h3,O⟩:=h;rw [Fb _ h1];exact ⟨Nat.sub_eq_of_eq_add (h2.symm.trans (Ak ..)),Nat.sub_eq_of_eq_add (h3.symm.trans (Ak ..)),Nat.le.intro h2,Nat.le.intro h3⟩
noncomputable def fronts (ps:List (Nat×Nat×Nat)):List (List Nat):=(List.range ps.length).map (λi=>aR (ps.take (i+1)))++[(aR ps).reverse]
theorem cV (ps:List (Nat×Nat×Nat)):(ps.map cK).flatten=aR ps:=by
 induction ps with
 | nil=>rfl
 | cons p ps ih=>rw [Bs,BD,ih];rfl
theorem xK (p:Nat×Nat×Nat):Brk (cK p):=λc hc=>by
 rcases mpp hc with h | h
 . exact .inl (BC h)
 . rcases mcp h with h | h
   . exact .inr (.inr h)
   . exact .inr (.inl (BC h))
theorem d8 (ps:List (Nat×Nat×Nat)):Brk (aR ps):=by
 induction ps with
 | nil=>exact λc hc=>(Bo hc).elim
 | cons p ps ih=>exact (xK p).app ih
theorem tR {ps:List (Nat×Nat×Nat)}:∀f∈fronts ps,Brk f:=λf hf=>by
 rcases mpp hf with h | h
 . obtain ⟨i,O,rfl⟩:=mmp h
   exact d8 _
 . rw [msp h]
   exact λc hc=>d8 ps c (List.mem_reverse.mp hc)
noncomputable def k6 (ps:List (Nat×Nat×Nat)):List Nat:=(b4 0 ps).drop 1++[(aR ps).count 40]
theorem CT (ps:List (Nat×Nat×Nat)):k6 ps=(List.range ps.length).map (λi=>cut ps (i+1))++[(aR ps).count 40]:=by
 unfold k6;rw [<-nb,List.range_succ_eq_map,Bs,Bm];rfl
theorem yU {X:List aD}(hd:∀T∈X,T.dp 7)(hb:(f7 X).count 40<128)(w:Nat):(fronts (lvF X)).map (λf=>gO (ofL (am w f)))=(k6 (lvF X)).map λc=>decide (c%128=0):=by
 have h0:lev 0=0:=rfl;have hok:=jS (c:=0) X hd rfl;rw [CT,fronts,Bq,Bq,Bm,Bm];congr 1
 . refine Bv λi O=>?_
   have:=xj (lvF X) (c:=0) (i+1) hok;rw [h0,Aj] at this;exact (jZ (d8 _) w).trans this
 . have hr:Brk (aR (lvF X)).reverse:=λc hc=>d8 _ c (List.mem_reverse.mp hc)
   show [gO (ofL (am w (aR (lvF X)).reverse))]=[decide ((aR (lvF X)).count 40%128=0)];rw [jZ hr,cY,E0,Nat.mod_eq_of_lt hb]
noncomputable abbrev spA (l:List Nat):List (List Nat):=spH l::spT l
theorem Fq {w:List Nat}(h:120∉w)(r:List Nat):spA (w++120::r)=w::spA r:=by
 induction w with
 | nil=>rfl
 | cons c w ih=>
   have hc:c≠120:=λe=>h (e▸.head _);have ih:=ih λg=>h (.tail _ g);obtain ⟨i1,i2⟩:=List.cons.inj ih;show (if c=120 then [] else c::spH (w++120::r))::(if c=120 then spH (w++120::r)::spT (w++120::r) else spT (w++120::r))=_;rw [if_neg hc,if_neg hc,i1,i2]
theorem Ep {w:List Nat}(h:120∉w):spA w=[w]:=by
 induction w with
 | nil=>rfl
 | cons c w ih=>
   have hc:c≠120:=λe=>h (e▸.head _);obtain ⟨i1,i2⟩:=List.cons.inj (ih λg=>h (.tail _ g));show (if c=120 then [] else c::spH w)::(if c=120 then spH w::spT w else spT w)=_;rw [if_neg hc,if_neg hc,i1,i2]
theorem E2 (ps:List (Nat×Nat×Nat)):∀w:List Nat,120∉w->w.count 40=0->(spA (w++aR ps)).dropLast.map (·.count 40)=ps.map (·.1):=by
 induction ps with
 | nil=>
   intro w h _;rw [show w++aR []=w from Br w,Ep h];rfl
 | cons p ps ih=>
   intro w h hc;have n1:120∉w++List.replicate p.1 40:=λg=>(mpp g).elim h λg=>absurd (BC g) ∅;have n2:120∉List.replicate p.2.1 41:=λg=>absurd (BC g) ∅
   have e:w++aR (p::ps)=(w++List.replicate p.1 40)++120::(List.replicate p.2.1 41++aR ps):=by
     show w++((List.replicate p.1 40++120::List.replicate p.2.1 41)++aR ps)=_;rw [Bn,Bn,BW]
   have z:(List.replicate p.2.1 41).count 40=0:=List.count_eq_zero.mpr λg=>absurd (BC g) ∅;rw [e,Fq n1,List.dropLast_cons_of_ne_nil (Bz _ _),Bs,ih _ n2 z,BL,hc,Aj,List.count_replicate_self];rfl
theorem pM (ps:List (Nat×Nat×Nat)):(spA (aR ps)).dropLast.map (·.count 40)=ps.map (·.1):=E2 ps [] Bo rfl
noncomputable def opD (kind:Nat):Nat->List Nat->List (Nat×Nat)
 | _,[]=>[]
 | i,a::as=>List.replicate a (kind,i)++opD kind (i+1) as
theorem aCg (kind:Nat)(ps:List (Nat×Nat×Nat)):∀i,opD kind i (ps.map (·.1))=(opL ps i).map λj=>(kind,j):=by
 induction ps with
 | nil=>exact λO=>rfl
 | cons p ps ih=>
   intro i;show List.replicate p.1 (kind,i)++opD kind (i+1) (ps.map (·.1))=(List.replicate p.1 i++opL ps (i+1)).map _;rw [ih,Bq,List.map_replicate]
theorem aAs (ps:List (Nat×Nat×Nat)):∀i,∀j∈opL ps i,j<i+ps.length:=by
 induction ps with
 | nil=>exact λO O h=>(Bo h).elim
 | cons p ps ih=>
   intro i j h;rw [Bp];rcases mpp h with g | g
   . rw [BC g];lia
   . have:=ih (i+1) j g;lia
theorem vd (M:Int)(us fs:List Nat)(y:Int):fn M ((us.map λj=>(1,j))++(fs.map λj=>(0,j))) y=wK M fs (gP M us y):=by
 unfold fn;rw [BZ,List.foldl_map,List.foldl_map];rfl
set_option maxHeartbeats 1000000
section
noncomputable abbrev fM:=List (List Nat)×List Nat
noncomputable abbrev nPV (n:fM):PV:=.list [.list (aC n.1),.str (ofL n.2)]
structure fO (Ns:List fM)(X:List aD):Prop where
 txt:(Ns.map (·.2)).flatten=aR (lvF X)
 row:(Ns.map (·.1)).flatten=(lvF X).map λp=>bx p.2.2
 len:Ns.length<=18
 bn:bnF X<=7
 n:sumN X<=18
 xl:X.length<=11
 x1:1<=sumN X
theorem fO.dp {Ns:List fM}{X:List aD}(h:fO Ns X):∀T∈X,T.dp 7:=j7 X h.bn
theorem fO.ps {Ns:List fM}{X:List aD}(h:fO Ns X):(lvF X).length<=18:=by rw [d4 X h.dp];exact h.n
theorem DN (X:List aD):(f7 X).length=sumN X+2*bnF X:=by
 induction X with
 | nil=>rfl
 | cons T X ih=>show (T.str++f7 X).length=T.n+sumN X+2*(T.bn+bnF X);rw [Bl,ih,uj];lia
theorem fO.tl {Ns:List fM}{X:List aD}(h:fO Ns X):(aR (lvF X)).length<=32:=by
 rw [cY,DN];have:=h.n;have:=h.bn
 lia
noncomputable def Gk:PV->PV
 | .list [_,b]=>b
 | v=>v
theorem xP (Ns:List fM):(Ns.map nPV).map Gk=aC (Ns.map (·.2)):=by
 rw [aC,Bm,Bm];rfl
noncomputable def DP:PV->List PV
 | .list [.list xs,_]=>xs
 | _=>[]
noncomputable def aF0:PV->PV
 | .str x=>.int (2 ^ (8-x.length):Nat)
 | v=>v
theorem fO.dot {Ns:List fM}{X:List aD}(N:fO Ns X){n:fM}(hn:n∈Ns)(hr:r∈n.1):∃j,j<=7/\r=bx j:=by
 have:r∈(Ns.map (·.1)).flatten:=List.mem_flatten.mpr ⟨n.1,mmr ⟨n,hn,rfl⟩,hr⟩;rw [N.row] at this;obtain ⟨p,hp,rfl⟩:=mmp this;exact ⟨p.2.2,fg X N.dp p hp,rfl⟩
theorem u6 {Ns:List fM}{X:List aD}(N:fO Ns X):(Ns.map nPV).flatMap DP=aC (Ns.map (·.1)).flatten:=by
 rw [List.flatMap_map,aC,List.map_flatten,Bm,List.flatMap_def];rfl
theorem zM {Ns:List fM}{X:List aD}(h:(Ns.map (·.1)).flatten=(lvF X).map λp=>bx p.2.2):(aC (Ns.map (·.1)).flatten).length=(lvF X).length:=by
 rw [h,Bk,Bk]
theorem wj {Ns:List fM}{X:List aD}(N:fO Ns X):(Ns.map nPV).flatMap (λx=>(DP x).map aF0)=az (dO (lvF X)):=by
 rw [<-List.map_flatMap,u6 N,N.row,aC,az,dO,Bm,Bm,Bm];refine Bv λp O=>?_;refine congrArg (λm:Nat=>PV.int ((2 ^ (8-m):Nat):Int)) ((aZ _).trans (d0 _)) |>.trans ?_;show PV.int ((2 ^ (8-(p.2.2+1)):Nat):Int)=_;rw [Nat.succ_sub_succ];rfl
section
noncomputable abbrev stE (F:aQ B)(K:Kn)(up lo:PV)(A D:Addr)(lines normal kind nests:PV)(text_:Option PV:=none)(units_:Option PV:=none)(wide_:Option PV:=none)(cuts_:Option PV:=none)(low_:Option PV:=none)(high_:Option PV:=none)(fronts_:Option PV:=none)(hand_:Option PV:=none)(kept_:Option PV:=none)(told_:Option PV:=none)(opened_:Option PV:=none):St:=
 stV (F:=F) (script_:=some (.list (aG K.sl))) (cells_:=some (.lref K.C)) (total_:=some (.int (eO K.sl))) (lines_:=some lines) (normal_:=some normal) (words_:=some (.lref K.W)) (place_:=K.pl) (x_:=K.xx) (upper_:=some up) (lower_:=some lo) (below_:=some (.lref A)) (deeds_:=some (.lref D))
   (kind_:=some kind) (nests_:=some nests) (text_:=text_) (units_:=units_) (wide_:=wide_) (cuts_:=cuts_) (low_:=low_) (high_:=high_) (fronts_:=fronts_) (hand_:=hand_) (kept_:=kept_) (told_:=told_) (opened_:=opened_)
noncomputable abbrev g4:Stmt:=((a8 (aL iR))[4]?).getD (.Pass default)
noncomputable abbrev bz (k:Nat):List Stmt:=(ak g4).drop k
noncomputable abbrev aFl (o:Option PV):St:=[(Ω ".0",.local,none),(Ω "nest",.local,o)]
theorem y7 (F:aQ B)(K:Kn){up lo:PV}{A:Addr}{lines normal kind:PV}{Ns:List fM}{X:List aD}(N:fO Ns X){text units wide cuts low high fronts hand kept told opened:Option PV}
   (q:∀U,Xs NoE B (d+70) (fiV F) ((U,[])::H) (stE F K up lo A D lines normal kind (.list (Ns.map nPV)) (some (.str (ofL (aR (lvF X))))) (some (.lref U)) wide cuts low high fronts hand kept told opened) (bz 1) Qn Qf) :
   Xs NoE B (d+70) (fiV F) H (stE F K up lo A D lines normal kind (.list (Ns.map nPV)) text units wide cuts low high fronts hand kept told opened) (bz 0) Qn Qf:=by
 refine aE (nq (S:=λU:Addr=>stE F K up lo A D lines normal kind (.list (Ns.map nPV)) (some (.str (ofL (aR (lvF X))))) (some (.lref U)) wide cuts low high fronts hand kept told opened) (K:=λU=>(U,[])::H) ?_ @q);refine eC ?_ (by kernel_rfl) (by intro _;rfl);ext;refine ⟨_,cT,?_⟩;ext;refine bB (aFl none) (.loc (.loc .nil)) ?_ (by decide +kernel) (by rfl) (by rfl) (by intro _ _;rfl) (Al ..) (Ae 1);refine cB ?_;ext;refine bS λDa=>?_;refine eU (σt:=aFl) (f:=Gk) ?_ (λp hp=>(Bo hp).elim) _ _ none ?_ ?_ ?_
 . intro x o H K k
   ext;exact k
 . intro x hx acc K k
   obtain ⟨n,hn,rfl⟩:=mmp hx;ext;refine ⟨aB .list,bh (n:=1) (p:=.str (ofL n.2)) .list rfl rfl ?_⟩;exact k
 . rw [Bk];exact aO (n:=18) (ntr (Ac (Aj _)) N.len)
 rw [Bw,xP];ext;rw [bP];refine bu (.inr .list) ?_ ?_
 . rw [Bm,show (Ω "").length=0 by decide +kernel,AR,AS]
   refine ntr (Ac (congrArg List.sum (Bv λr O=>aZ r))) ?_;rw [<-B1,N.txt];exact ntr N.tl ∅
 rw [eX,da,qp,N.txt];ext;refine dN ?_;ext;intro U;ext;exact ⟨U,rfl,rfl⟩
noncomputable abbrev aEb (o1 o2:Option PV):St:=[(Ω ".0",.local,none),(Ω "nest",.local,o1),(Ω "row",.local,o2),(Ω "len",.globalImplicit,some (.raw (.builtin "len")))]
theorem zx (F:aQ B)(K:Kn){up lo:PV}{A:Addr}{lines normal kind:PV}{Ns:List fM}{X:List aD}(N:fO Ns X){text units wide cuts low high fronts hand kept told opened:Option PV}
   (q:Xs NoE B (d+70) (fiV F) H (stE F K up lo A D lines normal kind (.list (Ns.map nPV)) text units (some (.list (az (dO (lvF X))))) cuts low high fronts hand kept told opened) (bz 2) Qn Qf) :
   Xs NoE B (d+70) (fiV F) H (stE F K up lo A D lines normal kind (.list (Ns.map nPV)) text units wide cuts low high fronts hand kept told opened) (bz 1) Qn Qf:=by
 refine aE (eT (S:=stE F K up lo A D lines normal kind (.list (Ns.map nPV)) text units (some (.list (az (dO (lvF X))))) cuts low high fronts hand kept told opened) ?_ @q);refine lM ?_ λenv e=>kT e (by kernel_rfl);refine pE (aEb none none) (.loc (.loc (.loc (.globS (by walk_at "mm") .nil)))) ?_ (by decide +kernel) (by rfl) (by rfl) (by intro _ _;rfl) (by intro _ _;rfl) (by lia);refine cB ?_;ext;refine bS λDa=>?_;refine p7 (σt:=aEb) (its:=DP) (f:=λO=>aF0) (λp hp=>(Bo hp).elim) ?_ _ _ none none ?_ ?_ ?_ ?_ ?_
 . intro x y o acc K k
   ext;exact k
 . intro x hx o1 o2 acc K k
   ext;exact k
 . intro x hx o2 acc K k
   obtain ⟨n,hn,rfl⟩:=mmp hx;refine cB ?_;ext;refine ⟨aB .list,bh (n:=0) (p:=.list (aC n.1)) .list rfl rfl ?_⟩;exact bS k
 . intro x hx y hy acc K k
   obtain ⟨n,hn,rfl⟩:=mmp hx;obtain ⟨r,hr,rfl⟩:=mmp hy;obtain ⟨j,hj,rfl⟩:=N.dot hn hr;ext;refine ⟨aK,?_⟩;ext;refine m8 (d0 j) (by rw [d0];(exact Ai ‹_› ∅)) ?_;ext;refine iT (c:=.int ((8-(j+1):Nat):Int)) (congrArg PV.int (by omega)) ?_;refine Dg (a:=2) ∅ ∅ (by clear hj;omega) ?_;refine bN (congrArg (λm:Nat=>PV.int ((2 ^ (8-m):Nat):Int)) ?_) k;exact ((aZ _).trans (d0 j)).symm
 . rw [u6 N,zM N.row];exact aO (n:=18) (ntr (Ac (Aj _)) N.ps)
 rw [Bw,wj N];ext;exact ⟨rfl,rfl⟩
end
end
set_option maxHeartbeats 1000000
section
theorem rS (n:Nat):∀k:Nat,d3 1 (k:Int) n=(BS k n).map λi:Nat=>PV.int i:=by
 induction n with
 | zero=>exact λO=>rfl
 | succ n ih=>exact λk=>congrArg (PV.int k::·) (ih (k+1))
noncomputable def aEi (ws:List Nat):PV->PV
 | .int i=>.int ((ws.take i.toNat).sum:Nat)
 | v=>v
theorem El (l:List Nat):(l.map λn:Nat=>(n:Int)).sum=(l.sum:Nat):=by
 induction l with
 | nil=>rfl
 | cons a l ih=>rw [Bs,BA,ih,BA];exact (Cf _ _).symm
theorem iG (n:Nat):d3 1 0 n=(List.range n).map λi:Nat=>PV.int i:=by
 rw [List.range_eq_range'];exact rS n 0
theorem wG (ps:List (Nat×Nat×Nat)):(d3 1 0 (ps.length+1)).map (aEi (dO ps))=aG (ac ps):=by
 unfold ac;rw [iG,<-nb,aG,Bm,Bm,Bm];exact Bv λi O=>rfl
noncomputable abbrev aDx (ws:List Nat)(o:Option PV):St:=[(Ω ".0",.local,none),(Ω "place",.local,o),(Ω "sum",.globalImplicit,some (.raw (.builtin "sum"))),(Ω "wide",.cell,some (.list (az ws)))]
section
theorem ae.hids {l:List (Addr×Obj)}{name:Str}(h:ae dV kV k name f cdv B):ae dV kV k name f cdv (B.hids l):=⟨h.at_,h.code⟩
theorem xM {l:List Nat}(q:Q (.int (l.sum:Nat)) H):aM [] E H B d (.raw (.builtin "sum")) [.list (az l)] Q:=
 kN (ns:=l.map λn:Nat=>(n:Int)) (by rw [az,Bm];exact .list) (El l▸q)
theorem rJ {c n:Nat}{i:Int}(e:x=ofL [c])(hi:i=(n:Nat))(hn:n<=1000)(q:Q (.str (ofL (List.replicate n c))) H):V2 H E B d (.int i) (.str x) (binaryOp .Mult) Q:=by
 subst e;subst hi;exact CS (xN (by lia) (Cd _)) (by rw [EG,Ci];exact q)
end
theorem ER (ps:List (Nat×Nat×Nat)):∀c,c<=endC c ps:=by
 induction ps with
 | nil=>exact λc=>Ab c
 | cons p ps ih=>exact λc=>ntr (Ad _ _) (ih _)
section
theorem y4 (F:aQ B)(K:Kn){up lo:PV}{A:Addr}{lines normal kind nests:PV}{ps:List (Nat×Nat×Nat)}(hl:ps.length<=18){text units cuts low high fronts hand kept told opened:Option PV}
   (q:Xs NoE B (d+70) (fiV F) H (stE F K up lo A D lines normal kind nests text units (some (.list (az (dO ps)))) (some (.list (aG (ac ps)))) low high fronts hand kept told opened) (bz 3) Qn Qf) :
   Xs NoE B (d+70) (fiV F) H (stE F K up lo A D lines normal kind nests text units (some (.list (az (dO ps)))) cuts low high fronts hand kept told opened) (bz 2) Qn Qf:=by
 have lw:(az (dO ps)).length=ps.length:=(Bk _).trans (Bk _);refine aE (eT (S:=stE F K up lo A D lines normal kind nests text units (some (.list (az (dO ps)))) (some (.list (aG (ac ps)))) low high fronts hand kept told opened) ?_ @q);refine ff (aDx (dO ps) none) (.loc (.loc (.globS (by walk_at "mm") (.capC (by walk_at "mm") .nil)))) ?_ (by walk_at "mm") (by rfl) (by kernel_rfl) (by decide +kernel) (by rfl) (by rfl) (by intro _ _;rfl) (Al ..) (Ae 1);ext;refine ⟨aq,?_⟩;ext;refine ⟨aK,?_⟩;ext;refine ab .list (by rw [lw];exact Ai hl ∅) ?_;rw [lw];ext;refine eZ (n:=ps.length+1) (ntr (Ag hl) ∅) λDa=>?_;refine eL (σt:=aDx (dO ps)) (f:=aEi (dO ps)) (λp hp=>(Bo hp).elim) _ _ none ?_ ?_ ?_ ?_
 . intro x hx o H K k
   ext;exact k
 . intro x hx acc K k
   obtain ⟨i,hi,rfl⟩:=nJ (k:=0) hx;ext;refine ⟨aK,?_⟩;ext;refine ⟨aB .list,fL i .list (by rw [lw];exact aO hl) (.inl ?_)⟩;rw [<-Bx];ext;refine xM ?_;exact k
 . rw [iG,Bk,BG];exact aO (n:=19) (ntr (Ac (Aj _)) (Ag hl))
 rw [Bw,wG];refine ⟨_,by walk_at "m_rep",rfl,rfl⟩
noncomputable abbrev g43:Stmt:=((ak g4)[3]?).getD (.Pass default)
theorem vm (F:aQ B)(K:Kn){TO:Addr}{up lo:PV}{A U:Addr}{lines normal kind nests:PV}{text wide cuts fronts hand kept told opened:Option PV}:∀(ps:List (Nat×Nat×Nat)) (c:Nat) (acc:List (List Nat)) (low high:Option PV),okL c ps->endC c ps<=2048->acc.length+ps.length<=100->
   (∀low high,Qn (stE F K up lo A D lines normal kind nests text (some (.lref U)) wide cuts low high fronts hand kept told opened) ((U,aC (acc++ps.map cK))::H))->
   uA B TO (fiV F) (d+70) (au g43) (ak g43) [] (bU ((b4 c ps).map λc:Nat=>PV.int (c:Nat)) (((b4 c ps).map λc:Nat=>PV.int (c:Nat)).drop 1)) (stE F K up lo A D lines normal kind nests text (some (.lref U)) wide cuts low high fronts hand kept told opened) ((U,aC acc)::H) Qn:=by
 intro ps
 induction ps with
 | nil=>intro c acc low high _ _ _ q;rw [List.map_nil,Br] at q;exact q low high
 | cons p ps ih=>
   intro c acc low high hok he hz q;obtain ⟨o1,o2,o3,o4⟩:=Fe hok;obtain ⟨k1,k2,k3,k4⟩:=hok;obtain ⟨r,hr⟩:=k8 ps (c+2 ^ (7-p.2.2));have ih:=ih (c+2 ^ (7-p.2.2)) (acc++[cK p]);rw [show b4 c (p::ps)=c::b4 (c+2 ^ (7-p.2.2)) ps from rfl];rw [hr] at ih ⊢;show uA B TO (fiV F) (d+70) (au g43) (ak g43) [] (.tup [.int (c:Nat),.int (c+2 ^ (7-p.2.2):Nat)]::bU (((c+2 ^ (7-p.2.2))::r).map λc:Nat=>PV.int (c:Nat)) (r.map λc:Nat=>PV.int (c:Nat))) _ _ _;intro o;refine cw rfl rfl ?_;have hw:2 ^ (7-p.2.2)<=128:=AP (n:=2) ∅ (Av 7 _);have hc:c+2 ^ (7-p.2.2)<=2048:=ntr (ER ps _) he;have lvl:∀{x:Nat} {i:Int} {H:AH} {Q:PQ},i=(x:Nat)->x<=2048->Q (.int (lev x:Nat)) H->aM [] NoE H (B.hide TO o) (d+70) (.raw (.ref F.flv)) [.int i] Q:=λe h q=>by subst e;exact tg (d:=d+68) F.hlv.hids (AT h) q
   have hsub:((c+2 ^ (7-p.2.2):Nat):Int)-(c:Nat)=(2 ^ (7-p.2.2):Nat):=by lia
   ext;refine' aE ?_;ext;refine ⟨_,b5 (.lref (.head _)),?_⟩;ext;refine ⟨aF F.hlv.hids,?_⟩;ext;refine lvl hsub (ntr hw ∅) ?_;ext;refine ⟨aF F.hlv.hids,?_⟩;ext;refine lvl rfl (A9 hc) ?_;ext;refine rJ (n:=p.1) ia (by rw [<-o1];exact (CD o3).symm) (by clear o2 o1;lia) ?_;ext;refine kY (b:=[120]) (m:=7) (n:=1) ir (by rw [Bu];(clear o2 o1;lia)) (Ab 1) ?_;ext;refine ⟨aF F.hlv.hids,?_⟩;ext;refine lvl hsub (ntr hw ∅) ?_;ext;refine ⟨aF F.hlv.hids,?_⟩;ext;refine lvl rfl hc ?_;ext;refine rJ (n:=p.2.1) qV (by rw [<-o2];exact (CD o4).symm) (by clear o2 o1;lia) ?_;ext;refine f9 (m:=8) (n:=7) (vV (m:=7) (n:=1) (by rw [Bu];(clear o2 o1;lia)) (Ab 1)) (by rw [Bu];(clear o2 o1;lia)) ?_;ext;rw [Bn];refine bo (xs:=aC acc) (H':=(U,aC (acc++[cK p]))::H) ?_ ?_ ?_
   . rw [aC,aC,Bq];exact .head
   . rw [Bk];exact aO (n:=100) (A9 hz)
   ext;refine ⟨λp hp=>(Bo hp).elim,ih _ _ k4 he ?_ ?_⟩
   . rw [Bl,Bt,Ap,Ak 1];exact hz
   . intro low high
     rw [Bn];exact q low high
theorem ww (F:aQ B)(K:Kn){up lo:PV}{A U:Addr}{lines normal kind nests:PV}{ps:List (Nat×Nat×Nat)}(hok:okL 0 ps)(hl:ps.length<=18)(he:endC 0 ps<=2048){text wide low high fronts hand kept told opened:Option PV}
   (q:∀low high,Xs NoE B (d+70) (fiV F) ((U,aC (ps.map cK))::H) (stE F K up lo A D lines normal kind nests text (some (.lref U)) wide (some (.list (aG (ac ps)))) low high fronts hand kept told opened) (bz 4) Qn Qf) :
   Xs NoE B (d+70) (fiV F) ((U,[])::H) (stE F K up lo A D lines normal kind nests text (some (.lref U)) wide (some (.list (aG (ac ps)))) low high fronts hand kept told opened) (bz 3) Qn Qf:=by
 have lc:(aG (ac ps)).length<=19:=by rw [Bk,dL];exact Ag hl
 refine aE (nq (S:=λx:Option PV×Option PV=>stE F K up lo A D lines normal kind nests text (some (.lref U)) wide (some (.list (aG (ac ps)))) x.1 x.2 fronts hand kept told opened) (K:=λO=>(U,aC (ps.map cK))::H) ?_ λx=>q x.1 x.2);refine aAk ?_ (by rfl) (by intro _;rfl) (by intro _ _;rfl);ext;refine ⟨aq,?_⟩;ext;refine ⟨aB .list,jo 1 .list (aO (n:=19) lc) (.inl ?_)⟩;ext;refine ⟨_,_,_,_,rfl,rfl,.list,.list,λTO=>?_⟩;have e:aG (ac ps)=(b4 0 ps).map λc:Nat=>PV.int (c:Nat):=by unfold ac;rw [aG,Bm];rfl
 rw [e];exact vm F K ps 0 [] low high hok he (by rw [List.length_nil,Aj];exact ntr hl ∅) λlow high=>⟨(low,high),rfl,rfl⟩
end
end
set_option maxHeartbeats 1000000
section
theorem w4 (a b:List (Nat×Nat×Nat)):aR (a++b)=aR a++aR b:=by
 rw [<-cV,<-cV,<-cV,Bq,List.flatten_append]
theorem lK (ps:List (Nat×Nat×Nat))(n:Nat):(aR (ps.take n)).length<=(aR ps).length:=by
 have e:aR ps=aR (ps.take n)++aR (ps.drop n):=by rw [<-w4,List.take_append_drop]
 rw [e,Bl];exact Ad _ _
theorem tB {ps:List (Nat×Nat×Nat)}(h:(aR ps).length<=m):∀f∈fronts ps,f.length<=m:=λf hf=>by
 rcases mpp hf with g | g
 . obtain ⟨i,O,rfl⟩:=mmp g
   exact ntr (lK ps _) h
 . rw [msp g,BP];exact h
theorem uG (ps:List (Nat×Nat×Nat)):(fronts ps).length=ps.length+1:=by
 unfold fronts;rw [Bl,Bk,BG];rfl
noncomputable def frF (ps:List (Nat×Nat×Nat)):PV->PV
 | .int i=>.str (ofL (aR (ps.take (i.toNat+1))))
 | v=>v
theorem G1 (ps:List (Nat×Nat×Nat)):(d3 1 0 ps.length).map (frF ps)=aC ((List.range ps.length).map λi=>aR (ps.take (i+1))):=by
 rw [iG,aC,Bm,Bm];rfl
noncomputable abbrev aDn (U:Addr)(o:Option PV):St:=[(Ω ".0",.local,none),(Ω "place",.local,o),(Ω "units",.cell,some (.lref U))]
noncomputable def haF (w:Nat):PV->PV
 | .str x=>.str (ofL (am w x.cps.toList))
 | v=>v
theorem EH (w:Nat)(rs:List (List Nat)):(aC rs).map (haF w)=aC (rs.map (am w)):=by
 rw [aC,aC,Bm,Bm];rfl
section
theorem s7 (F:aQ B)(K:Kn){up lo:PV}{A U:Addr}{lines normal kind nests:PV}{ps:List (Nat×Nat×Nat)}(hl:ps.length<=18)(ht:(aR ps).length<=32)(hU:(U,aC (ps.map cK))∈H){wide cuts low high fronts hand kept told opened:Option PV}
   (q:Xs NoE B (d+70) (fiV F) H (stE F K up lo A D lines normal kind nests (some (.str (ofL (aR ps)))) (some (.lref U)) wide cuts low high (some (.list (aC (Mine.Tactic.fronts ps)))) hand kept told opened) (bz 5) Qn Qf) :
   Xs NoE B (d+70) (fiV F) H (stE F K up lo A D lines normal kind nests (some (.str (ofL (aR ps)))) (some (.lref U)) wide cuts low high fronts hand kept told opened) (bz 4) Qn Qf:=by
 have lu:(aC (ps.map cK)).length=ps.length:=by rw [Bk,Bk]
 refine aE (eT (S:=stE F K up lo A D lines normal kind nests (some (.str (ofL (aR ps)))) (some (.lref U)) wide cuts low high (some (.list (aC (Mine.Tactic.fronts ps)))) hand kept told opened) ?_ @q);ext;refine bB (aDn U none) (.loc (.loc (.capC (by walk_at "mm") .nil))) ?_ (by decide +kernel) (by rfl) (by rfl) (by intro _ _;rfl) (Al ..) (Ae 1);ext;refine ⟨aq,?_⟩;ext;refine ⟨aK,?_⟩;ext;refine ab (.lref hU) (by rw [lu];exact Ai hl ∅) ?_;rw [lu];ext;refine eZ (n:=ps.length) (ntr hl ∅) λDa=>?_;refine eL (σt:=aDn U) (f:=frF ps) (λp hp=>(Bo hp).elim) _ _ none ?_ ?_ ?_ ?_
 . intro x hx o H K k
   ext;exact k
 . intro x hx acc K k
   obtain ⟨i,hi,rfl⟩:=nJ (k:=0) hx;ext;refine ⟨_,cT,?_⟩;ext;rw [show ((i:Nat):Int)+1=((i+1:Nat):Int) from rfl];refine ⟨aB (.lref (.tail _ hU)),fL (i+1) (.lref (.tail _ hU)) (by rw [lu];exact aO hl) (.inl ?_)⟩;rw [<-Bx,<-Bx];ext;have hj:=ntr (lK ps (i+1)) ht;rw [<-cV] at hj;refine bu (ys:=((ps.take (i+1)).map cK).map ofL) (.inr (by rw [<-bP];exact .list)) ?_ ?_
   . rw [Bm,show (Ω "").length=0 by decide +kernel,AR,AS]
     refine ntr (Ac (congrArg List.sum (Bv λr O=>aZ r))) ?_;rw [<-B1];exact ntr hj ∅
   rw [eX,da,qp,cV];exact k
 . rw [iG,Bk,BG];exact aO (n:=18) (ntr (Ac (Aj _)) hl)
 rw [Bw,G1];ext;refine aV ?_;ext;refine ⟨c5 cS,f8 ∅ (by rw [aZ];exact aO ht) ?_⟩;refine bN (congrArg PV.str (wo (Ai ht ∅))) ?_;ext;refine bq 19 .list .list (by rw [Bk,Bk,BG];exact Ag hl) (aO (n:=19) (Ab _)) (zs:=aC (Mine.Tactic.fronts ps)) (by rw [Mine.Tactic.fronts,aC,aC,Bq];rfl) (.inl ?_);ext;exact ⟨rfl,rfl⟩
noncomputable abbrev aDv (F:aQ B)(C:Addr)(o:Option PV):St:=[(Ω ".0",.local,none),(Ω "front",.local,o),(Ω "_law_dressed",.globalImplicit,some (.raw (.ref F.D.fd))),(Ω "cells",.cell,some (.lref C))]
theorem z5 (F:aQ B)(K:Kn){up lo:PV}{A:Addr}{lines normal kind nests:PV}{rs:List (List Nat)}(hl:rs.length<=40)(hr:∀r∈rs,r.length<=32)(hC:(K.C,az K.cs)∈H){text units wide cuts low high hand kept told opened:Option PV}
   (q:Xs NoE B (d+70) (fiV F) H (stE F K up lo A D lines normal kind nests text units wide cuts low high (some (.list (aC rs))) (some (.list (aC (rs.map (am (K.cs.getD 5 0)))))) kept told opened) (bz 6) Qn Qf) :
   Xs NoE B (d+70) (fiV F) H (stE F K up lo A D lines normal kind nests text units wide cuts low high (some (.list (aC rs))) hand kept told opened) (bz 5) Qn Qf:=by
 have lC:K.cs.length=7:=bQ K.sl;refine aE (eT (S:=stE F K up lo A D lines normal kind nests text units wide cuts low high (some (.list (aC rs))) (some (.list (aC (rs.map (am (K.cs.getD 5 0)))))) kept told opened) ?_ @q);refine ff (aDv F K.C none) (.loc (.loc (.globS (by walk_at "mm") (.capC (by walk_at "mm") .nil)))) ?_ (by walk_at "mm") (by rfl) (by kernel_rfl) (by decide +kernel) (by rfl) (by rfl) (by intro _ _;rfl) (by lia) (Ae 1);refine cB ?_;ext;refine bS λDa=>?_;refine eU (σt:=aDv F K.C) (f:=haF (K.cs.getD 5 0)) ?_ (λp hp=>(Bo hp).elim) _ _ none ?_ ?_ ?_
 . intro x o H K k
   ext;exact k
 . intro x hx acc Kk k
   obtain ⟨r,hr',rfl⟩:=mmp hx;ext;refine ⟨aF F.D.hd,?_⟩;ext;refine ⟨aB (.lref (.tail _ hC)),eK (j:=5) (.lref (.tail _ hC)) (by rw [lC];decide) (by rw [lC];decide) ?_⟩;ext;refine ib (d:=d+60) F.D (ntr (hr r hr') ∅) ?_;exact k
 . rw [Bk];exact aO (n:=40) (ntr (Ac (Aj _)) hl)
 rw [Bw,EH];exact ⟨_,by walk_at "m_rep",rfl,rfl⟩
end
end
set_option maxHeartbeats 1000000
section
noncomputable def keF:PV->PV
 | .tup [.str x,.int c]=>.str (if c.fmod 128=0 then x else yK)
 | v=>v
theorem uE (ps:List (Nat×Nat×Nat)):(aG (ac ps)).drop 1++[PV.int ((aR ps).count 40:Nat)]=az (k6 ps):=by
 unfold k6 ac;rw [az,Bq,aG,Bm,BM];rfl
theorem Eg:∀(hs:List (List Nat)) (ms:List Nat),hs.map (λh=>gO (ofL h))=ms.map (λc=>decide (c%128=0))->(bU (aC hs) (az ms)).map keF=(hs.map λh=>bj (ofL h)).map PV.str:=by
 intro hs
 induction hs with
 | nil=>exact λO O=>rfl
 | cons h hs ih=>
   intro ms e
   cases ms with
   | nil=>cases e
   | cons c ms=>
     obtain ⟨e1,e2⟩:=List.cons.inj e;show keF (.tup [.str (ofL h),.int (c:Nat)])::(bU (aC hs) (az ms)).map keF=.str (bj (ofL h))::_;rw [ih ms e2];congr 1;show PV.str (if ((c:Nat):Int).fmod 128=0 then ofL h else yK)=.str (bj (ofL h));have m:((c:Nat):Int).fmod 128=0↔c%128=0:=by rw [show (128:Int)=(128:Nat) from rfl,fx c 128 ∅];lia
     have e1:gO (ofL h)=decide (c%128=0):=e1;unfold bj;rw [e1];by_cases hc:c%128=0
     . rw [if_pos (m.mpr hc),if_pos (decide_eq_true hc)]
     . rw [if_neg (λg=>hc (m.mp g)),if_neg (λg=>hc (of_decide_eq_true g))]
theorem E4 (xs ys:List PV):(bU xs ys).length<=xs.length:=by
 unfold bU;rw [Bk,List.length_zip];exact Bi _ _
noncomputable abbrev aDb (o:Option PV):St:=[(Ω ".0",.local,none),(Ω "front",.local,o.map en1),(Ω "cut",.local,o.map en2)]
noncomputable def siF:PV->PV
 | .tup [_,.str s]=>.str (ofL (unS s.cps.toList))
 | v=>v
theorem zh:Ω "()" = ofL [40,41]:=by decide +kernel
theorem aA2 (w:Nat):(bg w).length<=6:=lt7 (P:=λk=>(kg.getD k []).length<=6) ∅ ∅ ∅ ∅ ∅ ∅ ∅ (Am w ∅)
theorem zy (t:List Nat):∀w,(bare w t).length<=6*t.length:=by
 induction t with
 | nil=>exact λO=>Ab 0
 | cons c t ih=>
   intro w;show (if c=120 then bg w++bare (w+1) t else c::bare w t).length<=6*(t.length+1);by_cases h:c=120
   . rw [if_pos h,Bl,AZ,Ak]
     exact An (ih _) (aA2 w)
   . rw [if_neg h]
     exact ntr (Ag (ih _)) (by lia)
theorem FU (ts:List (Nat×List Nat)):(ts.map fV).map siF=aC ((ts.map (·.2)).map unS):=by
 rw [aC,Bm,Bm,Bm];rfl
section
theorem xy (F:aQ B)(K:Kn){up lo:PV}{A:Addr}{lines normal kind nests:PV}{ps:List (Nat×Nat×Nat)}{hs:List (List Nat)}(hl:ps.length<=18)(ht:(aR ps).length<=32)(hh:hs.length<=40)(hk:hs.map (λh=>gO (ofL h))=(k6 ps).map λc=>decide (c%128=0))
   {units wide low high fronts kept told opened:Option PV}
   (q:Xs NoE B (d+70) (fiV F) H (stE F K up lo A D lines normal kind nests (some (.str (ofL (aR ps)))) units wide (some (.list (aG (ac ps)))) low high fronts (some (.list (aC hs))) (some (.list ((hs.map λh=>bj (ofL h)).map PV.str))) told opened) (bz 7) Qn Qf) :
   Xs NoE B (d+70) (fiV F) H (stE F K up lo A D lines normal kind nests (some (.str (ofL (aR ps)))) units wide (some (.list (aG (ac ps)))) low high fronts (some (.list (aC hs))) kept told opened) (bz 6) Qn Qf:=by
 have lc:(aG (ac ps)).length<=19:=by rw [Bk,dL];exact Ag hl
 refine aE (eT (S:=stE F K up lo A D lines normal kind nests (some (.str (ofL (aR ps)))) units wide (some (.list (aG (ac ps)))) low high fronts (some (.list (aC hs))) (some (.list ((hs.map λh=>bj (ofL h)).map PV.str))) told opened) ?_ @q);refine jr (aDb none) (.loc (.loc (.loc .nil))) ?_ (by walk_at "mm") (by rfl) (by kernel_rfl) (by rfl) (by intro _;rfl) (by decide +kernel) (by rfl) (by rfl) (by intro _ _;rfl) (Al ..) (Ae 1);ext;refine ⟨aq,?_⟩;ext;refine ⟨aB .list,jo 1 .list (aO (n:=19) lc) (.inl ?_)⟩;ext;refine aV ?_;ext;refine ⟨_,fj,?_⟩;ext;refine f6 ?_;rw [ia,j3];ext;refine bq 20 .list .list (by rw [BE];exact ntr (AA (ntr (Av _ _) lc) 1) (Ab 20)) (aO (n:=20) (Ab _)) (uE ps) (.inl ?_);ext;refine ⟨_,_,_,_,rfl,rfl,.list,.list,λTO Da=>?_⟩;refine zH (σt:=aDb) (f:=keF) (λp hp=>(Bo hp).elim) _ _ none ?_ ?_ ?_ ?_
 . intro ob x hx o H K k
   obtain ⟨⟨a,b⟩,O,rfl⟩:=mmp hx;refine cw rfl rfl ?_;ext;exact k
 . intro ob x hx acc Kk k
   obtain ⟨⟨a,b⟩,hab,rfl⟩:=mmp hx;obtain ⟨h1,h2⟩:=List.of_mem_zip hab;obtain ⟨r,O,rfl⟩:=mmp h1;obtain ⟨c,O,rfl⟩:=mmp h2;show Ev _ _ _ _ [(Ω ".0",.local,none),(Ω "front",.local,some (.str (ofL r))),(Ω "cut",.local,some (.int (c:Nat)))] _ _ _;have k:Kk (.str (if ((c:Nat):Int).fmod 128=0 then ofL r else yK)) ((Da,acc)::H):=k;refine bc ?_;ext;refine dZ ∅ ?_;ext;by_cases hc:((c:Nat):Int).fmod 128=0
   . rw [if_pos hc] at k
     refine' ifp (beq_iff_eq.mpr hc) ?_;ext;exact k
   . rw [if_neg hc] at k
     refine' ifn (λg=>hc (beq_iff_eq.mp g)) ?_;ext;exact k
 . refine aO (n:=40) (ntr (Ac (Aj _)) (ntr (E4 _ _) ?_))
   rw [Bk];exact hh
 rw [Bw,Eg _ _ hk];exact ⟨_,by walk_at "m_rep",rfl,rfl⟩
noncomputable abbrev aFv (o:Option PV):St:=[(Ω ".0",.local,none),(Ω "place",.local,o.map en1),(Ω "sign",.local,o.map en2)]
theorem xz (F:aQ B)(K:Kn){up lo:PV}{A:Addr}{lines normal kind nests:PV}{t:List Nat}{w:Nat}{hs:List (List Nat)}{hl:List Nat}(ht:t.length<=32)(hb:Brk t)(hh:hs.length<=40)
   {text units wide cuts low high fronts kept told opened:Option PV}
   (q:Xs NoE B (d+70) (fiV F) H (stE F K up lo A D lines normal kind nests text units wide cuts low high fronts (some (.list (aC (hs++[am w t,hl])))) kept (some (.str (ofL t))) opened) (bz 8) Qn Qf) :
   Xs NoE B (d+70) (fiV F) H (stE F K up lo A D lines normal kind nests text units wide cuts low high fronts (some (.list (aC (hs++[am w t,hl])))) kept told opened) (bz 7) Qn Qf:=by
 have hd:(am w t).length<=192:=ntr (eI t w) (Aw 6 ht);have lh:(aC (hs++[am w t,hl])).length=hs.length+2:=by rw [Bk,Bl];rfl
 have a1:Asc (ofL (am w t)):=jW t hb w;have a2:=lO a1;have b2:(bare w t).length<=192:=ntr (zy t w) (Aw 6 ht)
 have e:((aU 0 false (ofL (bare w t)).cps.toList).map (·.2)).map unS=t.map λc=>[c]:=by
   rw [show (ofL (bare w t)).cps.toList=bare w t from rfl,CQ t hb,Fw t hb]
 refine aE (eT (S:=stE F K up lo A D lines normal kind nests text units wide cuts low high fronts (some (.list (aC (hs++[am w t,hl])))) kept (some (.str (ofL t))) opened) ?_ @q);ext;refine ⟨_,cT,?_⟩;ext;refine bB (aFv none) (.loc (.loc (.loc .nil))) ?_ (by decide +kernel) (by rfl) (by rfl) (by intro _ _;rfl) (by lia) (Ae 1);ext;refine ⟨aF F.M.hg,?_⟩;ext;refine ⟨aF F.M.hf,?_⟩;ext;refine ⟨aB .list,ei (p:=.str (ofL (am w t))) .list ∅ (by rw [lh];lia) ∅ ?_ ?_⟩
 . rw [lh,show ((-2:Int)+((hs.length+2:Nat):Int)).toNat=hs.length by lia,List.getElem?_map,List.getElem?_append_right (Ab _),A1];rfl
 ext;rw [jd hb] at a2;refine kR (d:=d+58) F.M.hf F.M.hg F.M.gg F.M.gl F.M.ge a1.all (by rw [aZ];exact ntr hd ∅) ?_;rw [jd hb];ext;refine jM (d:=d+63) F.M.hg F.M.ge a2.all λDa=>?_;refine eL (σt:=aFv) (f:=siF) (λp hp=>(Bo hp).elim) _ _ none ?_ ?_ ?_ ?_
 . intro x hx o H K k
   obtain ⟨tk,O,rfl⟩:=mmp hx;refine cw rfl rfl ?_;ext;exact k
 . intro x hx acc Kk k
   obtain ⟨tk,O,rfl⟩:=mmp hx;show Ev _ _ _ _ [(Ω ".0",.local,none),(Ω "place",.local,some (.int tk.1)),(Ω "sign",.local,some (.str (ofL tk.2)))] _ _ _;have k:Kk (.str (ofL (unS tk.2))) ((Da,acc)::H):=k;unfold unS at k;refine bc ?_;ext;rw [zh];by_cases hc:Txt.contains (ofL [40,41]) (ofL tk.2)=true
   . rw [if_pos hc] at k
     refine' ifp hc ?_;ext;exact k
   . rw [if_neg hc] at k
     refine' ifn hc ?_;ext;rw [ir];exact k
 . rw [Bk]
   refine aO (n:=193) (ntr (Ac (Aj _)) (ntr (dh _ 0 false) (Ag b2)))
 rw [Bw,FU];rw [e];ext;refine bu (ys:=(t.map λc=>[c]).map ofL) (.inr (by rw [<-bP];exact .list)) ?_ ?_
 . rw [Bm,show (Ω "").length=0 by decide +kernel,AR,AS]
   refine ntr (Ac (congrArg List.sum (Bv λr O=>aZ r))) ?_;rw [<-B1,u9];exact ntr ht ∅
 rw [eX,da,qp,u9];ext;exact ⟨rfl,rfl⟩
end
end
set_option maxHeartbeats 1000000
section
section
theorem GV (F:aQ B)(K:Kn){up lo:PV}{A U:Addr}{lines normal kind nests:PV}{ps:List (Nat×Nat×Nat)}{hs:List (List Nat)}(hl:ps.length<=18)(ht:(aR ps).length<=32)(hh:hs.length<=40)(ha:∀r∈hs,(∀c∈r,c<128)/\r.length<=200)(hU:(U,aC (ps.map cK))∈H)
   {wide cuts low high fronts opened:Option PV}
   (q:Xs NoE B (d+70) (fiV F) H (stE F K up lo A D lines normal kind nests (some (.str (ofL (aR ps)))) (some (.lref U)) wide cuts low high fronts (some (.list (aC hs))) (some (.list ((hs.map λh=>bj (ofL h)).map PV.str))) (some (.str (ofL (aR ps)))) opened) (bz 9) Qn Qf) :
   Xs NoE B (d+70) (fiV F) H (stE F K up lo A D lines normal kind nests (some (.str (ofL (aR ps)))) (some (.lref U)) wide cuts low high fronts (some (.list (aC hs))) (some (.list ((hs.map λh=>bj (ofL h)).map PV.str))) (some (.str (ofL (aR ps)))) opened) (bz 8) Qn Qf:=by
 have asc:∀r∈[aR ps,aR ps],∀c∈r,c<128:=λr hr c hc=>by
   have e:r=aR ps:=(mcp hr).elim id λh=>msp h;subst e;have:=d8 ps c hc
   lia
 refine aE (nq (S:=λ_:Addr=>stE F K up lo A D lines normal kind nests (some (.str (ofL (aR ps)))) (some (.lref U)) wide cuts low high fronts (some (.list (aC hs))) (some (.list ((hs.map λh=>bj (ofL h)).map PV.str))) (some (.str (ofL (aR ps)))) opened) (K:=λb=>(b,((hs.map ofL).map bj).map PV.str)::H) ?_ λb=>Xs.shift (@q) (.of_sub (.cons _ (.refl _))));ext;refine aV ?_;ext;refine aV ?_;ext;refine ⟨_,cT,?_⟩;ext;refine bu (ys:=(ps.map cK).map ofL) (.inr (by rw [<-bP];exact .lref hU)) ?_ ?_
 . rw [Bm,show (Ω "").length=0 by decide +kernel,AR,AS]
   refine ntr (Ac (congrArg List.sum (Bv λr O=>aZ r))) ?_;rw [<-B1,cV];exact ntr ht ∅
 rw [eX,da,qp,cV];ext;refine kJ (k:=2) ∅ (.inl ?_);ext;refine mM (x:=[aR ps,aR ps]) .list .list asc ?_;ext;refine ⟨aF F.hp,?_⟩;ext;refine xd (d:=d+55) F.M F.hp (all:=hs.map ofL) (by rw [<-bP];exact .list) (λx hx=>?_) (by rw [Bk];exact ntr hh ∅) λb=>?_
 . obtain ⟨r,hr,rfl⟩:=mmp hx
   exact ⟨(ha r hr).1,by rw [aZ];exact ntr (ha r hr).2 ∅⟩
 ext;have ek:(hs.map ofL).map bj=hs.map λh=>bj (ofL h):=Bm
 have ok:∀x∈hs.map λh=>bj (ofL h),PyData.strOk x=true:=λx hx=>by
   obtain ⟨r,hr,rfl⟩:=mmp hx;unfold bj;split
   . exact rz (ha r hr).1
   . exact (by decide +kernel:PyData.strOk yK=true)
 refine qQ (ns:=(hs.map ofL).map bj) (.lref (.head _)) .list (by rw [ek];exact ok) ok ?_;rw [ek,decide_eq_true rfl];ext;exact ⟨b,rfl,rfl⟩
end
end
set_option maxHeartbeats 1000000
section
theorem xC {α:Type}(xs:List α)(h:xs≠[]):pick xs none (some (-1)) none=xs.dropLast:=by
 have hl:1<=xs.length:=List.length_pos_iff.mpr h
 have e:sliceBounds none (some (-1)) none xs.length=(((0:Nat):Int),((xs.length-1:Nat):Int),1):=by
   unfold sliceBounds;simp only [Option.getD_none,show ((1:Int) > 0) from by decide,if_true,show ((-1:Int)<0) from by decide];congr 2;lia
 unfold pick;rw [e];simp only;rw [gw xs _ _ (Ae _) (Av _ _),List.drop_zero,Nat.sub_zero,List.dropLast_eq_take]
noncomputable def FZ:PV->List PV
 | .tup [_,.str r]=>d3 1 0 (r.cps.toList.count 40)
 | _=>[]
noncomputable def opF (kind:Nat):PV->PV->PV
 | .tup [p,_],_=>.tup [.int (kind:Nat),p]
 | v,_=>v
theorem uu (kind:Nat)(rs:List (List Nat)):∀i,(dC i (aC rs)).flatMap (λx=>(FZ x).map (opF kind x))=(opD kind i (rs.map (·.count 40))).map bF:=by
 induction rs with
 | nil=>exact λO=>rfl
 | cons r rs ih=>
   intro i;show (d3 1 0 (r.count 40)).map (λO=>PV.tup [.int (kind:Nat),.int (i:Nat)])++(dC (i+1) (aC rs)).flatMap (λx=>(FZ x).map (opF kind x))=(List.replicate (r.count 40) (kind,i)++opD kind (i+1) (rs.map (·.count 40))).map bF;rw [ih,Bq,List.map_replicate,iG,Bm];congr 1;refine List.ext_getElem (by rw [Bk,BG,Bu]) λn h1 h2=>?_;rw [List.getElem_map,List.getElem_replicate];rfl
theorem zK (kind:Nat)(as:List Nat):∀i,(opD kind i as).length=as.sum:=by
 induction as with
 | nil=>exact λO=>rfl
 | cons a as ih=>intro i;show (List.replicate a (kind,i)++opD kind (i+1) as).length=_;rw [Bl,Bu,ih,BA]
theorem qf (ps:List (Nat×Nat×Nat)):(ps.map (·.1)).sum=(aR ps).count 40:=by
 induction ps with
 | nil=>rfl
 | cons p ps ih=>
   show p.1+(ps.map (·.1)).sum=((List.replicate p.1 40++120::List.replicate p.2.1 41)++aR ps).count 40;rw [ih,BL,BL,List.count_replicate_self,B4 ∅,List.count_eq_zero.mpr (λg=>absurd (BC g) ∅),AS]
theorem yu (kind:Nat)(rs:List (List Nat))(i:Nat):((dC i (aC rs)).flatMap FZ).length=(rs.map (·.count 40)).sum:=by
 have:=congrArg List.length (uu kind rs i);rw [Bk,zK] at this;rw [<-this,List.length_flatMap,List.length_flatMap];exact congrArg List.sum (Bv λx O=>(Bk _).symm)
noncomputable abbrev opN (kind:Nat)(ps:List (Nat×Nat×Nat)):List (Nat×Nat):=(opL ps 0).map λj=>(kind,j)
theorem zn (kind:Nat)(ps:List (Nat×Nat×Nat)):opD kind 0 ((spA (aR ps)).dropLast.map (·.count 40))=opN kind ps:=by rw [pM,aCg]
theorem ol (kind:Nat)(ps:List (Nat×Nat×Nat)):(opN kind ps).length=(aR ps).count 40:=by rw [<-zn,zK,pM,qf]
theorem Em {t:List Nat}(h:t.length<=m):(spA t).length<=m+1:=by
 show (spT t).length+1<=m+1;rw [vY];exact Ag (ntr B5 h)
noncomputable abbrev aD3 (kind:Nat)(o1 o2:Option PV):St:=[(Ω ".0",.local,none),(Ω "place",.local,o1.map en1),(Ω "run",.local,o1.map en2),(Ω "again",.local,o2),(Ω "range",.globalImplicit,some (.raw (.type "range"))),(Ω "kind",.cell,some (.int (kind:Nat)))]
section
theorem uM (F:aQ B)(K:Kn){up lo:PV}{A:Addr}{lines normal nests:PV}{kd:Nat}{ps:List (Nat×Nat×Nat)}(ht:(aR ps).length<=32)
   {text units wide cuts low high fronts hand kept opened:Option PV}
   (q:Xs NoE B (d+70) (fiV F) H (stE F K up lo A D lines normal (.int (kd:Nat)) nests text units wide cuts low high fronts hand kept (some (.str (ofL (aR ps)))) (some (.list ((opN kd ps).map bF)))) (bz 10) Qn Qf) :
   Xs NoE B (d+70) (fiV F) H (stE F K up lo A D lines normal (.int (kd:Nat)) nests text units wide cuts low high fronts hand kept (some (.str (ofL (aR ps)))) opened) (bz 9) Qn Qf:=by
 have ls:=Em ht
 have rd:∀r∈(spA (aR ps)).dropLast,r.length<=32:=λr hr=>by
   rcases mcp ((List.dropLast_sublist _).subset hr) with rfl | h
   . exact ntr (Gl _).1 ht
   . exact zX ht r h
 refine aE (eT (S:=stE F K up lo A D lines normal (.int (kd:Nat)) nests text units wide cuts low high fronts hand kept (some (.str (ofL (aR ps)))) (some (.list ((opN kd ps).map bF)))) ?_ @q);refine js (aD3 kd none none) (.loc (.loc (.loc (.loc (.globS (by walk_at "mm") (.capC (by walk_at "mm") .nil)))))) ?_ (by walk_at "mm") (by rfl) (by kernel_rfl) (by decide +kernel) (by rfl) (by rfl) (by intro _ _;rfl) (by intro _ _;rfl) (Al ..);ext;refine ⟨aq,?_⟩;ext;refine ⟨_,de,?_⟩;ext;rw [ir];refine dg (by decide +kernel) (by rw [aZ];exact ntr ht ∅) (.inl ?_);rw [vM,<-bP];ext;refine ⟨aB .list,kD .list ∅ (by rw [Bk];exact aO (n:=33) ls) (.inl ?_)⟩;rw [xC (aC (spA (aR ps))) (Bz _ _),aC,<-List.map_dropLast];ext;refine iF .list λDa=>?_;refine p7 (σt:=aD3 kd) (its:=FZ) (f:=opF kd) (λp hp=>(Bo hp).elim) ?_ _ _ none none ?_ ?_ ?_ ?_ ?_
 . intro x y o acc K k
   ext;exact k
 . intro x hx o1 o2 acc K k
   obtain ⟨n,y,rfl,O⟩:=f0 _ 0 x hx;refine cw rfl rfl ?_;ext;exact k
 . intro x hx o2 acc K k
   obtain ⟨n,y,rfl,hy⟩:=f0 _ 0 x hx;obtain ⟨r,hr,rfl⟩:=mmp hy;show EvI _ _ _ _ _ _ [(Ω ".0",.local,none),(Ω "place",.local,some (.int (n:Nat))),(Ω "run",.local,some (.str (ofL r))),(Ω "again",.local,o2),(Ω "range",.globalImplicit,some (.raw (.type "range"))),(Ω "kind",.cell,some (.int (kd:Nat)))] _ _;ext;refine ⟨aq,?_⟩;ext;refine ⟨_,fj,?_⟩;ext;refine f6 ?_;rw [ia,j3];ext;refine eZ (n:=r.count 40) (ntr (ntr B5 (rd r hr)) ∅) ?_;exact k
 . intro x hx y hy acc K k
   obtain ⟨n,z,rfl,hz⟩:=f0 _ 0 x hx;obtain ⟨r,hr,rfl⟩:=mmp hz;show Ev _ _ _ _ [(Ω ".0",.local,none),(Ω "place",.local,some (.int (n:Nat))),(Ω "run",.local,some (.str (ofL r))),(Ω "again",.local,some y),(Ω "range",.globalImplicit,some (.raw (.type "range"))),(Ω "kind",.cell,some (.int (kd:Nat)))] _ _ _;ext;exact k
 . rw [yu kd,pM,qf]
   exact aO (n:=32) (ntr (Ac (Aj _)) (ntr B5 ht))
 rw [Bw,uu,zn];exact ⟨_,by walk_at "m_rep",rfl,rfl⟩
theorem yt (F:aQ B)(K:Kn){up lo:PV}{A:Addr}{nests:PV}{kd:Nat}{ls:List PV}{nm ds:List (Nat×Nat)}{ct:PV}(hl:ls.length<=10)(hn:nm.length<=10)(hd:ds.length<=10)
   {text units wide low high fronts hand kept told:Option PV}
   (q:Qn (stE F K up lo A D (.list (ls++[ct])) (.list ((nm++if kd=0 then ds.reverse else ds).map bF)) (.int (kd:Nat)) nests text units wide (some ct) low high fronts hand kept told (some (.list (ds.map bF)))) H) :
   Xs NoE B (d+70) (fiV F) H (stE F K up lo A D (.list ls) (.list (nm.map bF)) (.int (kd:Nat)) nests text units wide (some ct) low high fronts hand kept told (some (.list (ds.map bF)))) (bz 10) Qn Qf:=by
 have fin:∀es:List (Nat×Nat),es.length<=10->(nm.map bF).length+(es.map bF).length<=20/\nm.map bF++es.map bF=(nm++es).map bF:=λes he=>by
   rw [Bk,Bk,Bq];exact ⟨An hn he,rfl⟩
 refine' aE ?_;refine iQ (Ω "lines") (Ω "normal") (by kernel_rfl) ?_;ext;refine aV ?_;ext;refine bq 11 .list .list (Ag hl) (aO (n:=11) (Ab _)) rfl (.inl ?_);ext;refine bc ?_;ext;by_cases h0:kd=0
 . subst h0
   refine' ifn B9 ?_;ext;refine ⟨aB .list,kD .list ∅ (by rw [Bk];exact aO (n:=10) hd) (.inl ?_)⟩;rw [z1 _ (by rw [Bk];(exact Ai ‹_› ∅)),<-BX];obtain ⟨f1,f2⟩:=fin ds.reverse (by rw [BP];exact hd);ext;refine bq 20 .list .list f1 (aO (n:=20) (Ab _)) f2 (.inl ?_);ext;exact q
 . have hk:(((kd:Nat):Int) != 0)=true:=bne_iff_ne.mpr (Int.ofNat_ne_zero.mpr h0)
   rw [if_neg h0] at q;refine' ifp hk ?_;obtain ⟨f1,f2⟩:=fin ds hd;ext;refine bq 20 .list .list f1 (aO (n:=20) (Ab _)) f2 (.inl ?_);ext;exact q
end
end
set_option maxHeartbeats 1000000
section
theorem Df (ps:List (Nat×Nat×Nat)):∀c,endC c ps=c+(dO ps).sum:=by
 induction ps with
 | nil=>exact λO=>rfl
 | cons p ps ih=>
   intro c;show endC (c+2 ^ (7-p.2.2)) ps=c+(2 ^ (7-p.2.2)+(dO ps).sum);rw [ih,Ap]
theorem jh (X:List aD)(h:∀T∈X,T.dp 7):(dO (lvF X)).sum=128*X.length:=by
 induction X with
 | nil=>rfl
 | cons T X ih=>
   have e:dO (lvF (T::X))=dO (lv T 0 0 0)++dO (lvF X):=Bq;rw [e,List.sum_append,(nN T 0 0 ∅ (h T (.head _))).1,ih λU hU=>h U (.tail _ hU),Bp,AZ,Ak]
theorem fO.endC {Ns:List fM}{X:List aD}(N:fO Ns X):endC 0 (lvF X)<=2048:=by
 have:=N.xl;rw [Df,jh X N.dp];lia
theorem s0 {ps:List (Nat×Nat×Nat)}(h:1<=ps.length):∃A,fronts ps=A++[aR ps,(aR ps).reverse]/\A.length+1=ps.length:=by
 obtain ⟨n,hn⟩:∃n,ps.length=n+1:=⟨ps.length-1,by lia⟩;refine ⟨(List.range n).map λi=>aR (ps.take (i+1)),?_,by rw [Bk,BG,hn]⟩;unfold fronts;rw [hn,List.range_succ,Bq,Bn];congr 1;show [aR (ps.take (n+1)),(aR ps).reverse]=_;rw [BB (Ac hn)]
section
theorem sA (F:aQ B)(K:Kn){up lo:PV}{A:Addr}{kd:Nat}{ls:List PV}{nm:List (Nat×Nat)}{Ns:List fM}{X:List aD}(N:fO Ns X)(hC:(K.C,az K.cs)∈H)(hl:ls.length<=10)(hn:nm.length<=10)
   {text units wide cuts low high fronts hand kept told opened:Option PV}
   (q:∀U text units wide cuts low high fronts hand kept told opened,Qn (stE F K up lo A D (.list (ls++[.list (aG (ac (lvF X)))])) (.list ((nm++if kd=0 then (opN kd (lvF X)).reverse else opN kd (lvF X)).map bF)) (.int (kd:Nat)) (.list (Ns.map nPV)) text units wide cuts low high fronts hand kept told opened) ((U,aC ((lvF X).map cK))::H)) :
   Xs NoE B (d+70) (fiV F) H (stE F K up lo A D (.list ls) (.list (nm.map bF)) (.int (kd:Nat)) (.list (Ns.map nPV)) text units wide cuts low high fronts hand kept told opened) (bz 0) Qn Qf:=by
 have hp:=N.ps;have ht:=N.tl;have hok:=jS (c:=0) X N.dp rfl;have hlen:(lvF X).length=sumN X:=d4 X N.dp;obtain ⟨Af,eA,lA⟩:=s0 (ps:=lvF X) (by rw [hlen];exact N.x1);have hf:(Mine.Tactic.fronts (lvF X)).length<=40:=by rw [uG];exact ntr (Ag hp) ∅
 have hfl:=tB ht;generalize hw:K.cs.getD 5 0=w
 have hk:((Mine.Tactic.fronts (lvF X)).map (am w)).map (λh=>gO (ofL h))=(k6 (lvF X)).map λc=>decide (c%128=0):=by
   rw [Bm];exact yU N.dp (by rw [gF];exact Ai N.bn ∅) w
 have eH:(Mine.Tactic.fronts (lvF X)).map (am w)=Af.map (am w)++[am w (aR (lvF X)),am w (aR (lvF X)).reverse]:=by rw [eA,Bq];rfl
 have ha:∀r∈Af.map (am w)++[am w (aR (lvF X)),am w (aR (lvF X)).reverse],(∀c∈r,c<128)/\r.length<=200:=λr hr=>by
   rw [<-eH] at hr;obtain ⟨f,hf',rfl⟩:=mmp hr;exact ⟨jW f (tR f hf') w,ntr (eI f w) (ntr (Aw 6 (hfl f hf')) ∅)⟩
 have hA:(Af.map (am w)).length<=40:=by rw [Bk];lia
 refine y7 F K N λU=>?_;refine zx F K N ?_;refine y4 F K hp ?_;refine ww F K hok hp N.endC λlow high=>?_;refine s7 F K hp ht (.head _) ?_;refine z5 F K hf hfl (.tail _ hC) ?_;rw [hw];refine xy F K hp ht (by rw [Bk];exact hf) hk ?_;rw [eH];refine xz F K ht (d8 _) hA ?_;refine GV F K hp ht (by rw [Bl];show (Af.map (am w)).length+2<=40;rw [Bk];lia) ha (.head _) ?_;refine uM F K ht ?_;have ho:(opN kd (lvF X)).length<=10:=by rw [ol,cY,gF];exact ntr N.bn ∅
 exact yt F K hl hn ho (q U _ _ _ _ _ _ _ _ _ _ _)
end
end
set_option maxHeartbeats 1000000
section
noncomputable def td (ps:List (Nat×Nat×Nat)):List fM:=ps.map λp=>([bx p.2.2],cK p)
noncomputable def upN (F:List aD):List fM:=F.map λT=>(af T,T.str)
theorem aEn (F:List aD):(upN F).map nPV=bC F:=by
 unfold upN;rw [Bm];rfl
noncomputable def aEd:PV->PV
 | .list [a,b]=>.list [.list [a],b]
 | v=>v
theorem aFz (ps:List (Nat×Nat×Nat)):(bL ps).map aEd=(td ps).map nPV:=by
 unfold td;rw [Bm,Bm];rfl
theorem wV {α β:Type}(f:α->β)(l:List α):(l.map λx=>[f x]).flatten=l.map f:=by
 induction l with
 | nil=>rfl
 | cons a l ih=>exact congrArg (f a::·) ih
theorem DI.low {ds:List (Nat×Nat)}{F G:List aD}(I:DI ds F G):fO (td (lvF G)) G:=by
 have h:=I.let_le;have hb:=ntr I.nst.2.2.1 I.len;have hg:=I.hG;have h2:=I.hG2;have hl:=I.len;have hs:=jx G;refine ⟨?_,?_,?_,hb,h.1,by clear h;lia,by clear hb h;lia⟩
 . unfold td;rw [Bm];exact cV _
 . unfold td;rw [Bm];exact wV _ _
 . unfold td;rw [Bk,d4 G I.deep.2];exact h.1
theorem wF (F:List aD):(F.map aD.str).flatten=f7 F:=by
 induction F with
 | nil=>rfl
 | cons T F ih=>exact congrArg (T.str++·) ih
theorem yS (F:List aD):(F.map af).flatten=(dsF F).map bx:=by
 induction F with
 | nil=>rfl
 | cons T F ih=>show af T++(F.map af).flatten=(T.ds++dsF F).map bx;rw [ih,Bq];rfl
theorem DI.up {ds:List (Nat×Nat)}{F G:List aD}(I:DI ds F G):fO (upN F) F:=by
 have h:=I.let_le;have hb:=ntr I.nst.2.1 I.len;have h2:=I.hG2;have hl:=I.len;have hs:=jx G;have he:=I.nst.1;have hf:=I.hF2;refine ⟨?_,?_,?_,hb,h.2.2,by lia,by clear h;lia⟩
 . unfold upN;rw [Bm,cY];exact wF F
 . have e:(dsF F).map bx=(lvF F).map λp=>bx p.2.2:=by rw [<-D9,Bm];rfl
   unfold upN;rw [Bm];exact (yS F).trans e
 . unfold upN;rw [Bk];exact h.2.1
noncomputable def l1F:PV->PV
 | .list [a,_]=>a
 | v=>v
noncomputable def l2F:PV->PV
 | .list [_,b]=>b
 | v=>v
noncomputable abbrev aDf (o:Option PV):St:=[(Ω ".0",.local,none),(Ω "row",.local,o.map l1F),(Ω "piece",.local,o.map l2F)]
noncomputable def f5 (F G:List aD):List (Nat×Nat):=opN 1 (lvF G)++(opN 0 (lvF F)).reverse
section
theorem aA3 (F:aQ B)(K:Kn){A:Addr}
   (h:∀Fs G A,DI (cM K.cs) Fs G->XsF B (d+70) (fiV F) (HD K G A D (cM K.cs) H) (stD F K (.list (bC Fs)) (.list (bL (lvF G))) A D) (bW 4) (λO H'=>Q .none H') (PX Q)) :
   XsF B (d+70) (fiV F) ((A,aG (ac (lvF [.leaf,.leaf])))::(D,[])::(K.W,[])::(K.C,az K.cs)::H) (stD F K (.list (bC [.leaf,.leaf])) (.list (bL (lvF [.leaf,.leaf]))) A D) (bW 3) (λO H'=>Q .none H') (PX Q):=by
 have I0:DI [] [.leaf,.leaf] [.leaf,.leaf]:=⟨GJ,by decide,by decide,by decide,by decide,by decide,λe he=>(Bo he).elim⟩;refine cH ?_;ext;refine cB ?_;ext;refine db (xs:=az K.cs) (.tail _ (.tail _ (.tail _ (.head _)))) ?_;refine xA F K K.cs [] [.leaf,.leaf] [.leaf,.leaf] A none none none none none none none none none none none none none none none none I0 (by rw [List.length_nil,Aj];exact Ac (bQ K.sl)) λFs G A cell unit last more ahead rows text sent halves head tail middle bound cut told many I=>?_;exact XsF.wk (@h Fs G A I) (by walk_at "k")
noncomputable abbrev oM (F G:List aD):List PV:=[.list (aG (ac (lvF G))),.list (aG (ac (lvF F)))]
theorem xp (F:aQ B)(K:Kn){A:Addr}{Fs G:List aD}{ds:List (Nat×Nat)}(I:DI ds Fs G)
   (q:∀U U' text units wide cuts low high fronts hand kept told opened,Qn (stE F K (.list (bC Fs)) (.list (bL (lvF G))) A D (.list (oM Fs G)) (.list ((f5 Fs G).map bF)) (.int (0:Nat)) (.list (bC Fs)) text units wide cuts low high fronts hand kept told opened) (U'::U::HD K G A D ds H)) :
   d6 B (fiV F) (d+70) (au g4) (ak g4) [] [.tup [.int 1,.list ((td (lvF G)).map nPV)],.tup [.int 0,.list (bC Fs)]]
     (stV (F:=F) (script_:=some (.list (aG K.sl))) (cells_:=some (.lref K.C)) (total_:=some (.int (eO K.sl))) (lines_:=some (.list [])) (normal_:=some (.list [])) (words_:=some (.lref K.W)) (place_:=K.pl) (x_:=K.xx) (upper_:=some (.list (bC Fs))) (lower_:=some (.list (bL (lvF G)))) (below_:=some (.lref A)) (deeds_:=some (.lref D)))
     (HD K G A D ds H) Qn Qf:=by
 have hC:(K.C,az K.cs)∈HD K G A D ds H:=.tail _ (.tail _ (.tail _ (.head _)));refine ao ?_;refine cw rfl rfl ?_;ext;refine sA F K (kd:=1) (ls:=[]) (nm:=[]) I.low hC ∅ ∅ λU text units wide cuts low high fronts hand kept told opened=>?_;refine ⟨λp hp=>(Bo hp).elim,?_⟩;refine ao ?_;rw [<-aEn];refine cw rfl rfl ?_;ext;have hb:(opN 1 (lvF G)).length<=10:=by rw [ol,cY,gF];exact ntr I.low.bn ∅
 refine sA F K (kd:=0) (ls:=[.list (aG (ac (lvF G)))]) (nm:=opN 1 (lvF G)) I.up (.tail _ hC) (AQ rfl) hb λU' text units wide cuts low high fronts hand kept told opened=>?_;refine ⟨λp hp=>(Bo hp).elim,bp ?_⟩;rw [aEn];exact q (U,_) (U',_) _ _ _ _ _ _ _ _ _ _ _
theorem aBl (F:aQ B)(K:Kn){A:Addr}{Fs G:List aD}{ds:List (Nat×Nat)}(I:DI ds Fs G)
   (h:∀U U',XsF B (d+70) (fiV F) (U'::U::HD K G A D ds H) (stV (F:=F) (script_:=some (.list (aG K.sl))) (cells_:=some (.lref K.C)) (total_:=some (.int (eO K.sl))) (lines_:=some (.list (oM Fs G))) (normal_:=some (.list ((f5 Fs G).map bF))) (words_:=some (.lref K.W)) (below_:=some (.lref A)) (deeds_:=some (.lref D))) (bW 5) (λO H'=>Q .none H') (PX Q)) :
   XsF B (d+70) (fiV F) (HD K G A D ds H) (stD F K (.list (bC Fs)) (.list (bL (lvF G))) A D) (bW 4) (λO H'=>Q .none H') (PX Q):=by
 have lg:(lvF G).length<=18:=I.low.ps;refine cH ?_;ext;refine cB ?_;ext;refine bB (aDf none) (.loc (.loc (.loc .nil))) ?_ (by decide +kernel) (by rfl) (by rfl) (by intro _ _;rfl) (Al ..) (Ae 1);refine cB ?_;ext;refine bS λDa=>?_;refine eL (σt:=aDf) (f:=aEd) (λp hp=>(Bo hp).elim) _ _ none ?_ ?_ ?_ ?_
 . intro x hx o H K k
   obtain ⟨p,O,rfl⟩:=mmp hx;refine eW (.inr .list) rfl ?_;ext;exact k
 . intro x hx acc Kk k
   obtain ⟨p,O,rfl⟩:=mmp hx;show Ev _ _ _ _ [(Ω ".0",.local,none),(Ω "row",.local,some (.str (ofL (bx p.2.2)))),(Ω "piece",.local,some (.str (ofL (cK p))))] _ _ _;refine aV ?_;refine n9 ?_;refine aV ?_;ext;exact k
 . rw [Bk];exact aO (n:=18) (ntr (Ac (Aj _)) lg)
 rw [Bw,aFz];ext;refine jR ?_;exact xp F K I λU U' text units wide cuts low high fronts hand kept told opened=>XsF.wk (@h U U') (by walk_at "k")
end
end
set_option maxHeartbeats 1000000
section
theorem zq (cs:List Nat)(i j v:Nat):(cs.set i v).getD j 0<=max v (cs.getD j 0):=by
 rw [List.getD_eq_getElem?_getD,List.getD_eq_getElem?_getD,List.getElem?_set];split
 . split
   . exact Nat.le_max_left _ _
   . exact Ae _
 . exact Nat.le_max_right _ _
theorem wn:∀(ns:List Int) (k M:Nat) (cs:List Nat),(∀j,cs.getD j 0<=M)->∀j,(lZ ns k cs).getD j 0<=M+1000000*ns.length:=by
 intro ns
 induction ns with
 | nil=>exact λO O O h j=>h j
 | cons x ns ih=>
   intro k M cs h j
   have hx:(x.fmod 1000000).toNat<=1000000:=by
     have:=Int.fmod_lt_of_pos x (b:=1000000) ∅
     (clear this;lia)
   refine ntr (ih (k+1) (M+1000000) _ (λi=>ntr (zq _ _ _ _) (Nat.max_le.mpr ⟨An (h _) hx,AX (h i)⟩)) j) ?_;rw [Bp];lia
theorem DY (sl:List Int)(j:Nat):(fw sl).getD j 0<=60000030:=by
 have h0:∀j,([1,26,30,27,18,1,16]:List Nat).getD j 0<=30:=λj=>by
   by_cases h:j<7
   . exact lt7 (P:=λj=>([1,26,30,27,18,1,16]:List Nat).getD j 0<=30) ∅ ∅ ∅ ∅ ∅ ∅ ∅ h
   . rw [List.getD_eq_getElem?_getD,List.getElem?_eq_none (Ar h)];exact Ae _
 have:=wn (sl.take 60) 0 30 _ h0 j;have hl:(sl.take 60).length<=60:=by rw [BF];exact Bi _ _
 unfold fw
 lia
noncomputable def sizeOf' (sl:List Int):Int:=2*eO sl+5
noncomputable def cAt (sl:List Int)(j:Nat):Nat:=(fw sl).getD j 0
noncomputable def sideOf (sl:List Int):Int:=1-2*((cAt sl 2%2:Nat):Int)
theorem G2 (sl:List Int):sideOf sl=0\/sideOf sl=1\/sideOf sl=-1:=by unfold sideOf;lia
theorem ii (sl:List Int):sizeOf' sl≠0:=by unfold sizeOf';lia
noncomputable def xq (sl:List Int):Int:=sizeOf' sl*(((cAt sl 3+cAt sl 4)%6:Nat)-1)+((cAt sl 0+cAt sl 6:Nat):Int).fmod (sizeOf' sl).natAbs
noncomputable def aAq (sl:List Int):Int:=eO sl*(cAt sl 0%6:Nat)+(cAt sl 6:Nat)
theorem aEr {S Z:Int}(hk:k<=2 ^ 27)(h:Z.natAbs<=S.natAbs*k):(128*Z).natAbs<=(128*S).natAbs*2 ^ 27:=by
 rw [Cq,Cq,AM];exact Aw _ (ntr h (Aw _ hk))
theorem Eb:∀r:Nat,r<6->((r:Int)-1).natAbs<=5:=by decide
theorem aD6 (sl:List Int):(128*xq sl).natAbs<=(128*sizeOf' sl).natAbs*2 ^ 27:=by
 have hs:0<((sizeOf' sl).natAbs:Int):=Int.natCast_pos.mpr (Int.natAbs_pos.mpr (ii sl));have h1:=Int.fmod_nonneg_of_pos ((cAt sl 0+cAt sl 6:Nat):Int) hs;have h2:=Int.fmod_lt_of_pos ((cAt sl 0+cAt sl 6:Nat):Int) hs;rw [<-Int.natAbs_of_nonneg h1] at h2;refine aEr (k:=6) ∅ (ntr (CH _ _) (AZ _ 5▸An ?_ (Ah (Int.ofNat_lt.mp h2))));rw [Cq];exact Aw _ (Eb _ (Am _ ∅))
theorem aBj {T:Int}(h:2*T+5≠0):T.natAbs<=(2*T+5).natAbs*3:=by omega
theorem aEl (sl:List Int):(128*aAq sl).natAbs<=(128*sizeOf' sl).natAbs*2 ^ 27:=by
 have h2:cAt sl 6<=60000030:=DY sl 6;have h3:(eO sl).natAbs<=(sizeOf' sl).natAbs*3:=aBj (ii sl);refine aEr (k:=3*5+60000030) ∅ (ntr (CH _ _) (AN _ _ _▸An ?_ (ntr h2 (Bf _ (Int.natAbs_pos.mpr (ii sl))))));rw [Cq,<-AM];exact Nat.mul_le_mul h3 (Bh (Am _ ∅))
section
noncomputable abbrev stM (F:aQ B)(K:Kn)(A D:Addr)(Fs G:List aD)(above_:Option PV:=none)(size_:Option PV:=none)(side_:Option PV:=none)(spot_:Option PV:=none)(image_:Option PV:=none)(left_:Option PV:=none)(place_:Option PV:=none):St:=
 stV (F:=F) (script_:=some (.list (aG K.sl))) (cells_:=some (.lref K.C)) (total_:=some (.int (eO K.sl))) (lines_:=some (.list (oM Fs G))) (normal_:=some (.list ((f5 Fs G).map bF))) (words_:=some (.lref K.W)) (below_:=some (.lref A)) (deeds_:=some (.lref D))
   (above_:=above_) (size_:=size_) (side_:=side_) (spot_:=spot_) (image_:=image_) (left_:=left_) (place_:=place_)
theorem aB0 (F:aQ B)(K:Kn){A:Addr}{Fs G:List aD}(hC:(K.C,az K.cs)∈H)
   (h:XsF B (d+70) (fiV F) H (stM F K A D Fs G (some (.list (aG (ac (lvF Fs))))) (some (.int (sizeOf' K.sl))) (some (.int (sideOf K.sl))) (some (.int (128*xq K.sl)))) (bW 7) (λO H'=>Q .none H') (PX Q)) :
   XsF B (d+70) (fiV F) H (stM F K A D Fs G) (bW 5) (λO H'=>Q .none H') (PX Q):=by
 have get:∀(j:Nat) {E:EP} {Q:PQ} (_:j<7) (_:Q (.int (cAt K.sl j:Nat)) H),V2 H E B (d+70) (.int (j:Nat)) (.lref K.C) getItem Q:=λj O O hj q=>eK (.lref hC) (by rw [bQ];exact hj) (by rw [bQ];decide) q;refine cH ?_;refine FM (Ω "above") (Ω "size") (Ω "side") (by kernel_rfl) ?_;ext;refine ⟨aB .list,bh (n:=1) (p:=.list (aG (ac (lvF Fs)))) .list rfl rfl ?_⟩;ext;refine bH (IntMulOk.of_left ∅) ?_;ext;refine ⟨aB (.lref hC),get 2 ∅ ?_⟩;ext;refine bI 2 ?_;ext;refine bH (IntMulOk.of_left ∅) ?_;ext;refine cH ?_;ext;refine ⟨aB (.lref hC),get 3 ∅ ?_⟩;ext;refine ⟨aB (.lref hC),get 4 ∅ ?_⟩;ext;refine fX (c:=.int ((cAt K.sl 3+cAt K.sl 4:Nat):Int)) (congrArg PV.int (Cf _ _).symm) (bI 6 ?_);ext;refine bH (IntMulOk.of_right (intBits_le_64 (by lia) (by lia))) ?_;ext;refine ⟨aB (.lref hC),get 0 ∅ ?_⟩;ext;refine ⟨aB (.lref hC),get 6 ∅ ?_⟩;ext;refine ⟨aK,?_⟩;ext;refine CW ?_;ext;refine fX (c:=.int ((cAt K.sl 0+cAt K.sl 6:Nat):Int)) (congrArg PV.int (Cf _ _).symm) (dZ (Int.natCast_ne_zero.mpr λe=>ii K.sl (Int.natAbs_eq_zero.mp e)) ?_);ext;refine bH (IntMulOk.of_left ∅) ?_;ext;exact @h
end
end
set_option maxHeartbeats 1000000
section
theorem DE (l:List Nat):∀n,(l.take n).sum<=l.sum:=by
 induction l with
 | nil=>intro n;rw [BV];exact Ab _
 | cons a l ih=>
   intro n
   cases n with
   | zero=>exact Ae _
   | succ n=>rw [List.take_succ_cons,BA,BA];exact AD (ih n) a
theorem uR {X:List aD}(h:∀T∈X,T.dp 7)(hl:X.length<=11):rm (ac (lvF X)) (cut (lvF X)) (lvF X).length:=
 ⟨dL _,λi hi=>by unfold ac;rw [List.getElem?_map,mh _ 0 i hi,Aj];rfl,λi O=>ntr (DE _ i) (by rw [jh X h];lia),eY _⟩
theorem Fg {M:Int}(ds:List (Nat×Nat)):∀{y:Int} {k:Nat},(∀e∈ds,e.2<=31)->5<=k->y.natAbs<=M.natAbs*2 ^ k->(fn M ds y).natAbs<=M.natAbs*2 ^ (k+2*ds.length):=by
 induction ds with
 | nil=>exact λO O h=>h
 | cons e ds ih=>
   intro y k he hk h;have u:=y2 (M:=M) (u:=(e.2:Nat)) (he e (.head _)) hk h;have e':k+2*(e::ds).length=k+2+2*ds.length:=by rw [Bp];lia
   rw [e'];refine ih (λx hx=>he x (.tail _ hx)) (AX hk) ?_;show (if e.1=1 then unf M e.2 y else fol M e.2 y).natAbs<=_;by_cases h1:e.1=1
   . rw [if_pos h1];exact u.1
   . rw [if_neg h1];exact u.2
theorem DI.xl {ds:List (Nat×Nat)}{F G:List aD}(I:DI ds F G):F.length<=11/\G.length<=11:=by
 have h1:=I.hF2;have h2:=I.hG;have h3:=I.len
 lia
theorem DC {ds:List (Nat×Nat)}{F G:List aD}(I:DI ds F G)(hd:ds.length=7){s:Int}(hs:s≠0)(m:Int):fn (128*s) (f5 F G) (128*m)=fn (128*s) ds (128*m):=by
 unfold f5 opN;rw [mr,mr,<-BX,vd];exact (vK I.nst hd hs m).2.1
theorem Ee {ds:List (Nat×Nat)}{F G:List aD}(I:DI ds F G):(∀e∈f5 F G,e.1<=1/\e.2<=31)/\(f5 F G).length<=20:=by
 have one:∀{kd:Nat} {X:List aD} {Ns:List fM},kd<=1->fO Ns X->(∀e∈opN kd (lvF X),e.1<=1/\e.2<=31)/\(opN kd (lvF X)).length<=7:=λ{kd X Ns} hk N=>by
   refine ⟨λe he=>?_,by rw [ol,cY,gF];exact N.bn⟩;obtain ⟨j,hj,rfl⟩:=mmp he;have:=aAs _ _ j hj;have:=N.ps;exact ⟨hk,by show j<=31;lia⟩
 obtain ⟨a1,a2⟩:=one (kd:=1) ∅ I.low;obtain ⟨b1,b2⟩:=one (kd:=0) ∅ I.up;refine ⟨λe he=>?_,?_⟩
 . rcases mpp he with h | h
   . exact a1 e h
   . exact b1 e (List.mem_reverse.mp h)
 . unfold f5
   rw [Bl,BP];lia
noncomputable abbrev g7:Stmt:=((a8 (aL iR))[7]?).getD (.Pass default)
section
theorem mX (F:aQ B)(K:Kn){A:Addr}{Fs G:List aD}{ds:List (Nat×Nat)}(I:DI ds Fs G)(hd:ds.length=7)(hA:(A,aG (ac (lvF G)))∈H)(hD:(D,ds.map bF)∈H){N:Nat}(hN:N<=1099000)(sN:(128*sizeOf' K.sl).natAbs<2 ^ N){m:Int}(hm:(128*m).natAbs<=(128*sizeOf' K.sl).natAbs*2 ^ 27)
   {image left place:Option PV}
   (q:∀image,Qn (stM F K A D Fs G (some (.list (aG (ac (lvF Fs))))) (some (.int (sizeOf' K.sl))) (some (.int (sideOf K.sl))) (some (.int (128*m))) image left place) H) :
   Xs NoE B (d+70) (fiV F) H (stM F K A D Fs G (some (.list (aG (ac (lvF Fs))))) (some (.int (sizeOf' K.sl))) (some (.int (sideOf K.sl))) (some (.int (128*m))) image left place) (ak g7) Qn Qf:=by
 have hs:=ii K.sl;have hsd:=G2 K.sl;generalize sizeOf' K.sl=s at *;generalize sideOf K.sl=sd at *;obtain ⟨e1,e2,e3⟩:=vK I.nst hd hs m;have er:=DC I hd hs m;obtain ⟨nk,nl⟩:=Ee I;have hl:=Fg (M:=128*s) ds (λe he=>(I.ok e he).2) (by decide:5<=27) hm;rw [hd] at hl;have cG:=uR I.deep.2 I.xl.2;have cF:=uR I.deep.1 I.xl.1;rw [<-e3] at cF;have L1:DV (cut (lvF Fs)) (cut (lvF G)) (lvF G).length s (128*m) (fn (128*s) ds (128*m)):=uo hs (fg G I.deep.2) (fg Fs I.deep.1) e3 e1
 have L2:DV (cut (lvF G)) (cut (lvF Fs)) (lvF G).length s (fn (128*s) ds (128*m)) (128*m):=by
   rw [e3];exact uo hs (fg Fs I.deep.1) (fg G I.deep.2) e3.symm e1.symm
 have n1:1<=(lvF G).length:=by rw [d4 G I.deep.2];exact I.low.x1
 have n2:(lvF G).length<=1000:=ntr I.low.ps ∅
 have bd:∀{y:Int} {k:Nat},k<=50->y.natAbs<=(128*s).natAbs*2 ^ k->y.natAbs<2 ^ (N+50):=λ{y k} hk h=>by
   rw [Aq];exact Ai (ntr h (Aw _ (AP ∅ hk))) ((Nat.mul_lt_mul_right (As 50)).mpr sN)
 have sN':s.natAbs<2 ^ (N+50):=bd (k:=0) ∅ (by rw [Nat.pow_zero,Nat.mul_one,Cq];exact Bf _ ∅);have yN:=bd ∅ hm;have zN:=bd ∅ hl;have c0:∀ps:List (Nat×Nat×Nat),cut ps 0=0:=λO=>rfl;have hN':N+50<=1100000:=by lia
 generalize hz:fn (128*s) ds (128*m)=z at *;refine' aE ?_;ext;refine ⟨aF F.hdo,?_⟩;ext;refine mR (d:=d+4) F.don (.lref hD) hs (ntr hN ∅) sN (.inl rfl) I.ok (by decide:5<=27) (by rw [hd];decide) hm hz ?_;ext;refine aV ?_;ext;refine ⟨aF F.hl,?_⟩;ext;refine pq (d:=d+4) F.led (.lref hA) .list cG cF n1 n2 hs (c0 _) L1 hN' sN' yN ?_;ext;refine ⟨aF F.hl,?_⟩;ext;refine pq (d:=d+4) F.led .list (.lref hA) cF cG n1 n2 hs (c0 _) L2 hN' sN' zN ?_;ext;refine ⟨aF F.hdo,?_⟩;ext;refine mR (d:=d+4) F.don .list hs (ntr hN ∅) sN hsd nk (by decide:5<=27) (by lia) hm er ?_;ext;refine aV ?_;ext;refine pR (ns:=[z,128*m,z]) (ms:=[z,128*m,z]) .list .list ?_;rw [decide_eq_true rfl];ext;exact q _
end
end
set_option maxHeartbeats 1000000
section
theorem eP {a x:Int}{l:List Int}(h:a<=x):cE (a::l) x=cE l x+1:=List.countP_cons_of_pos (p:=λy=>decide (y<=x)) (decide_eq_true h)
theorem xF {a x:Int}{l:List Int}(h:x<a):cE (a::l) x=cE l x:=List.countP_cons_of_neg (p:=λy=>decide (y<=x)) λe=>absurd (of_decide_eq_true e) (Int.not_le.mpr h)
theorem sx {bs:List Int}(h:bs.Pairwise (· < ·))(hl:3<=bs.length):bs.map (λx=>((clp (cE bs x) 2 3:Nat):Int))=[2,2]++List.replicate (bs.length-2) 3:=by
 match bs,hl with
 | x0::x1::r,hl=>
   obtain ⟨h0,h⟩:=List.pairwise_cons.mp h;obtain ⟨h1,O⟩:=List.pairwise_cons.mp h;have h01:=h0 x1 (.head _);have z:∀{y:Int},(∀x∈r,y<x)->cE r y=0:=λhy=>List.countP_eq_zero.mpr λx hx e=>absurd (of_decide_eq_true e) (Int.not_le.mpr (hy x hx));have c0:cE (x0::x1::r) x0=1:=by rw [eP (Int.le_refl _),xF h01,z λx hx=>h0 x (.tail _ hx)]
   have c1:cE (x0::x1::r) x1=2:=by rw [eP (Cg h01),eP (Int.le_refl _),z h1]
   have c2:∀x∈r,3<=cE (x0::x1::r) x:=λx hx=>by
     rw [eP (Cg (h0 x (.tail _ hx))),eP (Cg (h1 x hx))];have:0<cE r x:=List.countP_pos_iff.mpr ⟨x,hx,decide_eq_true (Int.le_refl _)⟩
     lia
   rw [Bs,Bs,c0,c1];show (2:Int)::2::r.map (λx=>((clp (cE (x0::x1::r) x) 2 3:Nat):Int))=2::2::List.replicate r.length 3;rw [Bv (g:=λO=>(3:Int)) λx hx=>?_,List.map_const'];rw [clp,Bd (c2 x hx)];rfl
theorem uF {c:Nat}(h:c<=1):clp c 1 2=1/\min (max c 1) 2=1:=⟨Nat.max_eq_left (ntr (Bi ..) h),by rw [A6 h];rfl⟩
theorem oE {c:Nat}(h:1<c):clp c 1 2=2/\min (max c 1) 2=2:=⟨by unfold clp;rw [Bd h];rfl,Bd (ntr h (Nat.le_max_left ..))⟩
theorem CV {bs:List Int}(h:bs.Pairwise (·<=·))(hl:2<=bs.length)(x:Int)(b:Bool):c9 bs (jz b bs x 1 2) x=c9 bs (min (max (cntLt bs x) 1) 2) x:=by
 match bs,hl with
 | b0::b1::r,hl=>
   have a1:=decide_eq_decide.mp (jy (x:=x) h 1 b1 rfl);have a2:=decide_eq_decide.mp (i3 (x:=x) h 1 b1 rfl);by_cases p:b1<x
   . have h1:=a1.mp p
     rw [(oE h1).2]
     cases b with
     | true=>show c9 _ (clp (cntLt _ x) 1 2) x=_;rw [(oE h1).1]
     | false=>show c9 _ (clp (cE _ x) 1 2) x=_;rw [(oE (a2.mp (Cg p))).1]
   . have h1:=Nat.not_lt.mp λg=>p (a1.mpr g)
     rw [(uF h1).2]
     cases b with
     | true=>show c9 _ (clp (cntLt _ x) 1 2) x=_;rw [(uF h1).1]
     | false=>
       show c9 _ (clp (cE _ x) 1 2) x=_;by_cases p2:b1<=x
       . rw [(oE (a2.mp p2)).1]
         obtain rfl:b1=x:=Int.le_antisymm p2 (Int.not_lt.mp p)
         rfl
       . rw [(uF (Nat.not_lt.mp λg=>p2 (a2.mpr g))).1]
theorem vT (bs:List Int)(k:Nat)(x:Int):c9 (aG bs) k (.int x)=aG (c9 bs k x):=by
 unfold c9;rw [aG,aG,Bq,Bx,Bs,BM]
section
theorem aCr (F:aQ B)(K:Kn){A:Addr}{Fs G:List aD}{ds:List (Nat×Nat)}(I:DI ds Fs G)(hd:ds.length=7)(hA:(A,aG (ac (lvF G)))∈H)(hD:(D,ds.map bF)∈H)(hC:(K.C,az K.cs)∈H){N:Nat}(hN:N<=1099000)(sN:(128*sizeOf' K.sl).natAbs<2 ^ N)
   (h:XsF B (d+70) (fiV F) H (stM F K A D Fs G none (some (.int (sizeOf' K.sl)))) (bW 8) (λO H'=>Q .none H') (PX Q)) :
   XsF B (d+70) (fiV F) H (stM F K A D Fs G (some (.list (aG (ac (lvF Fs))))) (some (.int (sizeOf' K.sl))) (some (.int (sideOf K.sl))) (some (.int (128*xq K.sl)))) (bW 7) (λO H'=>Q .none H') (PX Q):=by
 have get:∀(j:Nat) {E:EP} {Q:PQ} (_:j<7) (_:Q (.int (cAt K.sl j:Nat)) H),V2 H E B (d+70) (.int (j:Nat)) (.lref K.C) getItem Q:=λj O O hj q=>eK (.lref hC) (by rw [bQ];exact hj) (by rw [bQ];decide) q;have fin:∀image,XsF B (d+70) (fiV F) H (stM F K A D Fs G (some (.list (aG (ac (lvF Fs))))) (some (.int (sizeOf' K.sl))) (some (.int (sideOf K.sl))) (some (.int (128*aAq K.sl))) image) (bW 8) (λO H'=>Q .none H') (PX Q):=λimage=>XsF.wk @h (by walk_at "k")
 have go:d6 B (fiV F) (d+70) (au g7) (ak g7) [] [.int (128*xq K.sl),.int (128*aAq K.sl)] (stM F K A D Fs G (some (.list (aG (ac (lvF Fs))))) (some (.int (sizeOf' K.sl))) (some (.int (sideOf K.sl))) (some (.int (128*xq K.sl)))) H (λσ' H'=>XsF B (d+70) (fiV F) H' σ' (bW 8) (λO H'=>Q .none H') (PX Q)) (PX Q):=by
   refine ao ?_;refine' kq ?_;ext;refine mX F K I hd hA hD hN sN (aD6 K.sl) λimage=>⟨λp hp=>(Bo hp).elim,?_⟩;refine ao ?_;refine' kq ?_;ext;refine mX F K I hd hA hD hN sN (aEl K.sl) λimage=>⟨λp hp=>(Bo hp).elim,bp ?_⟩;exact fin image
 refine cH ?_;ext;refine cB ?_;ext;refine ⟨aB (.lref hC),get 0 ∅ ?_⟩;ext;refine bI 6 ?_;ext;refine bH (IntMulOk.of_right (intBits_le_64 (by lia) (by lia))) ?_;ext;refine ⟨aB (.lref hC),get 6 ∅ ?_⟩;ext;refine bH (IntMulOk.of_left ∅) ?_;ext;exact jR go
end
end
set_option maxHeartbeats 1000000
section
noncomputable def biF (bs:List Int):PV->PV
 | .int x=>.int (clp (cE bs x) 2 3:Nat)
 | v=>v
theorem GL {bs:List Int}(h:bs.Pairwise (· < ·))(hl:3<=bs.length):(aG bs).map (biF bs)=aG ([2,2]++List.replicate (bs.length-2) 3):=by
 rw [<-sx h hl,aG,aG,Bm,Bm];rfl
noncomputable abbrev aEf {B:aJ}(F:aQ B)(A:Addr)(o:Option PV):St:=[(Ω ".0",.local,none),(Ω "cut",.local,o),(Ω "bisect_right",.globalImplicit,some (.raw (.ref F.Y.br))),(Ω "below",.cell,some (.lref A))]
noncomputable def ltF (y:Int):PV->Bool
 | .int i=>decide (i<y)
 | _=>false
theorem vQ (bs:List Int)(y:Int):(([]:List PV)++((aG bs).filter (ltF y)).map id).length=cntLt bs y:=by
 rw [Bw,List.map_id,aG,List.filter_map,Bk];exact List.countP_eq_length_filter.symm
noncomputable abbrev aE8 (y:Int)(o:Option PV):St:=[(Ω ".0",.local,none),(Ω "cut",.local,o),(Ω "spot",.cell,some (.int y))]
section
theorem aAv (F:aQ B)(K:Kn){A:Addr}{Fs G:List aD}{bs:List Int}(hs:bs.Pairwise (· < ·))(h3:3<=bs.length)(hz:bs.length<=19)(hA:(A,aG bs)∈H){size:PV}
   (h:XsF B (d+70) (fiV F) H (stM F K A D Fs G none (some size)) (bW 9) (λO H'=>Q .none H') (PX Q)) :
   XsF B (d+70) (fiV F) H (stM F K A D Fs G none (some size)) (bW 8) (λO H'=>Q .none H') (PX Q):=by
 have hl:(aG bs).length=bs.length:=Bk _;refine cH ?_;ext;refine bB (aEf F A none) (.loc (.loc (.glob F.Y.gbr (.capC (by walk_at "mm") .nil)))) ?_ (by decide +kernel) (by rfl) (by rfl) (by intro _ _;rfl) (Al ..) (Ae 1);refine cB ?_;ext;refine db hA λDa=>?_;refine eU (σt:=aEf F A) (f:=biF bs) ?_ (λp hp=>by rw [msp hp];exact hA) _ _ none ?_ ?_ ?_
 . intro x o H K k
   ext;exact k
 . intro x hx acc Kk k
   obtain ⟨c,hc,rfl⟩:=mmp hx;ext;refine ⟨aF F.Y.hbr,?_⟩;ext;refine lN (d:=d+69) (lo:=2) (hi:=3) F.Y.hbr F.Y.D4 F.Y.gV F.Y.gln (.lref (.tail _ hA)) (.inr ⟨rfl,by rw [hl];exact h3⟩) (by rw [hl];exact Ai hz ∅) (jF (hs.imp Cg)) ?_;exact k
 . rw [hl];exact aO (n:=19) (ntr (Ac (Aj _)) hz)
 rw [Bw,GL hs h3];ext;refine aV ?_;ext;refine aV ?_;ext;refine ⟨aK,?_⟩;ext;refine ab (.lref hA) (by rw [hl];exact Ai hz ∅) ?_;rw [hl];ext;refine iT (c:=.int ((bs.length-2:Nat):Int)) (congrArg PV.int (CD (AC h3)).symm) ?_;refine kJ (ntr (Av _ _) (ntr hz ∅)) (.inl ?_);ext;refine bq 21 .list .list (by rw [Bu];exact AD (ntr (Av _ _) hz) 2) (aO (n:=21) (Ab _)) (zs:=aG ([2,2]++List.replicate (bs.length-2) 3)) (by rw [aG,Bq,List.map_replicate];rfl) (.inl ?_);ext;refine pR .list .list ?_;rw [decide_eq_true rfl];ext;exact @h
noncomputable abbrev g9:Stmt:=((a8 (aL iR))[9]?).getD (.Pass default)
theorem ix (F:aQ B)(K:Kn){A:Addr}{Fs G:List aD}{bs:List Int}(hs:bs.Pairwise (·<=·))(h3:3<=bs.length)(hz:bs.length<=19)(hA:(A,aG bs)∈H){size:PV}{x lf:Int}{place:Option PV}
   (q:∀place,Qn (stM F K A D Fs G none (some size) none (some (.int x)) none (some (.int lf)) place) H) :
   Xs NoE B (d+70) (fiV F) H (stM F K A D Fs G none (some size) none (some (.int x)) none (some (.int lf)) place) (ak g9) Qn Qf:=by
 have hl:(aG bs).length=bs.length:=Bk _;have hlt:cntLt bs x<=bs.length:=yQ bs x;have hp:min (max (cntLt bs x) 1) 2<=2:=AI _ _;have same:=CV hs (AC h3) x (lf != 0);refine aE (eT (S:=stM F K A D Fs G none (some size) none (some (.int x)) none (some (.int lf)) (some (.int (min (max (cntLt bs x) 1) 2:Nat)))) ?_ ?_)
 . ext
   refine ⟨aK,?_⟩;ext;refine ⟨aK,?_⟩;ext;refine ⟨aK,?_⟩;ext;refine bB (aE8 x none) (.loc (.loc (.capC (by walk_at "mm") .nil))) ?_ (by decide +kernel) (by rfl) (by rfl) (by intro _ _;rfl) (Al 3 _) (Ab 1);refine cB ?_;ext;refine db hA λDa=>?_;refine qk (σt:=aE8 x) (f:=id) (p:=ltF x) ?_ (λp hp=>by rw [msp hp];exact hA) _ _ none ?_ ?_ ?_ ?_
   . intro x o H K k
     ext;exact k
   . intro y hy acc K k
     obtain ⟨c,O,rfl⟩:=mmp hy;ext;exact k
   . intro y hy acc K k
     ext;exact k
   . rw [hl];exact aO (n:=19) (ntr (Ac (Aj _)) hz)
   ext;refine ab .list (by rw [vQ];exact Ai (ntr hlt hz) ∅) ?_;rw [vQ];ext;refine xQ ?_;ext;refine mN ?_;rw [show min (max ((cntLt bs x:Nat):Int) 1) 2=((min (max (cntLt bs x) 1) 2:Nat):Int) by rw [qi,za];rfl];ext;exact ⟨rfl,rfl⟩
 generalize min (max (cntLt bs x) 1) 2=pl at *;refine aE (nq (S:=λ_:Addr=>stM F K A D Fs G none (some size) none (some (.int x)) none (some (.int lf)) (some (.int (pl:Nat)))) (K:=λL=>(L,aG (c9 bs pl x))::H) ?_ λL=>Xs.shift (jU (q _)) (.of_sub (.cons _ (.refl _))));ext;refine ⟨aF F.hla,?_⟩;ext;refine ⟨aq,?_⟩;ext;refine vz (.inr (.lref hA)) (by rw [hl];exact aO (n:=19) hz) (.inr λL=>?_);ext;refine mn (d:=d+65) (lo:=1) (hi:=2) F.Y F.hla (.head _) hs (.inr ⟨rfl,AC h3⟩) ∅ (ntr hz ∅) (H':=(L,aG (c9 bs pl x))::H) ?_ ?_
 . rw [vT,same];exact .head
 have hA':(A,aG bs)∈(L,aG (c9 bs pl x))::H:=.tail _ hA;ext;refine ⟨aB (.lref hA'),fL pl (.lref hA') (by rw [hl];exact aO (n:=19) hz) (.inl ?_)⟩;ext;refine aV ?_;ext;refine bq 3 .list .list (by rw [BF];exact Ag (ntr (Bi _ _) hp)) (aO (n:=3) (Ab _)) rfl (.inl ?_);ext;refine ⟨aB (.lref hA'),jo pl (.lref hA') (by rw [hl];exact aO (n:=19) hz) (.inl ?_)⟩;ext;refine bq 22 .list .list (by rw [Bl,BF,BE,hl];exact An (Ag (ntr (Bi _ _) hp)) (ntr (Av _ _) hz)) (aO (n:=22) (Ab _)) (zs:=aG (c9 bs pl x)) (by rw [<-vT,Bn];rfl) (.inl ?_);ext;refine pR (.lref (.head _)) .list ?_;rw [decide_eq_true rfl];ext;exact ⟨L,rfl,rfl⟩
end
end
section
noncomputable abbrev nG:Option Str:=some (Ω "lo must be non-negative")
theorem aCk (FL:cX B){a x hv:PV}{lo:Int}(hlo:lo<0)(h:ae dV kV dw "bisect_left" f cdv B)(D:bE B dV kV)(gV:aH B "ValueError" (.raw (.type "ValueError")))(gl:aH B "len" (.raw (.builtin "len"))) :
   fJ B (d+1) (.raw (.ref f)) [a,x,.int lo,hv] "ValueError" nG:=by
 refine h.callX FL (λdoc pm an ct=>dx (fd:=λdV kV=>bR "bisect_left" dw dV kV doc pm an cdv ct) D λS T D n m t tk hs v w u z=>Gi) rfl sG (p5 gV gl) ?_;refine j2 FL ?_;ext;refine ⟨rfl,?_⟩;rw [decide_eq_true (by omega),if_pos rfl];refine kc FL F.excCall_ValueError F.excRaise_ValueError rfl ?_;ext;exact ⟨rfl,rfl⟩
theorem aBq (FL:cX B){a x hv:PV}{lo:Int}(hlo:lo<0)(h:ae dV kV dR "bisect_right" f cdv B)(D:bE B dV kV)(gV:aH B "ValueError" (.raw (.type "ValueError")))(gl:aH B "len" (.raw (.builtin "len"))) :
   fJ B (d+1) (.raw (.ref f)) [a,x,.int lo,hv] "ValueError" nG:=by
 refine h.callX FL (λdoc pm an ct=>dx (fd:=λdV kV=>bR "bisect_right" dR dV kV doc pm an cdv ct) D λS T D n m t tk hs v w u z=>Gh) rfl rY (qZ gV gl) ?_;refine j2 FL ?_;ext;refine ⟨rfl,?_⟩;rw [decide_eq_true (by omega),if_pos rfl];refine kc FL F.excCall_ValueError F.excRaise_ValueError rfl ?_;ext;exact ⟨rfl,rfl⟩
theorem aA9 (FL:cX B){g:Addr}{a x hv:PV}{lo:Int}{dV' kV' cdv':Value}(hlo:lo<0)(h:ae dV kV jl "insort_left" f cdv B)(D:bE B dV kV)(h':ae dV' kV' dw "bisect_left" g cdv' B)(D':bE B dV' kV')
   (gb:aH B "bisect_left" (.raw (.ref g)))(gV:aH B "ValueError" (.raw (.type "ValueError")))(gl:aH B "len" (.raw (.builtin "len"))):fJ B (d+2) (.raw (.ref f)) [a,x,.int lo,hv] "ValueError" nG:=by
 refine h.callX FL (λdoc pm an ct=>dx (fd:=λdV kV=>bR "insort_left" jl dV kV doc pm an cdv ct) D λS T D n m t tk hs v w u z=>Gz) rfl sC (sI gb) ?_;refine j2 FL ?_;ext;refine ⟨rfl,?_⟩;refine' ifp (show iE .none .none=true from rfl) ?_;refine fI FL ?_;ext;refine ⟨rfl,aF h',?_⟩;ext;exact ⟨rfl,aCk FL hlo h' D' gV gl⟩
theorem aCq (FL:cX B){g:Addr}{a x hv:PV}{lo:Int}{dV' kV' cdv':Value}(hlo:lo<0)(h:ae dV kV jb "insort_right" f cdv B)(D:bE B dV kV)(h':ae dV' kV' dR "bisect_right" g cdv' B)(D':bE B dV' kV')
   (gb:aH B "bisect_right" (.raw (.ref g)))(gV:aH B "ValueError" (.raw (.type "ValueError")))(gl:aH B "len" (.raw (.builtin "len"))):fJ B (d+2) (.raw (.ref f)) [a,x,.int lo,hv] "ValueError" nG:=by
 refine h.callX FL (λdoc pm an ct=>dx (fd:=λdV kV=>bR "insort_right" jb dV kV doc pm an cdv ct) D λS T D n m t tk hs v w u z=>Gq) rfl qJ (pj gb) ?_;refine j2 FL ?_;ext;refine ⟨rfl,?_⟩;refine' ifp (show iE .none .none=true from rfl) ?_;refine fI FL ?_;ext;refine ⟨rfl,aF h',?_⟩;ext;exact ⟨rfl,aBq FL hlo h' D' gV gl⟩
theorem aDj (FL:cX B)(F:ef B){a x hv:PV}{lo:Int}{left:Int}(hlo:lo<0)(h:ae .none .none mH "_law_laid" f cdv B):fJ B (d+3) (.raw (.ref f)) [a,x,.int lo,hv,.int left] "ValueError" nG:=by
 refine h.callX FL (λdoc pm an ct=>qv λS v w u v' w'=>me) rfl qy (qu F) ?_;refine j2 FL ?_;ext;refine ⟨rfl,?_⟩
 cases hl:(left != 0) with
 | true=>
   refine' ifp rfl ?_;refine gU FL ?_;ext;refine ⟨rfl,aF F.hl,?_⟩;ext;exact ⟨rfl,aA9 FL hlo F.hl F.D1 F.hbl F.D3 F.gbl F.gV F.gln⟩
 | false=>
   refine' ifn B9 ?_;refine gU FL ?_;ext;refine ⟨rfl,aF F.hr,?_⟩;ext;exact ⟨rfl,aCq FL hlo F.hr F.D2 F.hbr F.D4 F.gbr F.gV F.gln⟩
theorem imX (FL:cX B){fm fp:Addr}{cm:Value}(hm:ae .none .none i0 "int_divmod" fm cm B)(gz:aH B "ZeroDivisionError" (.raw (.type "ZeroDivisionError")))(gm:aH B "int_divmod" (.raw (.ref fm)))(gp:aH B "_divmod_pos" (.raw (.ref fp))){a:Int}:fJ B (d+1) (.raw (.ref fm)) [.int a,.int 0] "ZeroDivisionError" none:=by
 refine hm.callX FL (λdoc pm an ct=>c7 λS v w=>kC) rfl pD (σ₀:=aEe a 0 none none fm fp) (.arg (by walk_at "mm") (.inl rfl) (.arg (by walk_at "mm") (.inl rfl) (.unset (.unset (.glob gz (.glob gm (.glob gp .nil))))))) ?_;refine j2 FL ?_;ext;refine ⟨rfl,?_⟩;refine' ifp ∅ ?_;exact sh FL PySem.F.excCall_ZeroDivisionError PySem.F.excRaise_ZeroDivisionError excClass_ZeroDivisionError rfl (by simp)
end
set_option maxHeartbeats 1000000
section
section
theorem aB3:isSubtype (.type "ValueError") (.type "BaseException")=pure true:=PySem.F.excRaise_ValueError.isExc
theorem aCo:isSubtype (.type "ZeroDivisionError") (.type "BaseException")=pure true:=PySem.F.excRaise_ZeroDivisionError.isExc
theorem aBz:isSubtype (.type ((Manifest.find? "ValueError").elim "type" λx=>x.metatype)) (.type "tuple")=pure false:=by rw [isSubtype_type];kernel_rfl
theorem aAy:isSubtype (.type ((Manifest.find? "ZeroDivisionError").elim "type" λx=>x.metatype)) (.type "tuple")=pure false:=by rw [isSubtype_type];kernel_rfl
noncomputable def ef.flat (F:ef B){g:Heap}{hk:∀a o,B.g.get? a=some o->g.get? a=some o}:ef (B.flat g hk):=
 { F with hl:=F.hl.flat,hr:=F.hr.flat,hbl:=F.hbl.flat,hbr:=F.hbr.flat,D1:=F.D1.flat,D2:=F.D2.flat,D3:=F.D3.flat,D4:=F.D4.flat,gl:=F.gl,gr:=F.gr,gbl:=F.gbl,gbr:=F.gbr,gV:=F.gV,gln:=F.gln }
theorem aCf (F:aQ B)(K:Kn){A:Addr}{Fs G:List aD}{bs:List Int}(hs:bs.Pairwise (·<=·))(h3:3<=bs.length)(hz:bs.length<=19)(hA:(A,aG bs)∈H){s:Int}
   (h:XsF B (d+70) (fiV F) H (stM F K A D Fs G) (bW 10) (λO H'=>Q .none H') (PX Q)) :
   XsF B (d+70) (fiV F) H (stM F K A D Fs G none (some (.int s))) (bW 9) (λO H'=>Q .none H') (PX Q):=by
 have go:d6 B (fiV F) (d+70) (au g9) (ak g9) [] [.tup [.int 0,.int (128*s)],.tup [.int 0,.int (-128*s)],.tup [.int 1,.int (128*s)],.tup [.int 1,.int (-128*s)]] (stM F K A D Fs G none (some (.int s))) H (λσ' H'=>XsF B (d+70) (fiV F) H' σ' (bW 10) (λO H'=>Q .none H') (PX Q)) (PX Q):=by
   refine ao ?_;refine cw rfl rfl ?_;ext;refine ix F K hs h3 hz hA λplace=>⟨λp hp=>(Bo hp).elim,?_⟩;refine ao ?_;refine cw rfl rfl ?_;ext;refine ix F K hs h3 hz hA λplace=>⟨λp hp=>(Bo hp).elim,?_⟩;refine ao ?_;refine cw rfl rfl ?_;ext;refine ix F K hs h3 hz hA λplace=>⟨λp hp=>(Bo hp).elim,?_⟩;refine ao ?_;refine cw rfl rfl ?_;ext;refine ix F K hs h3 hz hA λplace=>⟨λp hp=>(Bo hp).elim,bp ?_⟩;exact XsF.wk @h (by walk_at "k")
 have mul:∀{c:Int} {Q:PQ},Builtin.Int.intBits c<=64->Q (.int (c*s)) H->V2 H NoE B (d+70) (.int s) (.int c) (binaryOp .Mult) Q:=λhc q=>bH (IntMulOk.of_left hc) q;refine cH ?_;ext;refine cB ?_;ext;refine mul ∅ ?_;ext;refine mul ∅ ?_;ext;refine mul ∅ ?_;ext;refine mul ∅ ?_;ext;exact jR go
end
end
set_option maxHeartbeats 1000000
section
section
theorem aCc (F:aQ B)(K:Kn){A:Addr}{Fs G:List aD}{bs:List Int}(hA:(A,aG bs)∈H)(hC:(K.C,az K.cs)∈H)(hU:Upd K.W [] [.str (Ω "lo must be non-negative")] H H')
   (h:XsF B (d+70) (fiV F) H' (stM F K A D Fs G) (bW 11) (λO H'=>Q .none H') (PX Q)) :
   XsF B (d+70) (fiV F) H (stM F K A D Fs G) (bW 10) (λO H'=>Q .none H') (PX Q):=by
 have get:∀(j:Nat) {E:EP} {Q:PQ} (_:j<7) (_:Q (.int (cAt K.sl j:Nat)) H),V2 H E B (d+70) (.int (j:Nat)) (.lref K.C) getItem Q:=λj O O hj q=>eK (.lref hC) (by rw [bQ];exact hj) (by rw [bQ];decide) q;refine gS (msg:=nG) (W:=K.W) (xs:=[]) PySem.F.excStr_ValueError aB3 aBz PySem.F.excCall_ValueError.sub ?_ (by walk_at "mm") (by walk_at "mm") (by walk_at "mm") (by walk_at "mm") hU (Ae _) ∅ @h;ext;refine ⟨rfl,⟨_,rfl⟩,aF F.hla,?_⟩;ext;refine ⟨aB (.lref hC),get 0 ∅ ?_⟩;ext;refine bI 3 ?_;ext;refine ⟨aB (.lref hC),get 2 ∅ ?_⟩;ext;refine bI 2 ?_;ext;refine ⟨rfl,_,.lref hA (.other (.other (.other (.other .nil)))),λg hk=>?_⟩;exact aDj (d:=d+67) flat_flat F.Y.flat (by lia) F.hla.flat
theorem aCt (F:aQ B)(K:Kn){A:Addr}{Fs G:List aD}{m:PV}(hU:Upd K.W [m] [m,.str (Ω "")] H H')
   (h:XsF B (d+70) (fiV F) H' (stM F K A D Fs G) (bW 12) (λO H'=>Q .none H') (PX Q)) :
   XsF B (d+70) (fiV F) H (stM F K A D Fs G) (bW 11) (λO H'=>Q .none H') (PX Q):=by
 refine gS (msg:=none) (W:=K.W) (xs:=[m]) PySem.F.excStr_ZeroDivisionError aCo aAy PySem.F.excCall_ZeroDivisionError.sub ?_ (by walk_at "mm") (by walk_at "mm") (by walk_at "mm") (by walk_at "mm") hU (AQ rfl) ∅ @h;ext;refine ⟨rfl,⟨_,rfl⟩,aF F.I.hm,?_⟩;ext;refine ⟨rfl,_,.other (.other .nil),λg hk=>?_⟩;exact imX (d:=d+69) flat_flat F.I.hm.flat F.I.gz F.I.gm F.I.gp
theorem Fk (F:aQ B)(K:Kn){A:Addr}{Fs G:List aD}(hA:(A,aG (ac (lvF G)))∈H)(hW:(K.W,[PV.str (Ω "lo must be non-negative"),.str (Ω "")])∈H)(q:Q (.bool true) H) :
   XsF B (d+70) (fiV F) H (stM F K A D Fs G) (bW 12) (λO H'=>Q .none H') (PX Q):=by
 refine XsF.of ?_;have hok:∀x∈[Ω "lo must be non-negative",Ω ""],PyData.strOk x=true:=by decide +kernel
 refine' aE ?_;refine rc ?_;refine aCp ?_;ext;refine aV ?_;ext;refine yE (ns:=[Ω "lo must be non-negative",Ω ""]) (ms:=[Ω "lo must be non-negative",Ω ""]) (.lref hW) .list hok hok ?_;rw [decide_eq_true rfl];ext;refine aBh ?_;ext;refine ⟨aB .list,bh (n:=0) (p:=.list (aG (ac (lvF G)))) .list rfl rfl ?_⟩;ext;refine EI (ns:=ac (lvF G)) (ms:=ac (lvF G)) (.lref hA) .list ?_;rw [decide_eq_true rfl];exact q
end
end
set_option maxHeartbeats 1000000
section
section
theorem EE (F:aQ B){sl:List Int}(hsl:sl.length<=63){N:Nat}(hN:N<=1099000)(sN:(128*sizeOf' sl).natAbs<2 ^ N)(q:∀H',Q (.bool true) H') :
   XsF B (d+70) (fiV F) H (stV (F:=F) (script_:=some (.list (aG sl)))) (bW 0) (λO H'=>Q .none H') (PX Q):=by
 with_reducible refine aCn F hsl λC W pl xx=>?_
 with_reducible refine aA5 F (K:=⟨sl,C,W,pl,xx⟩) λA D=>?_
 generalize hK:(⟨sl,C,W,pl,xx⟩:Kn)=K;have hs:K.sl=sl:=by rw [<-hK]
 with_reducible refine aA3 F K λFs G A I=>?_
 have hd:(cM K.cs).length=7:=(Bk _).trans (bQ K.sl)
 with_reducible refine aBl F K I λU U'=>?_
 have hA:(A,aG (ac (lvF G)))∈U'::U::HD K G A D (cM K.cs) H:=.tail _ (.tail _ (.head _));have hD:(D,(cM K.cs).map bF)∈U'::U::HD K G A D (cM K.cs) H:=.tail _ (.tail _ (.tail _ (.head _)));have hC:(K.C,az K.cs)∈U'::U::HD K G A D (cM K.cs) H:=.tail _ (.tail _ (.tail _ (.tail _ (.tail _ (.head _)))))
 have l3:3<=(ac (lvF G)).length:=by
   have:=I.hG2;have:=jx G;rw [dL,d4 G I.deep.2];lia
 have l19:(ac (lvF G)).length<=19:=by rw [dL];exact Ag I.low.ps
 with_reducible refine aB0 F K hC ?_
 with_reducible refine aCr F K I hd hA hD hC hN (by rw [hs];exact sN) ?_
 with_reducible refine aAv F K (sK _) l3 l19 hA ?_
 with_reducible refine aCf F K (eY _) l3 l19 hA ?_
 with_reducible refine aCc F K hA hC (.tail (.tail (.tail (.tail .head)))) ?_
 with_reducible refine aCt F K (.tail (.tail (.tail (.tail .head)))) ?_
 with_reducible exact Fk F K (List.Mem.tail _ (List.Mem.tail _ (List.Mem.head _))) (List.Mem.tail _ (List.Mem.tail _ (List.Mem.tail _ (List.Mem.tail _ (List.Mem.head _))))) (q _)
end
end
noncomputable def oAt (K:Frag)(a:Addr):Obj:=(K.lookup a).getD default
noncomputable def oFd (o:Obj):Option FuncData:=match o.data with | .func fd=>some fd | _=>none
noncomputable def aGc (o:Obj):Value:=((oFd o).map (·.doc)).getD .none
noncomputable def oPm (o:Obj):Value:=((oFd o).map (·.pyModule)).getD .none
noncomputable def oAn (o:Obj):Option Addr:=(oFd o).bind (·.annotations)
noncomputable def oCt (o:Obj):Value:=((oFd o).map (·.closureTuple)).getD .none
noncomputable def aCb (o:Obj):Array Value×Nat:=match o.data with | .seq vs n=>(vs,n) | _=>(#[],0)
noncomputable def Gf (o:Obj):Nat:=(aCb o).2
noncomputable def EY:Value->Tok
 | .int _ t=>t
 | .str _ t=>t
 | _=>default
noncomputable def aDe (o:Obj):Tok:=EY ((aCb o).1.getD 0 .none)
noncomputable def z4 (o:Obj):Array DictEntry×Nat:=match o.data with | .dict es n=>(es,n) | _=>(#[],0)
noncomputable def aEa (o:Obj):Int:=((z4 o).1.getD 0 default).hash
noncomputable def aFt (o:Obj):Tok:=EY ((z4 o).1.getD 0 default).key
noncomputable def aA0 (o:Obj):Nat:=(z4 o).2
noncomputable def FnK (K:Frag)(f:Addr)(name:Str)(k:Nat)(dV kV cdv:Value):Prop:=
 K.lookup f=some ⟨(oAt K f).cls,(oAt K f).dict,.func (fnOf name name (eu (aL k)) (a8 (aL k)) (aI (aL k)) dV kV (aGc (oAt K f)) (oPm (oAt K f)) (oAn (oAt K f)) cdv (oCt (oAt K f))),(oAt K f).slots⟩/\codeIn K cdv name=true
noncomputable def v8 (K:Frag)(T D:Addr):Prop:=
 K.lookup T=some (fF #[.int 0 (aDe (oAt K T)),.none] (Gf (oAt K T)))/\K.lookup D=some (o9 (aEa (oAt K D)) (aFt (oAt K D)) (aA0 (oAt K D)))
noncomputable def GlK (K:Frag)(x:Str)(a:Addr):Prop:=nsIn K mainGlobals x=some (some (.ref a))
noncomputable def Gw (K:Frag)(x:Str):Value:=((nsIn K mainGlobals x).getD none).getD .none
noncomputable def aGt (K:Frag)(x:Str)(i:Int):Prop:=nsIn K mainGlobals x=some (some (.int i (EY (Gw K x))))
noncomputable def aGg (K:Frag)(x:Str)(i:Str):Prop:=nsIn K mainGlobals x=some (some (.str i (EY (Gw K x))))
noncomputable def BiK (K:Frag)(x:Str)(v:Value):Prop:=nsIn K mainGlobals x=some none/\bootBuiltins x=some v/\x≠"__name__"
noncomputable def uU (o:Obj):Array Value:=match o.data with | .fields fs=>fs | _=>#[]
noncomputable def zm (o:Obj):Array Value:=(aCb o).1
noncomputable def DZ (K:Frag)(p c:Addr)(code:Array Nat)(kind:Nat):Prop:=
 K.lookup p=some ⟨.type "re.Pattern",none,.fields (uU (oAt K p)),(oAt K p).slots⟩/\Builtin.Re.reRawNat ((uU (oAt K p)).getD 6 .none)=kind/\Builtin.Re.reRawNat ((uU (oAt K p)).getD 2 .none)=0/\(uU (oAt K p)).getD 5 .none=.ref c/\
   K.lookup c=some ⟨(oAt K c).cls,(oAt K c).dict,.seq (zm (oAt K c)) (Gf (oAt K c)),(oAt K c).slots⟩/\((zm (oAt K c)).map Builtin.Re.reRawOf).map (·.toNat)=code
section
variable {K:Frag}{w:World}
theorem FnK.is (X:K.In B.g){name:Str}(h:FnK K f name k dV kV cdv):ae dV kV k name f cdv B:=
 ⟨⟨_,_,_,_,_,_,_,X _ _ h.1⟩,codeRec_of X h.2⟩
theorem v8.is (X:K.In B.g){T D:Addr}(h:v8 K T D):bE B (.ref T) (.ref D):=
 ⟨⟨T,_,_,rfl,X _ _ h.1⟩,D,_,_,_,rfl,X _ _ h.2⟩
theorem GlK.is (X:K.In B.g)(h:GlK K x a):aH B x (.raw (.ref a)):=⟨_,.inl (mg_of X B.nsg h),λO O=>.raw _⟩
theorem BiK.is (X:K.In B.g){v:Value}(h:BiK K x v):aH B x (.raw v):=⟨_,.inr ⟨ns_none_of X B.nsg h.1,h.2⟩,λO O=>.raw _⟩
theorem Et (X:K.In B.g){i:Int}(h:aGt K x i):aH B x (.int i):=⟨_,.inl (mg_of X B.nsg h),λO O=>.int _ _⟩
theorem Fp (X:K.In B.g){i:Str}(h:aGg K x i):aH B x (.str i):=⟨_,.inl (mg_of X B.nsg h),λO O=>.str _ _⟩
theorem DZ.is (X:K.In B.g){p c:Addr}{code:Array Nat}{kind:Nat}(h:DZ K p c code kind):cn B.g p code kind:=
 ⟨_,_,c,_,_,_,X _ _ h.1,h.2.1,h.2.2.1,h.2.2.2.1,X _ _ h.2.2.2.2.1,rfl,h.2.2.2.2.2⟩
end
noncomputable def fk:List (Addr×Addr):=[(79,75),(86,82)]
section
variable {P:Params}
noncomputable abbrev aGy:Addr->Pos->Option Str:=λP O=>if P=75 then some "_int2digits.<locals>.inner" else some "_digits2int.<locals>.inner"
noncomputable abbrev aEt (X:(hd02.heap_1 P).In B.g)(n1:dE "_int2digits.<locals>.inner" (gT nI) 75 79 B)(n2:dE "_digits2int.<locals>.inner" (gT nO) 82 86 B):ImFns B where
 f2:=66
 f3:=73
 cd2:=.ref 65
 cd3:=.ref 72
 h2:=FnK.is X ⟨by kernel_rfl,by kernel_rfl⟩
 h3:=FnK.is X ⟨by kernel_rfl,by kernel_rfl⟩
 g2:=GlK.is X (by kernel_rfl:_=_)
 g3:=GlK.is X (by kernel_rfl:_=_)
 gl:=Et X (by kernel_rfl:_=_)
 gd:=BiK.is X ⟨by kernel_rfl,by kernel_rfl,by decide⟩
 fi:=80
 fo:=87
 ci:=79
 co:=86
 pi:=75
 po:=82
 hi:=FnK.is X ⟨by kernel_rfl,by kernel_rfl⟩
 ho:=FnK.is X ⟨by kernel_rfl,by kernel_rfl⟩
 ni:=n1
 no:=n2
 gi:=GlK.is X (by kernel_rfl:_=_)
 go:=GlK.is X (by kernel_rfl:_=_)
 gln:=BiK.is X ⟨by kernel_rfl,by kernel_rfl,by decide⟩
 grv:=BiK.is X ⟨by kernel_rfl,by kernel_rfl,by decide⟩
 fp:=94
 fm:=101
 cp:=.ref 93
 cm:=.ref 100
 hp:=FnK.is X ⟨by kernel_rfl,by kernel_rfl⟩
 hm:=FnK.is X ⟨by kernel_rfl,by kernel_rfl⟩
 gp:=GlK.is X (by kernel_rfl:_=_)
 gm:=GlK.is X (by kernel_rfl:_=_)
 gz:=BiK.is X ⟨by kernel_rfl,by kernel_rfl,by decide⟩
noncomputable abbrev aAn (X:(hd02.heap_1 P).In B.g):ef B where
 fl:=128
 fr:=110
 bl:=137
 br:=119
 cl:=.ref 127
 cr:=.ref 109
 dl:=.ref 136
 dr:=.ref 118
 dV1:=.ref 120
 kV1:=.ref 121
 dV2:=.ref 102
 kV2:=.ref 103
 dV3:=.ref 129
 kV3:=.ref 130
 dV4:=.ref 111
 kV4:=.ref 112
 hl:=FnK.is X ⟨by kernel_rfl,by kernel_rfl⟩
 hr:=FnK.is X ⟨by kernel_rfl,by kernel_rfl⟩
 hbl:=FnK.is X ⟨by kernel_rfl,by kernel_rfl⟩
 hbr:=FnK.is X ⟨by kernel_rfl,by kernel_rfl⟩
 D1:=v8.is X ⟨by kernel_rfl,by kernel_rfl⟩
 D2:=v8.is X ⟨by kernel_rfl,by kernel_rfl⟩
 D3:=v8.is X ⟨by kernel_rfl,by kernel_rfl⟩
 D4:=v8.is X ⟨by kernel_rfl,by kernel_rfl⟩
 gl:=GlK.is X (by kernel_rfl:_=_)
 gr:=GlK.is X (by kernel_rfl:_=_)
 gbl:=GlK.is X (by kernel_rfl:_=_)
 gbr:=GlK.is X (by kernel_rfl:_=_)
 gV:=BiK.is X ⟨by kernel_rfl,by kernel_rfl,by decide⟩
 gln:=BiK.is X ⟨by kernel_rfl,by kernel_rfl,by decide⟩
noncomputable abbrev FD (X:(hd02.heap_1 P).In B.g):iV B where
 p1:=142
 p2:=147
 p3:=152
 h1:=DZ.is X (c:=141) ⟨by kernel_rfl,by kernel_rfl,by kernel_rfl,by kernel_rfl,by kernel_rfl,by kernel_rfl⟩
 h2:=DZ.is X (c:=146) ⟨by kernel_rfl,by kernel_rfl,by kernel_rfl,by kernel_rfl,by kernel_rfl,by kernel_rfl⟩
 h3:=DZ.is X (c:=151) ⟨by kernel_rfl,by kernel_rfl,by kernel_rfl,by kernel_rfl,by kernel_rfl,by kernel_rfl⟩
 g1:=GlK.is X (by kernel_rfl:_=_)
 g2:=GlK.is X (by kernel_rfl:_=_)
 g3:=GlK.is X (by kernel_rfl:_=_)
 gc:=Fp X (by kernel_rfl:_=_)
 fq:=159
 fb:=166
 fe:=173
 cq:=.ref 158
 cb:=.ref 165
 ce:=.ref 172
 hq:=FnK.is X ⟨by kernel_rfl,by kernel_rfl⟩
 hb:=FnK.is X ⟨by kernel_rfl,by kernel_rfl⟩
 he:=FnK.is X ⟨by kernel_rfl,by kernel_rfl⟩
 gq:=GlK.is X (by kernel_rfl:_=_)
 gb:=GlK.is X (by kernel_rfl:_=_)
 ge:=GlK.is X (by kernel_rfl:_=_)
 gln:=BiK.is X ⟨by kernel_rfl,by kernel_rfl,by decide⟩
noncomputable abbrev FI (X:(hd02.heap_1 P).In B.g):gA B where
 f:=45
 g:=38
 c:=52
 cdf:=.ref 44
 cdg:=.ref 37
 cdc:=.ref 51
 hf:=FnK.is X ⟨by kernel_rfl,by kernel_rfl⟩
 hg:=FnK.is X ⟨by kernel_rfl,by kernel_rfl⟩
 hc:=FnK.is X ⟨by kernel_rfl,by kernel_rfl⟩
 gf:=GlK.is X (by kernel_rfl:_=_)
 gg:=GlK.is X (by kernel_rfl:_=_)
 gc:=GlK.is X (by kernel_rfl:_=_)
 gl:=BiK.is X ⟨by kernel_rfl,by kernel_rfl,by decide⟩
 ge:=BiK.is X ⟨by kernel_rfl,by kernel_rfl,by decide⟩
noncomputable abbrev aAf (X:(hd02.heap_1 P).In B.g)(n1:dE "_int2digits.<locals>.inner" (gT nI) 75 79 B)(n2:dE "_digits2int.<locals>.inner" (gT nO) 82 86 B):aQ B where
 Y:=aAn X
 S:=FD X
 M:=FI X
 I:=aEt X n1 n2
 D:={ fd:=199,cd:=.ref 198,hd:=FnK.is X ⟨by kernel_rfl,by kernel_rfl⟩,gd:=GlK.is X (by kernel_rfl:_=_),gE:=BiK.is X ⟨by kernel_rfl,by kernel_rfl,by decide⟩ }
 fl:=206
 cl:=.ref 205
 hl:=FnK.is X ⟨by kernel_rfl,by kernel_rfl⟩
 gle:=GlK.is X (by kernel_rfl:_=_)
 fdo:=213
 cdo:=.ref 212
 hdo:=FnK.is X ⟨by kernel_rfl,by kernel_rfl⟩
 gdo:=GlK.is X (by kernel_rfl:_=_)
 fla:=187
 cla:=.ref 186
 hla:=FnK.is X ⟨by kernel_rfl,by kernel_rfl⟩
 gla:=GlK.is X (by kernel_rfl:_=_)
 flv:=194
 clv:=.ref 193
 hlv:=FnK.is X ⟨by kernel_rfl,by kernel_rfl⟩
 glv:=GlK.is X (by kernel_rfl:_=_)
 fs:=180
 cs:=.ref 179
 hs:=FnK.is X ⟨by kernel_rfl,by kernel_rfl⟩
 gs:=GlK.is X (by kernel_rfl:_=_)
 fp:=59
 cp:=.ref 58
 hp:=FnK.is X ⟨by kernel_rfl,by kernel_rfl⟩
 gp:=GlK.is X (by kernel_rfl:_=_)
 gr:=BiK.is X ⟨by kernel_rfl,by kernel_rfl,by decide⟩
 gZ:=BiK.is X ⟨by kernel_rfl,by kernel_rfl,by decide⟩
 gSum:=BiK.is X ⟨by kernel_rfl,by kernel_rfl,by decide⟩
 gAbs:=BiK.is X ⟨by kernel_rfl,by kernel_rfl,by decide⟩
 gMax:=BiK.is X ⟨by kernel_rfl,by kernel_rfl,by decide⟩
 gMin:=BiK.is X ⟨by kernel_rfl,by kernel_rfl,by decide⟩
 gStr:=BiK.is X ⟨by kernel_rfl,by kernel_rfl,by decide⟩
 gli:=BiK.is X ⟨by kernel_rfl,by kernel_rfl,by decide⟩
end
theorem DX {M:Nat}:∀(l:List Int),(∀x∈l,x.natAbs<=M)->l.sum.natAbs<=l.length*M:=by
 intro l
 induction l with
 | nil=>exact λO=>Ae _
 | cons x r ih=>
   intro h;have h:=List.forall_mem_cons.mp h;rw [BA,Bp,Nat.succ_mul];exact ntr (CH x r.sum) (Ak x.natAbs _▸An (ih h.2) h.1)
theorem tf {N:Nat}{sl:List Int}(h:∀x∈sl,Builtin.Int.intBits x<=N):(eO sl).natAbs<2 ^ (N+6):=by
 have h1:=DX (M:=2 ^ N-1) (sl.take 60) λx hx=>Nat.le_sub_one_of_lt (intBits_le_iff.mp (h x (BY hx)));have h2:(sl.take 60).length<=64:=ntr (List.length_take_le _ _) ∅;rw [Aq,Ao];exact Ai (ntr h1 (AW _ h2)) (Nat.mul_lt_mul_of_pos_left (Nat.sub_lt (As N) Nat.one_pos) ∅)
theorem xS {M:Nat}{sl:List Int}(h:(eO sl).natAbs<2 ^ M):(128*sizeOf' sl).natAbs<2 ^ (M+10):=by
 unfold sizeOf';rw [Aq];generalize 2 ^ M=X at *;rw [Cq,Ao X,show (2 ^ 10:Nat)=128*8 from rfl,AM];refine Nat.mul_lt_mul_of_pos_left (Ai (CH _ 5) ?_) ∅;rw [Cq];generalize (eO sl).natAbs=t at *;show 2*t+5<8*X
 lia
theorem pK {P:Params}(sl:List Int):∀{vs:List Value},WellAll P h vs (ofPys (sl.map .int))->VRs h T vs (aG sl):=by
 induction sl with
 | nil=>intro vs x;cases x;exact .nil
 | cons i r ih=>
   intro vs x
   cases (x:WellAll P h vs (.int i::ofPys (r.map .int))) with
   | cons a b=>cases a;exact .cons (.int _ _) (ih b)
noncomputable abbrev QT:PQ:=λv O=>v=.bool true
theorem zU (F:aQ B){sl:List Int}{N:Nat}(hn:sl.length<=63)(hN:N<=1099000)(hS:(128*sizeOf' sl).natAbs<2 ^ N):XsF B (d+70) (fiV F) [] (stV (F:=F) (script_:=some (.list (aG sl)))) (bW 0) (λO H'=>QT .none H') (PX QT):=by
 with_reducible exact EE F hn hN hS λO=>rfl
theorem yc (F:aQ B){sl:List Int}{N:Nat}(h:ae .none .none iR "law" f cdv B)(hn:sl.length<=63)(hN:N<=1099000)(hS:(128*sizeOf' sl).natAbs<2 ^ N) :
   ∀A s,ah A (1+70+1)->A.frames=some []->Inv B [] s->∀fv vs kvs,VR s.heap (Trk [] B) fv (.raw (.ref f))->VRs s.heap (Trk [] B) vs [.list (aG sl)]->dc (Trk [] B) s.heap kvs []->
   wpAny (model B.prog B.w) A (call fv vs kvs) (aN B [] s QT) NoE s:=by
 refine zj (d:=1+70) h (λdoc pm an ct=>cf λS v=>CZ) rfl E1 (Fa F) ?_;rw [show a8 (aL iR)=bW 0 from rfl]
 with_reducible exact zU F hn hN hS
theorem aFw {P:Params}(X:(hd02.heap_1 P).In B.g):ae .none .none iR "law" 218 (.ref 217) B:=FnK.is X ⟨by kernel_rfl,by kernel_rfl⟩
theorem join02 {w:World}{mg mb:Str->Option Value}(X:(hd02.heap_1 w.params).In s₁.heap)(hT8:∀P∈([82,75]:List Addr),s₁.heap.get? P=some (tabObj #[]))(G:s₁.heap.Ns mainGlobals mg)(Gb:s₁.heap.Ns builtinsNs mb)
   (nl:s₁.heap.NoLimit)(boot:∀x:Str,x≠"__name__"->mb x=bootBuiltins x)(bmain:∃bm ob,mg "__builtins__" = some (.ref bm)/\bm≠builtinsNs/\s₁.heap.get? bm=some ob/\ob.cls=.type "module"/\ob.dict=some builtinsNs/\ob.data=.plain)
   (hgens:s₁.gens=#[]){sl:List Int}(hn:sl.length<=63)(hbits:∀x∈sl,Builtin.Int.intBits x<=1048576){fa:Addr}(hmg:mg "law" = some (.ref fa))(W:Well w.params s₁.heap (.ref l) (ofPy (.list (sl.map .int)))) :
   wpAny (model pw w) callerA (call (.ref fa) [.ref l] []) (λv s'=>v=.bool true/\OldK s₁.heap s'.heap/\s'.os=s₁.os/\AllBare s'.gens) NoE s₁:=by
 obtain rfl:fa=218:=Value.ref.inj (Option.some.inj (hmg.symm.trans (mg_of X G (show GlK (hd02.heap_1 w.params) "law" 218 from (by kernel_rfl:_=_)))));have hT:TabsAt fk s₁.heap:=fmc ⟨⟨codeHd_of_K X (by kernel_rfl),hT8 75 (.tail _ (.head _))⟩,fmc ⟨⟨codeHd_of_K X (by kernel_rfl),hT8 82 (.head _)⟩,λO h=>(Bo h).elim⟩⟩;have XG:(hd02.heap_1 w.params).In (ghostOf s₁.heap fk):=ghost_K hT X (by kernel_rfl);have hCA:=ghost_code hT
 let B:aJ:={ prog:=pw,w:=w,g:=ghostOf s₁.heap fk,mg:=mg,mb:=mb,K:=hd02.heap_1 w.params,tabs:=fk,qn:=aGy,os:=s₁.os,inK:=XG,nsg:=ghost_ns hT G,nsb:=ghost_ns hT Gb,
                   nolimit:=let ⟨mc,a,r⟩:=nl;⟨mc,ghost_ns hT a,r⟩,boot:=boot,tabsHidden:=λq hq=>hideAll_none _ (By hq),low:=by decide }
 have I:Inv B [] s₁:={
   keep:=λa o e=>of_hideAll _ e
   size:=Ac (hideAll_size _ _)
   tabs:=λq hq=>⟨#[],(hT q hq).2,trivial,λpos cv e=>by cases e⟩
   bare:=by rw [hgens];exact .of_eq rfl
   os:=rfl
   nodup:=.nil
   hid:=λq hq=>(by cases hq)
   objs:=λq hq=>(by cases hq)}
 obtain ⟨bm,ob,e1,e2,e3,e4,e5,e6⟩:=bmain;obtain rfl:bm=4:=Value.ref.inj (Option.some.inj (e1.symm.trans (mg_of X G (show GlK (hd02.heap_1 w.params) "__builtins__" 4 from (by kernel_rfl:_=_)))));have hob:(ghostOf s₁.heap fk).get? 4=some ob:=ghost_get hT e3 (λq=>by rw [q] at e4;cases e4);have ba:∀P:Addr,P≠4->B.g.BuiltinsAt B.mg P:=λP hP=>⟨4,ob,e1,e2,by decide,λq=>hP q.symm,hob,e4,e5,e6⟩;have n1:dE "_int2digits.<locals>.inner" (gT nI) 75 79 B:=⟨.head _,hCA.1,λO O O=>rfl,ba 75 ∅⟩;have n2:dE "_digits2int.<locals>.inner" (gT nO) 82 86 B:=⟨.tail _ (.head _),hCA.2.1,λO O O=>rfl,ba 82 ∅⟩;obtain ⟨F,hF⟩:∃F:aQ B,ae .none .none iR "law" 218 (.ref 217) B:=⟨aAf (B:=B) XG n1 n2,aFw (B:=B) XG⟩
 have hl:∃vs,s₁.heap.get? l=some (al vs 0)/\VRs s₁.heap (Trk [] B) vs.toList (aG sl):=by
   simp only [ofPy] at W
   cases W with
   | list e a=>exact ⟨_,e,pK _ a⟩
 obtain ⟨vs,hl1,hl2⟩:=hl
 have hlt:¬Trk [] B l:=λt=>by
   rcases t with t | t | t
   . cases t
   . obtain ⟨q,hq,rfl⟩:=mmp t
     have:=(hT q hq).2;rw [hl1] at this;cases this
   . cases t
 have hb:=xS (tf hbits);refine wpm (yc F hF hn ∅ hb callerA s₁ ⟨rfl,by decide,by decide⟩ rfl I (.ref 218) [.ref l] [] (.raw _) (.cons (.list hl1 hlt hl2) .nil) ⟨.nil,rfl⟩) (λv s' ⟨p,H',t,r,q⟩=>?_);have hq:p=.bool true:=q;subst hq
 (first | obtain ⟨O,rfl⟩:=r.inv | obtain rfl:=r.inv | cases r)
 have hk:∀b o,b∉fk.map (·.2)->s₁.heap.get? b=some o->s'.heap.get? b=some o:=λb o hb e=>t.inv.keep b o (ghost_ne e hb);refine ⟨rfl,⟨λb o e=>?_,λb o e=>?_⟩,t.inv.os,t.inv.bare⟩
 . by_cases hb:b∈fk.map (·.2)
   . obtain ⟨q,hq,rfl⟩:=mmp hb
     obtain ⟨ps,hps,O⟩:=t.inv.tabs q hq;have e2:=(hT q hq).2;rw [e] at e2;have e3:=Option.some.inj e2;subst e3;exact .inr (.inl ⟨((hT q hq).1.tab (hT q hq).2).isCodeTable,rfl,#[],ps,rfl,by rw [Array.empty_append];exact hps⟩)
   . exact .inl (hk b o hb e)
 . by_cases hb:b∈fk.map (·.2)
   . obtain ⟨q,hq,rfl⟩:=mmp hb
     obtain ⟨ps,hps,O⟩:=t.inv.tabs q hq;exact ⟨_,hps⟩
   . exact ⟨o,hk b o hb e⟩
end Mine.Tactic
set_option tactic.hygienic true
open PySem PySem.W PyProof.Rows
set_option maxHeartbeats 4000000 in
theorem PySem.Challenge.cw_wc0020_02_holds : PySem.Challenge.rw_wc0020_02.Holds := by
  refine Mine.Tactic.hd02 ?_
  intro w s₀ s₁ mg mb G Y fa o pm cd doc dV kV ho hd hcd hD hmg hg args vals as hpre hlay hrd hwl hlo
  have KX := km_in_of Y
  km_tabs Y
  clear Y
  refine Ground.open G ?_
  intro T B D TE TW
  clear ho hd hcd hD B D TE TW G
  wrow_args hpre hlay hrd hwl hlo
  rename_i sl _ _ hlb _ _ _ _ l _ _ _ _ W _ _ _ hlen _
  have hlen' : sl.length ≤ 63 := by omega
  refine wpAny_mono (Mine.Tactic.join02 KX hT8 T.g T.b T.nolimit T.builtins T.bmain hg hlen' (fun x hx => PyData.bits_item_of_ints hlb hx) hmg W) ?_ (fun _ _ x => x.elim)
  rintro v s' ⟨rfl, hK, hos, hbare⟩
  exact ⟨.inl ⟨_, .bool true, _, rfl, raisesW_false (by wrow_none_raised), ReadsW.bool _, postW_of (by wrow_shape) (by wtm_val) (by w_fin), fun _ => ⟨.nil, fun _ h => nomatch h⟩⟩, hK, hos, hbare⟩
