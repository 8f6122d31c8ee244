import PyProof.Rows.All
import Wide.All
import OpenK.AllK
import Wide.FinOn
import KE.BitLaws
import KE.IntBitsLaws
import KE.KxBytes
import KE.KxDecode
import PyProof.ZipIter
import PyProof.Rows.CatchStr
import PyProof.Rows.FactsExc_ZeroDivisionError
import PyProof.NsDelKeeps
import PyProof.WalksMore
import PySem.Challenge.RW_wc0020_04
set_option Elab.async false
set_option bootstrap.genMatcherCode false
set_option compiler.extract_closed false
set_option autoImplicit false
set_option maxRecDepth 100000
set_option maxHeartbeats 4000000
set_option linter.all false
namespace Mine
theorem mcp {α : Type} {a b : α} {l : List α} (h : a ∈ b :: l) : a = b \/ a ∈ l := List.mem_cons.mp h
theorem mmr {α β : Type} {b : β} {l : List α} {f : α -> β} (h : ∃ a, a ∈ l /\ f a = b) : b ∈ l.map f := List.mem_map.mpr h
theorem mmp {α β : Type} {b : β} {l : List α} {f : α -> β} (h : b ∈ l.map f) : ∃ a, a ∈ l /\ f a = b := List.mem_map.mp h
theorem msp {α : Type} {a b : α} (h : a ∈ [b]) : a = b := List.mem_singleton.mp h
theorem fmc {α : Type} {p : α -> Prop} {a : α} {l : List α} (h : p a /\ ∀ x, x ∈ l -> p x) : ∀ x, x ∈ a :: l -> p x := List.forall_mem_cons.mpr h
theorem mpp {α : Type} {a : α} {l r : List α} (h : a ∈ l ++ r) : a ∈ l \/ a ∈ r := List.mem_append.mp h
theorem ncp {α : Type} {a : α} {l : List α} (h : (a :: l).Nodup) : ¬ a ∈ l /\ l.Nodup := List.nodup_cons.mp h
theorem nlr {a b : Nat} (h : b <= a) : ¬ a < b := Nat.not_lt.mpr h
theorem ntr {a b c : Nat} (h : a <= b) (k : b <= c) : a <= c := Nat.le_trans h k
theorem nlt {a b c : Nat} (h : a < b) (k : b <= c) : a < c := Nat.lt_of_lt_of_le h k
theorem mcs {α : Type} {a : α} {l : List α} : a ∈ a :: l := .head _
theorem mcm {α : Type} (b : α) {a : α} {l : List α} (h : a ∈ l) : a ∈ b :: l := .tail _ h
section
open PySem PySem.W PyProof.Rows
theorem lk04 : looksOpen PySem.Challenge.rw_wc0020_04.row.prog = true := by
  unfold looksOpen
  refine look_both (look_both (look_both (look_both (look_both ?_ ?_) ?_) ?_) ?_) ?_
  all_goals decide +kernel
theorem part04 : OpenRow.wellSaid PySem.Challenge.rw_wc0020_04.row = true := by
  unfold OpenRow.wellSaid OpenRow.partSaid
  rw [lk04]
  decide +kernel
theorem said04 : OpenLaw.wellSaid PySem.Challenge.rw_wc0020_04 = true := by
  unfold OpenLaw.wellSaid
  rw [part04]
  decide +kernel
local macro_rules | `(tactic| o_law) => `(tactic| refine holds_law said04 fun said => ?_)
set_option maxHeartbeats 4000000 in
open_top hd04 for PySem.Challenge.rw_wc0020_04
end
section
namespace Rx
open PySem.Sre
noncomputable def Runs (m m' : M) : Prop := ∃ n, n <= 10 /\ M.runFor n m = m'
theorem runFor_add : ∀ (a b : Nat) (m : M), M.runFor (a + b) m = M.runFor b (M.runFor a m)
 | 0, b, m => by simp [M.runFor]
 | a + 1, b, m => by
   rw [show a + 1 + b = (a + b) + 1 by lia]
   simp only [M.runFor]
   by_cases h : m.outcome.isSome
   . rw [if_pos h, if_pos h]
     cases b with
     | zero => rfl
     | succ b => simp only [M.runFor]; rw [if_pos h]
   . rw [if_neg h, if_neg h]; exact runFor_add a b _
theorem runFor_stop {n : Nat} {m : M} (h : m.outcome.isSome = true) : M.runFor n m = m := by
 cases n with
 | zero => rfl
 | succ n => simp only [M.runFor]; rw [if_pos h]
theorem runFor_step {n : Nat} {m : M} (h : m.outcome = none) : M.runFor (n + 1) m = M.runFor n m.step := by
 simp only [M.runFor]; rw [if_neg (by rw [h]; simp)]
noncomputable def code1 : Array Nat := #[14, 4, 0, 1, 1, 6, 1, 16, 46, 1]
noncomputable def at1 (T : Array Nat) (s : Nat) (o : Bool) (seen : Seen) : M :=
 { code := code1, text := T, lim := T.size, start := s, lastStart := T.size, pc := 5, pos := s, handed := s, outermost := o, marks := #[], frames := [{ wait := .nextStart, pc := 5, pos := s, outermost := o }], weight := 1, seen }
noncomputable def hit1 (T : Array Nat) (s : Nat) : Bool := (s == 0 || T.getD (s - 1) 0 == 10) && decide (s < T.size) && T.getD s 0 == 46
theorem step1 (T : Array Nat) (s : Nat) (o : Bool) (seen : Seen) : (at1 T s o seen).step = if (s == 0 || T.getD (s - 1) 0 == 10) = true then { at1 T s o ((seen.add 6).add 44) with pc := 7 } else (at1 T s o ((seen.add 6).add 44)).say false := rfl
theorem step2 (T : Array Nat) (s : Nat) (o : Bool) (seen : Seen) : ({ at1 T s o seen with pc := 7 } : M).step = if s ≥ T.size then ({ at1 T s o (seen.add 16) with pc := 7 } : M).say false else if (T.getD s 0 == 46) = true then { at1 T s o (seen.add 16) with pc := 9, pos := s + 1 } else ({ at1 T s o (seen.add 16) with pc := 7 } : M).say false := by
 show (if s ≥ T.size then _ else _) = _
 by_cases h : s ≥ T.size
 . rw [if_pos h, if_pos h]; rfl
 . rw [if_neg h, if_neg h]
   show (match (Except.ok (T.getD s 0 == 46, seen.add 16) : Except String (Bool × Seen)) with
     | .error why => _
     | .ok (false, seen) => _
     | .ok (true, seen) => _) = _
   cases hb : (T.getD s 0 == 46) <;> rfl
theorem step3 (T : Array Nat) (s p : Nat) (o : Bool) (seen : Seen) : ({ at1 T s o seen with pc := 9, pos := p } : M).step = ({ at1 T s o (seen.add 1) with pc := 9, pos := p, handed := p } : M).say true := by
 show (if (o && ((false && p != T.size) || (false && p == s))) = true then _ else _) = _
 rw [Bool.false_and, Bool.false_and, Bool.or_false, Bool.and_false]
 rfl
noncomputable def said1 (T : Array Nat) (s p h pc : Nat) (o : Bool) (seen : Seen) (yes : Bool) : M := { at1 T s o seen with pc := pc, pos := p, handed := h, answer := some yes }
theorem step4_yes (T : Array Nat) (s p h pc : Nat) (o : Bool) (seen : Seen) : ∃ m, (said1 T s p h pc o seen true).step = m /\ m.outcome = none /\ m.step.outcome = some .matched /\ m.step.start = s /\ m.step.handed = h /\ m.step.lastmark = -1 := ⟨_, rfl, rfl, rfl, rfl, rfl, rfl⟩
theorem step4_no (T : Array Nat) (s p h pc : Nat) (o : Bool) (seen : Seen) (hs : s < T.size) : (said1 T s p h pc o seen false).step = at1 T (s + 1) false seen := by
 show (if s < T.size then _ else _) = _
 rw [if_pos hs]
 rfl
theorem step4_end (T : Array Nat) (s p h pc : Nat) (o : Bool) (seen : Seen) (hs : ¬ s < T.size) : ∃ m, (said1 T s p h pc o seen false).step = m /\ m.outcome = none /\ m.step.outcome = some .failed := by
 refine ⟨_, rfl, ?_, ?_⟩
 . show (if s < T.size then _ else _ : M).outcome = _
   rw [if_neg hs]; rfl
 . show (M.step (if s < T.size then _ else _)).outcome = _
   rw [if_neg hs]; rfl
noncomputable def code3 : Array Nat := #[14, 9, 4, 1, 2, 16, 10, 16, 13, 0, 7, 7, 16, 13, 16, 10, 15, 18, 5, 16, 10, 15, 13, 11, 16, 13, 5, 5, 0, 16, 10, 1, 15, 2, 0, 1]
noncomputable def m3 (T : Array Nat) (s : Nat) (fr : List Frame) (w pc p h : Nat) (o : Bool) (ans : Option Bool) (seen : Seen) : M :=
 { code := code3, text := T, lim := T.size, start := s, lastStart := T.size, pc := pc, pos := p, handed := h, outermost := o, marks := #[], frames := fr, weight := w, answer := ans, seen }
noncomputable abbrev F0 (s : Nat) (o : Bool) : Frame := { wait := .nextStart, pc := 10, pos := s, outermost := o }
noncomputable abbrev FB (k s : Nat) (o : Bool) : Frame := { wait := .nextBranch, pc := k, pos := s, outermost := o, kept := { lastmark := -1, lastindex := -1, whole := false, marks := #[] } }
noncomputable abbrev FL (s : Nat) (o : Bool) : Frame := { wait := .lookNot, pc := 26, pos := s + 1, outermost := o, kept := { lastmark := -1, lastindex := -1, whole := false, marks := #[] } }
theorem lit12 (T : Array Nat) (s : Nat) (fr : List Frame) (w p h : Nat) (o : Bool) (seen : Seen) : (m3 T s fr w 12 p h o none seen).step = if p ≥ T.size then m3 T s fr w 12 p h o (some false) (seen.add 16) else if (T.getD p 0 == 13) = true then m3 T s fr w 14 (p + 1) h o none (seen.add 16) else m3 T s fr w 12 p h o (some false) (seen.add 16) := by
 show (if p ≥ T.size then _ else _) = _
 by_cases hp : p ≥ T.size
 . rw [if_pos hp, if_pos hp]; rfl
 . rw [if_neg hp, if_neg hp]
   show (match (Except.ok (T.getD p 0 == 13, seen.add 16) : Except String (Bool × Seen)) with
     | .error why => _
     | .ok (false, seen) => _
     | .ok (true, seen) => _) = _
   cases hb : (T.getD p 0 == 13) <;> rfl
theorem lit14 (T : Array Nat) (s : Nat) (fr : List Frame) (w p h : Nat) (o : Bool) (seen : Seen) : (m3 T s fr w 14 p h o none seen).step = if p ≥ T.size then m3 T s fr w 14 p h o (some false) (seen.add 16) else if (T.getD p 0 == 10) = true then m3 T s fr w 16 (p + 1) h o none (seen.add 16) else m3 T s fr w 14 p h o (some false) (seen.add 16) := by
 show (if p ≥ T.size then _ else _) = _
 by_cases hp : p ≥ T.size
 . rw [if_pos hp, if_pos hp]; rfl
 . rw [if_neg hp, if_neg hp]
   show (match (Except.ok (T.getD p 0 == 10, seen.add 16) : Except String (Bool × Seen)) with
     | .error why => _
     | .ok (false, seen) => _
     | .ok (true, seen) => _) = _
   cases hb : (T.getD p 0 == 10) <;> rfl
theorem lit19 (T : Array Nat) (s : Nat) (fr : List Frame) (w p h : Nat) (o : Bool) (seen : Seen) : (m3 T s fr w 19 p h o none seen).step = if p ≥ T.size then m3 T s fr w 19 p h o (some false) (seen.add 16) else if (T.getD p 0 == 10) = true then m3 T s fr w 21 (p + 1) h o none (seen.add 16) else m3 T s fr w 19 p h o (some false) (seen.add 16) := by
 show (if p ≥ T.size then _ else _) = _
 by_cases hp : p ≥ T.size
 . rw [if_pos hp, if_pos hp]; rfl
 . rw [if_neg hp, if_neg hp]
   show (match (Except.ok (T.getD p 0 == 10, seen.add 16) : Except String (Bool × Seen)) with
     | .error why => _
     | .ok (false, seen) => _
     | .ok (true, seen) => _) = _
   cases hb : (T.getD p 0 == 10) <;> rfl
theorem lit24 (T : Array Nat) (s : Nat) (fr : List Frame) (w p h : Nat) (o : Bool) (seen : Seen) : (m3 T s fr w 24 p h o none seen).step = if p ≥ T.size then m3 T s fr w 24 p h o (some false) (seen.add 16) else if (T.getD p 0 == 13) = true then m3 T s fr w 26 (p + 1) h o none (seen.add 16) else m3 T s fr w 24 p h o (some false) (seen.add 16) := by
 show (if p ≥ T.size then _ else _) = _
 by_cases hp : p ≥ T.size
 . rw [if_pos hp, if_pos hp]; rfl
 . rw [if_neg hp, if_neg hp]
   show (match (Except.ok (T.getD p 0 == 13, seen.add 16) : Except String (Bool × Seen)) with
     | .error why => _
     | .ok (false, seen) => _
     | .ok (true, seen) => _) = _
   cases hb : (T.getD p 0 == 13) <;> rfl
theorem lit29 (T : Array Nat) (s : Nat) (fr : List Frame) (w p h : Nat) (o : Bool) (seen : Seen) : (m3 T s fr w 29 p h o none seen).step = if p ≥ T.size then m3 T s fr w 29 p h o (some false) (seen.add 16) else if (T.getD p 0 == 10) = true then m3 T s fr w 31 (p + 1) h o none (seen.add 16) else m3 T s fr w 29 p h o (some false) (seen.add 16) := by
 show (if p ≥ T.size then _ else _) = _
 by_cases hp : p ≥ T.size
 . rw [if_pos hp, if_pos hp]; rfl
 . rw [if_neg hp, if_neg hp]
   show (match (Except.ok (T.getD p 0 == 10, seen.add 16) : Except String (Bool × Seen)) with
     | .error why => _
     | .ok (false, seen) => _
     | .ok (true, seen) => _) = _
   cases hb : (T.getD p 0 == 10) <;> rfl
section
variable (T : Array Nat) (s w pc p h : Nat) (o o' : Bool) (fr : List Frame) (seen : Seen)
theorem br10 : (m3 T s [F0 s o] 1 10 s s o none seen).step = m3 T s [FB 11 s o, F0 s o] 2 12 s s o none (seen.add 7) := rfl
theorem no11 : (m3 T s [FB 11 s o, F0 s o] 2 pc p h o (some false) seen).step = m3 T s [FB 18 s o, F0 s o] 2 19 s s o none seen := rfl
theorem no18 : (m3 T s [FB 18 s o, F0 s o] 2 pc p h o (some false) seen).step = m3 T s [FB 23 s o, F0 s o] 2 24 s s o none seen := rfl
theorem yesB (k : Nat) : (m3 T s [FB k s o, F0 s o] 2 pc p h o (some true) seen).step = m3 T s [F0 s o] 1 k s h o (some true) seen := rfl
theorem yes0 : (m3 T s [F0 s o] 1 pc p h o (some true) seen).step = m3 T s [] 0 10 s h o (some true) seen := rfl
theorem fin3 : (m3 T s [] 0 pc p h o (some true) seen).step = { m3 T s [] 0 pc p h o (some true) seen with outcome := some .matched } := rfl
theorem jump16 : (m3 T s fr w 16 p h o none seen).step = m3 T s fr w 35 p h o none (seen.add 15) := rfl
theorem jump21 : (m3 T s fr w 21 p h o none seen).step = m3 T s fr w 35 p h o none (seen.add 15) := rfl
theorem jump32 : (m3 T s fr w 32 p h o none seen).step = m3 T s fr w 35 p h o none (seen.add 15) := rfl
theorem succ35 : (m3 T s fr w 35 p h o none seen).step = m3 T s fr w 35 p p o (some true) (seen.add 1) := by
 show (if (o && ((false && p != T.size) || (false && p == s))) = true then _ else _) = _
 rw [Bool.false_and, Bool.false_and, Bool.or_false, Bool.and_false]
 rfl
theorem an26 : (m3 T s [FB 23 s o, F0 s o] 2 26 (s + 1) h o none seen).step = m3 T s [FL s o, FB 23 s o, F0 s o] 3 29 (s + 1) (s + 1) false none (seen.add 5) := rfl
theorem noL : (m3 T s [FL s o, FB 23 s o, F0 s o] 3 pc p h o' (some false) seen).step = m3 T s [FB 23 s o, F0 s o] 2 32 (s + 1) h o none seen := rfl
end
end Rx
end
section
namespace Rx
open PySem.Sre
noncomputable def Res (m : M) : Option (Nat × Nat) -> Prop
 | some (s, e) => m.outcome = some .matched /\ m.start = s /\ m.handed = e
 | none => m.outcome = some .failed
noncomputable def Ends (N : Nat) (m : M) (r : Option (Nat × Nat)) : Prop := ∃ n m', n <= N /\ M.runFor n m = m' /\ Res m' r
theorem Ends.step {N : Nat} {m m' : M} {r : Option (Nat × Nat)} (ho : m.outcome = none) (e : m.step = m') (h : Ends N m' r) : Ends (N + 1) m r := by
 obtain ⟨n, x, h1, h2, h3⟩ := h
 exact ⟨n + 1, x, Nat.succ_le_succ h1, by rw [runFor_step ho, e]; exact h2, h3⟩
theorem Ends.le {N N' : Nat} {m : M} {r : Option (Nat × Nat)} (h : Ends N m r) (hl : N <= N') : Ends N' m r := let ⟨n, x, h1, h2⟩ := h; ⟨n, x, ntr h1 hl, h2⟩
theorem Ends.now {m : M} {r : Option (Nat × Nat)} (h : Res m r) : Ends 0 m r := ⟨0, m, Nat.le_refl _, rfl, h⟩
noncomputable def nx1 (T : Array Nat) : Nat -> Nat -> Option (Nat × Nat)
 | 0, _ => none
 | k + 1, s => if hit1 T s = true then some (s, s + 1) else nx1 T k (s + 1)
theorem find1 (T : Array Nat) : ∀ (k s : Nat) (o : Bool) (seen : Seen), s + k = T.size -> Ends (6 * k + 6) (at1 T s o seen) (nx1 T k s)
 | 0, s, o, seen, h => by
   have hs : ¬ s < T.size := by lia
   refine Ends.le (N := 5) ?_ (by lia)
   by_cases h1 : (s == 0 || T.getD (s - 1) 0 == 10) = true
   . refine Ends.step rfl ((step1 T s o seen).trans (if_pos h1)) (Ends.step rfl ((step2 T s o _).trans (if_pos (Nat.le_of_not_lt hs))) ?_)
     obtain ⟨m, e1, e2, e3⟩ := step4_end T s s s 7 o (((seen.add 6).add 44).add 16) hs
     exact (Ends.step rfl e1 (Ends.step e2 rfl (Ends.now (r := none) e3))).le (by lia)
   . refine (Ends.step rfl ((step1 T s o seen).trans (if_neg h1)) ?_ : Ends 4 _ _).le (by lia)
     obtain ⟨m, e1, e2, e3⟩ := step4_end T s s s 5 o ((seen.add 6).add 44) hs
     exact (Ends.step rfl e1 (Ends.step e2 rfl (Ends.now (r := none) e3))).le (by lia)
 | k + 1, s, o, seen, h => by
   have hs : s < T.size := by lia
   by_cases h1 : (s == 0 || T.getD (s - 1) 0 == 10) = true
   . by_cases h2 : (T.getD s 0 == 46) = true
     . have hh : hit1 T s = true := by unfold hit1; rw [h1, h2, decide_eq_true hs]; rfl
       rw [nx1, if_pos hh]
       refine (Ends.step rfl ((step1 T s o seen).trans (if_pos h1)) (Ends.step rfl ((step2 T s o _).trans ((if_neg (Nat.not_le_of_lt hs)).trans (if_pos h2))) (Ends.step rfl (step3 T s (s + 1) o _) ?_)) : Ends 8 _ _).le (by lia)
       obtain ⟨m, e1, e2, e3, e4, e5, O⟩ := step4_yes T s (s + 1) (s + 1) 9 o ((((seen.add 6).add 44).add 16).add 1)
       exact (Ends.step rfl e1 (Ends.step e2 rfl (Ends.now (r := some (s, s + 1)) ⟨e3, e4, e5⟩))).le (by lia)
     . have hh : ¬ hit1 T s = true := by unfold hit1; rw [Bool.not_eq_true] at h2; rw [h2]; simp
       rw [nx1, if_neg hh]
       refine (Ends.step rfl ((step1 T s o seen).trans (if_pos h1)) (Ends.step rfl ((step2 T s o _).trans ((if_neg (Nat.not_le_of_lt hs)).trans (if_neg h2))) (Ends.step rfl (step4_no T s s s 7 o _ hs) (find1 T k (s + 1) false _ (by lia)))) : Ends (6 * k + 6 + 1 + 1 + 1) _ _).le (by lia)
   . have hh : ¬ hit1 T s = true := by unfold hit1; rw [Bool.not_eq_true] at h1; rw [h1]; simp
     rw [nx1, if_neg hh]
     exact (Ends.step rfl ((step1 T s o seen).trans (if_neg h1)) (Ends.step rfl (step4_no T s s s 5 o _ hs) (find1 T k (s + 1) false _ (by lia))) : Ends (6 * k + 6 + 1 + 1) _ _).le (by lia)
theorem search1 (T : Array Nat) (s : Nat) (hs : s <= T.size) : Ends (6 * T.size + 6) (forSearch code1 T 0 s T.size false) (nx1 T (T.size - s) s) := by
 by_cases hc : (decide (s > T.size) || decide (T.size - s < 1)) = true
 . have e : s = T.size := by simp at hc; lia
   subst e
   rw [Nat.sub_self]
   have : ∃ m, forSearch code1 T 0 T.size T.size false = m /\ m.outcome = none /\ m.step.outcome = some .failed := by
     refine ⟨_, rfl, ?_, ?_⟩
     . show (if (decide (T.size > T.size) || decide (T.size - T.size < 1)) = true then _ else _ : M).outcome = _
       rw [if_pos hc]; rfl
     . show (M.step (if (decide (T.size > T.size) || decide (T.size - T.size < 1)) = true then _ else _)).outcome = _
       rw [if_pos hc]; rfl
   obtain ⟨m, e1, e2, e3⟩ := this
   rw [e1]
   exact (Ends.step e2 rfl (Ends.now (r := none) e3)).le (by lia)
 . have e : forSearch code1 T 0 s T.size false = at1 T s true (({} : Seen).add 14) := by
     show (if (decide (s > T.size) || decide (T.size - s < 1)) = true then _ else _ : M) = _
     rw [if_neg hc]; rfl
   rw [e]
   exact (find1 T (T.size - s) s true _ (by lia)).le (by lia)
end Rx
end
section
namespace Rx
open PySem.Sre
noncomputable def crlfAt (T : Array Nat) (s : Nat) : Bool := T.getD s 0 == 13 && decide (s + 1 < T.size) && T.getD (s + 1) 0 == 10
noncomputable def end3 (T : Array Nat) (s : Nat) : Nat := if crlfAt T s = true then s + 2 else s + 1
noncomputable def hit3 (T : Array Nat) (s : Nat) : Bool := T.getD s 0 == 10 || T.getD s 0 == 13
noncomputable def nx3 (T : Array Nat) : Nat -> Nat -> Option (Nat × Nat)
 | 0, _ => none
 | k + 1, s => if hit3 T s = true then some (s, end3 T s) else nx3 T k (s + 1)
noncomputable def adm3 (T : Array Nat) : Nat -> Nat -> Option Nat
 | 0, _ => none
 | k + 1, s => if hit3 T s = true then some s else adm3 T k (s + 1)
theorem nx3_adm (T : Array Nat) : ∀ k s, nx3 T k s = (adm3 T k s).map fun s => (s, end3 T s)
 | 0, s => rfl
 | k + 1, s => by
   unfold nx3 adm3
   split
   . rfl
   . exact nx3_adm T k (s + 1)
theorem adm3_some {T : Array Nat} : ∀ {k s t : Nat}, adm3 T k s = some t -> hit3 T t = true /\ s <= t /\ t < s + k
 | k + 1, s, t, h => by
   unfold adm3 at h
   split at h
   . rename_i hh; cases h; exact ⟨hh, Nat.le_refl _, by lia⟩
   . obtain ⟨a, b, c⟩ := adm3_some h; exact ⟨a, by lia, by lia⟩
theorem inSet3 (c : Nat) (seen : Seen) : ∃ seen', inSet code3 c 36 5 true seen = .ok (c == 10 || c == 13, seen') := by
 refine ⟨if (c == 10) = true then seen.add 16 else if (c == 13) = true then (seen.add 16).add 16 else ((seen.add 16).add 16).add 0, ?_⟩
 show (if (c == 10) = true then _ else (if (c == 13) = true then _ else _)) = _
 cases h1 : (c == 10)
 . cases h2 : (c == 13) <;> rfl
 . rfl
theorem admitted3 (T : Array Nat) (m : M) (hc : m.code = code3) (ht : m.text = T) (hl : m.lim = T.size) : ∀ (k s f : Nat) (seen : Seen), s + k = T.size -> k < f -> ∃ seen', M.admitted m f s seen = .ok (adm3 T k s, seen')
 | 0, s, f + 1, seen, h, hf => ⟨seen, by
     unfold M.admitted
     rw [if_pos (by lia)]; rfl⟩
 | k + 1, s, f + 1, seen, h, hf => by
   obtain ⟨seen', e⟩ := inSet3 (T.getD s 0) seen
   obtain ⟨seen'', e'⟩ := admitted3 T m hc ht hl k (s + 1) f seen' (by lia) (by lia)
   unfold M.admitted adm3
   rw [if_neg (by lia), hc, ht, show code3.size = 36 from rfl, e]
   cases hb : (T.getD s 0 == 10 || T.getD s 0 == 13)
   . rw [if_neg (by unfold hit3; rw [hb]; simp)]
     exact ⟨seen'', e'⟩
   . rw [if_pos (by unfold hit3; exact hb)]
     exact ⟨seen', rfl⟩
theorem tail35 (T : Array Nat) (s p h k : Nat) (o : Bool) (seen : Seen) : Ends 4 (m3 T s [FB k s o, F0 s o] 2 35 p h o none seen) (some (s, p)) :=
 Ends.step rfl (succ35 ..) (Ends.step rfl (yesB ..) (Ends.step rfl (yes0 ..) (Ends.step rfl (fin3 ..) (Ends.now (r := some (s, p)) ⟨rfl, rfl, rfl⟩))))
theorem run3 (T : Array Nat) (s : Nat) (o : Bool) (seen : Seen) (hs : s < T.size) (hh : hit3 T s = true) : Ends 20 (m3 T s [F0 s o] 1 10 s s o none seen) (some (s, end3 T s)) := by
 have hs' : ¬ s ≥ T.size := Nat.not_le_of_lt hs
 refine (Ends.step rfl (br10 ..) ?_ : Ends 20 _ _)
 by_cases h13 : (T.getD s 0 == 13) = true
 . have h10 : ¬ (T.getD s 0 == 10) = true := by
     have := beq_iff_eq.mp h13
     simp [this]
   by_cases hc : crlfAt T s = true
   . obtain ⟨⟨_, h1⟩, h2⟩ : (((T.getD s 0 == 13) = true /\ decide (s + 1 < T.size) = true) /\ (T.getD (s + 1) 0 == 10) = true) := by
       unfold crlfAt at hc; simpa only [Bool.and_eq_true] using hc
     have h1' : ¬ s + 1 ≥ T.size := Nat.not_le_of_lt (of_decide_eq_true h1)
     rw [end3, if_pos hc]
     refine (Ends.step rfl ((lit12 ..).trans ((if_neg hs').trans (if_pos h13))) (Ends.step rfl ((lit14 ..).trans ((if_neg h1').trans (if_pos h2))) (Ends.step rfl (jump16 ..) ?_)) : Ends 19 _ _)
     exact (tail35 ..).le (by lia)
   . rw [end3, if_neg hc]
     have no : ∀ seen', ∃ seen'' , (m3 T s [FB 11 s o, F0 s o] 2 14 (s + 1) s o none seen').step = m3 T s [FB 11 s o, F0 s o] 2 14 (s + 1) s o (some false) seen'' := fun seen' => by
       by_cases h1 : s + 1 ≥ T.size
       . exact ⟨_, (lit14 ..).trans (if_pos h1)⟩
       . refine ⟨_, (lit14 ..).trans ((if_neg h1).trans (if_neg fun h2 => hc ?_))⟩
         unfold crlfAt
         rw [h13, h2, decide_eq_true (Nat.lt_of_not_le h1)]; rfl
     have noA : ∀ h seen', ∃ seen'' , (m3 T s [FL s o, FB 23 s o, F0 s o] 3 29 (s + 1) h false none seen').step = m3 T s [FL s o, FB 23 s o, F0 s o] 3 29 (s + 1) h false (some false) seen'' := fun h seen' => by
       by_cases h1 : s + 1 ≥ T.size
       . exact ⟨_, (lit29 ..).trans (if_pos h1)⟩
       . refine ⟨_, (lit29 ..).trans ((if_neg h1).trans (if_neg fun h2 => hc ?_))⟩
         unfold crlfAt
         rw [h13, h2, decide_eq_true (Nat.lt_of_not_le h1)]; rfl
     obtain ⟨s1, e1⟩ := no ((seen.add 7).add 16)
     refine (Ends.step rfl ((lit12 ..).trans ((if_neg hs').trans (if_pos h13))) (Ends.step rfl e1 (Ends.step rfl (no11 ..) (Ends.step rfl ((lit19 ..).trans ((if_neg hs').trans (if_neg h10))) (Ends.step rfl (no18 ..) (Ends.step rfl ((lit24 ..).trans ((if_neg hs').trans (if_pos h13))) (Ends.step rfl (an26 ..) ?_)))))) : Ends 19 _ _)
     obtain ⟨s2, e2⟩ := noA (s + 1) ((((s1.add 16).add 16).add 5))
     refine (Ends.step rfl e2 (Ends.step rfl (noL ..) (Ends.step rfl (jump32 ..) ?_)) : Ends 12 _ _)
     exact (tail35 ..).le (by lia)
 . have h10 : (T.getD s 0 == 10) = true := by
     unfold hit3 at hh
     rw [Bool.not_eq_true] at h13
     rw [h13, Bool.or_false] at hh
     exact hh
   have hc : ¬ crlfAt T s = true := fun q => h13 (by unfold crlfAt at q; simp only [Bool.and_eq_true] at q; exact q.1.1)
   rw [end3, if_neg hc]
   refine (Ends.step rfl ((lit12 ..).trans ((if_neg hs').trans (if_neg h13))) (Ends.step rfl (no11 ..) (Ends.step rfl ((lit19 ..).trans ((if_neg hs').trans (if_pos h10))) (Ends.step rfl (jump21 ..) ?_))) : Ends 19 _ _)
   exact (tail35 ..).le (by lia)
theorem search3 (T : Array Nat) (s : Nat) (hs : s <= T.size) : Ends 20 (forSearch code3 T 0 s T.size false) (nx3 T (T.size - s) s) := by
 by_cases hc : (decide (s > T.size) || decide (T.size - s < 1)) = true
 . have e : s = T.size := by simp at hc; lia
   subst e
   rw [Nat.sub_self]
   have : ∃ m, forSearch code3 T 0 T.size T.size false = m /\ m.outcome = none /\ m.step.outcome = some .failed := by
     refine ⟨_, rfl, ?_, ?_⟩
     . show (if (decide (T.size > T.size) || decide (T.size - T.size < 1)) = true then _ else _ : M).outcome = _
       rw [if_pos hc]; rfl
     . show (M.step (if (decide (T.size > T.size) || decide (T.size - T.size < 1)) = true then _ else _)).outcome = _
       rw [if_pos hc]; rfl
   obtain ⟨m, e1, e2, e3⟩ := this
   rw [e1]
   exact (Ends.step e2 rfl (Ends.now (r := none) e3)).le (by lia)
 . let m0 : M := { code := code3, text := T, lim := T.size, start := s, lastStart := T.size, pc := 10, pos := s, handed := s, marks := #[], seen := ({} : Seen).add 14 }
   have e0 : forSearch code3 T 0 s T.size false = (match M.admitted m0 (T.size + 1 - s) s m0.seen with
       | .ok (some s, seen) => M.attemptAt { m0 with mustAdvance := false, seen } s true
       | .ok (none, seen) => { m0 with seen }.say false
       | .error why => m0.stick why) := by
     show (if (decide (s > T.size) || decide (T.size - s < 1)) = true then _ else _ : M) = _
     rw [if_neg hc]; rfl
   obtain ⟨seen', e⟩ := admitted3 T m0 rfl rfl rfl (T.size - s) s (T.size + 1 - s) m0.seen (by lia) (by lia)
   rw [e0, e, nx3_adm]
   cases ha : adm3 T (T.size - s) s with
   | none =>
     refine (Ends.step rfl rfl (Ends.now (r := none) ?_) : Ends 1 _ _).le (by lia)
     show M.outcome _ = _
     rfl
   | some t =>
     obtain ⟨h1, h2, h3⟩ := adm3_some ha
     have h4 := run3 T t true seen' (by lia) h1
     exact h4
end Rx
end
open PySem PySem.W PyProof.Rows
inductive PV where
 | none
 | bool (b : Bool)
 | int (i : Int)
 | str (s : Str)
 | bytes (b : Array UInt8)
 | tup (xs : List PV)
 | list (xs : List PV)
 | lref (a : Addr)
 | raw (v : Value)
noncomputable abbrev AH := List (Addr × List PV)
noncomputable abbrev St := List (Str × NameKind × Option PV)
noncomputable abbrev PQ := PV -> AH -> Prop
noncomputable abbrev SQ := St -> AH -> Prop
noncomputable abbrev BQ := Bool -> AH -> Prop
noncomputable abbrev LQ := List PV -> AH -> Prop
noncomputable abbrev IQ := List PV -> AH -> AH -> Prop
noncomputable abbrev tupObj (vs : Array Value) (n : Nat) : Obj := { cls := .type "tuple", dict := Option.none, data := .seq vs n, slots := #[] }
noncomputable abbrev lstObj (vs : Array Value) (n : Nat) : Obj := { cls := .type "list", dict := Option.none, data := .seq vs n, slots := #[] }
mutual
inductive VR (T : Addr -> Prop) (h : Heap) : Value -> PV -> Prop
 | none : VR T h Value.none PV.none
 | bool (b : Bool) : VR T h (.bool b) (.bool b)
 | int (i : Int) (t : Tok) : VR T h (.int i t) (.int i)
 | str (s : Str) (t : Tok) : VR T h (.str s t) (.str s)
 | bytes (b : Array UInt8) (t : Tok) : VR T h (.bytes b t) (.bytes b)
 | tup {a : Addr} {vs : Array Value} {n : Nat} {xs : List PV} : h.get? a = some (tupObj vs n) -> ¬ T a -> VRs T h vs.toList xs -> VR T h (.ref a) (.tup xs)
 | list {a : Addr} {vs : Array Value} {n : Nat} {xs : List PV} : h.get? a = some (lstObj vs n) -> ¬ T a -> VRs T h vs.toList xs -> VR T h (.ref a) (.list xs)
 | lref (a : Addr) : VR T h (.ref a) (.lref a)
 | raw (v : Value) : VR T h v (.raw v)
inductive VRs (T : Addr -> Prop) (h : Heap) : List Value -> List PV -> Prop
 | nil : VRs T h [] []
 | cons {v : Value} {p : PV} {vs : List Value} {ps : List PV} : VR T h v p -> VRs T h vs ps -> VRs T h (v :: vs) (p :: ps)
end
noncomputable def IsSeqO (o : Obj) : Prop := ∃ vs n, o.data = .seq vs n
theorem VR.mono {T T' : Addr -> Prop} {h h' : Heap} (hk : ∀ a o, h.get? a = some o -> IsSeqO o -> ¬ T a -> h'.get? a = some o) (ht : ∀ a, a < h.objs.size -> T' a -> T a) {v : Value} {p : PV} (r : VR T h v p) : VR T' h' v p :=
 VR.rec (motive_1 := fun v p O => VR T' h' v p) (motive_2 := fun vs ps O => VRs T' h' vs ps) .none .bool .int .str .bytes (fun ho hn O ih => .tup (hk _ _ ho ⟨_, _, rfl⟩ hn) (fun q => hn (ht _ (Heap.lt_size ho) q)) ih)
   (fun ho hn O ih => .list (hk _ _ ho ⟨_, _, rfl⟩ hn) (fun q => hn (ht _ (Heap.lt_size ho) q)) ih) .lref .raw .nil (fun O O a b => .cons a b) r
theorem VRs.ind {T : Addr -> Prop} {h : Heap} {P : List Value -> List PV -> Prop} (n : P [] []) (c : ∀ v p vs ps, VR T h v p -> VRs T h vs ps -> P vs ps -> P (v :: vs) (p :: ps)) {vs : List Value} {ps : List PV} (r : VRs T h vs ps) : P vs ps :=
 VRs.rec (motive_1 := fun O O O => True) (motive_2 := fun vs ps O => P vs ps) trivial (fun O => trivial) (fun O O => trivial) (fun O O => trivial) (fun O O => trivial) (fun O O O O => trivial) (fun O O O O => trivial) (fun O => trivial) (fun O => trivial) n (fun a b O ih => c _ _ _ _ a b ih) r
theorem VRs.mono {T T' : Addr -> Prop} {h h' : Heap} (hk : ∀ a o, h.get? a = some o -> IsSeqO o -> ¬ T a -> h'.get? a = some o) (ht : ∀ a, a < h.objs.size -> T' a -> T a) {vs : List Value} {ps : List PV} (r : VRs T h vs ps) : VRs T' h' vs ps :=
 r.ind .nil fun O O O O a O ih => .cons (a.mono hk ht) ih
noncomputable def VInv (T : Addr -> Prop) (h : Heap) (v : Value) : PV -> Prop
 | .none => v = .none
 | .bool b => v = .bool b
 | .int i => ∃ t, v = .int i t
 | .str x => ∃ t, v = .str x t
 | .bytes b => ∃ t, v = .bytes b t
 | .tup xs => ∃ a vs n, v = .ref a /\ h.get? a = some (tupObj vs n) /\ ¬ T a /\ VRs T h vs.toList xs
 | .list xs => ∃ a vs n, v = .ref a /\ h.get? a = some (lstObj vs n) /\ ¬ T a /\ VRs T h vs.toList xs
 | .lref a => v = .ref a
 | .raw w => v = w
theorem VR.inv {T : Addr -> Prop} {h : Heap} {v : Value} {p : PV} (r : VR T h v p) : VInv T h v p := match r with
 | .none => rfl
 | .bool _ => rfl
 | .int _ _ => ⟨_, rfl⟩
 | .str _ _ => ⟨_, rfl⟩
 | .bytes _ _ => ⟨_, rfl⟩
 | .tup ho hn hs => ⟨_, _, _, rfl, ho, hn, hs⟩
 | .list ho hn hs => ⟨_, _, _, rfl, ho, hn, hs⟩
 | .lref _ => rfl
 | .raw _ => rfl
theorem VRs.length {T : Addr -> Prop} {h : Heap} {vs : List Value} {ps : List PV} (r : VRs T h vs ps) : vs.length = ps.length := r.ind (P := fun vs ps => vs.length = ps.length) rfl fun O O O O O O ih => congrArg Nat.succ ih
theorem VRs.append {T : Addr -> Prop} {h : Heap} {vs vs' : List Value} {ps ps' : List PV} (r : VRs T h vs ps) (b : VRs T h vs' ps') : VRs T h (vs ++ vs') (ps ++ ps') := r.ind (P := fun vs ps => VRs T h (vs ++ vs') (ps ++ ps')) b fun O O O O a O ih => .cons a ih
theorem VRs.get {T : Addr -> Prop} {h : Heap} {vs : List Value} {ps : List PV} (r : VRs T h vs ps) {i : Nat} {p : PV} (e : ps[i]? = some p) : ∃ v, vs[i]? = some v /\ VR T h v p := by
 refine r.ind (P := fun vs ps => ∀ i, ps[i]? = some p -> ∃ v, vs[i]? = some v /\ VR T h v p) (fun i e => by simp at e) (fun v q vs ps a O ih i e => ?_) i e
 cases i with
 | zero => exact ⟨v, rfl, Option.some.inj e ▸ a⟩
 | succ i => exact ih i e
theorem VRs.take {T : Addr -> Prop} {h : Heap} {vs : List Value} {ps : List PV} (r : VRs T h vs ps) (i : Nat) : VRs T h (vs.take i) (ps.take i) := by
 refine r.ind (P := fun vs ps => ∀ i, VRs T h (vs.take i) (ps.take i)) (fun i => by rw [List.take_nil, List.take_nil]; exact .nil) (fun v q vs ps a O ih i => ?_) i
 cases i with
 | zero => exact .nil
 | succ i => exact .cons a (ih i)
theorem VRs.drop {T : Addr -> Prop} {h : Heap} {vs : List Value} {ps : List PV} (r : VRs T h vs ps) (i : Nat) : VRs T h (vs.drop i) (ps.drop i) := by
 refine r.ind (P := fun vs ps => ∀ i, VRs T h (vs.drop i) (ps.drop i)) (fun i => by rw [List.drop_nil, List.drop_nil]; exact .nil) (fun v q vs ps a b ih i => ?_) i
 cases i with
 | zero => exact .cons a b
 | succ i => exact ih i
theorem VRs.reverse {T : Addr -> Prop} {h : Heap} {vs : List Value} {ps : List PV} (r : VRs T h vs ps) : VRs T h vs.reverse ps.reverse :=
 r.ind (P := fun vs ps => VRs T h vs.reverse ps.reverse) .nil fun v p vs ps a O ih => by rw [List.reverse_cons, List.reverse_cons]; exact ih.append (.cons a .nil)
set_option genInjectivity false in
set_option genSizeOf false in
structure Base where
 prog : Program
 w : World
 g : Heap
 mg : Str -> Option Value
 mb : Str -> Option Value
 K : Frag
 tabs : List (Addr × Addr)
 qn : Addr -> Pos -> Option Str
 os : OsState
 inK : K.In g
 nsg : g.Ns mainGlobals mg
 nsb : g.Ns builtinsNs mb
 nolimit : g.NoLimit
 boot : ∀ x : Str, x ≠ "__name__" -> mb x = bootBuiltins x
 tabsHidden : ∀ q ∈ tabs, g.get? q.2 = Option.none
 low : ∀ q ∈ tabs, mainGlobals ≠ q.2
 hid : List (Addr × Obj) := []
noncomputable def Trk (B : Base) (H : AH) (a : Addr) : Prop := a ∈ H.map (·.1) \/ a ∈ B.tabs.map (·.2) \/ a ∈ B.hid.map (·.1)
inductive TabAt (qn : Addr -> Pos -> Option Str) (q : Addr × Addr) (h : Heap) : Prop
 | mk (ps : Array Value) (a : h.get? q.2 = some (tabObj ps)) (b : TriplesOk ps.toList) (c : ∀ pos cv, codeAmong pos ps.toList = some cv -> ∃ n, qn q.2 pos = some n /\ h.CodeRec cv n)
set_option genInjectivity false in
set_option genSizeOf false in
structure HidAt (g : Heap) (H : AH) (q : Addr × Obj) (h : Heap) : Prop where
 a : h.get? q.1 = some q.2
 b : IsSeqO q.2
 c : g.get? q.1 = Option.none
 d : q.1 ∉ H.map (·.1)
inductive ObjAt (g : Heap) (T : Addr -> Prop) (p : Addr × List PV) (h : Heap) : Prop
 | mk (a : g.get? p.1 = Option.none) (vs : Array Value) (n : Nat) (b : h.get? p.1 = some (lstObj vs n)) (c : VRs T h vs.toList p.2)
set_option genInjectivity false in
set_option genSizeOf false in
structure Inv (B : Base) (H : AH) (s : Shared) : Prop where
 keep : ∀ a o, B.g.get? a = some o -> s.heap.get? a = some o
 size : B.g.objs.size <= s.heap.objs.size
 tabs : ∀ q ∈ B.tabs, TabAt B.qn q s.heap
 bare : AllBare s.gens
 os : s.os = B.os
 nodup : (H.map (·.1)).Nodup
 hid : ∀ q ∈ B.hid, HidAt B.g H q s.heap
 objs : ∀ p ∈ H, ObjAt B.g (Trk B H) p s.heap
set_option genInjectivity false in
set_option genSizeOf false in
structure Step (T : Addr -> Prop) (s s' : Shared) : Prop where
 heap : ∀ a o, s.heap.get? a = some o -> ¬ T a -> s'.heap.get? a = some o
 size : s.heap.objs.size <= s'.heap.objs.size
 gens : ∀ (i : Nat) (x : GenState), s.gens[i]? = some x -> s'.gens[i]? = some x
theorem Step.refl {T : Addr -> Prop} {s : Shared} : Step T s s := ⟨fun O O e O => e, Nat.le_refl _, fun O O e => e⟩
theorem Step.trans {T T' : Addr -> Prop} {s s' s'' : Shared} (x : Step T s s') (y : Step T' s' s'') (ht : ∀ a, a < s.heap.objs.size -> T' a -> T a) : Step T s s'' :=
 ⟨fun a o e n => y.heap a o (x.heap a o e n) fun q => n (ht a (Heap.lt_size e) q), ntr x.size y.size, fun i z e => y.gens i z (x.gens i z e)⟩
theorem Step.weaken {T T' : Addr -> Prop} {s s' : Shared} (x : Step T s s') (ht : ∀ a, a < s.heap.objs.size -> T a -> T' a) : Step T' s s' :=
 ⟨fun a o e n => x.heap a o e fun q => n (ht a (Heap.lt_size e) q), x.size, x.gens⟩
noncomputable def NewKeys (H : AH) (s : Shared) (H' : AH) : Prop := ∀ a : Addr, a ∈ H'.map (fun p => p.1) -> a ∈ H.map (fun p => p.1) \/ s.heap.objs.size <= a
set_option genInjectivity false in
set_option genSizeOf false in
structure Tr (B : Base) (U : Addr -> Prop) (H : AH) (s : Shared) (H' : AH) (s' : Shared) : Prop where
 inv : Inv B H' s'
 step : Step (fun a => Trk B H a \/ U a) s s'
 keys : NewKeys H s H'
noncomputable def noU : Addr -> Prop := fun O => False
theorem Trk.new {B : Base} {H H' : AH} {s : Shared} (k : NewKeys H s H') {a : Addr} (ha : a < s.heap.objs.size) (t : Trk B H' a) : Trk B H a := by
 rcases t with t | t
 . rcases k a t with q | q
   . exact .inl q
   . exact absurd ha (nlr q)
 . exact .inr t
theorem Tr.refl {B : Base} {U : Addr -> Prop} {H : AH} {s : Shared} (I : Inv B H s) : Tr B U H s H s := ⟨I, .refl, fun O h => .inl h⟩
theorem Tr.trans {B : Base} {U : Addr -> Prop} {H H' H'' : AH} {s s' s'' : Shared} (x : Tr B U H s H' s') (y : Tr B U H' s' H'' s'') : Tr B U H s H'' s'' :=
 ⟨y.inv, x.step.trans y.step fun a ha q => q.imp (Trk.new x.keys ha) id, fun a ha => by
   rcases y.keys a ha with q | q
   . exact x.keys a q
   . exact .inr (ntr x.step.size q)⟩
theorem Tr.up {B : Base} {U : Addr -> Prop} {H H' : AH} {s s' : Shared} (x : Tr B noU H s H' s') : Tr B U H s H' s' :=
 ⟨x.inv, x.step.weaken fun O O q => q.imp id False.elim, x.keys⟩
theorem VR.tr {B : Base} {H H' : AH} {s s' : Shared} {v : Value} {p : PV} (r : VR (Trk B H) s.heap v p) (x : Tr B noU H s H' s') : VR (Trk B H') s'.heap v p :=
 r.mono (fun a o e O n => x.step.heap a o e fun q => q.elim n False.elim) fun O ha t => Trk.new x.keys ha t
theorem VRs.tr {B : Base} {H H' : AH} {s s' : Shared} {v : List Value} {p : List PV} (r : VRs (Trk B H) s.heap v p) (x : Tr B noU H s H' s') : VRs (Trk B H') s'.heap v p :=
 r.mono (fun a o e O n => x.step.heap a o e fun q => q.elim n False.elim) fun O ha t => Trk.new x.keys ha t
set_option genInjectivity false in
set_option genSizeOf false in
structure FnInfo where
 scope : Scope
 code : Option (Addr × Addr)
 qual : Str
 comp : Bool := false
set_option genInjectivity false in
set_option genSizeOf false in
structure EnvOk (B : Base) (fi : FnInfo) (env : Env) : Prop where
 scope : env.scope = fi.scope
 kind : fi.scope.kind = .function
 coro : fi.scope.isCoroutine = false
 globals : env.globals = mainGlobals
 builtins : env.builtins = builtinsNs
 qual : env.qual = fi.qual
 code : ∀ c P, fi.code = some (c, P) -> env.code = .ref c
 above : fi.comp = false -> ∀ x c, env.kindOf x = some .cell -> env.cells.lookup x = some c -> @LT.lt Nat _ env.locals c
 free : fi.comp = false -> ∀ x c, env.kindOf x = some .cell -> env.cells.lookup x = some c -> B.g.get? c = Option.none
noncomputable def VRo (T : Addr -> Prop) (h : Heap) (ov : Option Value) : Option PV -> Prop
 | Option.none => True
 | some p => ∃ v, ov = some v /\ VR T h v p
noncomputable def ownCell (env : Env) (a : Addr) : Prop := ∃ x, env.kindOf x = some .cell /\ env.cells.lookup x = some a /\ @LT.lt Nat _ env.locals a
noncomputable def ownU (env : Env) (a : Addr) : Prop := a = env.locals \/ ownCell env a
noncomputable def GlobIs (B : Base) (x : Str) (p : PV) : Prop :=
 ∃ v, (B.mg x = some v \/ (B.mg x = Option.none /\ bootBuiltins x = some v /\ x ≠ "__name__")) /\ ∀ T h, VR T h v p
inductive NsAt (T : Addr -> Prop) (env : Env) (σ : St) (h : Heap) : Prop
 | mk (m : Str -> Option Value) (a : h.Ns env.locals m) (b : ∀ x p, (x, NameKind.local, some p) ∈ σ -> VRo T h (m x) (some p))
inductive CellAt (T : Addr -> Prop) (env : Env) (h : Heap) (x : Str) (ov : Option PV) : Prop
 | mk (c : Addr) (w : Option Value) (a : env.cells.lookup x = some c) (b : h.IsCell c w) (d : VRo T h w ov)
set_option genInjectivity false in
set_option genSizeOf false in
structure FrameOk (B : Base) (env : Env) (σ : St) (H : AH) (s : Shared) : Prop where
 fresh : B.g.get? env.locals = Option.none
 apart : ∀ x y c, env.cells.lookup x = some c -> env.cells.lookup y = some c -> x = y
 keys : σ.map (fun e => (e.1, e.2.1)) = env.scope.names
 nodup : (env.scope.names.map (fun e => e.1)).Nodup
 ns : NsAt (Trk B H) env σ s.heap
 cell : ∀ x ov, (x, NameKind.cell, ov) ∈ σ \/ (x, NameKind.free, ov) ∈ σ -> CellAt (Trk B H) env s.heap x ov
 glob : ∀ x p, (x, NameKind.globalImplicit, some p) ∈ σ -> GlobIs B x p
theorem VRo.mono {T T' : Addr -> Prop} {h h' : Heap} (hk : ∀ a o, h.get? a = some o -> IsSeqO o -> ¬ T a -> h'.get? a = some o) (ht : ∀ a, a < h.objs.size -> T' a -> T a) {ov : Option Value} :
   ∀ {p : Option PV}, VRo T h ov p -> VRo T' h' ov p
 | Option.none, _ => trivial
 | some _, ⟨v, e, r⟩ => ⟨v, e, r.mono hk ht⟩
theorem lookup_of_nodup {α : Type} : ∀ {l : List (Str × α)} {x : Str} {k : α}, (l.map (fun e => e.1)).Nodup -> (x, k) ∈ l -> l.lookup x = some k
 | (y, q) :: r, x, k, hn, hm => by
   rw [List.map_cons, List.nodup_cons] at hn
   rcases mcp hm with e | hm
   . cases e; simp [List.lookup]
   . have hne : x ≠ y := fun e => hn.1 (by rw [<- e]; exact mmr ⟨_, hm, rfl⟩)
     rw [List.lookup_cons, beq_eq_false_iff_ne.mpr hne]
     exact lookup_of_nodup hn.2 hm
theorem FrameOk.kindOf {B : Base} {env : Env} {σ : St} {H : AH} {s : Shared} (F : FrameOk B env σ H s) {x : Str} {k : NameKind} {ov : Option PV} (hm : (x, k, ov) ∈ σ) : env.kindOf x = some k := by
 refine lookup_of_nodup F.nodup ?_
 rw [<- F.keys]
 exact List.mem_map_of_mem (f := fun e : Str × NameKind × Option PV => (e.1, e.2.1)) hm
theorem not_key_of {B : Base} {H : AH} {s : Shared} (I : Inv B H s) {a : Addr} {o : Obj} (e : s.heap.get? a = some o) (hd : ∀ vs n, o.data ≠ .seq vs n) : a ∉ H.map (·.1) := fun q => by
 obtain ⟨p, hp, rfl⟩ := mmp q
 obtain ⟨O, vs, n, e', O⟩ := I.objs p hp
 rw [e] at e'; cases e'; exact hd _ _ rfl
theorem not_tab_of {B : Base} {H : AH} {s : Shared} (I : Inv B H s) {a : Addr} {o : Obj} (e : s.heap.get? a = some o) (hd : ∀ vs, o.data ≠ .fields vs) : a ∉ B.tabs.map (·.2) := fun q => by
 obtain ⟨p, hp, rfl⟩ := mmp q
 obtain ⟨ps, e', O⟩ := I.tabs p hp
 rw [e] at e'; cases e'; exact hd _ rfl
theorem not_hid_of {B : Base} {H : AH} {s : Shared} (I : Inv B H s) {a : Addr} {o : Obj} (e : s.heap.get? a = some o) (hd : ∀ vs n, o.data ≠ .seq vs n) : a ∉ B.hid.map (·.1) := fun q => by
 obtain ⟨p, hp, rfl⟩ := mmp q
 obtain ⟨e', ⟨vs, n, hs⟩, O⟩ := I.hid p hp
 rw [e] at e'; cases e'; exact hd _ _ hs
theorem not_trk_of {B : Base} {H : AH} {s : Shared} (I : Inv B H s) {a : Addr} {o : Obj} (e : s.heap.get? a = some o) (hd : ∀ vs n, o.data ≠ .seq vs n) (hd' : ∀ vs, o.data ≠ .fields vs) : ¬ Trk B H a :=
 fun q => q.elim (not_key_of I e hd) fun q => q.elim (not_tab_of I e hd') (not_hid_of I e hd)
theorem FrameOk.tr {B : Base} {env : Env} {σ : St} {H H' : AH} {s s' : Shared} (F : FrameOk B env σ H s) (I : Inv B H s) (x : Tr B noU H s H' s') : FrameOk B env σ H' s' := by
 have hk : ∀ a o, s.heap.get? a = some o -> ¬ Trk B H a -> s'.heap.get? a = some o := fun a o e n => x.step.heap a o e fun q => q.elim n False.elim
 have ht : ∀ a, a < s.heap.objs.size -> Trk B H' a -> Trk B H a := fun a ha t => Trk.new x.keys ha t
 refine ⟨F.fresh, F.apart, F.keys, F.nodup, ?_, fun y ov hy => ?_, F.glob⟩
 . obtain ⟨m, ⟨o, es, ep, ho, hd, r⟩, hm⟩ := F.ns
   exact ⟨m, ⟨o, es, ep, hk _ _ ho (not_trk_of I ho (by rw [hd]; nofun) (by rw [hd]; nofun)), hd, r⟩, fun y p hy => (hm y p hy).mono (fun a o e O n => hk a o e n) ht⟩
 . obtain ⟨c, w, hc, ⟨o, ho, hd⟩, hv⟩ := F.cell y ov hy
   exact ⟨c, w, hc, ⟨o, hk _ _ ho (not_trk_of I ho (by rw [hd]; nofun) (by rw [hd]; nofun)), hd⟩, hv.mono (fun a o e O n => hk a o e n) ht⟩
set_option genInjectivity false in
set_option genSizeOf false in
structure Room (A : Around) (d : Nat) : Prop where
 handled : A.handled = Option.none
 depth : A.depth + d < recursionLimit
 units : A.units + 8 * d + 100 < cLine
theorem Room.deeper {A : Around} {d : Nat} (R : Room A (d + 1)) (env : Env) : Room (A.deeper env) d :=
 ⟨R.handled, by have := R.depth; show A.depth + 1 + d < _; lia, by have := R.units; show A.units + 3 + 8 * d + 100 < _; lia⟩
theorem Room.le {A : Around} {d d' : Nat} (R : Room A d) (h : d' <= d) : Room A d' :=
 ⟨R.handled, by have := R.depth; lia, by have := R.units; lia⟩
noncomputable abbrev EP := Value -> Shared -> Prop
inductive EvPost (B : Base) (H : AH) (s : Shared) (Q : PQ) (r : Value) (s' : Shared) : Prop
 | mk (v : PV) (H' : AH) (t : Tr B noU H s H' s') (h : VR (Trk B H') s'.heap r v) (q : Q v H')
noncomputable def Ev (B : Base) (fi : FnInfo) (d : Nat) (E : EP) (e : Expr) (σ : St) (H : AH) (Q : PQ) : Prop :=
 ∀ A s env, EnvOk B fi env -> Room A d -> Inv B H s -> FrameOk B env σ H s ->
   wpAny (model B.prog B.w) A (eval e env) (EvPost B H s Q) E s
inductive PF where
 | brk | cont | ret (v : PV)
noncomputable abbrev FQ := St -> PF -> AH -> Prop
noncomputable def FlowIs (T : Addr -> Prop) (h : Heap) : Flow -> PF -> Prop
 | .brk, .brk => True
 | .cont, .cont => True
 | .ret v, .ret p => VR T h v p
 | _, _ => False
noncomputable def XAlt (B : Base) (Qn : SQ) (Qf : FQ) (σ' : St) (H' : AH) (fl : Flow) (s' : Shared) : Prop :=
 (fl = .next /\ Qn σ' H') \/ ∃ pf, FlowIs (Trk B H') s'.heap fl pf /\ Qf σ' pf H'
inductive XsPost (B : Base) (env : Env) (H : AH) (s : Shared) (Qn : SQ) (Qf : FQ) (fl : Flow) (s' : Shared) : Prop
 | mk (σ' : St) (H' : AH) (t : Tr B (ownU env) H s H' s') (F : FrameOk B env σ' H' s') (q : XAlt B Qn Qf σ' H' fl s')
noncomputable def Xs (B : Base) (fi : FnInfo) (d : Nat) (E : EP) (b : List Stmt) (σ : St) (H : AH) (Qn : SQ) (Qf : FQ) : Prop :=
 ∀ A s env, EnvOk B fi env -> Room A d -> Inv B H s -> FrameOk B env σ H s ->
   wpAny (model B.prog B.w) A (execs b env) (XsPost B env H s Qn Qf) E s
noncomputable def X (B : Base) (fi : FnInfo) (d : Nat) (E : EP) (st : Stmt) (σ : St) (H : AH) (Qn : SQ) (Qf : FQ) : Prop :=
 ∀ A s env, EnvOk B fi env -> Room A d -> Inv B H s -> FrameOk B env σ H s ->
   wpAny (model B.prog B.w) A (exec st env) (XsPost B env H s Qn Qf) E s
inductive TPost (B : Base) (H : AH) (s : Shared) (Q : BQ) (b : Bool) (s' : Shared) : Prop
 | mk (H' : AH) (t : Tr B noU H s H' s') (q : Q b H')
inductive LPost (B : Base) (H : AH) (s : Shared) (n : Nat) (Q : LQ) (vs : List Value) (s' : Shared) : Prop
 | mk (ps : List PV) (H' : AH) (t : Tr B noU H s H' s') (l : vs.length = n) (r : VRs (Trk B H') s'.heap vs ps) (q : Q ps H')
theorem EvPost.trans {B : Base} {H H₁ : AH} {s s₁ : Shared} {Q : PQ} {r : Value} {s' : Shared} (t : Tr B noU H s H₁ s₁) (p : EvPost B H₁ s₁ Q r s') : EvPost B H s Q r s' := by
 obtain ⟨v, H', t', r', q⟩ := p
 exact ⟨v, H', t.trans t', r', q⟩
theorem EvPost.mono {B : Base} {H : AH} {s : Shared} {Q Q' : PQ} {r : Value} {s' : Shared} (h : ∀ v H', Q v H' -> Q' v H') (p : EvPost B H s Q r s') : EvPost B H s Q' r s' := by
 obtain ⟨v, H', t', r', q⟩ := p
 exact ⟨v, H', t', r', h _ _ q⟩
theorem EvPost.here {B : Base} {H : AH} {s : Shared} {Q : PQ} {r : Value} {v : PV} (I : Inv B H s) (hr : VR (Trk B H) s.heap r v) (q : Q v H) : EvPost B H s Q r s :=
 ⟨v, H, .refl I, hr, q⟩
theorem Inv.tok {B : Base} {H : AH} {s : Shared} (I : Inv B H s) (t : Nat) : Inv B H { s with toks := t } := ⟨I.keep, I.size, I.tabs, I.bare, I.os, I.nodup, I.hid, I.objs⟩
theorem Tr.tok {B : Base} {H : AH} {s : Shared} (I : Inv B H s) (t : Nat) : Tr B noU H s H { s with toks := t } := ⟨I.tok t, ⟨fun O O e O => e, Nat.le_refl _, fun O O e => e⟩, fun O h => .inl h⟩
theorem Inv.push {B : Base} {H : AH} {s : Shared} (I : Inv B H s) (o : Obj) : Inv B H { s with heap := s.heap.push o } := by
 have hk : ∀ a ob, s.heap.get? a = some ob -> IsSeqO ob -> ¬ Trk B H a -> (s.heap.push o).get? a = some ob := fun a ob e O O => Heap.get?_push_of_some _ e
 refine ⟨fun a ob e => Heap.get?_push_of_some _ (I.keep a ob e), ?_, fun q hq => ?_, I.bare, I.os, I.nodup, fun q hq => let ⟨a, b, c, e⟩ := I.hid q hq; ⟨Heap.get?_push_of_some _ a, b, c, e⟩, fun p hp => ?_⟩
 . show B.g.objs.size <= (s.heap.push o).objs.size
   rw [Heap.size_push]; exact Nat.le_succ_of_le I.size
 . obtain ⟨ps, h1, h2, h3⟩ := I.tabs q hq
   exact ⟨ps, Heap.get?_push_of_some _ h1, h2, fun pos cv hc => let ⟨qn, a, b⟩ := h3 pos cv hc; ⟨qn, a, b.keeps fun O O e => Heap.get?_push_of_some _ e⟩⟩
 . obtain ⟨h1, vs, n, h2, h3⟩ := I.objs p hp
   exact ⟨h1, vs, n, Heap.get?_push_of_some _ h2, h3.mono hk fun O O t => t⟩
theorem Tr.push {B : Base} {H : AH} {s : Shared} (I : Inv B H s) (o : Obj) : Tr B noU H s H { s with heap := s.heap.push o } :=
 ⟨I.push o, ⟨fun O O e O => Heap.get?_push_of_some _ e, by show _ <= (s.heap.push o).objs.size; rw [Heap.size_push]; exact Nat.le_succ _, fun O O e => e⟩, fun O h => .inl h⟩
theorem not_trk_size {B : Base} {H : AH} {s : Shared} (I : Inv B H s) : ¬ Trk B H s.heap.objs.size := by
 intro q
 rcases q with q | q
 . obtain ⟨p, hp, e⟩ := mmp q
   obtain ⟨O, vs, n, h2, O⟩ := I.objs p hp
   exact absurd (Heap.lt_size h2) (by rw [e]; exact Nat.lt_irrefl _)
 . rcases q with q | q
   . obtain ⟨p, hp, e⟩ := mmp q
     obtain ⟨ps, h2, O⟩ := I.tabs p hp
     exact absurd (Heap.lt_size h2) (by rw [e]; exact Nat.lt_irrefl _)
   . obtain ⟨p, hp, e⟩ := mmp q
     obtain ⟨h2, O⟩ := I.hid p hp
     exact absurd (Heap.lt_size h2) (by rw [e]; exact Nat.lt_irrefl _)
theorem Tr.track {B : Base} {H : AH} {s : Shared} {vs : List Value} {xs : List PV} (I : Inv B H s) (hv : VRs (Trk B H) s.heap vs xs) :
   Tr B noU H s ((s.heap.objs.size, xs) :: H) { s with heap := s.heap.push (lstObj vs.toArray 0) } := by
 have J := I.push (lstObj vs.toArray 0)
 have hn : s.heap.objs.size ∉ H.map (·.1) := fun q => not_trk_size I (.inl q)
 have ht : ∀ a, a < s.heap.objs.size -> Trk B ((s.heap.objs.size, xs) :: H) a -> Trk B H a := by
   intro a ha t
   rcases t with t | t
   . rcases mcp t with q | q
     . exact absurd ha (by rw [show a = s.heap.objs.size from q]; exact Nat.lt_irrefl _)
     . exact .inl q
   . exact .inr t
 have hk : ∀ a ob, s.heap.get? a = some ob -> IsSeqO ob -> ¬ Trk B H a -> (s.heap.push (lstObj vs.toArray 0)).get? a = some ob := fun a ob e O O => Heap.get?_push_of_some _ e
 refine ⟨⟨J.keep, J.size, J.tabs, J.bare, J.os, List.nodup_cons.mpr ⟨hn, I.nodup⟩, fun q hq => let ⟨a, b, c, e⟩ := I.hid q hq; ⟨Heap.get?_push_of_some _ a, b, c, fun t => (mcp t).elim (fun t => absurd (Heap.lt_size a) (by rw [t]; exact Nat.lt_irrefl _)) e⟩, fun p hp => ?_⟩, (Tr.push I _).step, fun a ha => ?_⟩
 . rcases mcp hp with rfl | hp
   . refine ⟨Heap.get?_none_of_le I.size, vs.toArray, 0, Heap.get?_push_size _ rfl, ?_⟩
     exact hv.mono hk ht
   . obtain ⟨h1, vs', n, h2, h3⟩ := I.objs p hp
     exact ⟨h1, vs', n, Heap.get?_push_of_some _ h2, h3.mono hk ht⟩
 . rcases mcp ha with q | q
   . exact .inr (Nat.le_of_eq q.symm)
   . exact .inl q
theorem wpAny_no {α : Type} {M : Model} {A : Around} {E : EP} {s : Shared} {c : Prop} [Decidable c] {x y : Sem α} {Q : α -> Shared -> Prop} (hc : ¬ c) (h : wpAny M A y Q E s) : wpAny M A (if c then x else y) Q E s := by rw [if_neg hc]; exact h
theorem wpAny_if {α : Type} {M : Model} {A : Around} {E : EP} {s : Shared} {c : Prop} [Decidable c] {x y : Sem α} {Q : α -> Shared -> Prop} (h1 : c -> wpAny M A x Q E s) (h2 : ¬ c -> wpAny M A y Q E s) : wpAny M A (if c then x else y) Q E s := by
 by_cases h : c
 . rw [if_pos h]; exact h1 h
 . rw [if_neg h]; exact h2 h
section
variable {B : Base} {fi : FnInfo} {d : Nat} {E : EP} {σ : St} {H : AH}
theorem Ev.mono {e : Expr} {Q Q' : PQ} (h : Ev B fi d E e σ H Q) (hq : ∀ v H', Q v H' -> Q' v H') : Ev B fi d E e σ H Q' :=
 fun A s env e R I F => wpAny_mono (h A s env e R I F) (fun O O p => EvPost.mono hq p) fun O O x => x
noncomputable def V1 (B : Base) (d : Nat) (E : EP) (t : Value -> Sem Value) (a : PV) (H : AH) (Q : PQ) : Prop :=
 ∀ A s, Room A d -> Inv B H s -> ∀ va, VR (Trk B H) s.heap va a -> wpAny (model B.prog B.w) A (t va) (EvPost B H s Q) E s
noncomputable def V2 (B : Base) (d : Nat) (E : EP) (t : Value -> Value -> Sem Value) (a b : PV) (H : AH) (Q : PQ) : Prop :=
 ∀ A s, Room A d -> Inv B H s -> ∀ va vb, VR (Trk B H) s.heap va a -> VR (Trk B H) s.heap vb b -> wpAny (model B.prog B.w) A (t va vb) (EvPost B H s Q) E s
noncomputable def Tru (B : Base) (d : Nat) (E : EP) (a : PV) (H : AH) (Q : BQ) : Prop :=
 ∀ A s, Room A d -> Inv B H s -> ∀ va, VR (Trk B H) s.heap va a -> wpAny (model B.prog B.w) A (truthy va) (TPost B H s Q) E s
noncomputable def KwRel (T : Addr -> Prop) (h : Heap) (kvs : List (Str × Value)) (kw : List (Str × PV)) : Prop := VRs T h (kvs.map (·.2)) (kw.map (·.2)) /\ kvs.map (·.1) = kw.map (·.1)
noncomputable def CallV (B : Base) (d : Nat) (E : EP) (f : PV) (args : List PV) (kw : List (Str × PV)) (H : AH) (Q : PQ) : Prop :=
 ∀ A s, Room A d -> Inv B H s -> ∀ fv vs kvs, VR (Trk B H) s.heap fv f -> VRs (Trk B H) s.heap vs args -> KwRel (Trk B H) s.heap kvs kw ->
   wpAny (model B.prog B.w) A (call fv vs kvs) (EvPost B H s Q) E s
noncomputable def KeepsV (B : Base) (f : PV) : Prop :=
 ∀ A (E : EP) H s fv, Inv B H s -> VR (Trk B H) s.heap fv f -> ∀ Q : Keeper -> Shared -> Prop, (∀ k, Q k s) -> wpAny (model B.prog B.w) A (keeperOf fv) Q E s
theorem CallV.le {d' : Nat} (hd : d' <= d) {f : PV} {args : List PV} {kw : List (Str × PV)} {Q : PQ} (h : CallV B d' E f args kw H Q) : CallV B d E f args kw H Q :=
 fun A s R I => h A s (R.le hd) I
theorem Ev_int {i : Int} {k : Nat} {pos : Pos} {Q : PQ} (h : Q (.int i) H) : Ev B fi d E (.Constant (.int i) k pos) σ H Q :=
 fun O s O O O I O => wpAny_Constant_int ⟨_, _, Tr.tok I _, .int _ _, h⟩
theorem Ev_str {x : Str} {k : Nat} {pos : Pos} {Q : PQ} (h : Q (.str x) H) : Ev B fi d E (.Constant (.str x) k pos) σ H Q :=
 fun O s O O O I O => Calls.Constant_str ⟨_, _, Tr.tok I _, .str _ _, h⟩
theorem Ev_bytes {x : List UInt8} {k : Nat} {pos : Pos} {Q : PQ} (h : Q (.bytes x.toArray) H) : Ev B fi d E (.Constant (.bytes x) k pos) σ H Q :=
 fun O s O O O I O => fun O O O => ⟨_, _, Tr.tok I _, .bytes _ _, h⟩
theorem Ev_bool {b : Bool} {k : Nat} {pos : Pos} {Q : PQ} (h : Q (.bool b) H) : Ev B fi d E (.Constant (.bool b) k pos) σ H Q :=
 fun O s O O O I O => fun O O O => EvPost.here I (.bool _) h
theorem Ev_none {k : Nat} {pos : Pos} {Q : PQ} (h : Q .none H) : Ev B fi d E (.Constant .none k pos) σ H Q :=
 fun O s O O O I O => fun O O O => EvPost.here I .none h
theorem EnvOk.kindF {env : Env} (e : EnvOk B fi env) : env.scope.kind = .function := by rw [e.scope]; exact e.kind
noncomputable def Ld (B : Base) (fi : FnInfo) (d : Nat) (E : EP) (x : Str) (σ : St) (H : AH) (Q : PQ) : Prop :=
 ∀ A s env, EnvOk B fi env -> Room A d -> Inv B H s -> FrameOk B env σ H s -> wpAny (model B.prog B.w) A (loadName env x) (EvPost B H s Q) E s
theorem Ld_local {x : Str} {v : PV} {Q : PQ} (hm : (x, NameKind.local, some v) ∈ σ) (h : Q v H) : Ld B fi d E x σ H Q := fun O s env e O I F => by
 obtain ⟨m, hns, hmm⟩ := F.ns
 obtain ⟨v', hv', hr⟩ := hmm x v hm
 exact wpAny_loadName_local e.kindF (F.kindOf hm) hns hv' (EvPost.here I hr h)
theorem Ld_cell {x : Str} {v : PV} {Q : PQ} (hm : (x, NameKind.cell, some v) ∈ σ) (h : Q v H) : Ld B fi d E x σ H Q := fun O s env e O I F => by
 obtain ⟨c, ov, hc, ho, v', rfl, hr⟩ := F.cell x _ (.inl hm)
 exact wpAny_loadName_cell e.kindF (F.kindOf hm) hc ho (EvPost.here I hr h)
theorem Ld_free {x : Str} {v : PV} {Q : PQ} (hm : (x, NameKind.free, some v) ∈ σ) (h : Q v H)
   (hc' : (x == ("__classdict__" : Str)) = false := by decide) : Ld B fi d E x σ H Q := fun O s env e O I F => by
 obtain ⟨c, ov, hc, ho, v', rfl, hr⟩ := F.cell x _ (.inr hm)
 exact wpAny_loadName_free e.kindF (F.kindOf hm) hc ho (EvPost.here I hr h) hc'
theorem Ld_global {x : Str} {p : PV} {Q : PQ} (hm : (x, NameKind.globalImplicit, some p) ∈ σ) (h : Q p H) : Ld B fi d E x σ H Q := fun A s env e O I F => by
 obtain ⟨v, hv, hr⟩ := F.glob x p hm
 have hg : s.heap.Ns env.globals B.mg := by rw [e.globals]; exact B.nsg.keeps I.keep
 have hk := F.kindOf hm
 have hb : wpAny (model B.prog B.w) A (loadGlobal env x) (EvPost B H s Q) E s := by
   rcases hv with hv | ⟨h1, h2, h3⟩
   . exact Calls.loadGlobal_global hg hv (EvPost.here I (hr _ _) h)
   . exact Calls.loadGlobal_builtin hg h1 (by rw [e.builtins]; exact B.nsb.keeps I.keep) ((B.boot x h3).trans h2) (EvPost.here I (hr _ _) h)
 unfold loadName
 simp only [Env.blockKind, e.kindF, hk, ScopeKind.isAnnotationScope, Bool.false_and, Bool.false_eq_true, if_false]
 exact hb
theorem Ev_Name {x : Str} {pos : Pos} {Q : PQ} (h : Ld B fi d E x σ H Q) (hd : (x == ("__debug__" : Str)) = false := by decide) : Ev B fi d E (.Name x pos) σ H Q :=
 fun A s env e R I F => wpAny_Name (h A s env e R I F) hd
theorem Ev_BinOp {l r : Expr} {op : Operator} {pos : Pos} {Q : PQ}
   (h : Ev B fi d E l σ H fun a H₁ => Ev B fi d E r σ H₁ fun b H₂ => V2 B d E (binaryOp op) a b H₂ Q) : Ev B fi d E (.BinOp l op r pos) σ H Q := fun A s env e R I F => by
 refine wpAny_BinOp (wpAny_mono (h A s env e R I F) (fun va s₁ hh1 => ?_) fun O O x => x)
 obtain ⟨a, H₁, t₁, r₁, h₁⟩ := hh1
 refine wpAny_mono (h₁ A s₁ env e R t₁.inv (F.tr I t₁)) (fun vb s₂ hh1 => ?_) fun O O x => x
 obtain ⟨b, H₂, t₂, r₂, h₂⟩ := hh1
 exact wpAny_mono (h₂ A s₂ R t₂.inv va vb (r₁.tr t₂) r₂) (fun O O p => (p.trans t₂).trans t₁) fun O O x => x
theorem Ev_UnaryOp {x : Expr} {op : UnaryOp} {pos : Pos} {Q : PQ}
   (h : Ev B fi d E x σ H fun a H₁ => V1 B d E (unaryOp op) a H₁ Q) : Ev B fi d E (.UnaryOp op x pos) σ H Q := fun A s env e R I F => by
 show wpAny _ A (do let v <- eval x env; standAt pos; holding [v] (unaryOp op v)) _ _ s
 refine wpAny_bind (wpAny_mono (h A s env e R I F) (fun va s₁ ⟨a, H₁, t₁, r₁, h₁⟩ => wpAny_bind (wpAny_standAt (wpAny_holding ?_))) fun O O x => x)
 exact wpAny_mono (h₁ A s₁ R t₁.inv va r₁) (fun O O p => p.trans t₁) fun O O x => x
theorem Ev_Compare1 {l r : Expr} {op : CmpOp} {pos : Pos} {Q : PQ}
   (h : Ev B fi d E l σ H fun a H₁ => Ev B fi d E r σ H₁ fun b H₂ => V2 B d E (compareOp op) a b H₂ Q)
   (hm : behindInMarks op r = false := by with_unfolding_all rfl) : Ev B fi d E (.Compare l [op] [r] pos) σ H Q := fun A s env e R I F => by
 refine wpAny_Compare1 (wpAny_mono (h A s env e R I F) (fun va s₁ hh1 => ?_) fun O O x => x) hm
 obtain ⟨a, H₁, t₁, r₁, h₁⟩ := hh1
 refine wpAny_mono (h₁ A s₁ env e R t₁.inv (F.tr I t₁)) (fun vb s₂ hh1 => ?_) fun O O x => x
 obtain ⟨b, H₂, t₂, r₂, h₂⟩ := hh1
 exact wpAny_mono (h₂ A s₂ R t₂.inv va vb (r₁.tr t₂) r₂) (fun O O p => (p.trans t₂).trans t₁) fun O O x => x
noncomputable def Tst (B : Base) (fi : FnInfo) (d : Nat) (E : EP) (e : Expr) (σ : St) (H : AH) (Q : BQ) : Prop :=
 ∀ A s env, EnvOk B fi env -> Room A d -> Inv B H s -> FrameOk B env σ H s ->
   wpAny (model B.prog B.w) A (isTrue e env (eval e env)) (TPost B H s Q) E s
theorem Tst_plain {e : Expr} {Q : BQ} (h : Ev B fi d E e σ H fun v H₁ => Tru B d E v H₁ Q)
   (he : ∀ env w, isTrue e env w = (do let v <- w; standAt e.pos; holding [v] (truthy v)) := by intro _ _; rfl) : Tst B fi d E e σ H Q := fun A s env e' R I F => by
 rw [he]
 refine wpAny_bind (wpAny_mono (h A s env e' R I F) (fun va s₁ ⟨a, H₁, t₁, r₁, h₁⟩ => wpAny_bind (wpAny_standAt (wpAny_holding ?_))) fun O O x => x)
 exact wpAny_mono (h₁ A s₁ R t₁.inv va r₁) (fun O O hh1 => by obtain ⟨H', t', q⟩ := hh1; exact ⟨H', t₁.trans t', q⟩) fun O O x => x
theorem Tst_Compare1 {l r : Expr} {op : CmpOp} {pos : Pos} {Q : BQ}
   (h : Ev B fi d E l σ H fun a H₁ => Ev B fi d E r σ H₁ fun b H₂ => V2 B d E (compareOp op) a b H₂ fun c H₃ => Tru B d E c H₃ Q)
   (hm : behindInMarks op r = false := by with_unfolding_all rfl) : Tst B fi d E (.Compare l [op] [r] pos) σ H Q := fun A s env e R I F => by
 refine wpAny_isTrue_Compare1 (wpAny_mono (h A s env e R I F) (fun va s₁ hh1 => ?_) fun O O x => x) hm
 obtain ⟨a, H₁, t₁, r₁, h₁⟩ := hh1
 refine wpAny_mono (h₁ A s₁ env e R t₁.inv (F.tr I t₁)) (fun vb s₂ hh1 => ?_) fun O O x => x
 obtain ⟨b, H₂, t₂, r₂, h₂⟩ := hh1
 refine wpAny_mono (h₂ A s₂ R t₂.inv va vb (r₁.tr t₂) r₂) (fun vc s₃ hh1 => ?_) fun O O x => x
 obtain ⟨c, H₃, t₃, r₃, h₃⟩ := hh1
 exact wpAny_mono (h₃ A s₃ R t₃.inv vc r₃) (fun O O hh1 => by obtain ⟨H', t', q⟩ := hh1; exact ⟨H', ((t₁.trans t₂).trans t₃).trans t', q⟩) fun O O x => x
theorem Tru_bool {b : Bool} {Q : BQ} (h : Q b H) : Tru B d E (.bool b) H Q := fun A s R I va r => by
 obtain ⟨O, rfl⟩ := r.inv; exact wpAny_truthy_bool ⟨H, .refl I, h⟩
theorem Tst_Not {x : Expr} {pos : Pos} {Q : BQ} (h : Tst B fi d E x σ H fun b H₁ => Q (!b) H₁) : Tst B fi d E (.UnaryOp .Not x pos) σ H Q := fun A s env e R I F => by
 show wpAny _ A (do return !(<- isTrue x env (eval x env))) _ _ s
 exact wpAny_bind (wpAny_mono (h A s env e R I F) (fun b s₁ hh1 => by obtain ⟨H₁, t₁, q⟩ := hh1; exact wpAny_pure ⟨H₁, t₁, q⟩) fun O O x => x)
noncomputable def TstL (B : Base) (fi : FnInfo) (d : Nat) (E : EP) (op : BoolOp) : List Expr -> St -> AH -> (BQ) -> Prop
 | [], _, H, Q => Q (op == .And) H
 | x :: r, σ, H, Q => Tst B fi d E x σ H fun b H₁ => if b = (op == .Or) then Q b H₁ else TstL B fi d E op r σ H₁ Q
theorem TstL_all {op : BoolOp} : ∀ {xs : List Expr} {H : AH} {Q : BQ}, TstL B fi d E op xs σ H Q -> ∀ A s env, EnvOk B fi env -> Room A d -> Inv B H s -> FrameOk B env σ H s ->
   wpAny (model B.prog B.w) A (allTrue op xs env) (TPost B H s Q) E s
 | [], H, Q, h, A, s, env, e, R, I, F => by
   exact wpAny_pure ⟨H, .refl I, h⟩
 | x :: r, H, Q, h, A, s, env, e, R, I, F => by
   refine wpAny_bind (wpAny_mono (h A s env e R I F) (fun b s₁ hh1 => ?_) fun O O x => x)
   obtain ⟨H₁, t₁, h₁⟩ := hh1
   cases op <;> cases b
   . exact wpAny_pure ⟨H₁, t₁, h₁⟩
   . have go' : TstL B fi d E .And r σ H₁ Q := h₁
     exact wpAny_mono (TstL_all go' A s₁ env e R t₁.inv (F.tr I t₁)) (fun O O hh1 => by obtain ⟨H', t', q⟩ := hh1; exact ⟨H', t₁.trans t', q⟩) fun O O x => x
   . have go' : TstL B fi d E .Or r σ H₁ Q := h₁
     exact wpAny_mono (TstL_all go' A s₁ env e R t₁.inv (F.tr I t₁)) (fun O O hh1 => by obtain ⟨H', t', q⟩ := hh1; exact ⟨H', t₁.trans t', q⟩) fun O O x => x
   . exact wpAny_pure ⟨H₁, t₁, h₁⟩
theorem Tst_BoolOp {op : BoolOp} {xs : List Expr} {pos : Pos} {Q : BQ} (h : TstL B fi d E op xs σ H Q) : Tst B fi d E (.BoolOp op xs pos) σ H Q :=
 fun A s env e R I F => TstL_all h A s env e R I F
theorem Ev_IfExp {t b o : Expr} {pos : Pos} {Q : PQ} (h : Tst B fi d E t σ H fun c H₁ => if c then Ev B fi d E b σ H₁ Q else Ev B fi d E o σ H₁ Q) :
   Ev B fi d E (.IfExp t b o pos) σ H Q := fun A s env e R I F => by
 show wpAny _ A (do if <- isTrue t env (eval t env) then eval b env else eval o env) _ _ s
 refine wpAny_bind (wpAny_mono (h A s env e R I F) (fun c s₁ hh1 => ?_) fun O O x => x)
 obtain ⟨H₁, t₁, h₁⟩ := hh1
 cases c with
 | true =>
   exact wpAny_mono (h₁ A s₁ env e R t₁.inv (F.tr I t₁)) (fun O O p => EvPost.trans t₁ p) fun O O x => x
 | false =>
   exact wpAny_mono (h₁ A s₁ env e R t₁.inv (F.tr I t₁)) (fun O O p => EvPost.trans t₁ p) fun O O x => x
noncomputable def EvL (B : Base) (fi : FnInfo) (d : Nat) (E : EP) : List Expr -> St -> AH -> (LQ) -> Prop
 | [], _, H, Q => Q [] H
 | e :: r, σ, H, Q => Ev B fi d E e σ H fun v H₁ => EvL B fi d E r σ H₁ fun vs H₂ => Q (v :: vs) H₂
noncomputable def plainE : Expr -> Bool
 | .Starred .. => false
 | _ => true
theorem starEach_plain {e : Expr} {r : List Expr} {env : Env} (h : plainE e = true) : starEach (e :: r) env = (false, eval e env) :: starEach r env := by
 cases e <;> first | rfl | cases h
theorem EvL_spliced {pos : Pos} : ∀ {es : List Expr} {H : AH} {Q : LQ}, EvL B fi d E es σ H Q -> es.all plainE = true -> ∀ A s env, EnvOk B fi env -> Room A d -> Inv B H s -> FrameOk B env σ H s ->
   wpAny (model B.prog B.w) A (spliced (backTo pos (starEach es env))) (LPost B H s es.length Q) E s
 | [], H, Q, h, _, A, s, env, e, R, I, F => Calls.spliced_nil ⟨[], H, .refl I, rfl, .nil, h⟩
 | x :: r, H, Q, h, hp, A, s, env, e, R, I, F => by
   simp only [List.all_cons, Bool.and_eq_true] at hp
   refine args_cons (wpAny_mono (h A s env e R I F) (fun v s₁ hh1 => ?_) fun O O x => x) (starEach_plain hp.1)
   obtain ⟨p, H₁, t₁, q₁, h₁⟩ := hh1
   exact wpAny_mono (EvL_spliced h₁ hp.2 A s₁ env e R t₁.inv (F.tr I t₁)) (fun vs s₂ hh1 => by obtain ⟨ps, H₂, t₂, l₂, q₂, h₂⟩ := hh1; exact ⟨p :: ps, H₂, t₁.trans t₂, by simp [l₂], .cons (q₁.tr t₂) q₂, h₂⟩) fun O O x => x
theorem lineOk {n : Nat} (h : n <= 64) : n <= sizeLine := ntr h (by rw [sizeLine_eq]; lia)
theorem Ev_Tuple {es : List Expr} {k : Nat} {pos : Pos} {Q : PQ} (h : EvL B fi d E es σ H fun vs H₁ => Q (.tup vs) H₁) (hp : es.all plainE = true := by rfl) (hl : es.length <= 64 := by decide) :
   Ev B fi d E (.Tuple es k pos) σ H Q := fun A s env e R I F => by
 refine Tuple_ (wpAny_mono (EvL_spliced h hp A s env e R I F) (fun vs s₁ hh1 => ?_) fun O O x => x)
 obtain ⟨ps, H₁, t₁, l₁, q₁, h₁⟩ := hh1
 refine wpAny_newTuple ⟨_, _, t₁.trans (Tr.push t₁.inv _), ?_, h₁⟩ (lineOk (l₁ ▸ hl))
 exact .tup (Heap.get?_push_size _ rfl) (not_trk_size t₁.inv) (q₁.tr (Tr.push t₁.inv _))
theorem Ev_ListF {es : List Expr} {pos : Pos} {Q : PQ} (h : EvL B fi d E es σ H fun vs H₁ => Q (.list vs) H₁) (hp : es.all plainE = true := by rfl) (hl : es.length <= 64 := by decide) :
   Ev B fi d E (.List es pos) σ H Q := fun A s env e R I F => by
 refine List_ (wpAny_mono (EvL_spliced h hp A s env e R I F) (fun vs s₁ hh1 => ?_) fun O O x => x)
 obtain ⟨ps, H₁, t₁, l₁, q₁, h₁⟩ := hh1
 refine wpAny_newList ⟨_, _, t₁.trans (Tr.push t₁.inv _), ?_, h₁⟩ (lineOk (l₁ ▸ hl))
 exact .list (Heap.get?_push_size _ rfl) (not_trk_size t₁.inv) (q₁.tr (Tr.push t₁.inv _))
theorem Ev_ListT {es : List Expr} {pos : Pos} {Q : PQ} (h : EvL B fi d E es σ H fun vs H₁ => ∀ a, Q (.lref a) ((a, vs) :: H₁)) (hp : es.all plainE = true := by rfl) (hl : es.length <= 64 := by decide) :
   Ev B fi d E (.List es pos) σ H Q := fun A s env e R I F => by
 refine List_ (wpAny_mono (EvL_spliced h hp A s env e R I F) (fun vs s₁ hh1 => ?_) fun O O x => x)
 obtain ⟨ps, H₁, t₁, l₁, q₁, h₁⟩ := hh1
 exact wpAny_newList ⟨_, _, t₁.trans (Tr.track t₁.inv q₁), .lref _, h₁ _⟩ (lineOk (l₁ ▸ hl))
theorem callWith_any {A : Around} {s : Shared} {pos : Pos} {fv : Value} {first : List Value} {args : List (Bool × Sem Value)} {kws : List (Option Str × Sem Value)} {Q : Value -> Shared -> Prop}
   (h : wpAny (model B.prog B.w) A (evalArgs fv true args kws) (fun a s₁ => (∀ Q' : Keeper -> Shared -> Prop, (∀ k, Q' k s₁) -> wpAny (model B.prog B.w) A (keeperOf fv) Q' E s₁) /\ wpAny (model B.prog B.w) A (call fv (first ++ a.pos) a.kw) Q E s₁) E s) :
   wpAny (model B.prog B.w) A (callWith pos fv first args kws) Q E s := by
 unfold callWith
 refine wpAny_bind (wpAny_holding (wpAny_mono h (fun a s₁ h₁ => wpAny_bind (wpAny_standAt ?_)) fun O O x => x))
 have tail : ∀ {t : Sem Value}, wpAny (model B.prog B.w) A t Q E s₁ -> wpAny (model B.prog B.w) A (t >>= fun r => holding [r] point >>= fun O => pure r) Q E s₁ :=
   fun ht => wpAny_bind (wpAny_mono ht (fun r s₂ hr => wpAny_bind (wpAny_holding (wpAny_point (wpAny_pure hr)))) fun O O x => x)
 have hop : ∀ {vs : List Value} {m : Sem Value}, wpAny (model B.prog B.w) A m Q E s₁ -> wpAny (model B.prog B.w) A (operate vs m) Q E s₁ := fun hq Γ p hΓ => by
   rw [Sem.wp_operate]; exact hq Γ p hΓ
 dsimp only
 refine wpAny_bind (h₁.1 _ fun k => ?_)
 generalize (args.any (·.1) || kws.any (·.1.isNone)) = st
 have hc := h₁.2
 cases k <;> cases st <;> dsimp only
 . split
   . exact tail hc
   . exact tail (by unfold callMarked; exact Calls.wpAny_keep hc)
 . exact tail (by unfold callMarked; exact Calls.wpAny_keep hc)
 . split
   . exact tail hc
   . exact tail (by unfold callMarked; exact Calls.wpAny_keep hc)
 . exact tail (hop hc)
 . exact tail hc
 . exact tail (hop hc)
 . exact tail (hop hc)
 . exact tail (hop hc)
theorem evalArgs_list {A : Around} {s : Shared} {fv : Value} {es : List Expr} {pos : Pos} {env : Env} {Q : Args -> Shared -> Prop} (hp : es.all plainE = true)
   (h : wpAny (model B.prog B.w) A (spliced (backTo pos (starEach es env))) (fun vs s' => Q ⟨vs, []⟩ s') E s) : wpAny (model B.prog B.w) A (evalArgs fv true (backTo pos (starEach es env)) []) Q E s := by
 cases es with
 | nil =>
   unfold evalArgs
   show wpAny _ A (spliced [] >>= _) Q E s
   refine wpAny_bind (wpAny_mono h (fun vs s' h' => ?_) fun O O x => x)
   refine wpAny_holding ?_
   exact wpAny_bind (wpAny_pure (wpAny_bind (wpAny_pure (wpAny_pure h'))))
 | cons x r =>
   simp only [List.all_cons, Bool.and_eq_true] at hp
   rw [starEach_plain hp.1] at h ⊢
   exact Calls.evalArgs_plain h
theorem Ev_Call {func : Expr} {args : List Expr} {pos : Pos} {Q : PQ}
   (h : Ev B fi d E func σ H fun f H₁ => KeepsV B f /\ EvL B fi d E args σ H₁ fun vs H₂ => CallV B d E f vs [] H₂ Q)
   (hp : args.all plainE = true := by rfl)
   (he : ∀ env, eval (.Call func args [] pos) env = (do callWith pos (<- eval func env) [] (backTo pos (starEach args env)) (backToKw pos (keywordEach [] env))) := by intro _; rfl) :
   Ev B fi d E (.Call func args [] pos) σ H Q := fun A s env e R I F => by
 refine Call_ (wpAny_mono (h A s env e R I F) (fun fv s₁ hh1 => ?_) fun O O x => x) (he env)
 obtain ⟨f, H₁, t₁, q₁, hk, h₁⟩ := hh1
 refine callWith_any (evalArgs_list hp (wpAny_mono (EvL_spliced h₁ hp A s₁ env e R t₁.inv (F.tr I t₁)) (fun vs s₂ ⟨ps, H₂, t₂, l₂, q₂, h₂⟩ => ⟨hk A E H₂ s₂ fv t₂.inv (q₁.tr t₂), ?_⟩) fun O O x => x))
 refine wpAny_mono (h₂ A s₂ R t₂.inv fv vs [] (q₁.tr t₂) q₂ ⟨.nil, rfl⟩) (fun O O p => (p.trans t₂).trans t₁) fun O O x => x
end
inductive Rep (x : Str) (p : PV) (k : NameKind) : St -> St -> Prop
 | head {ov : Option PV} {r : St} : Rep x p k ((x, k, ov) :: r) ((x, k, some p) :: r)
 | tail {e : Str × NameKind × Option PV} {r r' : St} : Rep x p k r r' -> Rep x p k (e :: r) (e :: r')
theorem Rep.keys {x : Str} {p : PV} {k : NameKind} {σ σ' : St} (h : Rep x p k σ σ') : σ'.map (fun e => (e.1, e.2.1)) = σ.map (fun e => (e.1, e.2.1)) := by
 induction h with
 | head => rfl
 | tail _ ih => simp only [List.map_cons, ih]
theorem Rep.has {x : Str} {p : PV} {k : NameKind} {σ σ' : St} (h : Rep x p k σ σ') : ∃ ov, (x, k, ov) ∈ σ := by
 induction h with
 | head => exact ⟨_, mcs⟩
 | tail _ ih => exact ⟨ih.choose, mcm _ ih.choose_spec⟩
theorem Rep.all {x : Str} {p : PV} {k : NameKind} {σ σ' : St} (h : Rep x p k σ σ') : (σ.map (fun e => e.1)).Nodup -> ∀ e ∈ σ', e = (x, k, some p) \/ (e.1 ≠ x /\ e ∈ σ) := by
 induction h with
 | head =>
   intro hn
   exact fmc ⟨.inl rfl, fun e he => .inr ⟨fun q => (ncp hn).1 (mmr ⟨e, he, q⟩), .tail _ he⟩⟩
 | tail h ih =>
   intro hn
   obtain ⟨ov, hx⟩ := h.has
   have hn := ncp hn
   exact fmc ⟨.inr ⟨fun q => hn.1 (mmr ⟨_, hx, q.symm⟩), .head _⟩, fun e he => (ih hn.2 e he).imp id fun q => ⟨q.1, .tail _ q.2⟩⟩
theorem FrameOk.nodupS {B : Base} {env : Env} {σ : St} {H : AH} {s : Shared} (F : FrameOk B env σ H s) : (σ.map (fun e => e.1)).Nodup := by
 have := F.nodup
 rw [<- F.keys, List.map_map] at this
 exact this
theorem Inv.change {B : Base} {H : AH} {s : Shared} {a : Addr} {o : Obj} {h' : Heap} {t : Nat} (I : Inv B H s) (ho : s.heap.get? a = some o) (hd : ∀ vs n, o.data ≠ .seq vs n) (hd' : ∀ vs, o.data ≠ .fields vs)
   (hg : B.g.get? a = none) (hs : Heap.SameBut a s.heap h') : Inv B H { s with heap := h', toks := t } := by
 have hnt := not_trk_of I ho hd hd'
 have ne : ∀ b ob, s.heap.get? b = some ob -> (IsSeqO ob \/ ∃ vs, ob.data = .fields vs) -> h'.get? b = some ob := fun b ob e q => by
   refine (hs.2 b fun eq => ?_).trans e
   rw [eq, ho] at e; cases e
   rcases q with ⟨vs, n, q⟩ | ⟨vs, q⟩
   . exact hd _ _ q
   . exact hd' _ q
 have hk : ∀ b ob, s.heap.get? b = some ob -> IsSeqO ob -> ¬ Trk B H b -> h'.get? b = some ob := fun b ob e q O => ne b ob e (.inl q)
 refine ⟨fun b ob e => ?_, ?_, fun q hq => ?_, I.bare, I.os, I.nodup, fun q hq => let ⟨a, b, c, e⟩ := I.hid q hq; ⟨ne _ _ a (.inl b), b, c, e⟩, fun p hp => ?_⟩
 . refine (hs.2 b fun eq => ?_).trans (I.keep b ob e)
   rw [eq, hg] at e; cases e
 . show B.g.objs.size <= h'.objs.size
   rw [hs.1]; exact I.size
 . obtain ⟨ps, h1, h2, h3⟩ := I.tabs q hq
   refine ⟨ps, ne _ _ h1 (.inr ⟨_, rfl⟩), h2, fun pos cv hc => ?_⟩
   obtain ⟨qn, a1, c, oc, vs, t, e1, e2, e3, e4⟩ := h3 pos cv hc
   exact ⟨qn, a1, c, oc, vs, t, e1, ne _ _ e2 (.inr ⟨_, e3⟩), e3, e4⟩
 . obtain ⟨h1, vs, n, h2, h3⟩ := I.objs p hp
   exact ⟨h1, vs, n, ne _ _ h2 (.inl ⟨_, _, rfl⟩), h3.mono hk fun O O t => t⟩
section
variable {B : Base} {fi : FnInfo} {d : Nat} {E : EP} {σ : St} {H : AH}
noncomputable def storable (fi : FnInfo) (k : NameKind) : Prop := k = .local \/ (k = .cell /\ fi.comp = false)
theorem seq_but {s : Shared} {a : Addr} {o : Obj} {h' : Heap} (ho : s.heap.get? a = some o) (hd : ∀ vs n, o.data ≠ .seq vs n) (hs : Heap.SameBut a s.heap h') : ∀ b ob, s.heap.get? b = some ob -> IsSeqO ob -> ¬ Trk B H b -> h'.get? b = some ob := fun b ob e q O => (hs.2 b fun eq => by
 obtain ⟨vs, n, q⟩ := q
 subst eq
 exact hd vs n (Option.some.inj (ho.symm.trans e) ▸ q)).trans e
section
variable {env : Env} {s : Shared} (F : FrameOk B env σ H s)
include F
theorem FrameOk.cell_ne {c : Addr} {w : Option Value} (h : s.heap.IsCell c w) : c ≠ env.locals := fun eq => by
 obtain ⟨O, ⟨O, O, O, ho, hd, O⟩, O⟩ := F.ns
 obtain ⟨O, ho', hd'⟩ := h
 subst eq
 cases ho.symm.trans ho'
 exact nomatch hd.symm.trans hd'
theorem FrameOk.loc_but {h' : Heap} (hs : Heap.SameBut env.locals s.heap h') : ∀ b ob, s.heap.get? b = some ob -> IsSeqO ob -> ¬ Trk B H b -> h'.get? b = some ob := by
 obtain ⟨O, ⟨O, O, O, ho, hd, O⟩, O⟩ := F.ns
 exact seq_but ho (by rw [hd]; nofun) hs
theorem Tr.own1 (I : Inv B H s) {h' : Heap} {t : Nat} (hs : Heap.SameBut env.locals s.heap h') : Tr B (ownU env) H s H { s with heap := h', toks := t } := by
 obtain ⟨O, ⟨O, O, O, ho, hd, O⟩, O⟩ := F.ns
 exact ⟨I.change ho (by rw [hd]; nofun) (by rw [hd]; nofun) F.fresh hs, ⟨fun b ob eb hn => (hs.2 b fun eq => hn (.inr (.inl eq))).trans eb, Nat.le_of_eq hs.1.symm, fun O O q => q⟩, fun O h => .inl h⟩
theorem FrameOk.upd {σ' : St} {s' : Shared} {m' : Str -> Option Value} (hs : Heap.SameBut env.locals s.heap s'.heap) (hk : σ'.map (fun e => (e.1, e.2.1)) = env.scope.names) (hn : s'.heap.Ns env.locals m') (hl : ∀ x p, (x, NameKind.local, some p) ∈ σ' -> VRo (Trk B H) s'.heap (m' x) (some p))
   (ho : ∀ e ∈ σ', e.2.1 ≠ .local -> e ∈ σ) : FrameOk B env σ' H s' := by
 refine ⟨F.fresh, F.apart, hk, F.nodup, ⟨_, hn, hl⟩, fun y ov hy => ?_, fun y q hy => F.glob y q (ho _ hy nofun)⟩
 obtain ⟨c, w, hc, hcell, hv⟩ := F.cell y ov (hy.imp (fun h => ho _ h nofun) fun h => ho _ h nofun)
 exact ⟨c, w, hc, hcell.sameBut hs (F.cell_ne hcell), hv.mono (F.loc_but hs) fun O O t => t⟩
end
theorem store_ok {A : Around} {s : Shared} {env : Env} {σ' : St} {x : Str} {v : Value} {p : PV} {k : NameKind} (e : EnvOk B fi env) (I : Inv B H s) (F : FrameOk B env σ H s) (r : VR (Trk B H) s.heap v p)
   (hr : Rep x p k σ σ') (hk : storable fi k) :
   wpAny (model B.prog B.w) A (storeName env x v) (fun O s' => Tr B (ownU env) H s H s' /\ FrameOk B env σ' H s') E s := by
 obtain ⟨ov, hx⟩ := hr.has
 have hkx := F.kindOf hx
 obtain ⟨m, hns, hm⟩ := F.ns
 have all := hr.all F.nodupS
 have hkeys : σ'.map (fun e => (e.1, e.2.1)) = env.scope.names := hr.keys.trans F.keys
 rcases hk with rfl | ⟨rfl, hcomp⟩
 . refine wpAny_storeName_local hkx hns (fun h' hn' hs' => ⟨Tr.own1 F I hs', F.upd hs' hkeys hn' (fun y q hy => ?_) fun e he hk => ((all e he).resolve_left fun q => hk (q ▸ rfl)).2⟩) (by rw [e.kindF]; rfl)
   rcases all _ hy with q | q
   . cases q
     rw [if_pos rfl]
     exact ⟨v, rfl, r.mono (F.loc_but hs') fun O O t => t⟩
   . rw [if_neg q.1]
     exact (hm y _ q.2).mono (F.loc_but hs') fun O O t => t
 . obtain ⟨c, w, hc, hcell, O⟩ := F.cell x ov (.inl hx)
   have hLc := F.cell_ne hcell
   obtain ⟨oc, hoc, hdc⟩ := id hcell
   refine wpAny_storeName_cell e.kindF hkx hc hcell fun h' hv' hs' => ?_
   have hk := seq_but (B := B) (H := H) hoc (by rw [hdc]; nofun) hs'
   refine ⟨⟨I.change (t := s.toks) hoc (by rw [hdc]; nofun) (by rw [hdc]; nofun) (e.free hcomp x c hkx hc) hs', ⟨fun b ob eb hn => (hs'.2 b fun eq => hn (.inr (.inr ⟨x, hkx, eq ▸ hc, eq ▸ e.above hcomp x c hkx hc⟩))).trans eb, Nat.le_of_eq hs'.1.symm, fun O O q => q⟩, fun O h => .inl h⟩, ?_⟩
   refine ⟨F.fresh, F.apart, hkeys, F.nodup, ⟨m, hns.sameBut hs' hLc.symm, fun y q hy => ?_⟩, fun y ov' hy => ?_, fun y q hy => F.glob y q ((all _ hy).resolve_left fun q => nomatch q).2⟩
   . exact (hm y q ((all _ hy).resolve_left fun q => nomatch q).2).mono hk fun O O t => t
   . have old : ∀ {k'}, (y, k', ov') ∈ σ' -> CellAt (Trk B H) env h' y ov' \/ ((y, k', ov') ∈ σ /\ y ≠ x) := fun hy => (all _ hy).imp (fun q => by cases q; exact ⟨c, _, hc, hv', v, rfl, r.mono hk fun O O t => t⟩) fun q => ⟨q.2, q.1⟩
     have go : ((y, NameKind.cell, ov') ∈ σ \/ (y, NameKind.free, ov') ∈ σ) -> y ≠ x -> CellAt (Trk B H) env h' y ov' := fun hy' hyx => by
       obtain ⟨c', w', hc', hcell', hw⟩ := F.cell y ov' hy'
       exact ⟨c', w', hc', hcell'.sameBut hs' fun eq => hyx (F.apart y x c' hc' (eq ▸ hc)), hw.mono hk fun O O t => t⟩
     exact hy.elim (fun h => (old h).elim id fun q => go (.inl q.1) q.2) fun h => (old h).elim id fun q => go (.inr q.1) q.2
theorem Xs_nil {Qn : SQ} {Qf : FQ} (h : Qn σ H) : Xs B fi d E [] σ H Qn Qf := fun A s env e R I F =>
 wpAny_execs_nil ⟨σ, H, .refl I, F, .inl ⟨rfl, h⟩⟩
theorem Xs_cons {st : Stmt} {rest : List Stmt} {Qn : SQ} {Qf : FQ} (h : X B fi d E st σ H (fun σ' H' => Xs B fi d E rest σ' H' Qn Qf) Qf) :
   Xs B fi d E (st :: rest) σ H Qn Qf := fun A s env e R I F => by
 refine wpAny_execs_cons (wpAny_mono (h A s env e R I F) (fun fl s₁ hh1 => ?_) fun O O x => x)
 obtain ⟨σ₁, H₁, t₁, F₁, q⟩ := hh1
 rcases q with ⟨rfl, q⟩ | ⟨pf, hf, q⟩
 . exact wpAny_mono (q A s₁ env e R t₁.inv F₁) (fun fl' s₂ hh1 => by obtain ⟨σ₂, H₂, t₂, F₂, q₂⟩ := hh1; exact ⟨σ₂, H₂, t₁.trans t₂, F₂, q₂⟩) fun O O x => x
 . cases fl with
   | next => cases pf <;> exact hf.elim
   | brk => exact ⟨σ₁, H₁, t₁, F₁, .inr ⟨pf, hf, q⟩⟩
   | cont => exact ⟨σ₁, H₁, t₁, F₁, .inr ⟨pf, hf, q⟩⟩
   | ret v => exact ⟨σ₁, H₁, t₁, F₁, .inr ⟨pf, hf, q⟩⟩
theorem X_Assign_Name {x : Str} {pos' : Pos} {value : Expr} {pos : Pos} {Qn : SQ} {Qf : FQ}
   (h : Ev B fi d E value σ H fun v H₁ => ∃ k σ', Rep x v k σ σ' /\ storable fi k /\ Qn σ' H₁)
   (hs : ∀ env, swapsWith value (some (.Name x pos')) pos.line env = pure false := by intro _; rfl) : X B fi d E (.Assign [.Name x pos'] value pos) σ H Qn Qf := fun A s env e R I F => by
 refine wpAny_Assign_Name (wpAny_mono (h A s env e R I F) (fun v s₁ hh1 => ?_) fun O O x => x) (hs env)
 obtain ⟨p, H₁, t₁, r₁, k, σ', hr, hk, q⟩ := hh1
 exact wpAny_mono (store_ok e t₁.inv (F.tr I t₁) r₁ hr hk) (fun O s₂ hh1 => by obtain ⟨t₂, F₂⟩ := hh1; exact ⟨σ', H₁, t₁.up.trans t₂, F₂, .inl ⟨rfl, q⟩⟩) fun O O x => x
theorem X_Return {e : Expr} {pos : Pos} {Qn : SQ} {Qf : FQ} (h : Ev B fi d E e σ H fun v H₁ => Qf σ (.ret v) H₁) : X B fi d E (.Return (some e) pos) σ H Qn Qf := fun A s env e' R I F =>
 wpAny_Return_some (wpAny_mono (h A s env e' R I F) (fun v s₁ hh1 => by obtain ⟨p, H₁, t₁, r₁, q⟩ := hh1; exact ⟨σ, H₁, t₁.up, F.tr I t₁, .inr ⟨.ret p, r₁, q⟩⟩) fun O O x => x)
theorem X_ReturnNone {pos : Pos} {Qn : SQ} {Qf : FQ} (h : Qf σ (.ret .none) H) : X B fi d E (.Return none pos) σ H Qn Qf := fun A s env e' R I F =>
 wpAny_Return_none ⟨σ, H, .refl I, F, .inr ⟨.ret .none, .none, h⟩⟩
theorem X_Expr {e : Expr} {pos : Pos} {Qn : SQ} {Qf : FQ} (h : Ev B fi d E e σ H fun O H₁ => Qn σ H₁)
   (hs : ∀ env, swapsWith e none pos.line env = pure false := by intro _; rfl) : X B fi d E (.Expr e pos) σ H Qn Qf := fun A s env e' R I F => by
 have hi : interactive env = false := by unfold interactive; rw [e'.kindF]; rfl
 rw [exec_Expr env e pos hi (hs env)]
 refine wpAny_bind (wpAny_standAt (wpAny_bind (wpAny_mono (h A s env e' R I F) (fun v s₁ hh1 => ?_) fun O O x => x)))
 obtain ⟨p, H₁, t₁, r₁, q⟩ := hh1
 exact wpAny_dropValue ⟨σ, H₁, t₁.up, F.tr I t₁, .inl ⟨rfl, q⟩⟩
theorem X_If {t : Expr} {b o : List Stmt} {pos : Pos} {Qn : SQ} {Qf : FQ}
   (h : Tst B fi d E t σ H fun c H₁ => if c then Xs B fi d E b σ H₁ Qn Qf else Xs B fi d E o σ H₁ Qn Qf) : X B fi d E (.If t b o pos) σ H Qn Qf := fun A s env e R I F => by
 refine wpAny_If (wpAny_mono (h A s env e R I F) (fun c s₁ hh1 => ?_) fun O O x => x)
 obtain ⟨H₁, t₁, q⟩ := hh1
 have go : ∀ body, Xs B fi d E body σ H₁ Qn Qf -> wpAny (model B.prog B.w) A (execs body env) (XsPost B env H s Qn Qf) E s₁ := fun body hb =>
   wpAny_mono (hb A s₁ env e R t₁.inv (F.tr I t₁)) (fun fl s₂ hh1 => by obtain ⟨σ₂, H₂, t₂, F₂, q₂⟩ := hh1; exact ⟨σ₂, H₂, t₁.up.trans t₂, F₂, q₂⟩) fun O O x => x
 cases c with
 | true => exact go b q
 | false => exact go o q
theorem X_AugAssign_Name {x : Str} {pos' : Pos} {op : Operator} {value : Expr} {pos : Pos} {Qn : SQ} {Qf : FQ}
   (h : Ld B fi d E x σ H fun a H₁ => Ev B fi d E value σ H₁ fun v H₂ => V2 B d E (inplaceOp op) a v H₂ fun r H₃ => ∃ k σ', Rep x r k σ σ' /\ storable fi k /\ Qn σ' H₃) :
   X B fi d E (.AugAssign (.Name x pos') op value pos) σ H Qn Qf := fun A s env e R I F => by
 refine wpAny_AugAssign_Name (wpAny_mono (h A s env e R I F) (fun a s₁ hh1 => ?_) fun O O x => x)
 obtain ⟨p, H₁, t₁, r₁, h₁⟩ := hh1
 refine wpAny_mono (h₁ A s₁ env e R t₁.inv (F.tr I t₁)) (fun v s₂ hh1 => ?_) fun O O x => x
 obtain ⟨p₂, H₂, t₂, r₂, h₂⟩ := hh1
 refine wpAny_mono (h₂ A s₂ R t₂.inv a v (r₁.tr t₂) r₂) (fun w s₃ hh1 => ?_) fun O O x => x
 obtain ⟨p₃, H₃, t₃, r₃, k, σ', hr, hk, q⟩ := hh1
 have t := (t₁.trans t₂).trans t₃
 exact wpAny_mono (store_ok e t₃.inv (F.tr I t) r₃ hr hk) (fun O s₄ hh1 => by obtain ⟨t₄, F₄⟩ := hh1; exact ⟨σ', H₃, t.up.trans t₄, F₄, .inl ⟨rfl, q⟩⟩) fun O O x => x
end
theorem Inv.ext {B : Base} {H : AH} {s s' : Shared} (I : Inv B H s) (hk : ∀ a o, s.heap.get? a = some o -> s'.heap.get? a = some o) (hz : s.heap.objs.size <= s'.heap.objs.size) (hb : AllBare s'.gens) (ho : s'.os = s.os) : Inv B H s' := by
 refine ⟨fun a o e => hk _ _ (I.keep a o e), ntr I.size hz, fun q hq => ?_, hb, ho.trans I.os, I.nodup, fun q hq => let ⟨a, b, c, e⟩ := I.hid q hq; ⟨hk _ _ a, b, c, e⟩, fun p hp => ?_⟩
 . obtain ⟨ps, h1, h2, h3⟩ := I.tabs q hq
   exact ⟨ps, hk _ _ h1, h2, fun pos cv hc => let ⟨qn, a, b⟩ := h3 pos cv hc; ⟨qn, a, b.keeps hk⟩⟩
 . obtain ⟨h1, vs, n, h2, h3⟩ := I.objs p hp
   exact ⟨h1, vs, n, hk _ _ h2, h3.mono (fun a o e O O => hk a o e) fun O O t => t⟩
theorem Tr.ext {B : Base} {U : Addr -> Prop} {H : AH} {s s' : Shared} (I : Inv B H s) (hk : ∀ a o, s.heap.get? a = some o -> s'.heap.get? a = some o) (hz : s.heap.objs.size <= s'.heap.objs.size) (hg : s'.gens = s.gens) (ho : s'.os = s.os) : Tr B U H s H s' :=
 ⟨I.ext hk hz (hg ▸ I.bare) ho, ⟨fun a o e O => hk a o e, hz, fun i x e => hg ▸ e⟩, fun O h => .inl h⟩
noncomputable def argKind (k : NameKind) : Prop := k = .local \/ k = .cell
inductive Ini (B : Base) (bs : List (Str × PV)) : List (Str × NameKind) -> St -> Prop
 | nil : Ini B bs [] []
 | arg {x : Str} {k : NameKind} {p : PV} {r : List (Str × NameKind)} {σ : St} : (x, p) ∈ bs -> argKind k -> Ini B bs r σ -> Ini B bs ((x, k) :: r) ((x, k, some p) :: σ)
 | unset {x : Str} {k : NameKind} {r : List (Str × NameKind)} {σ : St} : Ini B bs r σ -> Ini B bs ((x, k) :: r) ((x, k, Option.none) :: σ)
 | glob {x : Str} {p : PV} {r : List (Str × NameKind)} {σ : St} : GlobIs B x p -> Ini B bs r σ -> Ini B bs ((x, .globalImplicit) :: r) ((x, .globalImplicit, some p) :: σ)
theorem Ini.keys {B : Base} {bs : List (Str × PV)} {ns : List (Str × NameKind)} {σ : St} (h : Ini B bs ns σ) : σ.map (fun e => (e.1, e.2.1)) = ns := by
 induction h with
 | nil => rfl
 | arg _ _ _ ih => exact congrArg (List.cons _) ih
 | unset _ ih => exact congrArg (List.cons _) ih
 | glob _ _ ih => exact congrArg (List.cons _) ih
theorem Ini.all {B : Base} {bs : List (Str × PV)} {ns : List (Str × NameKind)} {σ : St} (h : Ini B bs ns σ) : ∀ e ∈ σ, ∀ p, e.2.2 = some p -> ((e.1, p) ∈ bs /\ argKind e.2.1) \/ (e.2.1 = .globalImplicit /\ GlobIs B e.1 p) := by
 induction h with
 | nil => exact fun O h => absurd h List.not_mem_nil
 | arg h1 h2 _ ih => exact fmc ⟨fun p e => .inl ⟨Option.some.inj e ▸ h1, h2⟩, ih⟩
 | unset _ ih => exact fmc ⟨(fun O e => nomatch e), ih⟩
 | glob h1 _ ih => exact fmc ⟨fun p e => .inr ⟨rfl, Option.some.inj e ▸ h1⟩, ih⟩
noncomputable def BindV (B : Base) (fd : FuncData) (args : List PV) (kw : List (Str × PV)) (H : AH) (bs : List (Str × PV)) : Prop :=
 ∀ A s, Inv B H s -> ∀ vs kvs, VRs (Trk B H) s.heap vs args -> KwRel (Trk B H) s.heap kvs kw -> ∀ (E : EP) (Q : List (Str × Value) -> Shared -> Prop),
   (∀ bv, KwRel (Trk B H) s.heap bv bs -> Q bv s) -> wpAny (model B.prog B.w) A (bindArgs fd ⟨vs, kvs⟩) Q E s
theorem VRs.un {T : Addr -> Prop} {h : Heap} {vs : List Value} {p : PV} {ps : List PV} (r : VRs T h vs (p :: ps)) : ∃ v ws, vs = v :: ws /\ VR T h v p /\ VRs T h ws ps := match r with
 | .cons a b => ⟨_, _, rfl, a, b⟩
theorem VRs.zip_mem {T : Addr -> Prop} {h : Heap} {bs : List (Str × PV)} : ∀ {bv : List (Str × Value)}, VRs T h (bv.map (·.2)) (bs.map (·.2)) -> bv.map (·.1) = bs.map (·.1) -> ∀ e ∈ bs, ∃ v, (e.1, v) ∈ bv /\ VR T h v e.2 := by
 induction bs with
 | nil => exact fun O O O h => absurd h List.not_mem_nil
 | cons b bs ih =>
   intro bv hr he
   cases bv with
   | nil => exact nomatch he
   | cons c bv =>
     obtain ⟨v, ws, e, h1, h2⟩ := hr.un
     have e := List.cons.inj e
     have n := List.cons.inj he
     have e1 : c.2 = v := e.1
     have n1 : c.1 = b.1 := n.1
     exact fmc ⟨⟨c.2, n1 ▸ .head _, e1 ▸ h1⟩, fun x hx => (ih (e.2 ▸ h2) n.2 x hx).imp fun O q => ⟨.tail _ q.1, q.2⟩⟩
theorem bindL_out {kindOf : Str -> Option NameKind} {x : Str} {r : List (Str × Value)} : ∀ {m : Str -> Option Value}, x ∉ r.map (fun e => e.1) -> bindL kindOf r m x = m x := by
 induction r with
 | nil => exact fun O => rfl
 | cons e r ih =>
   intro m hx
   refine (ih fun q => hx (.tail _ q)).trans ?_
   split
   . exact if_neg fun q : x = e.1 => hx (q ▸ .head _)
   . rfl
theorem bindC_out {kindOf : Str -> Option NameKind} {x : Str} {r : List (Str × Value)} : ∀ {m : Str -> Option Value}, x ∉ r.map (fun e => e.1) -> bindC kindOf r m x = m x := by
 induction r with
 | nil => exact fun O => rfl
 | cons e r ih =>
   intro m hx
   refine (ih fun q => hx (.tail _ q)).trans ?_
   split
   . rfl
   . exact if_neg fun q : x = e.1 => hx (q ▸ .head _)
theorem bindL_mem {kindOf : Str -> Option NameKind} {x : Str} {v : Value} (hk : kindOf x = some .local) {bv : List (Str × Value)} : ∀ {m : Str -> Option Value}, (bv.map (fun e => e.1)).Nodup -> (x, v) ∈ bv -> bindL kindOf bv m x = some v := by
 induction bv with
 | nil => exact fun O h => absurd h List.not_mem_nil
 | cons e r ih =>
   intro m hn hm
   have hn := ncp hn
   rcases mcp hm with q | q
   . subst q
     exact (bindL_out hn.1).trans (by rw [if_pos hk]; exact if_pos rfl)
   . exact ih hn.2 q
theorem bindC_mem {kindOf : Str -> Option NameKind} {x : Str} {v : Value} (hk : kindOf x ≠ some .local) {bv : List (Str × Value)} : ∀ {m : Str -> Option Value}, (bv.map (fun e => e.1)).Nodup -> (x, v) ∈ bv -> bindC kindOf bv m x = some v := by
 induction bv with
 | nil => exact fun O h => absurd h List.not_mem_nil
 | cons e r ih =>
   intro m hn hm
   have hn := ncp hn
   rcases mcp hm with q | q
   . subst q
     exact (bindC_out hn.1).trans (by rw [if_neg hk]; exact if_pos rfl)
   . exact ih hn.2 q
theorem Tr.back {B : Base} {env : Env} {H H₁ H' : AH} {s s₁ s' : Shared} (I : Inv B H s) (t₁ : Tr B noU H s H₁ s₁) (t : Tr B (ownU env) H₁ s₁ H' s') (hf : ∀ a, ownU env a -> s.heap.objs.size <= a) : Tr B noU H s H' s' :=
 ⟨t.inv, ⟨fun a o e hn => by
     have ha := Heap.lt_size e
     refine t.step.heap a o (t₁.step.heap a o e hn) fun q => ?_
     rcases q with q | q
     . exact hn (.inl (Trk.new t₁.keys ha q))
     . exact absurd ha (nlr (hf a q)),
   ntr t₁.step.size t.step.size, fun i x e => t.step.gens i x (t₁.step.gens i x e)⟩, fun a ha => by
   rcases t.keys a ha with q | q
   . exact t₁.keys a q
   . exact .inr (ntr t₁.step.size q)⟩
noncomputable def PX (Q : PQ) : FQ
 | _, .ret v, H => Q v H
 | _, _, _ => False
section
variable {B : Base} {d : Nat} {H : AH}
noncomputable def retOf : Flow -> Value
 | .ret v => v
 | _ => .none
set_option genInjectivity false in
set_option genSizeOf false in
structure FdIn (B : Base) (H : AH) (s : Shared) (fi : FnInfo) (σ₀ : St) (env : Env) (s₁ : Shared) : Prop where
 loc : env.locals = s.heap.objs.size
 fr : env.frame = some env.locals
 eok : EnvOk B fi env
 tr : Tr B noU H s H s₁
 frm : FrameOk B env σ₀ H s₁
 fresh : ∀ a, ownU env a -> s.heap.objs.size <= a
 keep : ∀ b o, s.heap.get? b = some o -> s₁.heap.get? b = some o
section
variable {sc : Scope} {cp : Option (Addr × Addr)} {qual : Str} {bs : List (Str × PV)} {σ₀ : St} {env : Env} {s s₁ : Shared} {bv : List (Str × Value)} (hloc : env.locals = s.heap.objs.size) (hscope : env.scope = sc) (hcells : env.cells = cellsFrom (s.heap.objs.size + 1) sc.names [])
 (I : Inv B H s) (ic : InCallC s env.locals (bindL env.kindOf bv fun O => none) env.cells (bindC env.kindOf bv fun O => none) s₁) (hsn : (sc.names.map (fun e => e.1)).Nodup) (hfree : ∀ e ∈ sc.names, e.2 ≠ .free) (hi : Ini B bs sc.names σ₀) (hbn : (bs.map (fun e => e.1)).Nodup) (hbv : KwRel (Trk B H) s.heap bv bs) (t₁ : Tr B noU H s H s₁)
include hloc hscope hcells I ic hsn hfree hi hbn hbv t₁
theorem fd_frame : FrameOk B env σ₀ H s₁ := by
 have mk : ∀ {x : Str} {k : NameKind} {ov : Option PV}, (x, k, ov) ∈ σ₀ -> (x, k) ∈ sc.names := fun hm => hi.keys ▸ List.mem_map_of_mem (f := fun e : Str × NameKind × Option PV => (e.1, e.2.1)) hm
 have hkind : ∀ {x : Str} {k : NameKind} {ov : Option PV}, (x, k, ov) ∈ σ₀ -> env.kindOf x = some k := fun hm => (congrArg (fun q : Scope => q.names.lookup _) hscope).trans (lookup_of_nodup hsn (mk hm))
 have hn1 : (bv.map (fun e => e.1)).Nodup := hbv.2.symm ▸ hbn
 refine ⟨Heap.get?_none_of_le (hloc ▸ I.size), fun x y c hx hy => name_of_addr ic.apart (mem_of_lookup hx) (mem_of_lookup hy), hi.keys.trans (hscope ▸ rfl), hscope ▸ hsn, ⟨_, ic.toInCall.ns, fun x p hm => ?_⟩, fun x ov hm => ?_, fun x p hm => ?_⟩
 . rcases hi.all _ hm p rfl with q | q
   . obtain ⟨v, hv, hr⟩ := VRs.zip_mem hbv.1 hbv.2 _ q.1
     exact ⟨v, bindL_mem (hkind hm) hn1 hv, hr.tr t₁⟩
   . exact nomatch q.1
 . rcases hm with hm | hm
   . obtain ⟨c, hc⟩ := Option.isSome_iff_exists.mp (cellsFrom_some sc.names (s.heap.objs.size + 1) [] (.inl (lookup_of_nodup hsn (mk hm))))
     rw [<- hcells] at hc
     refine ⟨c, _, hc, ic.cell x c hc, ?_⟩
     cases ov with
     | none => trivial
     | some p =>
       rcases hi.all _ hm p rfl with q | q
       . obtain ⟨v, hv, hr⟩ := VRs.zip_mem hbv.1 hbv.2 _ q.1
         exact ⟨v, bindC_mem (fun e => nomatch (hkind hm).symm.trans e) hn1 hv, hr.tr t₁⟩
       . exact nomatch q.1
   . exact absurd rfl (hfree _ (mk hm))
 . rcases hi.all _ hm p rfl with q | q
   . exact q.2.elim (fun q => nomatch q) fun q => nomatch q
   . exact q.2
omit t₁ in
theorem fd_in (hfr : env.frame = some env.locals) (hgl : env.globals = mainGlobals) (hbu : env.builtins = builtinsNs) (hq : env.qual = qual) (hcp : ∀ c P, cp = some (c, P) -> env.code = .ref c) (hk : sc.kind = .function) (hco : sc.isCoroutine = false) : FdIn B H s ⟨sc, cp, qual, false⟩ σ₀ env s₁ := by
 obtain ⟨h', tk, hs₁, O⟩ := ic.toInCall.done
 have t₁ : Tr B noU H s H s₁ := Tr.ext I ic.toInCall.keep (Nat.le_of_lt (Nat.lt_of_le_of_lt ic.toInCall.fresh ic.toInCall.ns.lt)) (by rw [hs₁]) (by rw [hs₁])
 have le : ∀ {x c}, env.cells.lookup x = some c -> s.heap.objs.size <= c := fun h => ntr (Nat.le_of_eq hloc.symm) (Nat.le_of_lt (ic.above _ _ (mem_of_lookup h)))
 refine ⟨hloc, hfr, ⟨hscope, hk, hco, hgl, hbu, hq, hcp, fun O x c O hc => ic.above x c (mem_of_lookup hc), fun O x c O hc => Heap.get?_none_of_le (ntr I.size (le hc))⟩, t₁, fd_frame hloc hscope hcells I ic hsn hfree hi hbn hbv t₁, fun a ha => ?_, ic.toInCall.keep⟩
 rcases ha with rfl | ⟨x, _, hc, _⟩
 . exact Nat.le_of_eq hloc.symm
 . exact le hc
end
theorem fd_enter {f : Addr} {oc : Value} {od : Option Addr} {osl : Array (Option Value)} {fd : FuncData} {body : List Stmt} {cp : Option (Addr × Addr)} {args : List PV} {kw : List (Str × PV)} {bs : List (Str × PV)} {σ₀ : St}
   (ho : ∀ s, Inv B H s -> s.heap.get? f = some ⟨oc, od, .func fd, osl⟩) (hbody : fd.body = .stmts body) (hcl : fd.closure = []) (hcr : ∀ s, Inv B H s -> s.heap.CodeRec fd.code fd.qualname)
   (hk : fd.scope.kind = .function) (hco : fd.scope.isCoroutine = false) (hge : fd.scope.isGenerator = false) (hgl : fd.globals = mainGlobals) (hbu : fd.builtins = builtinsNs)
   (hcp : ∀ c P, cp = some (c, P) -> fd.code = .ref c)
   (hb : BindV B fd args kw H bs) (hbn : (bs.map (fun e => e.1)).Nodup) (hbk : ∀ e ∈ bs, ∃ k, (e.1, k) ∈ fd.scope.names /\ argKind k) (hsn : (fd.scope.names.map (fun e => e.1)).Nodup) (hfree : ∀ e ∈ fd.scope.names, e.2 ≠ .free)
   (hi : Ini B bs fd.scope.names σ₀)
   {A : Around} {s : Shared} (R : Room A (d + 1)) (I : Inv B H s) {vs : List Value} {kvs : List (Str × Value)} (h2 : VRs (Trk B H) s.heap vs args) (h3 : KwRel (Trk B H) s.heap kvs kw) {Q : Value -> Shared -> Prop} {E : EP}
   (h : ∀ env s₁, FdIn B H s ⟨fd.scope, cp, fd.qualname ++ ".<locals>.", false⟩ σ₀ env s₁ -> wpAny (model B.prog B.w) (A.deeper env) (execs body env) (fun f s' => Q (retOf f) s') (fun e s' => wpAny (model B.prog B.w) (A.deeper env) (leaving env e) (fun O s'' => E e s'') (fun e' s'' => E e' s'') s') s₁) :
   wpAny (model B.prog B.w) A (call (.ref f) vs kvs) Q E s := by
 refine wpAny_call (codeAny_call_function (by have := R.depth; lia) (ho s I) rfl hco hge hbody (hcr s I) (hb _ s I vs kvs h2 h3 _ _ fun bv hbv => ?_))
 rw [hcl]
 refine wpAny_newFunctionEnv_cells hk (fun x hx => ?_) fun env he s₁ ic => ⟨(B.nolimit.keeps I.keep).keeps ic.toInCall.keep, codeAny_func ?_⟩
 . obtain ⟨e', he', hee⟩ := mmp (hbv.2 ▸ List.mem_map_of_mem (f := fun e : Str × Value => e.1) hx : x.1 ∈ bs.map (fun e => e.1))
   obtain ⟨k, hk1, hk2⟩ := hbk e' he'
   have := lookup_of_nodup hsn (hee ▸ hk1)
   rcases hk2 with rfl | rfl
   . exact .inl this
   . exact .inr ⟨this, cellsFrom_some _ _ _ (.inl this)⟩
 . subst he
   exact h _ s₁ (fd_in rfl rfl rfl I ic hsn hfree hi hbn hbv rfl hgl hbu rfl hcp hk hco)
theorem ret_post {s s₁ s' : Shared} {env : Env} {fl : Flow} {Q : PQ} (I : Inv B H s) (t₁ : Tr B noU H s H s₁) (fr : ∀ a, ownU env a -> s.heap.objs.size <= a) (p : XsPost B env H s₁ (fun O H' => Q .none H') (PX Q) fl s') : EvPost B H s Q (retOf fl) s' := by
 obtain ⟨σ', H', t, F', q⟩ := p
 have tb := Tr.back I t₁ t fr
 rcases q with ⟨e, q⟩ | ⟨pf, hf, q⟩
 . subst e
   exact ⟨.none, H', tb, .none, q⟩
 . cases pf with
   | brk => exact q.elim
   | cont => exact q.elim
   | ret p =>
     cases fl with
     | ret v => exact ⟨p, H', tb, hf, q⟩
     | next => exact hf.elim
     | brk => exact hf.elim
     | cont => exact hf.elim
theorem fd_post {s s₁ s' : Shared} {fi : FnInfo} {σ₀ : St} {env : Env} {fl : Flow} {Q : PQ} (I : Inv B H s) (x : FdIn B H s fi σ₀ env s₁) (p : XsPost B env H s₁ (fun O H' => Q .none H') (PX Q) fl s') : EvPost B H s Q (retOf fl) s' := ret_post I x.tr x.fresh p
theorem CallV_fd {f : Addr} {oc : Value} {od : Option Addr} {osl : Array (Option Value)} {fd : FuncData} {body : List Stmt} {cp : Option (Addr × Addr)} {args : List PV} {kw : List (Str × PV)} {bs : List (Str × PV)} {σ₀ : St} {Q : PQ}
   (ho : ∀ s, Inv B H s -> s.heap.get? f = some ⟨oc, od, .func fd, osl⟩) (hbody : fd.body = .stmts body) (hcl : fd.closure = []) (hcr : ∀ s, Inv B H s -> s.heap.CodeRec fd.code fd.qualname)
   (hk : fd.scope.kind = .function) (hco : fd.scope.isCoroutine = false) (hge : fd.scope.isGenerator = false) (hgl : fd.globals = mainGlobals) (hbu : fd.builtins = builtinsNs)
   (hcp : ∀ c P, cp = some (c, P) -> fd.code = .ref c)
   (hb : BindV B fd args kw H bs) (hbn : (bs.map (fun e => e.1)).Nodup) (hbk : ∀ e ∈ bs, ∃ k, (e.1, k) ∈ fd.scope.names /\ argKind k) (hsn : (fd.scope.names.map (fun e => e.1)).Nodup) (hfree : ∀ e ∈ fd.scope.names, e.2 ≠ .free)
   (hi : Ini B bs fd.scope.names σ₀)
   (h : Xs B ⟨fd.scope, cp, fd.qualname ++ ".<locals>.", false⟩ d (fun O O => False) body σ₀ H (fun O H' => Q .none H') (PX Q)) :
   CallV B (d + 1) (fun O O => False) (.raw (.ref f)) args kw H Q := fun A s R I fv vs kvs h1 h2 h3 => by
 cases h1
 exact fd_enter ho hbody hcl hcr hk hco hge hgl hbu hcp hb hbn hbk hsn hfree hi R I h2 h3 fun env s₁ x =>
   wpAny_mono (h (A.deeper env) s₁ env x.eok (R.deeper env) x.tr.inv x.frm) (fun O O p => fd_post I x p) fun O O x => x.elim
end
noncomputable abbrev NoE : EP := fun O O => False
section
variable {B : Base} {fi : FnInfo} {d : Nat} {E : EP} {σ : St} {H : AH}
theorem notedBy_false {M : Model} {A : Around} {env : Env} {E' : EP} {α : Type} {t : Sem α} {Q : α -> Shared -> Prop} {s : Shared} (h : wpAny M A t Q NoE s) : wpAny M A t Q (notedBy M A env E') s :=
 wpAny_mono h (fun O O x => x) fun O O x => x.elim
inductive WhInv (B : Base) (env : Env) (H : AH) (s : Shared) (Iv : Nat -> SQ) (n : Nat) (s' : Shared) : Prop
 | mk (σ' : St) (H' : AH) (t : Tr B (ownU env) H s H' s') (F : FrameOk B env σ' H' s') (q : Iv n σ' H')
theorem X_While {test : Expr} {body orelse : List Stmt} {pos : Pos} {Qn : SQ} {Qf : FQ} (Iv : Nat -> SQ) {n : Nat} (h0 : Iv n σ H)
   (turn : ∀ n σ H, Iv n σ H -> Tst B fi d NoE test σ H fun b H₁ => if b then
       Xs B fi d NoE body σ H₁ (fun σ' H' => ∃ m, m < n /\ Iv m σ' H') (fun σ' pf H' => match pf with | .brk => Qn σ' H' | .cont => ∃ m, m < n /\ Iv m σ' H' | .ret v => Qf σ' (.ret v) H')
     else Xs B fi d NoE orelse σ H₁ Qn Qf) : X B fi d E (.While test body orelse pos) σ H Qn Qf := fun A s env e R I F => by
 refine wpAny_While ?_
 refine codeAny_whileLoop (WhInv B env H s Iv) ?_ n ⟨σ, H, .refl I, F, h0⟩
 rintro n s₁ ⟨σ₁, H₁, t₁, F₁, hI⟩
 refine wpAny_mono (turn n σ₁ H₁ hI A s₁ env e R t₁.inv F₁) (fun b s₂ hh1 => ?_) fun O O x => x.elim
 obtain ⟨H₂, t₂, q⟩ := hh1
 have F₂ := F₁.tr t₁.inv t₂
 have T₂ := t₁.trans t₂.up
 cases b with
 | true =>
   refine notedBy_false (wpAny_mono (q A s₂ env e R t₂.inv F₂) (fun fl s₃ hh1 => ?_) fun O O x => x)
   obtain ⟨σ₃, H₃, t₃, F₃, q₃⟩ := hh1
   have T₃ := T₂.trans t₃
   rcases q₃ with ⟨rfl, m, hm, hI'⟩ | ⟨pf, hf, q₃⟩
   . exact ⟨m, hm, σ₃, H₃, T₃, F₃, hI'⟩
   . cases pf <;> cases fl <;> first | exact hf.elim | skip
     . exact ⟨σ₃, H₃, T₃, F₃, .inl ⟨rfl, q₃⟩⟩
     . obtain ⟨m, hm, hI'⟩ := q₃; exact ⟨m, hm, σ₃, H₃, T₃, F₃, hI'⟩
     . exact ⟨σ₃, H₃, T₃, F₃, .inr ⟨_, hf, q₃⟩⟩
 | false =>
   exact notedBy_false (wpAny_mono (q A s₂ env e R t₂.inv F₂) (fun fl s₃ hh1 => by obtain ⟨σ₃, H₃, t₃, F₃, q₃⟩ := hh1; exact ⟨σ₃, H₃, T₂.trans t₃, F₃, q₃⟩) fun O O x => x)
set_option genInjectivity false in
set_option genSizeOf false in
structure Evo (B : Base) (P : Addr -> Prop) (G : Nat -> Prop) (deps : AH) (H : AH) (s : Shared) (H' : AH) (s' : Shared) : Prop where
 inv : Inv B H' s'
 seq : ∀ a o, s.heap.get? a = some o -> IsSeqO o -> ¬ Trk B H a -> s'.heap.get? a = some o
 own : ∀ a o, s.heap.get? a = some o -> P a -> s'.heap.get? a = some o
 size : s.heap.objs.size <= s'.heap.objs.size
 keys : NewKeys H s H'
 deps : ∀ p ∈ deps, p ∈ H'
 gens : ∀ (i : Nat) (x : GenState), G i -> s.gens[i]? = some x -> s'.gens[i]? = some x
set_option genInjectivity false in
set_option genSizeOf false in
structure Only (B : Base) (P : Addr -> Prop) (G : Nat -> Prop) (H : AH) (s s' : Shared) : Prop where
 inv : Inv B H s'
 heap : ∀ a o, s.heap.get? a = some o -> ¬ P a -> s'.heap.get? a = some o
 size : s.heap.objs.size <= s'.heap.objs.size
 gens : ∀ (i : Nat) (x : GenState), s.gens[i]? = some x -> ¬ G i -> s'.gens[i]? = some x
 gsize : s.gens.size <= s'.gens.size
set_option genInjectivity false in
set_option genSizeOf false in
structure Iter (B : Base) (deps : AH) (tgt : Expr) (it : Value) (P : Addr -> Prop) (G : Nat -> Prop) (J : List PV -> AH -> Shared -> Prop) : Prop where
 self : ∀ items H s A (E : EP) (Q : Value -> Shared -> Prop), J items H s -> Q it s -> wpAny (model B.prog B.w) A (pyIter it) Q E s
 notseq : ∀ items H s, J items H s -> ∀ p, P p -> ∀ o, s.heap.get? p = some o -> ¬ IsSeqO o
 stable : ∀ items H s H' s', J items H s -> Evo B P G deps H s H' s' -> J items H' s'
 next : ∀ items H s A, J items H s -> Room A 3 -> Inv B H s -> wpAny (model B.prog B.w) A (pyNext it) (fun r s₁ => match items with
   | [] => r = none /\ Only B P G H s s₁
   | x :: xs => ∃ v, r = some v /\ wpAny (model B.prog B.w) A (letOwnedTupleGo tgt it v) (fun O s₂ => Only B P G H s s₂ /\ VR (Trk B H) s₂.heap v x /\ J xs H s₂) NoE s₁) NoE s
set_option genInjectivity false in
set_option genSizeOf false in
structure IterW (B : Base) (A : Around) (deps : AH) (tgt : Expr) (it : Value) (G : Nat -> Prop) (J : (Addr -> Prop) -> List PV -> AH -> Shared -> Prop) : Prop where
 self : ∀ W items H s (E : EP) (Q : Value -> Shared -> Prop), J W items H s -> Q it s -> wpAny (model B.prog B.w) A (pyIter it) Q E s
 notseq : ∀ W items H s, J W items H s -> ∀ p, W p -> ∀ o, s.heap.get? p = some o -> ¬ IsSeqO o
 stable : ∀ W items H s H' s', J W items H s -> Evo B W G deps H s H' s' -> J W items H' s'
 next : ∀ W items H s, J W items H s -> Room A 3 -> Inv B H s -> wpAny (model B.prog B.w) A (pyNext it) (fun r s₁ => match items with
   | [] => r = none /\ Only B W G H s s₁
   | x :: xs => ∃ v, r = some v /\ wpAny (model B.prog B.w) A (letOwnedTupleGo tgt it v) (fun O s₂ => Only B W G H s s₂ /\ VR (Trk B H) s₂.heap v x /\
       ∃ W' : Addr -> Prop, (∀ p, W' p -> W p \/ (s.heap.objs.size <= p /\ p < s₂.heap.objs.size)) /\ J W' xs H s₂) NoE s₁) NoE s
theorem Iter.toW {A : Around} {deps : AH} {tgt : Expr} {it : Value} {P : Addr -> Prop} {G : Nat -> Prop} {J : List PV -> AH -> Shared -> Prop} (I : Iter B deps tgt it P G J) : IterW B A deps tgt it G (fun W items H s => W = P /\ J items H s) where
 self := fun W items H s E Q h q => I.self items H s A E Q h.2 q
 notseq := fun W items H s h p hp => I.notseq items H s h.2 p (h.1 ▸ hp)
 stable := fun W items H s H' s' h e => ⟨h.1, I.stable items H s H' s' h.2 (h.1 ▸ e)⟩
 next := fun W items H s h R i => by
   obtain ⟨rfl, h⟩ := h
   refine wpAny_mono (I.next items H s A h R i) (fun r s₁ q => ?_) fun O O x => x
   cases items with
   | nil => exact q
   | cons x xs =>
     obtain ⟨v, e, q⟩ := q
     exact ⟨v, e, wpAny_mono q (fun O s₂ hh1 => by obtain ⟨a, b, c⟩ := hh1; exact ⟨a, b, W, fun p hp => .inl hp, rfl, c⟩) fun O O x => x⟩
theorem Trk_lt {s : Shared} (I : Inv B H s) {a : Addr} (q : Trk B H a) : a < s.heap.objs.size := by
 rcases q with q | q | q
 . obtain ⟨p, hp, rfl⟩ := mmp q
   obtain ⟨O, O, O, e, O⟩ := I.objs p hp; exact Heap.lt_size e
 . obtain ⟨p, hp, rfl⟩ := mmp q
   obtain ⟨O, e, O⟩ := I.tabs p hp; exact Heap.lt_size e
 . obtain ⟨p, hp, rfl⟩ := mmp q
   exact Heap.lt_size (I.hid p hp).1
inductive MadeO (B : Base) (tgt : Expr) (H₀ : AH) (s : Shared) (Q : IQ) (it : Value) (s' : Shared) : Prop
 | mk (items : List PV) (deps : AH) (H' : AH) (P : Addr -> Prop) (G : Nat -> Prop) (J : List PV -> AH -> Shared -> Prop) (t : Tr B noU H₀ s H' s') (I : Iter B deps tgt it P G J) (j : J items H' s') (p : ∀ p, P p -> s.heap.objs.size <= p /\ p < s'.heap.objs.size /\ ¬ Trk B H' p)
     (g : ∀ i, G i -> s.gens.size <= i /\ i < s'.gens.size) (dp : ∀ p ∈ deps, p ∈ H') (q : Q items deps H')
inductive Made (B : Base) (A : Around) (tgt : Expr) (H₀ : AH) (s : Shared) (Q : IQ) (it : Value) (s' : Shared) : Prop
 | mk (items : List PV) (deps : AH) (H' : AH) (W : Addr -> Prop) (G : Nat -> Prop) (J : (Addr -> Prop) -> List PV -> AH -> Shared -> Prop) (t : Tr B noU H₀ s H' s') (I : IterW B A deps tgt it G J) (j : J W items H' s') (p : ∀ p, W p -> s.heap.objs.size <= p /\ p < s'.heap.objs.size /\ ¬ Trk B H' p)
     (g : ∀ i, G i -> s.gens.size <= i /\ i < s'.gens.size) (dp : ∀ p ∈ deps, p ∈ H') (q : Q items deps H')
theorem MadeO.made {A : Around} {tgt : Expr} {H₀ : AH} {s : Shared} {Q : IQ} {it : Value} {s' : Shared} (m : MadeO B tgt H₀ s Q it s') : Made B A tgt H₀ s Q it s' := by
 obtain ⟨items, deps, H', P, G, J, t', a, b, c, c', e, f⟩ := m
 exact ⟨items, deps, H', P, G, _, t', a.toW, ⟨rfl, b⟩, c, c', e, f⟩
theorem Made.trans {A : Around} {tgt : Expr} {H₀ H₁ : AH} {s s₁ : Shared} {Q : IQ} {it : Value} {s' : Shared} (t : Tr B noU H₀ s H₁ s₁) (hg : s.gens.size <= s₁.gens.size) (m : Made B A tgt H₁ s₁ Q it s') : Made B A tgt H₀ s Q it s' := by
 obtain ⟨items, deps, H', P, G, J, t', a, b, c, c', e, f⟩ := m
 exact ⟨items, deps, H', P, G, J, t.trans t', a, b, fun p hp => ⟨ntr t.step.size (c p hp).1, (c p hp).2⟩, fun i hi => ⟨ntr hg (c' i hi).1, (c' i hi).2⟩, e, f⟩
noncomputable def IterV (B : Base) (d : Nat) (E : EP) (tgt : Expr) (v : PV) (H : AH) (Q : IQ) : Prop :=
 ∀ A s, Room A d -> Inv B H s -> ∀ va, VR (Trk B H) s.heap va v -> wpAny (model B.prog B.w) A (pyIter va) (Made B A tgt H s Q) E s
noncomputable def EvI (B : Base) (fi : FnInfo) (d : Nat) (E : EP) (tgt e : Expr) (σ : St) (H : AH) (Q : IQ) : Prop :=
 ∀ A s env, EnvOk B fi env -> Room A d -> Inv B H s -> FrameOk B env σ H s ->
   wpAny (model B.prog B.w) A (eval e env) (fun x s₁ => wpAny (model B.prog B.w) A (pyIter x) (Made B A tgt H s Q) E s₁) E s
theorem gens_size {H H' : AH} {U : Addr -> Prop} {s s' : Shared} (t : Tr B U H s H' s') : s.gens.size <= s'.gens.size := by
 rcases Nat.lt_or_ge s'.gens.size s.gens.size with h | h
 . have h1 : s.gens[s'.gens.size]? = some (s.gens[s'.gens.size]'h) := Array.getElem?_eq_getElem h
   have := t.step.gens _ _ h1
   simp at this
 . exact h
theorem EvI_of {tgt e : Expr} {Q : IQ} (h : Ev B fi d E e σ H fun v H₁ => IterV B d E tgt v H₁ Q) : EvI B fi d E tgt e σ H Q := fun A s env e' R I F =>
 wpAny_mono (h A s env e' R I F) (fun va s₁ hh1 => by obtain ⟨v, H₁, t₁, r₁, h₁⟩ := hh1; exact wpAny_mono (h₁ A s₁ R t₁.inv va r₁) (fun it s₂ m => m.trans t₁ (gens_size t₁)) fun O O x => x) fun O O x => x
inductive SPost (B : Base) (env : Env) (H : AH) (s : Shared) (Q : SQ) (s' : Shared) : Prop
 | mk (σ' : St) (H' : AH) (t : Tr B (ownU env) H s H' s') (F : FrameOk B env σ' H' s') (q : Q σ' H')
noncomputable def Asg (B : Base) (fi : FnInfo) (d : Nat) (E : EP) (tgt : Expr) (v : PV) (σ : St) (H : AH) (Q : SQ) : Prop :=
 ∀ A s env, EnvOk B fi env -> Room A d -> Inv B H s -> FrameOk B env σ H s -> ∀ va, VR (Trk B H) s.heap va v ->
   wpAny (model B.prog B.w) A (assign tgt env va) (fun O s' => SPost B env H s Q s') E s
theorem Asg_Name {x : Str} {pos : Pos} {v : PV} {Q : SQ} (h : ∃ k σ', Rep x v k σ σ' /\ storable fi k /\ Q σ' H) : Asg B fi d E (.Name x pos) v σ H Q := fun A s env e R I F va r => by
 obtain ⟨k, σ', hr, hk, q⟩ := h
 show wpAny _ A (do standAt pos; bindName env x va) _ _ s
 exact wpAny_bind (wpAny_standAt (wpAny_bindName (wpAny_mono (store_ok e I F r hr hk) (fun O s₂ hh1 => by obtain ⟨t₂, F₂⟩ := hh1; exact ⟨σ', H, t₂, F₂, q⟩) fun O O x => x)))
noncomputable def ForL (B : Base) (fi : FnInfo) (d : Nat) (tgt : Expr) (body : List Stmt) (deps : AH) : List PV -> St -> AH -> (SQ) -> (FQ) -> Prop
 | [], σ, H, Qn, _ => Qn σ H
 | x :: xs, σ, H, Qn, Qf => Asg B fi d NoE tgt x σ H fun σ₁ H₁ => Xs B fi d NoE body σ₁ H₁ (fun σ₂ H₂ => (∀ p ∈ deps, p ∈ H₂) /\ ForL B fi d tgt body deps xs σ₂ H₂ Qn Qf)
     (fun σ₂ pf H₂ => match pf with
       | .cont => (∀ p ∈ deps, p ∈ H₂) /\ ForL B fi d tgt body deps xs σ₂ H₂ Qn Qf
       | .brk => Qn σ₂ H₂
       | .ret v => Qf σ₂ (.ret v) H₂)
theorem CellAt.look {T : Addr -> Prop} {env : Env} {h : Heap} {x : Str} {ov : Option PV} (q : CellAt T env h x ov) : ∃ c, env.cells.lookup x = some c /\ c < h.objs.size := by
 obtain ⟨c, w, a, b, d⟩ := q
 exact ⟨c, a, b.lt⟩
theorem FrameOk.own_at {env : Env} {s : Shared} (F : FrameOk B env σ H s) {a : Addr} (ha : ownU env a) : ∃ o, s.heap.get? a = some o /\ (∀ vs n, o.data ≠ .seq vs n) /\ ∀ vs, o.data ≠ .fields vs := by
 rcases ha with rfl | ⟨x, hx, hc, _⟩
 . obtain ⟨O, ⟨o, O, O, ho, hd, O⟩, O⟩ := F.ns
   exact ⟨o, ho, (fun O O q => nomatch hd.symm.trans q), fun O q => nomatch hd.symm.trans q⟩
 . obtain ⟨⟨y, k, ov⟩, he, heq⟩ := mmp (F.keys ▸ mem_of_lookup hx : (x, NameKind.cell) ∈ σ.map _)
   cases heq
   obtain ⟨O, O, hc', ⟨o, ho, hd⟩, O⟩ := F.cell _ ov (.inl he)
   exact ⟨o, Option.some.inj (hc'.symm.trans hc) ▸ ho, (fun O O q => nomatch hd.symm.trans q), fun O q => nomatch hd.symm.trans q⟩
theorem FrameOk.own_lt {env : Env} {s : Shared} (F : FrameOk B env σ H s) {a : Addr} (ha : ownU env a) : a < s.heap.objs.size := by
 obtain ⟨o, e, O⟩ := F.own_at ha
 exact Heap.lt_size e
theorem FrameOk.own_not {env : Env} {s : Shared} (F : FrameOk B env σ H s) {a : Addr} (ha : ownU env a) {o : Obj} (ho : s.heap.get? a = some o) : (∀ vs n, o.data ≠ .seq vs n) /\ ∀ vs, o.data ≠ .fields vs := by
 obtain ⟨o', e, q⟩ := F.own_at ha
 exact Option.some.inj (e.symm.trans ho) ▸ q
theorem FrameOk.own_data {env : Env} {s : Shared} (F : FrameOk B env σ H s) {a : Addr} (ha : ownU env a) {o : Obj} (ho : s.heap.get? a = some o) : ¬ IsSeqO o := fun q => by
 obtain ⟨vs, n, q⟩ := q
 exact (F.own_not ha ho).1 vs n q
theorem Only.tr {P : Addr -> Prop} {G : Nat -> Prop} {U : Addr -> Prop} {H₀ : AH} {s₀ s s' : Shared} (t : Tr B U H₀ s₀ H s) (o : Only B P G H s s') (hP : ∀ p, P p -> s₀.heap.objs.size <= p) (hG : ∀ i, G i -> s₀.gens.size <= i) : Tr B U H₀ s₀ H s' :=
 ⟨o.inv, ⟨fun a ob e hn => o.heap a ob (t.step.heap a ob e hn) fun q => absurd (Heap.lt_size e) (nlr (hP a q)), ntr t.step.size o.size,
   fun i x e => o.gens i x (t.step.gens i x e) fun q => by
     have hlt : i < s₀.gens.size := by
       rcases Nat.lt_or_ge i s₀.gens.size with h | h
       . exact h
       . rw [Array.getElem?_eq_none h] at e; cases e
     exact absurd hlt (nlr (hG i q))⟩, t.keys⟩
theorem Only.frame {P : Addr -> Prop} {G : Nat -> Prop} {env : Env} {σ₀ : St} {H₀ : AH} {s₀ s s' : Shared} (F₀ : FrameOk B env σ₀ H₀ s₀) (F : FrameOk B env σ H s) (o : Only B P G H s s') (hP : ∀ p, P p -> s₀.heap.objs.size <= p) (hS : ∀ p, P p -> ∀ ob, s.heap.get? p = some ob -> ¬ IsSeqO ob) :
   FrameOk B env σ H s' := by
 have hk : ∀ a ob, s.heap.get? a = some ob -> IsSeqO ob -> ¬ Trk B H a -> s'.heap.get? a = some ob := fun a ob e q O => o.heap a ob e fun p => hS a p ob e q
 refine ⟨F.fresh, F.apart, F.keys, F.nodup, ?_, fun y ov hy => ?_, F.glob⟩
 . obtain ⟨m, ⟨ob, es, ep, ho, hd, r⟩, hm⟩ := F.ns
   exact ⟨m, ⟨ob, es, ep, o.heap _ _ ho fun p => absurd (F₀.own_lt (.inl rfl)) (nlr (hP _ p)), hd, r⟩, fun y p hy => (hm y p hy).mono hk fun O O t => t⟩
 . have find : ∀ {k}, (y, k, ov) ∈ σ -> ∃ ov', (y, k, ov') ∈ σ₀ := fun hm => by
     obtain ⟨⟨y', k', ov'⟩, he, heq⟩ := mmp ((F₀.keys.trans F.keys.symm) ▸ List.mem_map_of_mem (f := fun e : Str × NameKind × Option PV => (e.1, e.2.1)) hm)
     cases heq
     exact ⟨ov', he⟩
   obtain ⟨c, w, hc, ⟨ob, ho, hd⟩, hv⟩ := F.cell y ov hy
   obtain ⟨c', hc', hlt⟩ : ∃ c', env.cells.lookup y = some c' /\ c' < s₀.heap.objs.size := hy.elim (fun h => (find h).elim fun O h => (F₀.cell _ _ (.inl h)).look) fun h => (find h).elim fun O h => (F₀.cell _ _ (.inr h)).look
   exact ⟨c, w, hc, ⟨ob, o.heap _ _ ho fun p => absurd (Option.some.inj (hc'.symm.trans hc) ▸ hlt) (nlr (hP _ p)), hd⟩, hv.mono hk fun O O t => t⟩
theorem Evo.of_tr {P : Addr -> Prop} {G : Nat -> Prop} {deps : AH} {env : Env} {H' : AH} {σ₀ : St} {H₀ : AH} {s₀ s s' : Shared} (F₀ : FrameOk B env σ₀ H₀ s₀) (F : FrameOk B env σ H s) (t : Tr B (ownU env) H s H' s') (hP : ∀ p, P p -> s₀.heap.objs.size <= p /\ ¬ Trk B H p) (hd : ∀ p ∈ deps, p ∈ H') : Evo B P G deps H s H' s' :=
 ⟨t.inv, fun a ob e hq hn => t.step.heap a ob e fun q => q.elim hn fun u => F.own_data u e hq,
   fun a ob e hp => t.step.heap a ob e fun q => q.elim (hP a hp).2 fun u => absurd (F₀.own_lt u) (nlr (hP a hp).1), t.step.size, t.keys, hd, fun i x O e => t.step.gens i x e⟩
inductive ForInv (B : Base) (fi : FnInfo) (d : Nat) (env : Env) (H : AH) (s : Shared) (J : (Addr -> Prop) -> List PV -> AH -> Shared -> Prop) (deps : AH) (tgt : Expr) (body : List Stmt) (Qn : SQ) (Qf : FQ) (n : Nat) (s' : Shared) : Prop
 | mk (W : Addr -> Prop) (items : List PV) (σ' : St) (H'' : AH) (hn : n = items.length) (t : Tr B (ownU env) H s H'' s') (F : FrameOk B env σ' H'' s') (j : J W items H'' s') (p : ∀ p, W p -> s.heap.objs.size <= p /\ ¬ Trk B H'' p /\ p < s'.heap.objs.size) (dp : ∀ p ∈ deps, p ∈ H'') (q : ForL B fi d tgt body deps items σ' H'' Qn Qf)
theorem X_For {tgt it : Expr} {body : List Stmt} {pos : Pos} {Qn : SQ} {Qf : FQ}
   (h : EvI B fi d E tgt it σ H fun items deps H₁ => ForL B fi d tgt body deps items σ H₁ Qn Qf) (hd : 3 <= d := by decide) (hs : ∀ env x, foldedSetIterable it env x = pure x := by intro _ _; rfl) :
   X B fi d E (.For tgt it body [] pos) σ H Qn Qf := fun A s env e R I F => by
 show wpAny _ A (do standAt pos; let x <- foldedSetIterable it env (<- eval it env); standAt it.pos; runOwn (.forLoop tgt (<- holding [x] (pyIter x)) body [] env) env) _ _ s
 refine wpAny_bind (wpAny_standAt (wpAny_bind (wpAny_mono (h A s env e R I F) (fun x s₁ h₁ => ?_) fun O O x => x)))
 refine wpAny_bind (wpAny_of_eq (hs env x) (wpAny_bind (wpAny_standAt (wpAny_bind (wpAny_holding (wpAny_mono h₁ (fun itv s₂ m => ?_) fun O O x => x))))))
 obtain ⟨items, deps, H', P, G, J, t, IT, hJ, hP, hG, hdep, q⟩ := m
 refine wpAny_runOwn ?_
 have F' := F.tr I t
 have R3 : Room A 3 := R.le hd
 refine codeAny_forLoop_any (ForInv B fi d env H s J deps tgt body Qn Qf)
   ?_ items.length ⟨P, items, σ, H', rfl, t.up, F', hJ, fun p hp => ⟨(hP p hp).1, (hP p hp).2.2, (hP p hp).2.1⟩, hdep, q⟩
 rintro n s₃ ⟨W, items, σ₃, H₃, rfl, t₃, F₃, hJ₃, hP₃, hd₃, q₃⟩
 have hPa : ∀ p, W p -> s.heap.objs.size <= p := fun p hp => (hP₃ p hp).1
 refine wpAny_mono (IT.next W items H₃ s₃ hJ₃ R3 t₃.inv) (fun r s₄ hr => ?_) fun O O x => x.elim
 cases items with
 | nil =>
   obtain ⟨rfl, o⟩ := hr
   dsimp only
   refine notedBy_false (wpAny_execs_nil ⟨σ₃, H₃, o.tr t₃ hPa fun i hi => (hG i hi).1, o.frame F F₃ hPa fun p hp => IT.notseq _ _ _ _ hJ₃ p hp, .inl ⟨rfl, q₃⟩⟩)
 | cons x xs =>
   obtain ⟨v, rfl, hv⟩ := hr
   dsimp only
   refine notedBy_false (wpAny_mono hv (fun O s₅ hh1 => ?_) fun O O x => x)
   obtain ⟨o, hvr, W', hW', hJ₅⟩ := hh1
   have t₅ : Tr B (ownU env) H s H₃ s₅ := o.tr t₃ hPa fun i hi => (hG i hi).1
   have F₅ : FrameOk B env σ₃ H₃ s₅ := o.frame F F₃ hPa fun p hp => IT.notseq _ _ _ _ hJ₃ p hp
   have hP₅ : ∀ p, W' p -> s.heap.objs.size <= p /\ ¬ Trk B H₃ p /\ p < s₅.heap.objs.size := fun p hp => by
     rcases hW' p hp with q | ⟨q1, q2⟩
     . exact ⟨(hP₃ p q).1, (hP₃ p q).2.1, nlt (hP₃ p q).2.2 o.size⟩
     . exact ⟨ntr t₃.step.size q1, fun q => absurd (Trk_lt t₃.inv q) (nlr q1), q2⟩
   refine notedBy_false (wpAny_mono (q₃ A s₅ env e R t₅.inv F₅ v hvr) (fun O s₆ hh1 => ?_) fun O O x => x)
   obtain ⟨σ₆, H₆, t₆, F₆, q₆⟩ := hh1
   refine notedBy_false (wpAny_mono (q₆ A s₆ env e R t₆.inv F₆) (fun fl s₇ hh1 => ?_) fun O O x => x)
   obtain ⟨σ₇, H₇, t₇, F₇, q₇⟩ := hh1
   have T₇ := t₆.trans t₇
   have again : ((∀ p ∈ deps, p ∈ H₇) /\ ForL B fi d tgt body deps xs σ₇ H₇ Qn Qf) -> ∃ m, m < (x :: xs).length /\ ForInv B fi d env H s J deps tgt body Qn Qf m s₇ := by
     rintro ⟨hd₇, q₇⟩
     refine ⟨xs.length, Nat.lt_succ_self _, W', xs, σ₇, H₇, rfl, t₅.trans T₇, F₇, IT.stable _ _ _ _ _ _ hJ₅ (Evo.of_tr F F₅ T₇ (fun p hp => ⟨(hP₅ p hp).1, (hP₅ p hp).2.1⟩) hd₇), fun p hp => ⟨(hP₅ p hp).1, fun q => (hP₅ p hp).2.1 (Trk.new T₇.keys (hP₅ p hp).2.2 q), nlt (hP₅ p hp).2.2 T₇.step.size⟩, hd₇, q₇⟩
   rcases q₇ with ⟨rfl, q₇⟩ | ⟨pf, hf, q₇⟩
   . exact again q₇
   . cases pf <;> cases fl <;> first | exact hf.elim | skip
     . exact ⟨σ₇, H₇, t₅.trans T₇, F₇, .inl ⟨rfl, q₇⟩⟩
     . exact again q₇
     . exact ⟨σ₇, H₇, t₅.trans T₇, F₇, .inr ⟨_, hf, q₇⟩⟩
end
section
open Sem (wp)
theorem upd_size (h : Heap) (a : Addr) (f : Obj -> Obj) : (h.update a f).objs.size = h.objs.size := by
 obtain ⟨o, l⟩ := h; simp [Heap.update]
theorem runs_grow {M : Model} {Γ : Ctx} {p : Pos} {t : Sem Fin} {fs : List Frame} {s s' : Shared} {e : End} (h : Runs M Γ p t fs s e s') : s.heap.objs.size <= s'.heap.objs.size := by
 induction h <;> (try simp only [Shared.setGen, upd_size, Heap.size_push] at *) <;> (first | exact Nat.le_refl _ | assumption | lia)
theorem returns_grow {M : Model} {Γ : Ctx} {p : Pos} {s s' : Shared} {r : Result} (h : Returns M Γ p s r s') : s.heap.objs.size <= s'.heap.objs.size := runs_grow h
theorem wakes_grow {M : Model} {Γ : Ctx} {p : Pos} {g : Nat} {r : Resume} {s s' : Shared} {res : GenResult} (h : Wakes M Γ p g r s res s') : s.heap.objs.size <= s'.heap.objs.size := by
 unfold Wakes at h
 split at h
 . exact h.elim
 . split at h
   . obtain ⟨e₁, s₁, hr, O, O, rfl⟩ := h; exact (runs_grow hr : (s.setGen g .running).heap.objs.size <= s₁.heap.objs.size)
   . rw [h.2]; exact Nat.le_refl _
   . rw [h.2]; exact Nat.le_refl _
 . obtain ⟨e₁, s₁, hr, O, O, rfl⟩ := h; exact (runs_grow hr : (s.setGen g .running).heap.objs.size <= s₁.heap.objs.size)
 . rw [h.2]; exact Nat.le_refl _
 . rw [h.2]; exact Nat.le_refl _
theorem wp_grow {α : Type} (M : Model) (Γ : Ctx) (n : Nat) (t : Sem α) : ∀ (Q : α -> Pos -> Shared -> Prop) (E : Value -> Pos -> Shared -> Prop) (p : Pos) (s : Shared), n <= s.heap.objs.size -> wp M Γ t Q E p s ->
   wp M Γ t (fun a p' s' => n <= s'.heap.objs.size /\ Q a p' s') (fun e p' s' => n <= s'.heap.objs.size /\ E e p' s') p s := by
 induction t with
 | pure a => intro Q E p s hn h; exact ⟨hn, h⟩
 | raise e => intro Q E p s hn h; exact ⟨hn, h⟩
 | unsupported _ => intro Q E p s _ h; exact h
 | finish _ => intro Q E p s _ h; exact h
 | rule _ k ih => intro Q E p s hn h; exact ih () Q E p s hn h
 | «at» p' k ih => intro Q E p s hn h; exact ih () Q E p' s hn h
 | load a _ k ih => intro Q E p s hn h; obtain ⟨o, ho, h⟩ := h; exact ⟨o, ho, ih o Q E p s hn h⟩
 | update a _ f k ih => intro Q E p s hn h; exact ⟨h.1, ih () Q E p _ (by show n <= (s.heap.update a f).objs.size; rw [upd_size]; exact hn) h.2⟩
 | loadIfAlive a k ih => intro Q E p s hn h; exact ih _ Q E p s hn h
 | point _ k ih => intro Q E p s hn h; exact ih () Q E p s hn h
 | register _ _ => intro Q E p s _ h; exact h
 | alloc o k ih => intro Q E p s hn h; exact ih _ Q E p _ (by show n <= (s.heap.push o).objs.size; rw [Heap.size_push]; exact Nat.le_succ_of_le hn) h
 | fresh k ih => intro Q E p s hn h; exact ih _ Q E p { s with toks := s.toks + 1 } hn h
 | ask k ih => intro Q E p s hn h; exact ih _ Q E p s hn h
 | choose src m k ih => intro Q E p s hn h; exact ⟨h.1, ih _ Q E p { s with drawn := _ } hn h.2⟩
 | os q _ k ih => intro Q E p s hn h; exact ih _ Q E p { s with os := _ } hn h
 | call c hd _ _ k ih => intro Q E p s hn h; obtain ⟨r, s', hr, h⟩ := h; exact ⟨r, s', hr, ih r Q E p s' (ntr hn (returns_grow hr)) h⟩
 | handled own k ih => intro Q E p s hn h; exact ih _ Q E p s hn h
 | genState g k ih => intro Q E p s hn h; obtain ⟨st, hs, h⟩ := h; exact ⟨st, hs, ih _ Q E p s hn h⟩
 | newGen c k ih => intro Q E p s hn h; exact ih _ Q E p { s with gens := _ } hn h
 | resume g r _ k ih => intro Q E p s hn h; obtain ⟨res, s', hw, h⟩ := h; exact ⟨res, s', hw, ih res Q E p s' (ntr hn (wakes_grow hw)) h⟩
 | yield _ _ _ _ => intro Q E p s _ h; exact h
 | stack k ih => intro Q E p s hn h; exact ih _ Q E p s hn h
 | fork _ _ => intro Q E p s _ h; exact h
 | thread k ih => intro Q E p s hn h; exact ih _ Q E p s hn h
 | await _ _ _ _ _ => intro Q E p s _ h; exact h
theorem wpAny_grow {α : Type} {M : Model} {A : Around} {s : Shared} {t : Sem α} {Q : α -> Shared -> Prop} {E : Value -> Shared -> Prop}
   (h : wpAny M A t (fun a s' => s.heap.objs.size <= s'.heap.objs.size -> Q a s') (fun e s' => s.heap.objs.size <= s'.heap.objs.size -> E e s') s) : wpAny M A t Q E s :=
 fun Γ p hΓ => Sem.wp_mono M Γ t (fun O O O x => x.2 x.1) (fun O O O x => x.2 x.1) p s (wp_grow M Γ _ t _ _ p s (Nat.le_refl _) (h Γ p hΓ))
end
noncomputable def Loose (o : Obj) : Prop := ¬ IsSeqO o /\ ∀ vs q t, o.data = .fields vs -> vs[1]? ≠ some (.str q t)
section
variable {B : Base} {d : Nat} {E : EP} {H : AH}
theorem Only.make {P : Addr -> Prop} {G : Nat -> Prop} {s s' : Shared} (I : Inv B H s) (hk : ∀ a o, s.heap.get? a = some o -> ¬ P a -> s'.heap.get? a = some o) (hz : s.heap.objs.size <= s'.heap.objs.size)
   (hP : ∀ p, P p -> B.g.objs.size <= p /\ ¬ Trk B H p) (hL : ∀ p, P p -> ∀ o, s.heap.get? p = some o -> Loose o)
   (hg : ∀ (i : Nat) (x : GenState), s.gens[i]? = some x -> ¬ G i -> s'.gens[i]? = some x) (hgz : s.gens.size <= s'.gens.size) (hb : AllBare s'.gens) (ho : s'.os = s.os) : Only B P G H s s' := by
 have hs : ∀ a o, s.heap.get? a = some o -> IsSeqO o -> ¬ Trk B H a -> s'.heap.get? a = some o := fun a o e q O => hk a o e fun p => (hL a p o e).1 q
 refine ⟨⟨fun a o e => hk a o (I.keep a o e) fun p => absurd (Heap.lt_size e) (nlr (hP a p).1), ntr I.size hz, fun q hq => ?_, hb, ho.trans I.os, I.nodup, fun q hq => let ⟨a, b, c, e⟩ := I.hid q hq; ⟨hk _ _ a fun p => (hL _ p _ a).1 b, b, c, e⟩, fun p hp => ?_⟩, hk, hz, hg, hgz⟩
 . obtain ⟨ps, h1, h2, h3⟩ := I.tabs q hq
   refine ⟨ps, hk _ _ h1 fun p => (hP _ p).2 (.inr (.inl (mmr ⟨q, hq, rfl⟩))), h2, fun pos cv hc => ?_⟩
   obtain ⟨qn, a1, c, oc, vs, t, e1, e2, e3, e4⟩ := h3 pos cv hc
   exact ⟨qn, a1, c, oc, vs, t, e1, hk _ _ e2 fun p => (hL c p oc e2).2 vs _ _ e3 e4, e3, e4⟩
 . obtain ⟨h1, vs, n, h2, h3⟩ := I.objs p hp
   exact ⟨h1, vs, n, hk _ _ h2 fun q => (hP _ q).2 (.inl (mmr ⟨p, hp, rfl⟩)), h3.mono hs fun O O t => t⟩
theorem lit_loose {h : Heap} {it l : Addr} {i : Nat} (x : h.IsListIter it l i) : ∀ o, h.get? it = some o -> Loose o := by
 obtain ⟨o', ho', hc, hd⟩ := x
 intro o ho
 rw [ho'] at ho; cases ho
 refine ⟨fun ⟨vs, n, q⟩ => (by rw [hd] at q; cases q), fun vs q t e => ?_⟩
 rw [hd] at e; cases e; simp
inductive JL (B : Base) (it l : Addr) (items : List PV) (H : AH) (s : Shared) : Prop
 | mk (vs : Array Value) (n i : Nat) (a : s.heap.IsListIter it l i) (b : s.heap.get? l = some (lstObj vs n)) (c : VRs (Trk B H) s.heap (vs.toList.drop i) items) (d : ¬ Trk B H l) (e : B.g.objs.size <= it) (f : ¬ Trk B H it)
inductive JT (B : Base) (it l : Addr) (xs : List PV) (items : List PV) (H : AH) (s : Shared) : Prop
 | mk (i : Nat) (a : s.heap.IsListIter it l i) (b : (l, xs) ∈ H) (c : items = xs.drop i) (d : B.g.objs.size <= it) (e : ¬ Trk B H it)
theorem lst_isList {h : Heap} {l : Addr} {vs : Array Value} {n : Nat} (e : h.get? l = some (lstObj vs n)) : h.IsList l vs := ⟨_, e, rfl, n, rfl⟩
theorem VRs.head {T : Addr -> Prop} {h : Heap} {vs : List Value} {x : PV} {xs : List PV} (r : VRs T h vs (x :: xs)) : ∃ v ws, vs = v :: ws /\ VR T h v x /\ VRs T h ws xs := by
 cases r with | cons a b => exact ⟨_, _, rfl, a, b⟩
theorem VRs.isnil {T : Addr -> Prop} {h : Heap} {vs : List Value} (r : VRs T h vs []) : vs = [] := by cases r; rfl
theorem letGo_plain {A : Around} {s : Shared} {tgt : Expr} {it : Addr} {v : Value} {Q : Unit -> Shared -> Prop} {E : EP} {o : Obj} {n : String} (ho : s.heap.get? it = some o) (hn : o.cls = .type n)
   (hc : ["enumerate", "zip", "dict_itemiterator", "dict_reverseitemiterator", "odict_iterator", "itertools.zip_longest", "itertools.pairwise"].contains n = false) (q : Q () s) : wpAny (model B.prog B.w) A (letOwnedTupleGo tgt (.ref it) v) Q E s := by
 have p : wpAny (model B.prog B.w) A (pure ()) Q E s := wpAny_pure q
 cases tgt
 case Tuple | List =>
   cases v
   case ref a =>
     refine wpAny_bind (wpAny_load ho ?_)
     rw [hn]
     cases o.data
     case fields vs => exact wpAny_no (by rw [hc]; exact Bool.false_ne_true) p
     all_goals exact p
   all_goals exact p
 all_goals exact p
theorem iter_next {it l : Addr} {vs : Array Value} {n i : Nat} {items : List PV} {J : List PV -> AH -> Shared -> Prop} {tgt : Expr} {A : Around} {s : Shared} (R : Room A 3) (I : Inv B H s)
   (hit : s.heap.IsListIter it l i) (hl : s.heap.get? l = some (lstObj vs n)) (hv : VRs (Trk B H) s.heap (vs.toList.drop i) items) (hg : B.g.objs.size <= it) (ht : ¬ Trk B H it)
   (hJ : ∀ x xs s', items = x :: xs -> s'.heap.IsListIter it l (i + 1) -> Only B (· = it) (fun O => False) H s s' -> J xs H s') :
   wpAny (model B.prog B.w) A (pyNext (.ref it)) (fun r s₁ => match items with
     | [] => r = none /\ Only B (· = it) (fun O => False) H s s₁
     | x :: xs => ∃ v, r = some v /\ wpAny (model B.prog B.w) A (letOwnedTupleGo tgt (.ref it) v) (fun O s₂ => Only B (· = it) (fun O => False) H s s₂ /\ VR (Trk B H) s₂.heap v x /\ J xs H s₂) NoE s₁) NoE s := by
 have hLo := lit_loose hit
 have mk : ∀ (h' : Heap), (∀ a o, s.heap.get? a = some o -> a ≠ it -> h'.get? a = some o) -> s.heap.objs.size <= h'.objs.size -> Only B (· = it) (fun O => False) H s { s with heap := h' } := fun h' hk hz =>
   Only.make I (fun a o e hp => hk a o e hp) hz (fun p hp => by subst hp; exact ⟨hg, ht⟩) (fun p hp o ho => by subst hp; exact hLo o ho) (fun O O e O => e) (Nat.le_refl _) I.bare rfl
 cases items with
 | nil =>
   have hnil := hv.isnil
   have hx : vs[i]? = none := by
     rw [<- Array.getElem?_toList]
     exact List.getElem?_eq_none (List.drop_eq_nil_iff.mp hnil)
   exact wpAny_grow (wpAny_pyNext_list_end R.handled hit (lst_isList hl) hx fun h' hx' hz => ⟨rfl, mk h' (fun a o e hne => hx' a o hne e) hz⟩)
 | cons x xs =>
   obtain ⟨v, ws, hd, hr, hrs⟩ := hv.head
   have hx : vs[i]? = some v := by
     rw [<- Array.getElem?_toList]
     have := congrArg (fun l => l[0]?) hd
     simpa using this
   refine wpAny_pyNext_list_item hit (lst_isList hl) hx fun h' hit' hs' => ⟨v, rfl, ?_⟩
   have o := mk h' (fun a o e hne => (hs'.2 a hne).trans e) (by rw [hs'.1]; exact Nat.le_refl _)
   obtain ⟨ob, ho, hc, O⟩ := id hit'
   refine letGo_plain ho hc rfl ⟨o, hr.mono (fun a ob e q O => o.heap a ob e fun eq => (hLo ob (eq ▸ e)).1 q) fun O O t => t, hJ x xs _ rfl hit' o⟩
theorem Evo.trk {P : Addr -> Prop} {G : Nat -> Prop} {deps H' : AH} {s s' : Shared} (e : Evo B P G deps H s H' s') {a : Addr} (ha : a < s.heap.objs.size) (hn : ¬ Trk B H a) : ¬ Trk B H' a := fun q => hn (Trk.new e.keys ha q)
theorem Evo.vrs {P : Addr -> Prop} {G : Nat -> Prop} {deps H' : AH} {s s' : Shared} (e : Evo B P G deps H s H' s') {vs : List Value} {ps : List PV} (r : VRs (Trk B H) s.heap vs ps) : VRs (Trk B H') s'.heap vs ps :=
 r.mono e.seq fun a ha t => Trk.new e.keys ha t
theorem lit_at {P : Addr -> Prop} {G : Nat -> Prop} {deps H' : AH} {s s' : Shared} (e : Evo B P G deps H s H' s') {it l : Addr} {i : Nat} (hp : P it) (x : s.heap.IsListIter it l i) : s'.heap.IsListIter it l i := by
 obtain ⟨o, ho, r⟩ := x; exact ⟨o, e.own _ _ ho hp, r⟩
theorem lit_lt {s : Shared} {it l : Addr} {i : Nat} (x : s.heap.IsListIter it l i) : it < s.heap.objs.size := by
 obtain ⟨o, ho, O⟩ := x; exact Heap.lt_size ho
theorem Iter_JL (tgt : Expr) (it l : Addr) : Iter B [] tgt (.ref it) (· = it) (fun O => False) (JL B it l) where
 self := fun items H s A E Q ⟨vs, n, i, hit, _, _, _, _, _⟩ q => wpAny_pyIter_listiter hit q
 notseq := fun items H s ⟨vs, n, i, hit, _, _, _, _, _⟩ p hp o ho => by subst hp; exact (lit_loose hit o ho).1
 stable := fun items H s H' s' ⟨vs, n, i, hit, hl, hv, hn, hg, ht⟩ e =>
   ⟨vs, n, i, lit_at e rfl hit, e.seq _ _ hl ⟨_, _, rfl⟩ hn, e.vrs hv, e.trk (Heap.lt_size hl) hn, hg, e.trk (lit_lt hit) ht⟩
 next := fun items H s A ⟨vs, n, i, hit, hl, hv, hn, hg, ht⟩ R I => by
   refine iter_next R I hit hl hv hg ht fun x xs s' hi hit' o => ?_
   subst hi
   obtain ⟨v, ws, hd, hr, hrs⟩ := hv.head
   refine ⟨vs, n, i + 1, hit', o.heap _ _ hl fun eq => (lit_loose hit _ (eq ▸ hl)).1 ⟨_, _, rfl⟩, ?_, hn, hg, ht⟩
   have : vs.toList.drop (i + 1) = ws := by rw [<- List.drop_drop, hd]; rfl
   rw [this]
   exact hrs.mono (fun a ob e q O => o.heap a ob e fun eq => (lit_loose hit ob (eq ▸ e)).1 q) fun O O t => t
theorem Iter_JT (tgt : Expr) (it l : Addr) (xs₀ : List PV) : Iter B [(l, xs₀)] tgt (.ref it) (· = it) (fun O => False) (JT B it l xs₀) where
 self := fun items H s A E Q ⟨i, hit, _, _, _, _⟩ q => wpAny_pyIter_listiter hit q
 notseq := fun items H s ⟨i, hit, _, _, _, _⟩ p hp o ho => by subst hp; exact (lit_loose hit o ho).1
 stable := fun items H s H' s' ⟨i, hit, hm, hi, hg, ht⟩ e => ⟨i, lit_at e rfl hit, e.deps _ mcs, hi, hg, e.trk (lit_lt hit) ht⟩
 next := fun items H s A ⟨i, hit, hm, hi, hg, ht⟩ R I => by
   obtain ⟨O, vs, n, hl, hv⟩ := I.objs _ hm
   refine iter_next R I hit hl (hi ▸ hv.drop i) hg ht fun x xs s' hi' hit' o => ⟨i + 1, hit', hm, ?_, hg, ht⟩
   have : (xs₀.drop i).drop 1 = xs₀.drop (i + 1) := List.drop_drop
   rw [<- this, <- hi, hi']; rfl
theorem lit_new {s : Shared} {l : Addr} : ({ s with heap := s.heap.push { cls := .type "list_iterator", data := .fields #[.ref l, .int 0 0] } } : Shared).heap.IsListIter s.heap.objs.size l 0 :=
 ⟨_, Heap.get?_push_size _ rfl, rfl, rfl⟩
theorem size_push_lt {s : Shared} {o : Obj} : s.heap.objs.size < ({ s with heap := s.heap.push o } : Shared).heap.objs.size := by
 show _ < (s.heap.push o).objs.size; rw [Heap.size_push]; exact Nat.lt_succ_self _
theorem IterV_list {tgt : Expr} {xs : List PV} {Q : IQ} (h : Q xs [] H) : IterV B d E tgt (.list xs) H Q := fun A s R I va r => by
 cases r with
 | list ho hn hs =>
   rename_i a vs n
   refine wpAny_pyIter_list (lst_isList ho) ?_
   have t := Tr.push I { cls := .type "list_iterator", data := .fields #[.ref a, .int 0 0] }
   exact MadeO.made ⟨xs, [], H, _, _, _, t, Iter_JL tgt s.heap.objs.size a, ⟨vs, n, 0, lit_new, Heap.get?_push_of_some _ ho, hs.tr t, hn, I.size, not_trk_size I⟩,
     fun p hp => by subst hp; exact ⟨Nat.le_refl _, size_push_lt, not_trk_size I⟩, fun _ f => f.elim, (fun _ hm => nomatch hm), h⟩
theorem IterV_lref {tgt : Expr} {a : Addr} {xs : List PV} {Q : IQ} (hm : (a, xs) ∈ H) (h : Q xs [(a, xs)] H) : IterV B d E tgt (.lref a) H Q := fun A s R I va r => by
 obtain ⟨O, rfl⟩ := r.inv
 obtain ⟨O, vs, n, ho, hs⟩ := I.objs _ hm
 refine wpAny_pyIter_list (lst_isList ho) ?_
 have t := Tr.push I { cls := .type "list_iterator", data := .fields #[.ref a, .int 0 0] }
 exact MadeO.made ⟨xs, [(a, xs)], H, _, _, _, t, Iter_JT tgt s.heap.objs.size a xs, ⟨0, lit_new, hm, rfl, I.size, not_trk_size I⟩,
     fun p hp => by subst hp; exact ⟨Nat.le_refl _, size_push_lt, not_trk_size I⟩, fun O f => f.elim, (fun p hp => by rcases mcp hp with rfl | hp; exact hm; cases hp), h⟩
end
inductive Upd (a : Addr) (xs xs' : List PV) : AH -> AH -> Prop
 | head {r : AH} : Upd a xs xs' ((a, xs) :: r) ((a, xs') :: r)
 | tail {e : Addr × List PV} {r r' : AH} : Upd a xs xs' r r' -> Upd a xs xs' (e :: r) (e :: r')
theorem Upd.keys {a : Addr} {xs xs' : List PV} {H H' : AH} (u : Upd a xs xs' H H') : H'.map (fun p => p.1) = H.map (fun p => p.1) := by
 induction u with
 | head => rfl
 | tail _ ih => simp only [List.map_cons, ih]
theorem Upd.has {a : Addr} {xs xs' : List PV} {H H' : AH} (u : Upd a xs xs' H H') : (a, xs) ∈ H := by
 induction u with
 | head => exact mcs
 | tail _ ih => exact mcm _ ih
theorem Upd.mem {a : Addr} {xs xs' : List PV} {H H' : AH} (u : Upd a xs xs' H H') : (H.map (fun p => p.1)).Nodup -> ∀ {p : Addr × List PV}, p ∈ H' -> p = (a, xs') \/ (p ∈ H /\ p.1 ≠ a) := by
 induction u with
 | @head r =>
   intro hn p hp
   rw [List.map_cons, List.nodup_cons] at hn
   rcases mcp hp with e | hp
   . exact .inl e
   . exact .inr ⟨mcm _ hp, fun e => hn.1 (mmr ⟨p, hp, e⟩)⟩
 | @tail e r r' u ih =>
   intro hn p hp
   rw [List.map_cons, List.nodup_cons] at hn
   rcases mcp hp with e' | hp
   . subst e'
     exact .inr ⟨mcs, fun q => hn.1 (mmr ⟨_, u.has, q.symm⟩)⟩
   . rcases ih hn.2 hp with q | ⟨q1, q2⟩
     . exact .inl q
     . exact .inr ⟨mcm _ q1, q2⟩
section
variable {B : Base} {fi : FnInfo} {d : Nat} {E : EP} {σ : St} {H : AH}
theorem Trk.congr {H H' : AH} (h : H'.map (fun p => p.1) = H.map (fun p => p.1)) {a : Addr} : Trk B H' a ↔ Trk B H a := by
 unfold Trk
 have : (H'.map (·.1)) = H.map (·.1) := h
 rw [this]
theorem Tr.upd {H' : AH} {s : Shared} {h' : Heap} {t : Nat} {a : Addr} {xs xs' : List PV} {vs' : Array Value} {n' : Nat} (u : Upd a xs xs' H H') (I : Inv B H s) (hs : Heap.SameBut a s.heap h') (ho' : h'.get? a = some (lstObj vs' n'))
   (hv : VRs (Trk B H) s.heap vs'.toList xs') : Tr B noU H s H' { s with heap := h', toks := t } := by
 have hta : Trk B H a := .inl (mmr ⟨_, u.has, rfl⟩)
 have htr : ∀ b, Trk B H' b ↔ Trk B H b := fun b => Trk.congr u.keys
 obtain ⟨hg, vs, n, ho, O⟩ := I.objs _ u.has
 have ne : ∀ b ob, s.heap.get? b = some ob -> ¬ Trk B H b -> h'.get? b = some ob := fun b ob e hn => (hs.2 b fun q => hn (q ▸ hta)).trans e
 have hk : ∀ b ob, s.heap.get? b = some ob -> IsSeqO ob -> ¬ Trk B H b -> h'.get? b = some ob := fun b ob e O hn => ne b ob e hn
 refine ⟨⟨fun b ob e => (hs.2 b fun q => by rw [q, hg] at e; cases e).trans (I.keep b ob e), by show _ <= h'.objs.size; rw [hs.1]; exact I.size, fun q hq => ?_, I.bare, I.os, ?_, fun q hq => ?_, fun p hp => ?_⟩,
   ⟨fun b ob e hn => ne b ob e fun q => hn (.inl q), by show _ <= h'.objs.size; rw [hs.1]; exact Nat.le_refl _, fun O O e => e⟩, fun b hb => ?_⟩
 . obtain ⟨ps, h1, h2, h3⟩ := I.tabs q hq
   have hne : q.2 ≠ a := fun e => by rw [e, ho] at h1; cases h1
   refine ⟨ps, (hs.2 _ hne).trans h1, h2, fun pos cv hc => ?_⟩
   obtain ⟨qn, a1, c, oc, vs, t, e1, e2, e3, e4⟩ := h3 pos cv hc
   exact ⟨qn, a1, c, oc, vs, t, e1, (hs.2 c fun q => by rw [q, ho] at e2; cases e2; cases e3).trans e2, e3, e4⟩
 . have : H'.map (·.1) = H.map (·.1) := u.keys
   rw [this]; exact I.nodup
 . obtain ⟨h1, h2, h3, h4⟩ := I.hid q hq
   have hk' : H'.map (·.1) = H.map (·.1) := u.keys
   exact ⟨(hs.2 _ fun e => h4 (by rw [e]; exact mmr ⟨_, u.has, rfl⟩)).trans h1, h2, h3, by rw [hk']; exact h4⟩
 . rcases u.mem I.nodup hp with rfl | ⟨hp, hne⟩
   . exact ⟨hg, vs', n', ho', hv.mono hk fun O O t => (htr _).mp t⟩
   . obtain ⟨h1, vs, n, h2, h3⟩ := I.objs p hp
     exact ⟨h1, vs, n, (hs.2 _ hne).trans h2, h3.mono hk fun O O t => (htr _).mp t⟩
 . left
   have : H'.map (fun p => p.1) = H.map (fun p => p.1) := u.keys
   rw [this] at hb; exact hb
theorem updSeq_ok {A : Around} {H' : AH} {s : Shared} {a : Addr} {xs xs' : List PV} {f : Array Value -> Array Value} (u : Upd a xs xs' H H') (I : Inv B H s) (hz : xs.length <= sizeLine) (hz' : xs'.length <= sizeLine + 1)
   (hf : ∀ vs n, s.heap.get? a = some (lstObj vs n) -> VRs (Trk B H) s.heap vs.toList xs -> VRs (Trk B H) s.heap (f vs).toList xs') :
   wpAny (model B.prog B.w) A (updateSeq a f) (fun O s' => Tr B noU H s H' s') E s := by
 obtain ⟨hg, vs, n, ho, hv⟩ := I.objs _ u.has
 have hv' := hf vs n ho hv
 have l1 := hv.length
 have l2 := hv'.length
 simp only [Array.length_toList] at l1 l2
 refine wpAny_updateSeq ho rfl ?_ (by rw [l1]; exact hz) (by rw [l2]; exact hz')
 exact Tr.upd (t := s.toks) u I (Heap.SameBut.update ..) (vs' := f vs) (n' := if (f vs).size == vs.size then n else n + 1) (Heap.get?_update_self _ ho rfl) hv'
theorem append_ok {A : Around} {H' : AH} {s : Shared} {a : Addr} {xs : List PV} {v : Value} {p : PV} (u : Upd a xs (xs ++ [p]) H H') (I : Inv B H s) (r : VR (Trk B H) s.heap v p) (hz : xs.length <= sizeLine) :
   wpAny (model B.prog B.w) A (call (.builtin "list.append") [.ref a, v]) (fun r s' => r = .none /\ Tr B noU H s H' s') E s := by
 obtain ⟨hg, vs, n, ho, hv⟩ := I.objs _ u.has
 refine wpAny_call_entry slot_list_append (lst_isList ho).typeIs entry_list_append ?_ (args_list_append _ _)
 show wpAny _ _ (updateSeq a (·.push v) >>= fun O => ret .none) _ _ s
 refine wpAny_bind (wpAny_mono (updSeq_ok u I hz (by simp; exact hz) fun vs n O hv => ?_) (fun O s' t => wpAny_pure ⟨.none, rfl, rfl, t⟩) fun O O x => x)
 rw [Array.toList_push]; exact hv.append (.cons r .nil)
theorem VRs.drop_key {e : Addr × List PV} {s : Shared} {vs : List Value} {ps : List PV} (r : VRs (Trk B (e :: H)) s.heap vs ps) : VRs (Trk B H) s.heap vs ps :=
 r.mono (fun O O e O O => e) fun O O t => t.imp (mcm _) id
theorem VR.drop_key {e : Addr × List PV} {s : Shared} {v : Value} {p : PV} (r : VR (Trk B (e :: H)) s.heap v p) : VR (Trk B H) s.heap v p :=
 r.mono (fun O O e O O => e) fun O O t => t.imp (mcm _) id
theorem Inv.drop_key {e : Addr × List PV} {s : Shared} (I : Inv B (e :: H) s) : Inv B H s :=
 ⟨I.keep, I.size, I.tabs, I.bare, I.os, (ncp I.nodup).2, fun q hq => let ⟨a, b, c, e⟩ := I.hid q hq; ⟨a, b, c, fun t => e (mcm _ t)⟩, fun p hp => let ⟨a, vs, n, b, c⟩ := I.objs p (mcm _ hp); ⟨a, vs, n, b, c.drop_key⟩⟩
theorem Inv.freeze {a : Addr} {xs : List PV} {s : Shared} (I : Inv B ((a, xs) :: H) s) : VR (Trk B H) s.heap (.ref a) (.list xs) := by
 obtain ⟨O, vs, n, ho, hv⟩ := I.objs _ mcs
 refine .list ho (fun q => ?_) hv.drop_key
 rcases q with q | q
 . exact (ncp I.nodup).1 q
 . rcases q with q | q
   . exact not_tab_of I ho (by nofun) q
   . obtain ⟨p, hp, e⟩ := mmp q
     exact (I.hid p hp).4 (by rw [e]; exact mcs)
theorem Tr.drop_key {U : Addr -> Prop} {H₀ : AH} {e : Addr × List PV} {s₀ s : Shared} (t : Tr B U H₀ s₀ (e :: H) s) : Tr B U H₀ s₀ H s :=
 ⟨t.inv.drop_key, t.step, fun a ha => t.keys a (mcm _ ha)⟩
inductive CSt (B : Base) (σ : St) : List (Str × NameKind) -> St -> Prop
 | nil : CSt B σ [] []
 | loc {x : Str} {r : List (Str × NameKind)} {σ' : St} : CSt B σ r σ' -> CSt B σ ((x, .local) :: r) ((x, .local, Option.none) :: σ')
 | capC {x : Str} {ov : Option PV} {r : List (Str × NameKind)} {σ' : St} : (x, NameKind.cell, ov) ∈ σ -> CSt B σ r σ' -> CSt B σ ((x, .free) :: r) ((x, .cell, ov) :: σ')
 | capF {x : Str} {ov : Option PV} {r : List (Str × NameKind)} {σ' : St} : (x, NameKind.free, ov) ∈ σ -> CSt B σ r σ' -> CSt B σ ((x, .free) :: r) ((x, .free, ov) :: σ')
 | glob {x : Str} {p : PV} {r : List (Str × NameKind)} {σ' : St} : GlobIs B x p -> CSt B σ r σ' -> CSt B σ ((x, .globalImplicit) :: r) ((x, .globalImplicit, some p) :: σ')
 | globS {x : Str} {p : PV} {r : List (Str × NameKind)} {σ' : St} : (x, NameKind.globalImplicit, some p) ∈ σ -> CSt B σ r σ' -> CSt B σ ((x, .globalImplicit) :: r) ((x, .globalImplicit, some p) :: σ')
theorem rel_cell {env : Env} {x : Str} (h : env.kindOf x = some .cell) (hk : env.scope.kind = .function) : (if (NameKind.free == NameKind.free && env.scope.kind == .function && env.kindOf x == some .cell) then (x, NameKind.cell) else (x, NameKind.free)) = (x, NameKind.cell) := by rw [h, hk]; rfl
theorem rel_free {env : Env} {x : Str} (h : env.kindOf x = some .free) (hk : env.scope.kind = .function) : (if (NameKind.free == NameKind.free && env.scope.kind == .function && env.kindOf x == some .cell) then (x, NameKind.cell) else (x, NameKind.free)) = (x, NameKind.free) := by rw [h, hk]; rfl
theorem CSt.keys {σ' : St} {names : List (Str × NameKind)} {env : Env} {s : Shared} (c : CSt B σ names σ') (F : FrameOk B env σ H s) (hk : env.scope.kind = .function) :
   σ'.map (fun e => (e.1, e.2.1)) = names.map fun (n, k) => if (k == NameKind.free && env.scope.kind == .function && env.kindOf n == some .cell) then (n, NameKind.cell) else (n, k) := by
 induction c with
 | nil => rfl
 | loc _ ih => exact congrArg (List.cons _) ih
 | capC hm _ ih => exact (congrArg (List.cons _) ih).trans (congrArg (· :: _) (rel_cell (F.kindOf hm) hk).symm)
 | capF hm _ ih => exact (congrArg (List.cons _) ih).trans (congrArg (· :: _) (rel_free (F.kindOf hm) hk).symm)
 | glob _ _ ih => exact congrArg (List.cons _) ih
 | globS _ _ ih => exact congrArg (List.cons _) ih
theorem CSt.fst {σ' : St} {names : List (Str × NameKind)} (c : CSt B σ names σ') : σ'.map (fun e => e.1) = names.map fun e => e.1 := by
 induction c <;> first | rfl | exact congrArg (List.cons _) (by assumption)
noncomputable def CMem (B : Base) (T : Addr -> Prop) (env : Env) (h : Heap) (names : List (Str × NameKind)) (e : Str × NameKind × Option PV) : Prop := match e.2.1 with
 | .local => e.2.2 = none
 | .globalImplicit => ∀ p, e.2.2 = some p -> GlobIs B e.1 p
 | _ => CellAt T env h e.1 e.2.2 /\ (e.1, NameKind.free) ∈ names
theorem CMem.up {T : Addr -> Prop} {env : Env} {h : Heap} {names : List (Str × NameKind)} {e : Str × NameKind × Option PV} {n : Str × NameKind} (q : CMem B T env h names e) : CMem B T env h (n :: names) e := by
 obtain ⟨x, k, ov⟩ := e
 cases k <;> first | exact q | exact ⟨q.1, .tail _ q.2⟩
theorem CSt.at {σ' : St} {names : List (Str × NameKind)} {env : Env} {s : Shared} (c : CSt B σ names σ') (F : FrameOk B env σ H s) : ∀ e ∈ σ', CMem B (Trk B H) env s.heap names e := by
 induction c with
 | nil => exact fun O h => absurd h List.not_mem_nil
 | loc _ ih => exact fmc ⟨rfl, fun e he => (ih e he).up⟩
 | capC h _ ih => exact fmc ⟨⟨F.cell _ _ (.inl h), .head _⟩, fun e he => (ih e he).up⟩
 | capF h _ ih => exact fmc ⟨⟨F.cell _ _ (.inr h), .head _⟩, fun e he => (ih e he).up⟩
 | glob h _ ih => exact fmc ⟨fun p e => Option.some.inj e ▸ h, fun e he => (ih e he).up⟩
 | globS h _ ih => exact fmc ⟨fun p e => F.glob _ _ (Option.some.inj e ▸ h), fun e he => (ih e he).up⟩
theorem CSt.free {σ' : St} {names : List (Str × NameKind)} {env : Env} {s : Shared} (c : CSt B σ names σ') (F : FrameOk B env σ H s) : ∀ e ∈ names, e.2 = .free -> ∃ c, env.cells.lookup e.1 = some c /\ c < s.heap.objs.size := by
 induction c with
 | nil => exact fun O h => absurd h List.not_mem_nil
 | loc _ ih => exact fmc ⟨nofun, ih⟩
 | capC h _ ih => exact fmc ⟨fun O => (F.cell _ _ (.inl h)).look, ih⟩
 | capF h _ ih => exact fmc ⟨fun O => (F.cell _ _ (.inr h)).look, ih⟩
 | glob _ _ ih => exact fmc ⟨nofun, ih⟩
 | globS _ _ ih => exact fmc ⟨nofun, ih⟩
theorem CSt.nocell {σ' : St} {names : List (Str × NameKind)} (c : CSt B σ names σ') : ∀ x ∈ names, x.2 ≠ NameKind.cell := by
 induction c <;> first | exact fmc ⟨nofun, by assumption⟩ | exact fun O h => absurd h List.not_mem_nil
theorem closure_ok {env : Env} (names : List (Str × NameKind)) : ∀ acc : List (Str × Addr), (∀ e ∈ names, e.2 = .free -> ∃ c, env.cells.lookup e.1 = some c) ->
   ∃ cl, (forIn names acc fun (x : Str × NameKind) (r : List (Str × Addr)) => (match x with
     | (name, kind) => if kind == NameKind.free then do let c <- cellOf env name; pure (ForInStep.yield ((name, c) :: r)) else pure (ForInStep.yield r) : Sem (ForInStep (List (Str × Addr))))) = pure cl /\
     ∀ x, ((x, NameKind.free) ∈ names /\ cl.lookup x = env.cells.lookup x) \/ ((x, NameKind.free) ∉ names /\ cl.lookup x = acc.lookup x) := by
 induction names with
 | nil => exact fun acc O => ⟨acc, rfl, fun x => .inr ⟨nofun, rfl⟩⟩
 | cons e r ih =>
   obtain ⟨n, k⟩ := e
   intro acc h1
   have h2 := List.forall_mem_cons.mp h1
   by_cases hk : k = .free
   . subst hk
     obtain ⟨c, hc⟩ := h2.1 rfl
     obtain ⟨cl, e, p⟩ := ih ((n, c) :: acc) h2.2
     refine ⟨cl, ?_, fun x => ?_⟩
     . rw [List.forIn_cons]
       simp only [beq_self_eq_true, if_true, cellOf, hc, pure_bind]
       exact e
     . rcases p x with q | q
       . exact .inl ⟨.tail _ q.1, q.2⟩
       . by_cases hx : x = n
         . subst hx
           exact .inl ⟨.head _, q.2.trans (List.lookup_cons_self.trans hc.symm)⟩
         . exact .inr ⟨fun m => (mcp m).elim (fun e => hx (congrArg Prod.fst e)) q.1, q.2.trans (by rw [List.lookup_cons, beq_eq_false_iff_ne.mpr hx])⟩
   . obtain ⟨cl, e, p⟩ := ih acc h2.2
     refine ⟨cl, ?_, fun x => (p x).imp (fun q => ⟨.tail _ q.1, q.2⟩) fun q => ⟨fun m => (mcp m).elim (fun e => hk (congrArg Prod.snd e).symm) q.1, q.2⟩⟩
     rw [List.forIn_cons]
     simp only [beq_eq_false_iff_ne.mpr hk, Bool.false_eq_true, if_false, pure_bind]
     exact e
set_option genInjectivity false in
set_option genSizeOf false in
structure ClosAt (env : Env) (scope : Scope) (s : Shared) (cl : List (Str × Addr)) : Prop where
 e : closureFor scope env = pure cl
 sub : ∀ x c, cl.lookup x = some c -> env.cells.lookup x = some c
 get : ∀ x, (x, NameKind.free) ∈ scope.names -> cl.lookup x = env.cells.lookup x
 lt : ∀ y c, cl.lookup y = some c -> c < s.heap.objs.size
theorem CSt.clos {σ' : St} {scope : Scope} {env : Env} {s : Shared} (c : CSt B σ scope.names σ') (F : FrameOk B env σ H s) : ∃ cl, ClosAt env scope s cl := by
 obtain ⟨cl, e, p⟩ := closure_ok (env := env) scope.names [] fun e he hf => (c.free F e he hf).imp fun O q => q.1
 have q : ∀ x c, cl.lookup x = some c -> (x, NameKind.free) ∈ scope.names /\ cl.lookup x = env.cells.lookup x := fun x c hc => (p x).elim id fun q => nomatch hc.symm.trans q.2
 refine ⟨cl, ?_, fun x c hc => (q x c hc).2.symm.trans hc, fun x hx => (p x).elim (fun q => q.2) fun q => (q.1 hx).elim, fun y c' hy => ?_⟩
 . unfold closureFor
   rw [<- e]
   simp only [bind_pure]
 . obtain ⟨c, h1, h2⟩ := c.free F _ (q y c' hy).1 rfl
   exact Option.some.inj (hy.symm.trans ((q y c' hy).2.trans h1)) ▸ h2
end
theorem compTurn_if (elt target iter c : Expr) (scope : Scope) (pos : Pos) (it acc : Value) (env : Env) :
   compTurn (.ListComp elt [⟨target, iter, [c], 0⟩] scope pos) 0 it acc env = (standAt iter.pos >>= fun O => pyNext it >>= fun r => match r with
     | none => pure (.done .next)
     | some v => letOwnedTupleGo target it v >>= fun O => assign target env v >>= fun O => isTrue c env (eval c env) >>= fun ok =>
       if ok = true then (eval elt env >>= fun x => call (.builtin "list.append") [acc, x] >>= fun O => again (.compLoop (.ListComp elt [⟨target, iter, [c], 0⟩] scope pos) 0 it acc env))
       else again (.compLoop (.ListComp elt [⟨target, iter, [c], 0⟩] scope pos) 0 it acc env)) := by
 unfold compTurn
 simp only [List.getElem?_cons_zero, List.forIn_cons, List.forIn_nil]
 simp
 rfl
section
variable {B : Base} {fi : FnInfo} {d : Nat} {E : EP} {σ : St} {H : AH}
noncomputable def TstI (B : Base) (fi : FnInfo) (d : Nat) : List Expr -> St -> AH -> (BQ) -> Prop
 | [], _, H, Q => Q true H
 | c :: _, σ, H, Q => Tst B fi d NoE c σ H Q
noncomputable abbrev Base.hids (B : Base) (l : List (Addr × Obj)) : Base := { B with hid := l }
theorem EnvOk.hids {env : Env} {l : List (Addr × Obj)} (e : EnvOk B fi env) : EnvOk (B.hids l) fi env := ⟨e.scope, e.kind, e.coro, e.globals, e.builtins, e.qual, e.code, e.above, e.free⟩
inductive CmpN (D : Addr) (acc : List PV) (deps : AH) (H₃ : AH) (K : AH -> Prop) : Prop
 | mk (H₄ : AH) (e : H₃ = (D, acc) :: H₄) (dp : ∀ p ∈ deps, p ∈ H₄) (q : K H₄)
noncomputable def CmpG {ι : Type} (B : Base) (hf : ι -> List (Addr × Obj)) (fi : FnInfo) (d : Nat) (tgt : Expr) (ifs : List Expr) (elt : Expr) (D : Addr) (deps : AH) : List PV -> List PV -> St -> AH -> (LQ) -> Prop
 | [], acc, _, H, Q => Q acc H
 | x :: xs, acc, σ, H, Q => ∀ o, Asg (B.hids (hf o)) fi d NoE tgt x σ ((D, acc) :: H) fun σ₁ H₁ => TstI (B.hids (hf o)) fi d ifs σ₁ H₁ fun ok H₂ =>
     if ok then Ev (B.hids (hf o)) fi d NoE elt σ₁ H₂ fun v H₃ => acc.length <= sizeLine /\ CmpN D acc deps H₃ fun H₄ => CmpG B hf fi d tgt ifs elt D deps xs (acc ++ [v]) σ₁ H₄ Q
     else CmpN D acc deps H₂ fun H₄ => CmpG B hf fi d tgt ifs elt D deps xs acc σ₁ H₄ Q
noncomputable abbrev CmpL (B : Base) (fi : FnInfo) (d : Nat) (tgt : Expr) (ifs : List Expr) (elt : Expr) (D : Addr) (deps : AH) : List PV -> List PV -> St -> AH -> (LQ) -> Prop := CmpG (ι := Unit) B (fun O => B.hid) fi d tgt ifs elt D deps
theorem Only.frame' {P : Addr -> Prop} {G : Nat -> Prop} {env : Env} {s s' : Shared} (F : FrameOk B env σ H s) (o : Only B P G H s s') (hL : ¬ P env.locals) (hC : ∀ y c, env.cells.lookup y = some c -> ¬ P c) (hS : ∀ p, P p -> ∀ ob, s.heap.get? p = some ob -> ¬ IsSeqO ob) :
   FrameOk B env σ H s' := by
 have hk : ∀ a ob, s.heap.get? a = some ob -> IsSeqO ob -> ¬ Trk B H a -> s'.heap.get? a = some ob := fun a ob e q O => o.heap a ob e fun p => hS a p ob e q
 refine ⟨F.fresh, F.apart, F.keys, F.nodup, ?_, fun y ov hy => ?_, F.glob⟩
 . obtain ⟨m, ⟨ob, es, ep, ho, hd, r⟩, hm⟩ := F.ns
   exact ⟨m, ⟨ob, es, ep, o.heap _ _ ho hL, hd, r⟩, fun y p hy => (hm y p hy).mono hk fun O O t => t⟩
 . obtain ⟨c, w, hc, ⟨ob, ho, hd⟩, hv⟩ := F.cell y ov hy
   exact ⟨c, w, hc, ⟨ob, o.heap _ _ ho (hC y c hc), hd⟩, hv.mono hk fun O O t => t⟩
theorem Evo.of_tr' {P : Addr -> Prop} {G : Nat -> Prop} {deps : AH} {env : Env} {H' : AH} {s s' : Shared} (F : FrameOk B env σ H s) (t : Tr B (ownU env) H s H' s') (hP : ∀ p, P p -> ¬ ownU env p /\ ¬ Trk B H p) (hd : ∀ p ∈ deps, p ∈ H') : Evo B P G deps H s H' s' :=
 ⟨t.inv, fun a ob e hq hn => t.step.heap a ob e fun q => q.elim hn fun u => F.own_data u e hq,
   fun a ob e hp => t.step.heap a ob e fun q => q.elim (hP a hp).2 fun u => (hP a hp).1 u, t.step.size, t.keys, hd, fun i x O e => t.step.gens i x e⟩
theorem ownU_not {P : Addr -> Prop} {env : Env} (hL : ¬ P env.locals) (hC : ∀ y c, env.cells.lookup y = some c -> ¬ P c) : ∀ p, P p -> ¬ ownU env p := fun p hp u => by
 rcases u with rfl | ⟨x, _, hc, _⟩
 . exact hL hp
 . exact hC x p hc hp
theorem Trk.cons {e : Addr × List PV} {a : Addr} (h : Trk B (e :: H) a) : a = e.1 \/ Trk B H a := by
 rcases h with h | h
 . rcases mcp h with q | q
   . exact .inl q
   . exact .inr (.inl q)
 . exact .inr (.inr h)
noncomputable def tstSem {β : Type} (ifs : List Expr) (env : Env) (k : Bool -> Sem β) : Sem β :=
 match ifs with
 | [] => k true
 | c :: _ => isTrue c env (eval c env) >>= k
theorem TstI_ok {A : Around} {s : Shared} {env : Env} {ifs : List Expr} {Q : BQ} (h1 : ifs.length <= 1) (h : TstI B fi d ifs σ H Q) (e : EnvOk B fi env) (R : Room A d) (I : Inv B H s) (F : FrameOk B env σ H s) {β : Type} {k : Bool -> Sem β} {K : β -> Shared -> Prop}
   (hk : ∀ b H' s', Tr B noU H s H' s' -> Q b H' -> wpAny (model B.prog B.w) A (k b) K NoE s') :
   wpAny (model B.prog B.w) A (tstSem ifs env k) K NoE s := by
 cases ifs with
 | nil => exact hk true H s (.refl I) h
 | cons c r => exact wpAny_bind (wpAny_mono (h A s env e R I F) (fun b s' hh1 => by obtain ⟨H', t, q⟩ := hh1; exact hk b H' s' t q) fun O O x => x)
theorem compTurn_one (elt target iter : Expr) (ifs : List Expr) (h : ifs.length <= 1) (scope : Scope) (pos : Pos) (it acc : Value) (env : Env) :
   compTurn (.ListComp elt [⟨target, iter, ifs, 0⟩] scope pos) 0 it acc env = (standAt iter.pos >>= fun O => pyNext it >>= fun r => match r with
     | none => pure (.done .next)
     | some v => letOwnedTupleGo target it v >>= fun O => assign target env v >>= fun O => tstSem ifs env fun ok : Bool =>
         if ok = true then (eval elt env >>= fun x => call (.builtin "list.append") [acc, x] >>= fun O => again (.compLoop (.ListComp elt [⟨target, iter, ifs, 0⟩] scope pos) 0 it acc env))
           else again (.compLoop (.ListComp elt [⟨target, iter, ifs, 0⟩] scope pos) 0 it acc env)) := by
 cases ifs with
 | nil => rw [compTurn_list1]; simp only [bind_assoc, pure_bind]; rfl
 | cons c r =>
   cases r with
   | nil => rw [compTurn_if]; rfl
   | cons _ _ => simp at h
section
variable {ι : Type} (B : Base) (hf : ι -> List (Addr × Obj)) (A : Around) (deps : AH) (tgt : Expr) (itv : Value) (cenv : Env) (H₀ : AH) (s₀ : Shared) (J : List PV -> ι -> AH -> Shared -> Prop)
inductive TurnQ (σ : St) (H : AH) (v : Value) (x : PV) (xs : List PV) (s : Shared) : Prop
 | mk (o : ι) (i : Inv (B.hids (hf o)) H s) (f : FrameOk (B.hids (hf o)) cenv σ H s) (r : VR (Trk (B.hids (hf o)) H) s.heap v x)
     (st : ∀ H' s', Tr (B.hids (hf o)) (ownU cenv) H s H' s' -> (∀ p ∈ deps, p ∈ H') -> Tr B noU H₀ s₀ H' s' /\ J xs o H' s')
inductive TurnP (σ : St) (H : AH) (items : List PV) (r : Option Value) (s : Shared) : Prop
 | done (hi : items = []) (hr : r = none) (t : Tr B noU H₀ s₀ H s) (f : FrameOk B cenv σ H s)
 | one (v : Value) (x : PV) (xs : List PV) (hi : items = x :: xs) (hr : r = some v) (w : wpAny (model B.prog B.w) A (letOwnedTupleGo tgt itv v) (fun O s₄ => TurnQ B hf deps cenv H₀ s₀ J σ H v x xs s₄) NoE s)
set_option genInjectivity false in
set_option genSizeOf false in
structure Turns : Prop where
 self : ∀ items o H s (E : EP) (Q : Value -> Shared -> Prop), J items o H s -> Q itv s -> wpAny (model B.prog B.w) A (pyIter itv) Q E s
 next : ∀ items o σ H s, J items o H s -> Tr B noU H₀ s₀ H s -> FrameOk (B.hids (hf o)) cenv σ H s -> wpAny (model B.prog B.w) A (pyNext itv) (TurnP B hf A deps tgt itv cenv H₀ s₀ J σ H items) NoE s
inductive CompInv (fi : FnInfo) (d : Nat) (D : Addr) (ifs : List Expr) (elt : Expr) (Q : LQ) (n : Nat) (s' : Shared) : Prop
 | mk (o : ι) (items acc : List PV) (σ' : St) (H' : AH) (hn : n = items.length) (t : Tr B noU H₀ s₀ ((D, acc) :: H') s') (F : FrameOk (B.hids (hf o)) cenv σ' ((D, acc) :: H') s') (j : J items o ((D, acc) :: H') s')
     (q : CmpG B hf fi d tgt ifs elt D deps items acc σ' H' Q)
end
theorem comp_loop {ι : Type} {hf : ι -> List (Addr × Obj)} {A : Around} {tgt iter elt : Expr} {ifs : List Expr} {scope : Scope} {pos : Pos} {D : Addr} {itv : Value} {cenv : Env} {deps : AH} {J : List PV -> ι -> AH -> Shared -> Prop} {Q : LQ}
   {R : Result -> Shared -> Prop} {σ₀ : St} {H₁ : AH} {s₀ s₁ : Shared} {o : ι} {items : List PV} (Rm : Room A d) (hifs : ifs.length <= 1) (ek : EnvOk B fi cenv) (TT : Turns B hf A deps tgt itv cenv H s₀ J) (T₁ : Tr B noU H s₀ ((D, []) :: H₁) s₁)
   (F₁ : FrameOk (B.hids (hf o)) cenv σ₀ ((D, []) :: H₁) s₁) (hJ : J items o ((D, []) :: H₁) s₁) (hgo : CmpG B hf fi d tgt ifs elt D deps items [] σ₀ H₁ Q)
   (hR : ∀ acc σ' H' s', Tr B noU H s₀ ((D, acc) :: H') s' -> FrameOk B cenv σ' ((D, acc) :: H') s' -> Q acc H' -> R (.ok .next) s') :
   codeAny (model B.prog B.w) A (.compStart (.ListComp elt [⟨tgt, iter, ifs, 0⟩] scope pos) 0 itv (.ref D) cenv) R s₁ := by
 have hloop : codeAny (model B.prog B.w) A (.compLoop (.ListComp elt [⟨tgt, iter, ifs, 0⟩] scope pos) 0 itv (.ref D) cenv) R s₁ := by
   refine codeAny_loop rfl (CompInv B hf deps tgt cenv H s₀ J fi d D ifs elt Q) ?_ items.length ⟨o, items, [], σ₀, H₁, rfl, T₁, F₁, hJ, hgo⟩
   intro n s₂ hi
   obtain ⟨o, items, acc, σ₂, H₂, rfl, T₂, F₂, hJ₂, q₂⟩ := hi
   show wpAny _ _ ((compTurn (.ListComp elt [⟨tgt, iter, ifs, 0⟩] scope pos) 0 itv (.ref D) cenv).onRaise (fun x => do noteFrame x cenv; theTreesLotGoes x)) _ _ s₂
   refine wpAny_noted ?_
   rw [compTurn_one _ _ _ _ hifs, show A.under (.compLoop (.ListComp elt [⟨tgt, iter, ifs, 0⟩] scope pos) 0 itv (.ref D) cenv) = A from Around.under_of_weight rfl rfl]
   refine notedBy_false (wpAny_bind (wpAny_standAt (wpAny_bind (wpAny_mono (TT.next items o σ₂ _ s₂ hJ₂ T₂ F₂) (fun r s₃ hr => ?_) fun O O x => x))))
   cases hr with
   | done hi hr t f =>
     subst hi; subst hr
     exact wpAny_pure (hR acc σ₂ H₂ s₃ t f q₂)
   | one v x xs hi hr hv =>
     subst hi; subst hr
     refine wpAny_bind (wpAny_mono hv (fun O s₄ hh1 => ?_) fun O O x => x)
     obtain ⟨o', I₄, F₄, hvr, st⟩ := hh1
     have ek' : EnvOk (B.hids (hf o')) fi cenv := ek.hids
     refine wpAny_bind (wpAny_mono (q₂ o' A s₄ cenv ek' Rm I₄ F₄ v hvr) (fun O s₅ hh1 => ?_) fun O O x => x)
     obtain ⟨σ₅, H₅, t₅, F₅, q₅⟩ := hh1
     refine TstI_ok hifs q₅ ek' Rm t₅.inv F₅ fun b H₆ s₆ t₆ q₆ => ?_
     have F₆ := F₅.tr t₅.inv t₆
     have done : ∀ {acc' s₉ H₈}, Tr (B.hids (hf o')) noU H₆ s₆ ((D, acc') :: H₈) s₉ -> (∀ p ∈ deps, p ∈ H₈) -> CmpG B hf fi d tgt ifs elt D deps xs acc' σ₅ H₈ Q -> ∃ m, m < (x :: xs).length /\ CompInv B hf deps tgt cenv H s₀ J fi d D ifs elt Q m s₉ := fun t hd q =>
       have z := st _ _ ((t₅.trans t₆.up).trans t.up) fun p hp => mcm _ (hd p hp)
       ⟨xs.length, Nat.lt_succ_self _, o', xs, _, σ₅, _, rfl, z.1, F₆.tr t₆.inv t, z.2, q⟩
     cases b with
     | true =>
       refine wpAny_bind (wpAny_mono (q₆ A s₆ cenv ek' Rm t₆.inv F₆) (fun w s₇ hh1 => ?_) fun O O x => x)
       obtain ⟨p, H₇, t₇, r₇, hz, H₈, e₇, hdep₇, q₇⟩ := hh1
       subst e₇
       exact wpAny_bind (wpAny_mono (append_ok (B := B.hids (hf o')) (xs := acc) (H' := (D, acc ++ [p]) :: H₈) .head t₇.inv r₇ hz) (fun O s₈ hh1 => wpAny_pure ⟨rfl, done (t₇.trans hh1.2) hdep₇ q₇⟩) fun O O x => x)
     | false =>
       obtain ⟨H₈, e₆, hdep₆, q₇⟩ := q₆
       subst e₆
       exact wpAny_pure ⟨rfl, done (.refl t₆.inv) hdep₆ q₇⟩
 exact codeAny_compStart_list hloop (TT.self items o _ s₁ _ _ hJ hloop)
end
section
variable {B : Base} {fi : FnInfo} {d : Nat} {E : EP} {σ : St} {H : AH}
noncomputable abbrev cfi (fi : FnInfo) (scope : Scope) (σ' : St) : FnInfo := ⟨{ scope with names := σ'.map fun e => (e.1, e.2.1) }, none, fi.qual, true⟩
theorem Evo.of_tr0 {P : Addr -> Prop} {G : Nat -> Prop} {deps H' : AH} {s s' : Shared} (t : Tr B noU H s H' s') (hP : ∀ p, P p -> ¬ Trk B H p) (hd : ∀ p ∈ deps, p ∈ H') : Evo B P G deps H s H' s' :=
 ⟨t.inv, fun a ob e hq hn => t.step.heap a ob e fun q => q.elim hn False.elim, fun a ob e hp => t.step.heap a ob e fun q => q.elim (hP a hp) False.elim, t.step.size, t.keys, hd, fun i x O e => t.step.gens i x e⟩
theorem Tr.turned {H' : AH} {s₀ s : Shared} {a : Addr} {o : Obj} {h' : Heap} (t : Tr B noU H s₀ H' s) (I₀ : Inv B H s₀) (ho : s.heap.get? a = some o) (hd : ∀ vs n, o.data ≠ .seq vs n) (hd' : ∀ vs, o.data ≠ .fields vs) (ha : s₀.heap.objs.size <= a) (hs : Heap.SameBut a s.heap h') :
   Tr B noU H s₀ H' { s with heap := h' } :=
 ⟨t.inv.change (t := s.toks) ho hd hd' (Heap.get?_none_of_le (ntr I₀.size ha)) hs, ⟨fun b ob e hn => (hs.2 b fun q => absurd (Heap.lt_size e) (by rw [q]; exact nlr ha)).trans (t.step.heap b ob e hn), by show _ <= h'.objs.size; rw [hs.1]; exact t.step.size, t.step.gens⟩, t.keys⟩
theorem Tr.fresh {s₂ s₄ : Shared} (I : Inv B H s₂) (hk : ∀ b o, (s₂.heap.push (lstObj #[] 0)).get? b = some o -> s₄.heap.get? b = some o) (hz : (s₂.heap.push (lstObj #[] 0)).objs.size <= s₄.heap.objs.size) (hg : s₄.gens = s₂.gens) (ho : s₄.os = s₂.os) :
   Tr B noU H s₂ ((s₂.heap.objs.size, []) :: H) s₄ :=
 have t := Tr.track (xs := []) I .nil
 t.trans (Tr.ext t.inv hk hz hg ho)
theorem comp_new {A : Around} {s₂ : Shared} {scope : Scope} {env : Env} {cl : List (Str × Addr)} {P : Value -> Env -> Shared -> Prop} (hc : ∀ x ∈ scope.names, x.2 ≠ NameKind.cell) (hk : scope.kind = .function)
   (k : ∀ s₄ : Shared, (∀ b o, (s₂.heap.push (lstObj #[] 0)).get? b = some o -> s₄.heap.get? b = some o) -> s₄.heap.Ns (s₂.heap.push (lstObj #[] 0)).objs.size (fun x => ([] : List (Str × Value)).reverse.lookup x) -> s₄.gens = s₂.gens -> s₄.os = s₂.os ->
     P (.ref s₂.heap.objs.size) (newEnv scope (s₂.heap.push (lstObj #[] 0)).objs.size env.globals cl env.qual none .none (some env) builtinsNs) s₄) :
   wpAny (model B.prog B.w) A (newList []) (fun acc s₃ => wpAny (model B.prog B.w) A (newFunctionEnv scope env.globals cl [] env.qual none .none (some env)) (fun cenv s₄ => P acc cenv s₄) E s₃) E s₂ :=
 wpAny_newList (wpAny_newFunctionEnv hc (fun y hy => nomatch hy) (fun h₄ hns hsb => by exact k ⟨h₄, s₂.gens, s₂.drawn, s₂.toks + 0, s₂.os⟩ (fun b o e => hsb.extBut b o (Nat.ne_of_lt (Heap.lt_size e)) (Heap.get?_push_of_some _ e)) hns rfl rfl) hk) (by rw [sizeLine_eq]; exact Nat.zero_le _)
theorem comp_frame {env : Env} {s s₄ : Shared} {σ' : St} {scope : Scope} {cl : List (Str × Addr)} {C : Addr} {H' : AH} {l : List (Addr × Obj)} (I : Inv B H s) (F : FrameOk B env σ H s) (hk : env.scope.kind = .function) (hc : CSt B σ scope.names σ') (hn : (scope.names.map fun e => e.1).Nodup)
   (K : ClosAt env scope s cl) (T : Tr B noU H s H' s₄) (hC : s.heap.objs.size <= C) (hns : s₄.heap.Ns C (fun x => ([] : List (Str × Value)).reverse.lookup x)) (ht : ∀ a, a < s.heap.objs.size -> Trk (B.hids l) H' a -> Trk B H a) : FrameOk (B.hids l) (compEnvC scope cl C env) σ' H' s₄ := by
 have kept : ∀ b o, s.heap.get? b = some o -> ¬ Trk B H b -> s₄.heap.get? b = some o := fun b o eb hnt => T.step.heap b o eb fun q => q.elim hnt False.elim
 refine ⟨Heap.get?_none_of_le (ntr I.size hC), fun x y c hx hy => F.apart x y c (K.sub x c hx) (K.sub y c hy), hc.keys F hk, ?_, ⟨_, hns, fun x p hm => nomatch (hc.at F _ hm : some p = none)⟩, fun x ov hm => ?_, fun x p hm => hc.at F _ hm p rfl⟩
 . show ((relabel scope env).names.map _).Nodup
   rw [show (relabel scope env).names = _ from (hc.keys F hk).symm, List.map_map]
   exact (hc.fst.symm ▸ hn : (σ'.map fun e => e.1).Nodup)
 . obtain ⟨⟨c, w, hc', ⟨oc, hoc, hdc⟩, hw⟩, hf⟩ := (hm.elim (fun m => hc.at F _ m) fun m => hc.at F _ m : CellAt (Trk B H) env s.heap x ov /\ (x, NameKind.free) ∈ scope.names)
   exact ⟨c, w, (K.get x hf).trans hc', ⟨oc, kept _ _ hoc (not_trk_of I hoc (by rw [hdc]; nofun) (by rw [hdc]; nofun)), hdc⟩, hw.mono (fun a o ea O hna => kept a o ea hna) ht⟩
inductive MadeC (B : Base) (A : Around) (tgt : Expr) (H : AH) (s : Shared) (q : (ι : Type) -> (ι -> List (Addr × Obj)) -> IQ) (itv : Value) (s₂ : Shared) : Prop
 | mk (ι : Type) (hf : ι -> List (Addr × Obj)) (o : ι) (items : List PV) (deps H₁ : AH) (t : Tr B noU H s H₁ s₂) (i : Inv (B.hids (hf o)) H₁ s₂) (ht : ∀ a, a < s.heap.objs.size -> Trk (B.hids (hf o)) H₁ a -> Trk B H a)
     (go : ∀ cenv D s₄, Tr (B.hids (hf o)) noU H₁ s₂ ((D, []) :: H₁) s₄ -> s₂.heap.objs.size <= cenv.locals -> (∀ y c, cenv.cells.lookup y = some c -> c < s.heap.objs.size) -> (∀ a, ownU cenv a -> s.heap.objs.size <= a) ->
       ∃ J, Turns B hf A deps tgt itv cenv H s J /\ J items o ((D, []) :: H₁) s₄) (hq : q ι hf items deps H₁)
theorem comp_main {A : Around} {s : Shared} {env : Env} {tgt iter elt : Expr} {ifs : List Expr} {scope : Scope} {pos : Pos} {σ' : St} {Q : LQ} {use : Option (Value -> Sem Unit)} {K : Value -> Shared -> Prop}
   (e : EnvOk B fi env) (R : Room A d) (I : Inv B H s) (F : FrameOk B env σ H s) (hifs : ifs.length <= 1)
   (hi : wpAny (model B.prog B.w) A (eval iter env) (fun x s₁ => wpAny (model B.prog B.w) A (pyIter x) (MadeC B A tgt H s fun ι hf items deps H₁ => ∀ D, CmpG B hf (cfi fi scope σ') d tgt ifs elt D deps items [] σ' H₁ Q) NoE s₁) NoE s)
   (hc : CSt B σ scope.names σ') (hn : (scope.names.map fun e => e.1).Nodup) (hk : scope.kind = .function) (hco : scope.isCoroutine = false) (hs : ∀ x, foldedSetIterable iter env x = pure x)
   (hK : ∀ D acc H' C s', Tr B noU H s ((D, acc) :: H') s' -> (∃ m, s'.heap.Ns C m) -> s.heap.objs.size <= C -> Q acc H' -> compPost (model B.prog B.w) A NoE use K (.ref D) C (.ok .next) s') :
   wpAny (model B.prog B.w) A (comprehension (.ListComp elt [⟨tgt, iter, ifs, 0⟩] scope pos) scope env (firstIterPos [⟨tgt, iter, ifs, 0⟩] pos) (newList []) (firstAsync [⟨tgt, iter, ifs, 0⟩]) (firstIter [⟨tgt, iter, ifs, 0⟩] env) use) K NoE s := by
 obtain ⟨cl, L⟩ := hc.clos F
 refine wpAny_comprehension_free (gs := []) rfl hs L.e hk (fun x hx hl => lookup_of_nodup hn (by rw [<- hl]; exact hx)) (wpAny_mono hi (fun x s₁ h₁ => wpAny_mono h₁ (fun itv s₂ m => comp_new hc.nocell hk fun s₄ keep hns hg ho => ?_) fun O O x => x) fun O O x => x)
 obtain ⟨ι, hf, o, items, deps, H₁, t₂, I₂, ht, go, q⟩ := m
 have T := t₂.trans (Tr.fresh t₂.inv keep (Nat.le_of_lt hns.lt) hg ho)
 have hC : s₂.heap.objs.size <= (s₂.heap.push (lstObj #[] 0)).objs.size := by rw [Heap.size_push]; exact Nat.le_succ _
 have hCs := ntr t₂.step.size hC
 obtain ⟨J, TJ, hJ⟩ := go (compEnvC scope cl (s₂.heap.push (lstObj #[] 0)).objs.size env) _ s₄ (Tr.fresh I₂ keep (Nat.le_of_lt hns.lt) hg ho) hC L.lt fun a u => by
   rcases u with rfl | ⟨x, _, hx, hlt⟩
   . exact hCs
   . exact absurd (Nat.lt_trans (nlt (L.lt x a hx) hCs) hlt) (Nat.lt_irrefl _)
 have ek : EnvOk B (cfi fi scope σ') (compEnvC scope cl (s₂.heap.push (lstObj #[] 0)).objs.size env) := ⟨congrArg (fun n => ({ scope with names := n } : Scope)) (hc.keys F e.kindF).symm, hk, hco, e.globals, e.builtins, e.qual, (fun c P h => nomatch h), (fun h => nomatch h), (fun h => nomatch h)⟩
 refine comp_loop R hifs ek TJ T (comp_frame I F e.kindF hc hn L T hCs hns fun a ha x => ?_) hJ (q _) fun acc σ'' H' s' T' F' hq => ?_
 . exact x.cons.elim (fun e => absurd ha (nlr (e ▸ t₂.step.size))) (ht a ha)
 . obtain ⟨m, hns, O⟩ := F'.ns
   exact hK _ acc H' _ s' T' ⟨m, hns⟩ hCs hq
inductive WJ (B : Base) (J : (Addr -> Prop) -> List PV -> AH -> Shared -> Prop) (cenv : Env) (s₀ : Shared) (items : List PV) (H : AH) (s' : Shared) : Prop
 | mk (W : Addr -> Prop) (j : J W items H s') (p : ∀ p, W p -> s₀.heap.objs.size <= p /\ p < s'.heap.objs.size /\ ¬ Trk B H p /\ p ≠ cenv.locals)
theorem turns_of {A : Around} {deps : AH} {tgt : Expr} {itv : Value} {cenv : Env} {s₀ : Shared} {G : Nat -> Prop} {J : (Addr -> Prop) -> List PV -> AH -> Shared -> Prop} (Rm : Room A 3) (I₀ : Inv B H s₀) (IT : IterW B A deps tgt itv G J) (hG : ∀ i, G i -> s₀.gens.size <= i)
   (hCl : ∀ y c, cenv.cells.lookup y = some c -> c < s₀.heap.objs.size) (hU : ∀ a, ownU cenv a -> s₀.heap.objs.size <= a) : Turns B (fun _ : Unit => B.hid) A deps tgt itv cenv H s₀ (fun items O H' s' => WJ B J cenv s₀ items H' s') where
 self := fun items O H s E Q j q => by
   obtain ⟨W, j, O⟩ := j
   exact IT.self W items H s E Q j q
 next := fun items O σ H₂ s₂ j T₂ F₂ => by
   obtain ⟨W, j, hP⟩ := j
   have hPa : ∀ p, W p -> s₀.heap.objs.size <= p := fun p hp => (hP p hp).1
   have hC : ∀ {W : Addr -> Prop}, (∀ p, W p -> s₀.heap.objs.size <= p) -> ∀ y c, cenv.cells.lookup y = some c -> ¬ W c := fun hw y c hy hp => absurd (hCl y c hy) (nlr (hw c hp))
   have fr : ∀ {s₃}, Only B W G H₂ s₂ s₃ -> FrameOk B cenv σ H₂ s₃ := fun o => o.frame' F₂ (fun hp => (hP _ hp).2.2.2 rfl) (hC hPa) fun p hp => IT.notseq _ _ _ _ j p hp
   refine wpAny_mono (IT.next W items H₂ s₂ j Rm T₂.inv) (fun r s₃ hr => ?_) fun O O x => x
   cases items with
   | nil => exact .done rfl hr.1 (hr.2.tr T₂ hPa hG) (fr hr.2)
   | cons x xs =>
     obtain ⟨v, e, hv⟩ := hr
     refine .one v x xs rfl e (wpAny_mono hv (fun O s₄ hh1 => ?_) fun O O x => x)
     obtain ⟨o, hvr, W', hW', j₄⟩ := hh1
     have T₄ := o.tr T₂ hPa hG
     have hlt : cenv.locals < s₂.heap.objs.size := by obtain ⟨m, hns, O⟩ := F₂.ns; exact hns.lt
     have hP₄ : ∀ p, W' p -> s₀.heap.objs.size <= p /\ p < s₄.heap.objs.size /\ ¬ Trk B H₂ p /\ p ≠ cenv.locals := fun p hp => by
       rcases hW' p hp with q | q
       . exact ⟨(hP p q).1, nlt (hP p q).2.1 o.size, (hP p q).2.2⟩
       . exact ⟨ntr T₂.step.size q.1, q.2, fun t => absurd (Trk_lt T₂.inv t) (nlr q.1), fun e => absurd (e ▸ q.1) (Nat.not_le.mpr hlt)⟩
     exact ⟨(), T₄.inv, fr o, hvr, fun H' s' t hd => ⟨Tr.back I₀ T₄ t hU, W', IT.stable _ _ _ _ _ _ j₄ (Evo.of_tr' (fr o) t (fun p hp => ⟨ownU_not (P := W') (fun hp => (hP₄ _ hp).2.2.2 rfl) (hC fun p hp => (hP₄ p hp).1) p hp, (hP₄ p hp).2.2.1⟩) hd),
       fun p hp => ⟨(hP₄ p hp).1, nlt (hP₄ p hp).2.1 t.step.size, fun q => (hP₄ p hp).2.2.1 (Trk.new t.keys (hP₄ p hp).2.1 q), (hP₄ p hp).2.2.2⟩⟩⟩
theorem MadeC.of {A : Around} {tgt : Expr} {s : Shared} {q : (ι : Type) -> (ι -> List (Addr × Obj)) -> IQ} {itv : Value} {s₂ : Shared} (Rm : Room A 3) (I : Inv B H s) (m : Made B A tgt H s (q Unit fun O => B.hid) itv s₂) : MadeC B A tgt H s q itv s₂ := by
 obtain ⟨items, deps, H₁, W, G, J, t, IT, j, p, g, dp, hq⟩ := m
 exact ⟨_, _, (), items, deps, H₁, t, t.inv, fun a ha x => Trk.new t.keys ha x, fun cenv D s₄ T hL hC hU => ⟨_, turns_of Rm I IT (fun i hi => (g i hi).1) hC hU, W, IT.stable _ _ _ _ _ _ j (Evo.of_tr0 T (fun a ha => (p a ha).2.2) fun x hx => .tail _ (dp x hx)),
   fun a ha => ⟨(p a ha).1, nlt (p a ha).2.1 T.step.size, fun q => (p a ha).2.2 (Trk.new T.keys (p a ha).2.1 q), fun e => absurd (p a ha).2.1 (nlr (e ▸ hL))⟩⟩, hq⟩
theorem EvI.madeC {A : Around} {s : Shared} {env : Env} {tgt iter : Expr} {q : (ι : Type) -> (ι -> List (Addr × Obj)) -> IQ} (hi : EvI B fi d NoE tgt iter σ H (q Unit fun O => B.hid)) (hd : 3 <= d) (e : EnvOk B fi env) (R : Room A d) (I : Inv B H s) (F : FrameOk B env σ H s) :
   wpAny (model B.prog B.w) A (eval iter env) (fun x s₁ => wpAny (model B.prog B.w) A (pyIter x) (MadeC B A tgt H s q) NoE s₁) NoE s :=
 wpAny_mono (hi A s env e R I F) (fun O O h => wpAny_mono h (fun O O m => .of (R.le hd) I m) fun O O x => x) fun O O x => x
theorem Tr.turnedC {H' : AH} {s₀ s : Shared} {C : Addr} {h' : Heap} {m : Str -> Option Value} (t : Tr B noU H s₀ H' s) (I₀ : Inv B H s₀) (hn : s.heap.Ns C m) (hC : s₀.heap.objs.size <= C) (hs : Heap.SameBut C s.heap h') : Tr B noU H s₀ H' { s with heap := h' } := by
 obtain ⟨o, es, ep, ho, hd, O⟩ := hn
 exact t.turned I₀ ho (by rw [hd]; nofun) (by rw [hd]; nofun) hC hs
theorem Ev_ListCompF {tgt iter elt : Expr} {ifs : List Expr} {scope : Scope} {pos : Pos} {Q : PQ} (σ' : St)
   (hc : CSt B σ scope.names σ')
   (hi : EvI B fi d NoE tgt iter σ H fun items deps H₁ => ∀ D, CmpL B (cfi fi scope σ') d tgt ifs elt D deps items [] σ' H₁ fun acc H' => Q (.list acc) H')
   (hn : (scope.names.map fun e => e.1).Nodup := by decide +kernel) (hk : scope.kind = .function := by rfl) (hco : scope.isCoroutine = false := by rfl) (hs : ∀ env x, foldedSetIterable iter env x = pure x := by intro _ _; rfl)
   (hd : 3 <= d := by decide) (hifs : ifs.length <= 1 := by decide) : Ev B fi d E (.ListComp elt [⟨tgt, iter, ifs, 0⟩] scope pos) σ H Q := fun A s env e R I F => by
 show wpAny _ A (comprehension (.ListComp elt [⟨tgt, iter, ifs, 0⟩] scope pos) scope env (firstIterPos [⟨tgt, iter, ifs, 0⟩] pos) (newList []) (firstAsync [⟨tgt, iter, ifs, 0⟩]) (firstIter [⟨tgt, iter, ifs, 0⟩] env)) _ _ s
 refine wpAny_mono (comp_main (K := EvPost B H s Q) e R I F hifs (hi.madeC hd e R I F) hc hn hk hco (hs env) ?_) (fun O O x => x) fun O O x => x.elim
 rintro D acc H' C s' t ⟨m, hns⟩ hC q
 refine ⟨m, hns, fun h' hsb => ?_⟩
 have t' := t.turnedC I hns hC hsb
 exact ⟨.list acc, H', t'.drop_key, t'.inv.freeze, q⟩
theorem swapsWith_comp {x : Str} {p : Pos} {elt : Expr} {gens : List Comprehension} {scope : Scope} {cp : Pos} {line : Nat} {env : Env} (hb : env.scope.kind = .function) (hk : env.kindOf x = some .local) (hl : (p.line == cp.line) = true)
   (hno : (scope.names.any fun (n, k) => n == x && (k == .local || k == .cell)) = false) : swapsWith (.ListComp elt gens scope cp) (some (.Name x p)) line env = pure true := by
 show (pure (env.blockKind == .function && env.kindOf x == some .local && p.line == cp.line && !(scope.names.any fun (n, k) => n == x && (k == .local || k == .cell))) : Sem Bool) = pure true
 have : env.blockKind = .function := by unfold Env.blockKind; rw [hb]; rfl
 rw [this, hk, hl, hno]
 rfl
theorem FrameOk.turned {env : Env} {s₀ s : Shared} {σ₀ : St} {H₀ : AH} {C : Addr} {h' : Heap} {m : Str -> Option Value} (F₀ : FrameOk B env σ₀ H₀ s₀) (F : FrameOk B env σ H s) (hn : s.heap.Ns C m) (hC : s₀.heap.objs.size <= C) (hs : Heap.SameBut C s.heap h') : FrameOk B env σ H { s with heap := h' } := by
 obtain ⟨o, es, ep, ho, hd, O⟩ := hn
 have hk : ∀ a ob, s.heap.get? a = some ob -> IsSeqO ob -> ¬ Trk B H a -> h'.get? a = some ob := fun a ob e ⟨vs, n, q⟩ _ => (hs.2 a fun eq => by rw [eq, ho] at e; cases e; rw [hd] at q; cases q).trans e
 refine ⟨F.fresh, F.apart, F.keys, F.nodup, ?_, fun y ov hy => ?_, F.glob⟩
 . obtain ⟨m', hns', hm⟩ := F.ns
   exact ⟨m', hns'.sameBut hs fun q => absurd (F₀.own_lt (.inl rfl)) (nlr (q ▸ hC)), fun y p hy => (hm y p hy).mono hk fun O O t => t⟩
 . obtain ⟨c, w, hc, ⟨oc, hoc, hdc⟩, hv⟩ := F.cell y ov hy
   exact ⟨c, w, hc, ⟨oc, (hs.2 c fun eq => by rw [eq, ho] at hoc; cases hoc; rw [hd] at hdc; cases hdc).trans hoc, hdc⟩, hv.mono hk fun O O t => t⟩
theorem X_Assign_CompF {x : Str} {pos' : Pos} {tgt iter elt : Expr} {ifs : List Expr} {scope : Scope} {pos cpos : Pos} {Qn : SQ} {Qf : FQ} (σ' : St)
   (hc : CSt B σ scope.names σ')
   (hi : EvI B fi d NoE tgt iter σ H fun items deps H₁ => ∀ D, CmpL B (cfi fi scope σ') d tgt ifs elt D deps items [] σ' H₁ fun acc H' => ∃ σ₂, Rep x (.list acc) .local σ σ₂ /\ Qn σ₂ H')
   (hx : ∃ ov, (x, NameKind.local, ov) ∈ σ) (hl : (pos'.line == cpos.line) = true := by rfl) (hno : (scope.names.any fun (n, k) => n == x && (k == .local || k == .cell)) = false := by decide +kernel)
   (hn : (scope.names.map fun e => e.1).Nodup := by decide +kernel) (hk : scope.kind = .function := by rfl) (hco : scope.isCoroutine = false := by rfl) (hs : ∀ env x, foldedSetIterable iter env x = pure x := by intro _ _; rfl)
   (hd : 3 <= d := by decide) (hifs : ifs.length <= 1 := by decide) : X B fi d E (.Assign [.Name x pos'] (.ListComp elt [⟨tgt, iter, ifs, 0⟩] scope cpos) pos) σ H Qn Qf := fun A s env e R I F => by
 obtain ⟨ov, hx⟩ := hx
 rw [exec_Assign_Name_used x pos' _ pos (swapsWith_comp e.kindF (F.kindOf hx) hl hno)]
 refine wpAny_bind (wpAny_standAt (wpAny_bind ?_))
 show wpAny _ A (do let _ <- comprehension (.ListComp elt [⟨tgt, iter, ifs, 0⟩] scope cpos) scope env (firstIterPos [⟨tgt, iter, ifs, 0⟩] cpos) (newList []) (firstAsync [⟨tgt, iter, ifs, 0⟩]) (firstIter [⟨tgt, iter, ifs, 0⟩] env) (some (assign (.Name x pos') env))) _ _ s
 refine wpAny_bind (wpAny_mono (comp_main (K := fun O s' => ∃ σ₂ H', Tr B (ownU env) H s H' s' /\ FrameOk B env σ₂ H' s' /\ Qn σ₂ H') e R I F hifs (hi.madeC hd e R I F) hc hn hk hco (hs env) ?_) (fun O s' hh1 => by obtain ⟨σ₂, H', t, F', q⟩ := hh1; exact wpAny_pure (wpAny_pure ⟨σ₂, H', t, F', .inl ⟨rfl, q⟩⟩)) fun O O x => x.elim)
 rintro D acc H' C s' t ⟨m, hns⟩ hC ⟨σ₂, hr, q⟩
 show wpAny _ A (do standAt pos'; bindName env x (.ref D)) _ _ s'
 refine wpAny_bind (wpAny_standAt (wpAny_bindName ?_))
 have F' := F.tr I t.drop_key
 refine wpAny_mono (store_ok e t.inv.drop_key F' t.inv.freeze hr (.inl rfl)) (fun O s'' hh1 => ?_) fun O O x => x
 obtain ⟨t₂, F₂⟩ := hh1
 have hns' : s''.heap.Ns C m := by
   obtain ⟨o, es, ep, ho, hd', r⟩ := hns
   refine ⟨o, es, ep, t₂.step.heap _ _ ho fun q => ?_, hd', r⟩
   rcases q with q | q
   . exact not_trk_of t.inv.drop_key ho (by rw [hd']; nofun) (by rw [hd']; nofun) q
   . exact absurd (F.own_lt (by rcases q with q | ⟨y, a, b, c⟩; exact .inl q; exact .inr ⟨y, a, b, c⟩)) (nlr hC)
 refine ⟨m, hns', fun h' hsb => ⟨σ₂, H', ?_, F.turned F₂ hns' hC hsb, q⟩⟩
 have T₂ : Tr B (ownU env) H s H' s'' := t.drop_key.up.trans t₂
 obtain ⟨o, es, ep, ho, hd', O⟩ := hns'
 exact ⟨T₂.inv.change (t := s''.toks) ho (by rw [hd']; nofun) (by rw [hd']; nofun) (Heap.get?_none_of_le (ntr I.size hC)) hsb, ⟨fun b ob eb hnb => (hsb.2 b fun qq => absurd (Heap.lt_size eb) (by rw [qq]; exact nlr hC)).trans (T₂.step.heap b ob eb hnb), by show _ <= h'.objs.size; rw [hsb.1]; exact T₂.step.size, T₂.step.gens⟩, T₂.keys⟩
end
noncomputable def SegE (M : Model) (A : Around) (Φ : End -> Shared -> Prop) (c : Code) (t : Sem Fin) (fs : List Frame) (s : Shared) : Prop :=
 ∀ Γ p, Γ.code = c -> Γ.Woken A -> ∃ e s', Runs M Γ p t fs s e s' /\ Φ e s'
section
variable {M : Model} {A : Around} {Φ : End -> Shared -> Prop} {c : Code} {fs : List Frame} {s : Shared} {env : Env}
 {K : Flow -> Sem Fin} {Hh : Value -> Sem Fin} {gd : Bool -> Bool} {lv : List Value -> List Value}
theorem sg_wrap {α : Type} {m : Sem α} {K : α -> Sem Fin} {H : Value -> Sem Fin} {gd : Bool -> Bool} {lv : List Value -> List Value}
   (h : wpAny M (A.over c fs) m (fun a s' => SegE M A Φ c (K a) fs s') (fun x s' => SegE M A Φ c (H x) fs s') s) : SegE M A Φ c (m.wrap K H gd lv) fs s := by
 rintro Γ p rfl hΓ
 exact runs_wrap_of_wp K H gd lv m (h (Γ.over fs) p (hΓ.over fs)) (fun a p' s' h' => h' Γ p' rfl hΓ) (fun x p' s' h' => h' Γ p' rfl hΓ)
theorem sg_at {p' : Pos} {k : Unit -> Sem Fin} (h : SegE M A Φ c (k ()) fs s) : SegE M A Φ c (.at p' k) fs s :=
 sg_wrap (m := standAt p') (K := k) (H := .raise) (gd := id) (lv := id) (wpAny_standAt h)
theorem sg_point {l : List Value} {k : Unit -> Sem Fin} (h : SegE M A Φ c (k ()) fs s) : SegE M A Φ c (.point l k) fs s :=
 sg_wrap (m := point) (K := k) (H := .raise) (gd := id) (lv := fun O => l) (wpAny_point h)
theorem sg_call {c' : Code} {h : Option Value} {g : Bool} {l : List Value} {k : Result -> Sem Fin} (hc : ∀ p, SegE M A Φ c' (M.den c') (.ret k h g l c p [] :: fs) s) : SegE M A Φ c (.call c' h g l k) fs s := by
 rintro Γ p rfl hΓ
 obtain ⟨e, s', hr, he⟩ := hc p (Γ.goto c') p rfl (hΓ.goto c')
 exact ⟨e, s', runs_call_seg hr, he⟩
theorem sg_leaf {k : Result -> Sem Fin} {h : Option Value} {g : Bool} {l : List Value} {c₁ : Code} {p₁ : Pos} {kp : List Value} (r : Result) (hk : SegE M A Φ c₁ (k r) fs s) : SegE M A Φ c (leafOf r) (.ret k h g l c₁ p₁ kp :: fs) s := by
 rintro Γ p rfl hΓ
 obtain ⟨e, s', hr, he⟩ := hk (Γ.goto c₁) p₁ rfl (hΓ.goto c₁)
 exact ⟨e, s', Runs.pop r hr, he⟩
theorem sg_again {c' : Code} (hq : c'.quiet = true) (hc : SegE M A Φ c' (M.den c') fs s) : SegE M A Φ c (.pure (.again c')) fs s := by
 rintro Γ p rfl hΓ
 obtain ⟨e, s', hr, he⟩ := hc (Γ.goto c') p rfl (hΓ.goto c')
 exact ⟨e, s', Runs.head (c₁ := c') (fun O O x => .again hq x) hr, he⟩
theorem sg_end (r : Result) (h : Φ (.ret r) s) : SegE M A Φ c (leafOf r) [] s := by
 rintro Γ p rfl _
 exact ⟨.ret r, s, Runs.leaf r, h⟩
theorem sg_yield {v : Value} {g : Bool} {l : List Value} {k : Resume -> Sem Fin} (hfs : splitAtGen fs = none) (h : ∀ p, Φ (.susp v g l k c p fs) s) : SegE M A Φ c (.yield v g l k) fs s := by
 rintro Γ p rfl _
 exact ⟨_, s, Runs.yield' fs hfs, h p⟩
theorem sg_cons {st : Stmt} {rest : List Stmt} (h : SegE M A Φ c ((exec st env).wrap (fun f => match f with | .next => (execs rest env).wrap K Hh gd lv | f => K f) Hh gd lv) fs s) :
   SegE M A Φ c ((execs (st :: rest) env).wrap K Hh gd lv) fs s := by rw [execs_cons_wrap]; exact h
theorem sg_exec {st : Stmt} (h : wpAny M (A.over c fs) (exec st env) (fun f s' => SegE M A Φ c (K f) fs s') NoE s) : SegE M A Φ c ((exec st env).wrap K Hh gd lv) fs s :=
 sg_wrap (wpAny_mono h (fun O O x => x) fun O O x => x.elim)
theorem sg_If {t : Expr} {b o : List Stmt} {pos : Pos} (h : wpAny M (A.over c fs) (isTrue t env (eval t env)) (fun v s' => SegE M A Φ c ((execs (if v then b else o) env).wrap K Hh gd lv) fs s') NoE s) :
   SegE M A Φ c ((exec (.If t b o pos) env).wrap K Hh gd lv) fs s := by
 have e : exec (.If t b o pos) env = (standAt pos >>= fun O => isTrue t env (eval t env) >>= fun v => if v = true then execs b env else execs o env) := rfl
 rw [e, Sem.bind_eq_wrap', Sem.wrap_wrap]
 refine sg_wrap (wpAny_standAt ?_)
 rw [Sem.bind_eq_wrap', Sem.wrap_wrap]
 refine sg_wrap (wpAny_mono h (fun v s' h' => ?_) fun O O x => x.elim)
 cases v
 . simpa using h'
 . simpa using h'
theorem sg_Yield {e : Expr} {ypos pos : Pos} (hfs : splitAtGen fs = none) (hgd : gd false = false) (hfg : fs.any Frame.guarded = false)
   (h : wpAny M (A.over c fs) (eval e env) (fun v s' => ∀ g l p k, (∀ Φ' s'', SegE M A Φ' c (K .next) fs s'' -> SegE M A Φ' c (k (.send .none)) fs s'') -> (End.susp v g l k c p fs).quiet = true -> Φ (.susp v g l k c p fs) s') NoE s) (hco : env.scope.isCoroutine = false) (hi : interactive env = false) :
   SegE M A Φ c ((exec (.Expr (.Yield (some e) ypos) pos) env).wrap K Hh gd lv) fs s := by
 rw [exec_Expr env _ pos hi rfl]
 show SegE M A Φ c (.at pos fun O => ((eval e env >>= fun v => (standAt ypos >>= fun O => yieldOut env v)) >>= fun x => dropValue (.Yield (some e) ypos) pos x).wrap K Hh gd lv) fs s
 have hy : ∀ v, yieldOut env v = yieldValue v := fun v => by simp only [yieldOut, hco, Bool.false_eq_true, if_false]
 simp only [hy]
 refine sg_at ?_
 rw [Sem.bind_eq_wrap', Sem.bind_eq_wrap', Sem.wrap_wrap, Sem.wrap_wrap]
 refine sg_wrap (wpAny_mono h (fun v s' h' => ?_) fun O O x => x.elim)
 refine sg_at (sg_yield hfs fun p => ?_)
 refine h' _ _ p _ (fun Φ' s'' hs => ?_) (by simp [End.quiet, hgd, hfg])
 exact hs
noncomputable def ownBack (env : Env) (r : Result) : Sem Flow := (match r with | .ok f => (.pure f : Sem Flow) | .error e => .raise e).onRaise fun (x : Value) => do
       if (<- field x 1) == Value.none then unsupported "frame.own-activation:exception-without-traceback"
       setFlight x env.frame
theorem sg_runOwn {c' : Code} (h : ∀ p, SegE M A Φ c' (M.den c') (.ret (fun r => (ownBack env r).wrap K Hh gd lv) none (gd false) (lv []) c p [] :: fs) s) :
   SegE M A Φ c ((runOwn c' env).wrap K Hh gd lv) fs s := sg_call h
theorem sg_For {tgt it : Expr} {body : List Stmt} {pos : Pos} (hs : ∀ x, foldedSetIterable it env x = pure x)
   (h : wpAny M (A.over c fs) (eval it env) (fun x s₁ => wpAny M (A.over c fs) (pyIter x) (fun itv s₂ => ∀ p, SegE M A Φ (.forLoop tgt itv body [] env) (M.den (.forLoop tgt itv body [] env))
     (.ret (fun r => (ownBack env r).wrap K Hh gd lv) none (gd false) (lv []) c p [] :: fs) s₂) NoE s₁) NoE s) : SegE M A Φ c ((exec (.For tgt it body [] pos) env).wrap K Hh gd lv) fs s := by
 have e : exec (.For tgt it body [] pos) env = ((standAt pos >>= fun O => eval it env >>= fun x => foldedSetIterable it env x >>= fun x => standAt it.pos >>= fun O => holding [x] (pyIter x)) >>= fun itv => runOwn (.forLoop tgt itv body [] env) env) := by
   show (do standAt pos; let x <- foldedSetIterable it env (<- eval it env); standAt it.pos; runOwn (.forLoop tgt (<- holding [x] (pyIter x)) body [] env) env) = _
   simp only [bind_assoc]
 rw [e, Sem.bind_eq_wrap', Sem.wrap_wrap]
 refine sg_wrap (wpAny_bind (wpAny_standAt (wpAny_bind (wpAny_mono h (fun x s₁ h₁ => ?_) fun O O x => x.elim))))
 refine wpAny_bind (wpAny_of_eq (hs x) (wpAny_bind (wpAny_standAt (wpAny_holding (wpAny_mono h₁ (fun itv s₂ h₂ => ?_) fun O O x => x.elim)))))
 exact sg_runOwn h₂
end
section
variable {prog : Program} {w : World} {A : Around} {Φ : End -> Shared -> Prop} {c : Code} {fs : List Frame} {s : Shared} {env : Env}
noncomputable def loopK (tgt : Expr) (itv : Value) (body : List Stmt) (env : Env) : Flow -> Sem Fin
 | .next | .cont => .pure (.again (.forLoop tgt itv body [] env))
 | .brk => .pure (.done .next)
 | .ret v => .pure (.done (.ret v))
noncomputable def loopH (env : Env) (e : Value) : Sem Fin := (do noteFrame e env; theTreesLotGoes e : Sem Unit).wrap (fun O => .raise e) .raise id id
theorem sg_forLoop {tgt : Expr} {itv : Value} {body : List Stmt}
   (h : wpAny (model prog w) (A.over (.forLoop tgt itv body [] env) fs) (pyNext itv) (fun r s₁ => match r with
     | none => SegE (model prog w) A Φ (.block [] env) (leafOf (.ok .next)) fs s₁
     | some v => wpAny (model prog w) (A.over (.forLoop tgt itv body [] env) fs) (letOwnedTupleGo tgt itv v) (fun O s₂ => wpAny (model prog w) (A.over (.forLoop tgt itv body [] env) fs) (assign tgt env v) (fun O s₃ =>
         SegE (model prog w) A Φ (.forLoop tgt itv body [] env) ((execs body env).wrap (loopK tgt itv body env) (loopH env) id id) fs s₃) NoE s₂) NoE s₁) NoE s) :
   SegE (model prog w) A Φ (.forLoop tgt itv body [] env) ((model prog w).den (.forLoop tgt itv body [] env)) fs s := by
 show SegE _ A Φ _ ((forTurn tgt itv body [] env).onRaise (fun x => do noteFrame x env; theTreesLotGoes x)) fs s
 unfold forTurn
 rw [Sem.onRaise_eq_wrap, Sem.bind_eq_wrap', Sem.wrap_wrap]
 refine sg_wrap (wpAny_standAt ?_)
 rw [Sem.bind_eq_wrap', Sem.wrap_wrap]
 refine sg_wrap (m := (pyNext itv).onRaise fun O => standAt { tgt.pos with line := 0 }) ?_
 have hon : ∀ {α : Type} {m : Sem α} {f : Value -> Sem Unit} {Q : α -> Shared -> Prop} {E : EP} {s : Shared} {A : Around}, wpAny (model prog w) A m Q NoE s -> wpAny (model prog w) A (m.onRaise f) Q E s := by
   intro α m f Q E s A hm
   exact wpAny_onRaise (wpAny_mono hm (fun O O x => x) fun O O x => x.elim)
 refine hon (wpAny_mono h (fun r s₁ h₁ => ?_) fun O O x => x)
 cases r with
 | none => exact sg_again rfl h₁
 | some v =>
   dsimp only at h₁ ⊢
   rw [Sem.bind_eq_wrap', Sem.wrap_wrap]
   refine sg_wrap (wpAny_mono h₁ (fun O s₂ h₂ => ?_) fun O O x => x.elim)
   rw [Sem.bind_eq_wrap', Sem.wrap_wrap]
   refine sg_wrap (wpAny_mono h₂ (fun O s₃ h₃ => ?_) fun O O x => x.elim)
   rw [Sem.bind_eq_wrap', Sem.wrap_wrap]
   rw [Sem.wrap_congr (execs body env) _ _ (K' := loopK tgt itv body env) (H' := loopH env) (fun f => by cases f <;> rfl) (fun e => by
     first | exact Sem.bind_eq_wrap _ _ | (show (do noteFrame e env; theTreesLotGoes e : Sem Unit).bind (fun O => .raise e) = _; rw [Sem.bind_eq_wrap]; rfl))]
   exact h₃
theorem sg_func {body : List Stmt}
   (h : SegE (model prog w) A Φ (.func body env) ((execs body env).wrap (fun f => .pure (.done (.ret (match f with | .ret v => v | _ => .none))))
     (fun e => (leaving env e).wrap (fun O => .raise e) .raise id id) id id) fs s) :
   SegE (model prog w) A Φ (.func body env) ((model prog w).den (.func body env)) fs s := by
 show SegE _ A Φ _ (.point [] fun O => ((execs body env).onRaise (leaving env)) >>= _) fs s
 refine sg_point ?_
 rw [Sem.onRaise_eq_wrap, Sem.bind_eq_wrap', Sem.wrap_wrap]
 rw [Sem.wrap_congr (execs body env) _ _ (K' := fun f => .pure (.done (.ret (match f with | .ret v => v | _ => .none))))
   (H' := fun e => (leaving env e).wrap (fun O => .raise e) .raise id id) (fun f => by cases f <;> rfl)
   (fun e => by rw [Sem.bind_eq_wrap, Sem.wrap_wrap]; rfl)]
 exact h
noncomputable def GoesE (M : Model) (A : Around) (Φ : End -> Shared -> Prop) (gs : GenState) (s : Shared) : Prop :=
 match gs with
 | .fresh c => SegE M A Φ c (M.den c) [] s
 | .suspended k _ c _ fs _ => SegE M A Φ c (k (.send .none)) fs s
 | _ => False
theorem sg_resume {M : Model} {E : EP} {g : Nat} {gs : GenState} {l : List Value} {α : Type} {k : GenResult -> Sem α} {Q : α -> Shared -> Prop} (hg : s.gens[g]? = some gs)
   (hgo : GoesE M A Φ gs (s.setGen g .running)) (hq : ∀ e s', Φ e s' -> e.quiet = true)
   (hR : ∀ e s₁, Φ e s₁ -> wpAny M A (k e.result) Q E (s₁.setGen g e.genState)) : wpAny M A (.resume g (.send .none) l k) Q E s := by
 intro Γ p hΓ
 rw [Sem.wp_resume]
 have hB : ∀ c, (Γ.wake c p).Woken A := fun c => hΓ.wake c p
 cases gs with
 | fresh c =>
   obtain ⟨e₁, s₁, hr, he⟩ := hgo (Γ.wake c p) p rfl (hB c)
   exact ⟨_, _, by unfold Wakes; rw [hg]; exact ⟨e₁, s₁, hr, hq e₁ s₁ he, rfl, rfl⟩, hR e₁ s₁ he Γ p hΓ⟩
 | suspended k₀ l₀ c₀ p₀ fs₀ cl =>
   obtain ⟨e₁, s₁, hr, he⟩ := hgo (Γ.wake c₀ p) p₀ rfl (hB c₀)
   exact ⟨_, _, by unfold Wakes; rw [hg]; exact ⟨e₁, s₁, hr, hq e₁ s₁ he, rfl, rfl⟩, hR e₁ s₁ he Γ p hΓ⟩
 | running => exact hgo.elim
 | finished => exact hgo.elim
theorem sg_next {E : EP} {a : Addr} {g : Nat} {gs : GenState} {Q : Option Value -> Shared -> Prop} (hh : A.handled = none) (hl : s.heap.NoLimit) (hroom : A.depth < recursionLimit)
   (hg : s.heap.IsGen a g) (hgs : s.gens[g]? = some gs) (hgo : GoesE (model prog w) A.in1 Φ gs (s.setGen g .running)) (hq : ∀ e s', Φ e s' -> e.quiet = true)
   (hR : ∀ e s₁, Φ e s₁ -> (e = .ret (.ok (.ret .none)) /\ ∀ h', (∀ b o, s₁.heap.get? b = some o -> h'.get? b = some o) -> s₁.heap.objs.size <= h'.objs.size -> Q none { s₁.setGen g .finished with heap := h' }) \/ (∃ v g₀ l k c p fs, e = .susp v g₀ l k c p fs /\ Q (some v) (s₁.setGen g e.genState))) :
   wpAny (model prog w) A (pyNext (.ref a)) Q E s := by
 unfold pyNext
 refine wpAny_bind (wpAny_attempt (wpAny_callSpecial?_slot (name := Str.ofString "__next__") hg.typeIs slot_gen_next
   (wpAny_call_entry slot_gen_next hg.typeIs entry_gen_next ?_ (args_gen_next _))))
 show wpAny _ _ (Builtin.Generator.genWake (.ref a) (.send .none)) _ _ s
 unfold Builtin.Generator.genWake
 refine wpAny_bind (wpAny_holding (wpAny_genNumber hg (wpAny_bind (wpAny_genState hgs ?_))))
 cases gs with
 | running => exact hgo.elim
 | finished => exact hgo.elim
 | _ =>
   refine wpAny_bind (wpAny_roomToWake hl hroom ?_)
   show wpAny _ _ (.resume g (.send .none) [] _) _ _ s
   refine sg_resume hgs hgo hq fun e s₁ he => ?_
   rcases hR e s₁ he with ⟨rfl, hp⟩ | ⟨v, g₀, l, k, c, p, fs, rfl, hv⟩
   . show wpAny _ _ (newExc (.type "StopIteration") [] >>= _) _ _ _
     refine wpAny_bind ?_
     simp only [newExc, newTuple]
     refine wpAny_bind (wpAny_newObj_type ?_ (by size_fits))
     refine wpAny_bind (m := firstArgMember _ _) (wpAny_of_eq (a := Value.none) (by first | rfl | (simp only [firstArgMember]; rfl)) ?_)
     refine wpAny_newObj_type ?_ (by size_fits)
     simp only [raiseNew]
     refine wpAny_bind (wpAny_bind (wpAny_handled ?_))
     rw [show A.in1.handled = none from hh]
     refine wpAny_throw ?_
     refine wpAny_bind (wpAny_isInstance (T := "StopIteration") (b := true) ⟨_, Heap.get?_push_size _ rfl, rfl⟩ isSubtype_stop ?_)
     exact wpAny_pure (hp _ (fun b o hb => Heap.get?_push_of_some _ (Heap.get?_push_of_some _ hb)) (by rw [Heap.size_push, Heap.size_push]; show s₁.heap.objs.size <= s₁.heap.objs.size + 1 + 1; lia))
   . exact wpAny_pure ⟨v, rfl, wpAny_pure hv⟩
end
noncomputable def Items (H : AH) (v : PV) (xs : List PV) : Prop := v = .list xs \/ ∃ a, v = .lref a /\ (a, xs) ∈ H
theorem Items.list {H : AH} {xs : List PV} : Items H (.list xs) xs := .inl rfl
theorem Items.lref {H : AH} {a : Addr} {xs : List PV} (h : (a, xs) ∈ H) : Items H (.lref a) xs := .inr ⟨a, rfl, h⟩
section
variable {B : Base} {fi : FnInfo} {d : Nat} {E : EP} {σ : St} {H : AH}
theorem Items.at {v : PV} {xs : List PV} (h : Items H v xs) {s : Shared} (I : Inv B H s) {va : Value} (r : VR (Trk B H) s.heap va v) :
   ∃ a vs n, va = .ref a /\ s.heap.get? a = some (lstObj vs n) /\ VRs (Trk B H) s.heap vs.toList xs := by
 rcases h with rfl | ⟨a, rfl, hm⟩
 . cases r with | list ho hn hs => exact ⟨_, _, _, rfl, ho, hs⟩
 . obtain ⟨O, rfl⟩ := r.inv
   obtain ⟨O, vs, n, ho, hv⟩ := I.objs _ hm
   exact ⟨a, vs, n, rfl, ho, hv⟩
theorem VRs.asize {T : Addr -> Prop} {h : Heap} {vs : Array Value} {xs : List PV} (r : VRs T h vs.toList xs) : vs.size = xs.length := by
 have := r.length; simpa using this
theorem Bin_add {a b : Int} {Q : PQ} (h : Q (.int (a + b)) H) : V2 B d E (binaryOp .Add) (.int a) (.int b) H Q := fun A s R I va vb r1 r2 => by
 obtain ⟨O, rfl⟩ := r1.inv; obtain ⟨O, rfl⟩ := r2.inv; exact P.add_int ⟨_, _, Tr.tok I _, .int _ _, h⟩
theorem Bin_sub {a b : Int} {Q : PQ} (h : Q (.int (a - b)) H) : V2 B d E (binaryOp .Sub) (.int a) (.int b) H Q := fun A s R I va vb r1 r2 => by
 obtain ⟨O, rfl⟩ := r1.inv; obtain ⟨O, rfl⟩ := r2.inv; exact P.sub_int ⟨_, _, Tr.tok I _, .int _ _, h⟩
theorem Bin_mul {a b : Int} {Q : PQ} (hm : IntMulOk a b) (h : Q (.int (a * b)) H) : V2 B d E (binaryOp .Mult) (.int a) (.int b) H Q := fun A s R I va vb r1 r2 => by
 obtain ⟨O, rfl⟩ := r1.inv; obtain ⟨O, rfl⟩ := r2.inv; exact P.mul_int ⟨_, _, Tr.tok I _, .int _ _, h⟩ hm
theorem noPy {a b : Int} (hb : b.natAbs < 2 ^ 9000) : Builtin.divisionGoesByPylong a b = false := by
 unfold Builtin.divisionGoesByPylong
 have : ¬ ((if b == 0 then 0 else b.natAbs.log2 / 30 + 1) > 300) := by
   by_cases h0 : (b == 0) = true
   . rw [if_pos h0]; lia
   . rw [if_neg h0]
     have hne : b.natAbs ≠ 0 := by
       intro q; apply h0; simp; lia
     have := (Nat.log2_lt hne).mpr hb
     lia
 simp only [decide_eq_false this, Bool.false_and]
theorem Bin_fdiv {a b : Int} {Q : PQ} (hb : b ≠ 0) (hp : Builtin.divisionGoesByPylong a b = false) (h : Q (.int (a.fdiv b)) H) : V2 B d E (binaryOp .FloorDiv) (.int a) (.int b) H Q := fun A s R I va vb r1 r2 => by
 obtain ⟨O, rfl⟩ := r1.inv; obtain ⟨O, rfl⟩ := r2.inv; exact floordiv_int hb ⟨_, _, Tr.tok I _, .int _ _, h⟩ (.inl hp)
theorem Bin_fmod {a b : Int} {Q : PQ} (hb : b ≠ 0) (h : Q (.int (a.fmod b)) H) : V2 B d E (binaryOp .Mod) (.int a) (.int b) H Q := fun A s R I va vb r1 r2 => by
 obtain ⟨O, rfl⟩ := r1.inv; obtain ⟨O, rfl⟩ := r2.inv; exact mod_int' hb ⟨_, _, Tr.tok I _, .int _ _, h⟩
theorem Bin_shr {a n : Int} {Q : PQ} (hn : 0 <= n) (h : Q (.int (a.fdiv (2 ^ n.toNat))) H) : V2 B d E (binaryOp .RShift) (.int a) (.int n) H Q := fun A s R I va vb r1 r2 => by
 obtain ⟨O, rfl⟩ := r1.inv; obtain ⟨O, rfl⟩ := r2.inv; exact rshift_int hn ⟨_, _, Tr.tok I _, .int _ _, h⟩
theorem Bin_and {a b : Int} {Q : PQ} (h : Q (.int (Builtin.bitAnd a b)) H) : V2 B d E (binaryOp .BitAnd) (.int a) (.int b) H Q := fun A s R I va vb r1 r2 => by
 obtain ⟨O, rfl⟩ := r1.inv; obtain ⟨O, rfl⟩ := r2.inv; exact and_int ⟨_, _, Tr.tok I _, .int _ _, h⟩
theorem Bin_or {a b : Int} {Q : PQ} (h : Q (.int (Builtin.bitOr a b)) H) : V2 B d E (binaryOp .BitOr) (.int a) (.int b) H Q := fun A s R I va vb r1 r2 => by
 obtain ⟨O, rfl⟩ := r1.inv; obtain ⟨O, rfl⟩ := r2.inv; exact or_int ⟨_, _, Tr.tok I _, .int _ _, h⟩
theorem Bin_xor {a b : Int} {Q : PQ} (h : Q (.int (Builtin.bitXor a b)) H) : V2 B d E (binaryOp .BitXor) (.int a) (.int b) H Q := fun A s R I va vb r1 r2 => by
 obtain ⟨O, rfl⟩ := r1.inv; obtain ⟨O, rfl⟩ := r2.inv; exact xor_int ⟨_, _, Tr.tok I _, .int _ _, h⟩
theorem Un_neg {a : Int} {Q : PQ} (h : Q (.int (-a)) H) : V1 B d E (unaryOp .USub) (.int a) H Q := fun A s R I va r1 => by
 obtain ⟨O, rfl⟩ := r1.inv; exact P.neg_int ⟨_, _, Tr.tok I _, .int _ _, h⟩
theorem Un_inv {a : Int} {Q : PQ} (h : Q (.int (Builtin.bitNot a)) H) : V1 B d E (unaryOp .Invert) (.int a) H Q := fun A s R I va r1 => by
 obtain ⟨O, rfl⟩ := r1.inv; exact invert_int ⟨_, _, Tr.tok I _, .int _ _, h⟩
theorem In_add {a b : Int} {Q : PQ} (h : Q (.int (a + b)) H) : V2 B d E (inplaceOp .Add) (.int a) (.int b) H Q := fun A s R I va vb r1 r2 => by
 obtain ⟨O, rfl⟩ := r1.inv; obtain ⟨O, rfl⟩ := r2.inv; exact P.iadd_int ⟨_, _, Tr.tok I _, .int _ _, h⟩
theorem In_sub {a b : Int} {Q : PQ} (h : Q (.int (a - b)) H) : V2 B d E (inplaceOp .Sub) (.int a) (.int b) H Q := fun A s R I va vb r1 r2 => by
 obtain ⟨O, rfl⟩ := r1.inv; obtain ⟨O, rfl⟩ := r2.inv; exact P.isub_int ⟨_, _, Tr.tok I _, .int _ _, h⟩
theorem Cmp_eq {a b : Int} {Q : PQ} (h : Q (.bool (a == b)) H) : V2 B d E (compareOp .Eq) (.int a) (.int b) H Q := fun A s R I va vb r1 r2 => by
 obtain ⟨O, rfl⟩ := r1.inv; obtain ⟨O, rfl⟩ := r2.inv; exact P.eq_int (EvPost.here I (.bool _) h)
theorem Cmp_ne {a b : Int} {Q : PQ} (h : Q (.bool (a != b)) H) : V2 B d E (compareOp .NotEq) (.int a) (.int b) H Q := fun A s R I va vb r1 r2 => by
 obtain ⟨O, rfl⟩ := r1.inv; obtain ⟨O, rfl⟩ := r2.inv; exact P.ne_int (EvPost.here I (.bool _) h)
theorem Cmp_lt {a b : Int} {Q : PQ} (h : Q (.bool (decide (a < b))) H) : V2 B d E (compareOp .Lt) (.int a) (.int b) H Q := fun A s R I va vb r1 r2 => by
 obtain ⟨O, rfl⟩ := r1.inv; obtain ⟨O, rfl⟩ := r2.inv; exact P.lt_int (EvPost.here I (.bool _) h)
theorem Cmp_le {a b : Int} {Q : PQ} (h : Q (.bool (decide (a <= b))) H) : V2 B d E (compareOp .LtE) (.int a) (.int b) H Q := fun A s R I va vb r1 r2 => by
 obtain ⟨O, rfl⟩ := r1.inv; obtain ⟨O, rfl⟩ := r2.inv; exact P.le_int (EvPost.here I (.bool _) h)
theorem Cmp_gt {a b : Int} {Q : PQ} (h : Q (.bool (decide (a > b))) H) : V2 B d E (compareOp .Gt) (.int a) (.int b) H Q := fun A s R I va vb r1 r2 => by
 obtain ⟨O, rfl⟩ := r1.inv; obtain ⟨O, rfl⟩ := r2.inv; exact P.gt_int (EvPost.here I (.bool _) h)
theorem Tru_int {a : Int} {Q : BQ} (h : Q (a != 0) H) : Tru B d E (.int a) H Q := fun A s R I va r => by
 obtain ⟨O, rfl⟩ := r.inv; exact P.truthy_int ⟨H, .refl I, h⟩
noncomputable def plainPV : PV -> Bool
 | .none | .bool _ => true
 | _ => false
noncomputable def notBuiltin : PV -> Bool
 | .raw _ => false
 | _ => true
noncomputable def isPV : PV -> PV -> Bool
 | .none, .none => true
 | .bool a, .bool b => a == b
 | _, _ => false
theorem is_plain {a b : PV} (hb : plainPV b = true) (ha : notBuiltin a = true) {T : Addr -> Prop} {h : Heap} {va vb : Value} (r1 : VR T h va a) (r2 : VR T h vb b) : plainIs va vb = true /\ (va == vb) = isPV a b := by
 have q := r1.inv
 cases b with
 | none =>
   obtain rfl : vb = .none := r2.inv
   cases a with
   | raw => exact nomatch ha
   | int => obtain ⟨O, rfl⟩ := q; exact ⟨rfl, rfl⟩
   | str => obtain ⟨O, rfl⟩ := q; exact ⟨rfl, rfl⟩
   | bytes => obtain ⟨O, rfl⟩ := q; exact ⟨rfl, rfl⟩
   | tup => obtain ⟨O, O, O, rfl, O⟩ := q; exact ⟨rfl, rfl⟩
   | list => obtain ⟨O, O, O, rfl, O⟩ := q; exact ⟨rfl, rfl⟩
   | _ => cases (show va = _ from q); exact ⟨rfl, rfl⟩
 | bool y =>
   obtain rfl : vb = .bool y := r2.inv
   cases a with
   | raw => exact nomatch ha
   | int => obtain ⟨O, rfl⟩ := q; exact ⟨rfl, rfl⟩
   | str => obtain ⟨O, rfl⟩ := q; exact ⟨rfl, rfl⟩
   | bytes => obtain ⟨O, rfl⟩ := q; exact ⟨rfl, rfl⟩
   | tup => obtain ⟨O, O, O, rfl, O⟩ := q; exact ⟨rfl, rfl⟩
   | list => obtain ⟨O, O, O, rfl, O⟩ := q; exact ⟨rfl, rfl⟩
   | bool x => cases (show va = .bool x from q); cases x <;> cases y <;> exact ⟨rfl, rfl⟩
   | _ => cases (show va = _ from q); exact ⟨rfl, rfl⟩
 | _ => exact nomatch hb
theorem Cmp_is {a b : PV} {Q : PQ} (h : Q (.bool (isPV a b)) H) (hb : plainPV b = true := by rfl) (ha : notBuiltin a = true := by rfl) : V2 B d E (compareOp .Is) a b H Q := fun A s R I va vb r1 r2 => by
 obtain ⟨p, e⟩ := is_plain hb ha r1 r2
 exact wpAny_is_plain p (by rw [e]; exact EvPost.here I (.bool _) h)
theorem Cmp_isnot {a b : PV} {Q : PQ} (h : Q (.bool (!isPV a b)) H) (hb : plainPV b = true := by rfl) (ha : notBuiltin a = true := by rfl) : V2 B d E (compareOp .IsNot) a b H Q := fun A s R I va vb r1 r2 => by
 obtain ⟨p, e⟩ := is_plain hb ha r1 r2
 exact wpAny_isNot_plain p (by rw [e]; exact EvPost.here I (.bool _) h)
noncomputable def SubOk (B : Base) (o : PV) : Prop :=
 ∀ A (E : EP) H s ov, Inv B H s -> VR (Trk B H) s.heap ov o -> ∀ Q : Bool -> Shared -> Prop, Q false s -> wpAny (model B.prog B.w) A (getitemInPython ov) Q E s
theorem subOk_of {A : Around} {s : Shared} {o : Value} {T id : String} (hT : s.TypeIs o T) (hl : typeLookup (.type T) "__getitem__" = pure (some (.builtin id))) {Q : Bool -> Shared -> Prop} (h : Q false s) : wpAny (model B.prog B.w) A (getitemInPython o) Q E s := by
 rw [getitemInPython_of_ne hT.not_modules]
 exact wpAny_bind (wpAny_specialOf hT hl (wpAny_pure h))
theorem SubOk_tup {xs : List PV} : SubOk B (.tup xs) := fun A E H s ov I r Q q => by
 cases r with | tup ho hn hs => exact subOk_of (show s.TypeIs (.ref _) "tuple" from ⟨_, ho, rfl⟩) slot_tuple_getitem.lookup q
theorem SubOk_str {x : Str} : SubOk B (.str x) := fun A E H s ov I r Q q => by
 obtain ⟨O, rfl⟩ := r.inv; exact subOk_of (typeIs_str _ _ _) F.slot_str_getitem.lookup q
theorem sub_tail {A : Around} {s : Shared} {value slice : Expr} {ov iv : Value} {Q : Value -> Shared -> Prop} (h : wpAny (model B.prog B.w) A (getItem ov iv) Q E s) : wpAny (model B.prog B.w) A (subscripted slice false ov iv >>= fun r => letTemporaryGo value ov r >>= fun O => pure r) Q E s := by
 have go : wpAny (model B.prog B.w) A (getItem ov iv) (fun r s₃ => wpAny (model B.prog B.w) A (letTemporaryGo value ov r >>= fun O => pure r) Q E s₃) E s := wpAny_mono h (fun r s₃ p => wpAny_bind (wpAny_letTemporaryGo (wpAny_pure p))) fun O O x => x
 have hop : ∀ vs, wpAny (model B.prog B.w) A (operate vs (getItem ov iv)) (fun r s₃ => wpAny (model B.prog B.w) A (letTemporaryGo value ov r >>= fun O => pure r) Q E s₃) E s := fun vs Γ p hΓ => by
   rw [Sem.wp_operate]; exact go Γ p hΓ
 refine wpAny_bind ?_
 cases slice
 case Slice lo hi st p => cases st <;> exact hop _
 all_goals exact hop _
end
section
variable {B : Base} {fi : FnInfo} {d : Nat} {E : EP} {σ : St} {H : AH}
theorem Get_list {v : PV} {xs : List PV} {k : Int} {p : PV} {Q : PQ} (hv : Items H v xs) (h0 : 0 <= k) (hfit : k < 2 ^ 63) (hx : xs[k.toNat]? = some p) (h : Q p H) : V2 B d E getItem v (.int k) H Q := fun A s R I va vb r1 r2 => by
 obtain ⟨a, vs, n, rfl, ho, hr⟩ := hv.at I r1
 obtain ⟨O, rfl⟩ := r2.inv
 obtain ⟨v', hv', hr'⟩ := hr.get hx
 exact wpAny_getItem_list (lst_isList ho) h0 hfit (by rw [<- Array.getElem?_toList]; exact hv') (EvPost.here I hr' h)
theorem Get_tup {xs : List PV} {k : Int} {j : Nat} {p : PV} {Q : PQ} (hlo : -(2 ^ 63) <= k) (hhi : k < 2 ^ 63) (hj : seqIndex? k xs.length = some j) (hx : xs[j]? = some p) (h : Q p H) : V2 B d E getItem (.tup xs) (.int k) H Q := fun A s R I va vb r1 r2 => by
 obtain ⟨O, rfl⟩ := r2.inv
 cases r1 with
 | tup ho hn hr =>
   obtain ⟨v', hv', hr'⟩ := hr.get hx
   exact getItem_tuple ⟨_, ho, rfl, _, rfl⟩ hlo hhi (by rw [hr.asize]; exact hj) (by rw [<- Array.getElem?_toList]; exact hv') (EvPost.here I hr' h)
noncomputable def SubAt (B : Base) (o : PV) (H : AH) : Prop :=
 ∀ A (E : EP) s ov, Inv B H s -> VR (Trk B H) s.heap ov o -> ∀ Q : Bool -> Shared -> Prop, Q false s -> wpAny (model B.prog B.w) A (getitemInPython ov) Q E s
theorem SubAt_of {o : PV} (h : SubOk B o) : SubAt B o H := fun A E s ov I r Q q => h A E H s ov I r Q q
theorem SubAt_items {v : PV} {xs : List PV} (hv : Items H v xs) : SubAt B v H := fun A E s ov I r Q q => by
 obtain ⟨a, vs, n, rfl, ho, O⟩ := hv.at I r
 exact subOk_of (lst_isList ho).typeIs slot_list_getitem.lookup q
theorem Ev_Sub {value slice : Expr} {pos : Pos} {Q : PQ}
   (h : Ev B fi d E value σ H fun o H₁ => Ev B fi d E slice σ H₁ fun i H₂ => SubAt B o H₂ /\ V2 B d E getItem o i H₂ Q) : Ev B fi d E (.Subscript value slice pos) σ H Q := fun A s env e R I F => by
 refine Subscript_ (wpAny_mono (h A s env e R I F) (fun ov s₁ hh1 => ?_) fun O O x => x)
 obtain ⟨o, H₁, t₁, r₁, h₁⟩ := hh1
 refine wpAny_mono (h₁ A s₁ env e R t₁.inv (F.tr I t₁)) (fun iv s₂ hh1 => ?_) fun O O x => x
 obtain ⟨i, H₂, t₂, r₂, hs, h₂⟩ := hh1
 unfold subscriptTail
 refine wpAny_bind (hs A E s₂ ov t₂.inv (r₁.tr t₂) _ ?_)
 exact sub_tail (wpAny_mono (h₂ A s₂ R t₂.inv ov iv (r₁.tr t₂) r₂) (fun O O p => (p.trans t₂).trans t₁) fun O O x => x)
theorem KeepsV_builtin {id : String} : KeepsV B (.raw (.builtin id)) := fun A E H s fv I r Q h => by
 obtain ⟨O, rfl⟩ := r.inv; exact wpAny_pure (h _)
theorem KeepsV_type {id : String} : KeepsV B (.raw (.type id)) := fun A E H s fv I r Q h => by
 obtain ⟨O, rfl⟩ := r.inv; exact wpAny_pure (h _)
theorem KeepsV_fn {f : Addr} {o : Obj} {fd : FuncData} (ho : B.g.get? f = some o) (hd : o.data = .func fd) : KeepsV B (.raw (.ref f)) := fun A E H s fv I r Q h => by
 obtain ⟨O, rfl⟩ := r.inv
 unfold keeperOf
 refine wpAny_bind (wpAny_load (I.keep _ _ ho) ?_)
 rw [hd]
 exact wpAny_pure (h _)
theorem Call_len_list {v : PV} {xs : List PV} {Q : PQ} (hv : Items H v xs) (hfit : xs.length < 2 ^ 60) (h : Q (.int xs.length) H) : CallV B d E (.raw (.builtin "len")) [v] [] H Q := fun A s R I fv vs kvs h1 h2 h3 => by
 cases h1
 cases kvs with
 | cons _ _ => cases h3.1
 | nil =>
   cases h2 with | cons r h2 => cases h2 with | nil =>
   obtain ⟨a, vs, n, rfl, ho, hr⟩ := hv.at I r
   refine len_list (lst_isList ho) (by rw [hr.asize]; lia) ?_
   rw [hr.asize]
   exact ⟨_, _, Tr.tok I _, .int _ _, h⟩
theorem Call_len_str {x : Str} {Q : PQ} (hfit : x.length < 2 ^ 60) (h : Q (.int x.length) H) : CallV B d E (.raw (.builtin "len")) [.str x] [] H Q := fun A s R I fv vs kvs h1 h2 h3 => by
 cases h1
 cases kvs with
 | cons _ _ => cases h3.1
 | nil =>
   cases h2 with | cons r h2 => cases h2 with | nil =>
   obtain ⟨O, rfl⟩ := r.inv
   exact PyProof.Rows.len_str (by lia) ⟨_, _, Tr.tok I _, .int _ _, h⟩
end
inductive Has {α : Type} (e : α) : List α -> Prop
 | head {l : List α} : Has e (e :: l)
 | tail {x : α} {l : List α} : Has e l -> Has e (x :: l)
theorem Has.mem {α : Type} {e : α} {l : List α} (h : Has e l) : e ∈ l := by
 induction h with
 | head => exact mcs
 | tail _ ih => exact mcm _ ih
section
variable {B : Base} {fi : FnInfo} {d : Nat} {E : EP} {σ : St} {H : AH}
theorem Ld_L {x : Str} {v : PV} {Q : PQ} (hm : Has (x, NameKind.local, some v) σ) (h : Q v H) : Ld B fi d E x σ H Q := Ld_local hm.mem h
theorem Ld_C {x : Str} {v : PV} {Q : PQ} (hm : Has (x, NameKind.cell, some v) σ) (h : Q v H) : Ld B fi d E x σ H Q := Ld_cell hm.mem h
theorem Ld_F {x : Str} {v : PV} {Q : PQ} (hm : Has (x, NameKind.free, some v) σ) (h : Q v H) (hc' : (x == ("__classdict__" : Str)) = false := by decide) : Ld B fi d E x σ H Q := Ld_free hm.mem h hc'
theorem Ld_G {x : Str} {v : PV} {Q : PQ} (hm : Has (x, NameKind.globalImplicit, some v) σ) (h : Q v H) : Ld B fi d E x σ H Q := Ld_global hm.mem h
theorem Stb_L : storable fi .local := .inl rfl
theorem Stb_C (h : fi.comp = false := by rfl) : storable fi .cell := .inr ⟨rfl, h⟩
theorem Put_L {x : Str} {v : PV} {σ' : St} {K : St -> Prop} (hr : Rep x v .local σ σ') (h : K σ') : ∃ k σ', Rep x v k σ σ' /\ storable fi k /\ K σ' := ⟨_, _, hr, Stb_L, h⟩
theorem Put_C {x : Str} {v : PV} {σ' : St} {K : St -> Prop} (hr : Rep x v .cell σ σ') (h : K σ') (hc : fi.comp = false := by rfl) : ∃ k σ', Rep x v k σ σ' /\ storable fi k /\ K σ' := ⟨_, _, hr, Stb_C hc, h⟩
end
theorem KwRel.nil {T : Addr -> Prop} {h : Heap} {kvs : List (Str × Value)} (r : KwRel T h kvs []) : kvs = [] := by
 cases kvs with
 | nil => rfl
 | cons _ _ => cases r.1
theorem VRs.one {T : Addr -> Prop} {h : Heap} {vs : List Value} {p : PV} (r : VRs T h vs [p]) : ∃ v, vs = [v] /\ VR T h v p := by
 obtain ⟨v, ws, rfl, a, b⟩ := r.head
 rw [b.isnil]; exact ⟨v, rfl, a⟩
theorem VRs.two {T : Addr -> Prop} {h : Heap} {vs : List Value} {p q : PV} (r : VRs T h vs [p, q]) : ∃ v w, vs = [v, w] /\ VR T h v p /\ VR T h w q := by
 obtain ⟨v, ws, rfl, a, b⟩ := r.head
 obtain ⟨w, rfl, c⟩ := b.one; exact ⟨v, w, rfl, a, c⟩
theorem VRs.three {T : Addr -> Prop} {h : Heap} {vs : List Value} {p q r : PV} (x : VRs T h vs [p, q, r]) : ∃ v w u, vs = [v, w, u] /\ VR T h v p /\ VR T h w q /\ VR T h u r := by
 obtain ⟨v, ws, rfl, a, b⟩ := x.head
 obtain ⟨w, u, rfl, c, e⟩ := b.two; exact ⟨v, w, u, rfl, a, c, e⟩
theorem VRs.four {T : Addr -> Prop} {h : Heap} {vs : List Value} {p q r t : PV} (x : VRs T h vs [p, q, r, t]) : ∃ v w u z, vs = [v, w, u, z] /\ VR T h v p /\ VR T h w q /\ VR T h u r /\ VR T h z t := by
 obtain ⟨v, ws, rfl, a, b⟩ := x.head
 obtain ⟨w, u, z, rfl, c, e, f⟩ := b.three; exact ⟨v, w, u, z, rfl, a, c, e, f⟩
section
variable {B : Base} {fi : FnInfo} {d : Nat} {E : EP} {σ : St} {H : AH}
theorem VRs.own {env : Env} {H' : AH} {s s' : Shared} {v : List Value} {p : List PV} (F : FrameOk B env σ H s) (r : VRs (Trk B H) s.heap v p) (x : Tr B (ownU env) H s H' s') : VRs (Trk B H') s'.heap v p :=
 r.mono (fun a o e q n => x.step.heap a o e fun y => y.elim n fun u => F.own_data u e q) fun O ha t => Trk.new x.keys ha t
theorem unpack_ok {A : Around} {s : Shared} {v : PV} {xs : List PV} {va : Value} {n : Nat} {Q : List Value -> Shared -> Prop} (hh : A.handled = none) (I : Inv B H s) (hv : v = .tup xs \/ Items H v xs) (r : VR (Trk B H) s.heap va v) (hn : n = xs.length)
   (h : ∀ vs s', Tr B noU H s H s' -> VRs (Trk B H) s'.heap vs xs -> Q vs s') : wpAny (model B.prog B.w) A (unpackItems va n none) Q E s := by
 have mk : ∀ h' : Heap, Heap.ExtBut s.heap.objs.size s.heap h' -> s.heap.objs.size <= h'.objs.size -> Tr B noU H s H { s with heap := h' } := fun h' he hz =>
   Tr.ext I (fun a o e => he a o (Nat.ne_of_lt (Heap.lt_size e)) e) hz rfl rfl
 rcases hv with rfl | hv
 . cases r with
   | tup ho hnt hs =>
     have hn' : n = Array.size _ := hn.trans hs.asize.symm
     subst hn'
     refine wpAny_grow (unpackItems_tuple hh ⟨_, ho, rfl, _, rfl⟩ fun h' he hz => h _ _ (mk h' he hz) (hs.tr (mk h' he hz)))
 . obtain ⟨a, vs, m, rfl, ho, hs⟩ := hv.at I r
   have hn' : n = Array.size _ := hn.trans hs.asize.symm
   subst hn'
   refine wpAny_grow (kun_itemsOf hh (lst_isList ho) fun h' he hz => h _ _ (mk h' he hz) (hs.tr (mk h' he hz)))
noncomputable def AsgL (B : Base) (fi : FnInfo) (d : Nat) (E : EP) : List Expr -> List PV -> St -> AH -> (SQ) -> Prop
 | [], [], σ, H, Q => Q σ H
 | t :: ts, v :: vs, σ, H, Q => Asg B fi d E t v σ H fun σ₁ H₁ => AsgL B fi d E ts vs σ₁ H₁ Q
 | _, _, _, _, _ => False
theorem assignEach_plain {t : Expr} {r : List Expr} {env : Env} (h : plainE t = true) : assignEach (t :: r) env = (false, assign t env) :: assignEach r env := by
 cases t <;> first | rfl | cases h
theorem AsgL_ok : ∀ {ts : List Expr} {ps : List PV} {σ : St} {H : AH} {Q : SQ}, AsgL B fi d E ts ps σ H Q -> ts.all plainE = true -> ∀ A s env, EnvOk B fi env -> Room A d -> Inv B H s -> FrameOk B env σ H s -> ∀ vs, VRs (Trk B H) s.heap vs ps ->
   wpAny (model B.prog B.w) A (assignInOrder ((assignEach ts env).map (·.2)) vs) (fun O s' => SPost B env H s Q s') E s
 | [], [], σ, H, Q, h, _, A, s, env, e, R, I, F, vs, r => by
   cases r; exact wpAny_pure ⟨σ, H, .refl I, F, h⟩
 | t :: ts, p :: ps, σ, H, Q, h, hp, A, s, env, e, R, I, F, vs, r => by
   simp only [List.all_cons, Bool.and_eq_true] at hp
   obtain ⟨v, ws, rfl, r1, r2⟩ := r.head
   rw [assignEach_plain hp.1]
   show wpAny _ A (do holding ws (assign t env v); assignInOrder ((assignEach ts env).map (·.2)) ws) _ _ _
   refine wpAny_bind (wpAny_holding (wpAny_mono (h A s env e R I F v r1) (fun O s₁ hh1 => ?_) fun O O x => x))
   obtain ⟨σ₁, H₁, t₁, F₁, q₁⟩ := hh1
   exact wpAny_mono (AsgL_ok q₁ hp.2 A s₁ env e R t₁.inv F₁ ws (r2.own F t₁)) (fun O s₂ hh1 => by obtain ⟨σ₂, H₂, t₂, F₂, q₂⟩ := hh1; exact ⟨σ₂, H₂, t₁.trans t₂, F₂, q₂⟩) fun O O x => x
 | [], _ :: _, _, _, _, h, _, _, _, _, _, _, _, _, _, _ => h.elim
 | _ :: _, [], _, _, _, h, _, _, _, _, _, _, _, _, _, _ => h.elim
theorem each_len {env : Env} : ∀ {ts : List Expr}, ts.all plainE = true -> (assignEach ts env).length = ts.length /\ (assignEach ts env).findIdx? (·.1) = none
 | [], _ => ⟨rfl, rfl⟩
 | t :: ts, hp => by
   simp only [List.all_cons, Bool.and_eq_true] at hp
   obtain ⟨h1, h2⟩ := each_len (env := env) hp.2
   rw [assignEach_plain hp.1]
   exact ⟨by simp [h1], by rw [List.findIdx?_cons, h2]; rfl⟩
theorem Asg_Tuple {ts : List Expr} {k : Nat} {pos : Pos} {v : PV} {xs : List PV} {Q : SQ} (hv : v = .tup xs \/ Items H v xs) (hl : ts.length = xs.length) (h : AsgL B fi d E ts xs σ H Q) (hp : ts.all plainE = true := by rfl) :
   Asg B fi d E (.Tuple ts k pos) v σ H Q := fun A s env e R I F va r => by
 obtain ⟨l1, l2⟩ := each_len (env := env) hp
 show wpAny _ A (do standAt pos; unpack va (assignEach ts env)) _ _ s
 refine wpAny_bind (wpAny_standAt ?_)
 unfold unpack
 rw [l2, l1]
 refine wpAny_bind (wpAny_holding (unpack_ok R.handled I hv r hl fun vs s' t rs => ?_))
 exact wpAny_mono (AsgL_ok h hp A s' env e R t.inv (F.tr I t) vs rs) (fun O s₂ hh1 => by obtain ⟨σ₂, H₂, t₂, F₂, q₂⟩ := hh1; exact ⟨σ₂, H₂, t.up.trans t₂, F₂, q₂⟩) fun O O x => x
theorem X_Assign_Tup {ts : List Expr} {k : Nat} {tpos : Pos} {value : Expr} {pos : Pos} {Qn : SQ} {Qf : FQ}
   (h : Ev B fi d E value σ H fun v H₁ => Asg B fi d E (.Tuple ts k tpos) v σ H₁ Qn)
   (hs : ∀ env, swapsWithSole [.Tuple ts k tpos] value pos.line env = pure false := by intro _; rfl)
   (hw : ∀ env, EnvOk B fi env -> swappedStores [.Tuple ts k tpos] value env = pure none := by intro _ _; rfl) : X B fi d E (.Assign [.Tuple ts k tpos] value pos) σ H Qn Qf := fun A s env e R I F => by
 refine Assign_Tuple (wpAny_mono (h A s env e R I F) (fun v s₁ hh1 => ?_) fun O O x => x) (hs env) (hw env e)
 obtain ⟨p, H₁, t₁, r₁, h₁⟩ := hh1
 exact wpAny_mono (h₁ A s₁ env e R t₁.inv (F.tr I t₁) v r₁) (fun O s₂ hh1 => by obtain ⟨σ₂, H₂, t₂, F₂, q₂⟩ := hh1; exact ⟨σ₂, H₂, t₁.up.trans t₂, F₂, .inl ⟨rfl, q₂⟩⟩) fun O O x => x
noncomputable def Puts (fi : FnInfo) : List Str -> List PV -> St -> (St -> Prop) -> Prop
 | [], [], σ, Q => Q σ
 | x :: xs, v :: vs, σ, Q => ∃ k σ', Rep x v k σ σ' /\ storable fi k /\ Puts fi xs vs σ' Q
 | _, _, _, _ => False
theorem Puts_ok {env : Env} : ∀ {xs : List Str} {ps : List PV} {σ : St} {H : AH} {Q : St -> Prop}, Puts fi xs ps σ Q -> ∀ A s, EnvOk B fi env -> Inv B H s -> FrameOk B env σ H s -> ∀ vs, VRs (Trk B H) s.heap vs ps ->
   wpAny (model B.prog B.w) A (assignInOrder (xs.map fun n => bindName env n) vs) (fun O s' => ∃ σ', Tr B (ownU env) H s H s' /\ FrameOk B env σ' H s' /\ Q σ') E s
 | [], [], σ, H, Q, h, A, s, e, I, F, vs, r => by
   cases r; exact wpAny_pure ⟨σ, .refl I, F, h⟩
 | x :: xs, p :: ps, σ, H, Q, ⟨k, σ', hr, hk, h⟩, A, s, e, I, F, vs, r => by
   obtain ⟨v, ws, rfl, r1, r2⟩ := r.head
   show wpAny _ A (do holding ws (bindName env x v); assignInOrder (xs.map fun n => bindName env n) ws) _ _ _
   refine wpAny_bind (wpAny_holding (wpAny_bindName (wpAny_mono (store_ok e I F r1 hr hk) (fun O s₁ hh1 => ?_) fun O O x => x)))
   obtain ⟨t₁, F₁⟩ := hh1
   exact wpAny_mono (Puts_ok h A s₁ e t₁.inv F₁ ws (r2.own F t₁)) (fun O s₂ hh1 => by obtain ⟨σ₂, t₂, F₂, q₂⟩ := hh1; exact ⟨σ₂, t₁.trans t₂, F₂, q₂⟩) fun O O x => x
 | [], _ :: _, _, _, _, h, _, _, _, _, _, _, _ => h.elim
 | _ :: _, [], _, _, _, h, _, _, _, _, _, _, _ => h.elim
theorem X_Assign_Swap (names : List Str) {ts : List Expr} {k : Nat} {tpos : Pos} {es : List Expr} {k' : Nat} {epos : Pos} {pos : Pos} {Qn : SQ} {Qf : FQ}
   (hw : ∀ env, EnvOk B fi env -> swappedStores [.Tuple ts k tpos] (.Tuple es k' epos) env = pure (some names))
   (h : EvL B fi d E es σ H fun vs H₁ => names.length = vs.length /\ Puts fi names.reverse vs.reverse σ fun σ' => Qn σ' H₁)
   (hs : ∀ env, swapsWithSole [.Tuple ts k tpos] (.Tuple es k' epos) pos.line env = pure false := by intro _; rfl)
   (hp : es.all plainE = true := by rfl) (hl : es.length <= 64 := by decide) : X B fi d E (.Assign [.Tuple ts k tpos] (.Tuple es k' epos) pos) σ H Qn Qf := fun A s env e R I F => by
 have hv : Ev B fi d E (.Tuple es k' epos) σ H fun v H₁ => ∃ vs, v = .tup vs /\ names.length = vs.length /\ Puts fi names.reverse vs.reverse σ fun σ' => Qn σ' H₁ :=
   Ev_Tuple (by
     have mono : ∀ {es : List Expr} {H : AH} {Q Q' : LQ}, (∀ vs H', Q vs H' -> Q' vs H') -> EvL B fi d E es σ H Q -> EvL B fi d E es σ H Q' := by
       intro es
       induction es with
       | nil => intro H Q Q' hq h; exact hq _ _ h
       | cons x r ih => intro H Q Q' hq h; exact Ev.mono h fun v H' h' => ih (fun vs H'' h'' => hq _ _ h'') h'
     exact mono (fun vs H' q => ⟨vs, rfl, q⟩) h) hp hl
 refine Assign_Tuple_swapped (wpAny_mono (hv A s env e R I F) (fun v s₁ hh1 => ?_) fun O O x => x) (hs env) (hw env e)
 obtain ⟨p, H₁, t₁, r₁, vs, hvs, hlen, h₁⟩ := hh1
 subst hvs
 refine unpack_ok (xs := vs) R.handled t₁.inv (.inl rfl) r₁ hlen fun ws s₂ t₂ rs => ?_
 have t := t₁.trans t₂
 exact wpAny_mono (Puts_ok h₁ A s₂ e t₂.inv (F.tr I t) ws.reverse rs.reverse) (fun O s₃ hh1 => by obtain ⟨σ₃, t₃, F₃, q₃⟩ := hh1; exact ⟨σ₃, _, t.up.trans t₃, F₃, .inl ⟨rfl, q₃⟩⟩) fun O O x => x
inductive HPost (B : Base) (H : AH) (s : Shared) (Q : AH -> Prop) (s' : Shared) : Prop
 | mk (H' : AH) (t : Tr B noU H s H' s') (q : Q H')
noncomputable def SetV (B : Base) (d : Nat) (E : EP) (o i v : PV) (H : AH) (Q : AH -> Prop) : Prop :=
 ∀ A s, Room A d -> Inv B H s -> ∀ vo vi va, VR (Trk B H) s.heap vo o -> VR (Trk B H) s.heap vi i -> VR (Trk B H) s.heap va v ->
   wpAny (model B.prog B.w) A (setItem vo vi va) (fun O s' => HPost B H s Q s') E s
theorem X_Assign_Sub {o i : Expr} {pos' : Pos} {value : Expr} {pos : Pos} {Qn : SQ} {Qf : FQ}
   (h : Ev B fi d E value σ H fun v H₁ => Ev B fi d E o σ H₁ fun ov H₂ => Ev B fi d E i σ H₂ fun iv H₃ => SetV B d E ov iv v H₃ fun H₄ => Qn σ H₄)
   (hs : ∀ env, swapsWith value (some (.Subscript o i pos')) pos.line env = pure false := by intro _; rfl) : X B fi d E (.Assign [.Subscript o i pos'] value pos) σ H Qn Qf := fun A s env e R I F => by
 refine wpAny_Assign_Subscript (wpAny_mono (h A s env e R I F) (fun v s₁ hh1 => ?_) fun O O x => x) (hs env)
 obtain ⟨p, H₁, t₁, r₁, h₁⟩ := hh1
 refine wpAny_mono (h₁ A s₁ env e R t₁.inv (F.tr I t₁)) (fun ov s₂ hh1 => ?_) fun O O x => x
 obtain ⟨p₂, H₂, t₂, r₂, h₂⟩ := hh1
 refine wpAny_mono (h₂ A s₂ env e R t₂.inv (F.tr I (t₁.trans t₂))) (fun iv s₃ hh1 => ?_) fun O O x => x
 obtain ⟨p₃, H₃, t₃, r₃, h₃⟩ := hh1
 have T := (t₁.trans t₂).trans t₃
 exact wpAny_mono (h₃ A s₃ R t₃.inv ov iv v (r₂.tr t₃) r₃ ((r₁.tr t₂).tr t₃)) (fun O s₄ hh1 => by obtain ⟨H₄, t₄, q⟩ := hh1; exact ⟨σ, H₄, (T.trans t₄).up, F.tr I (T.trans t₄), .inl ⟨rfl, q⟩⟩) fun O O x => x
theorem X_AugAssign_Sub {o i : Expr} {pos' : Pos} {op : Operator} {value : Expr} {pos : Pos} {Qn : SQ} {Qf : FQ}
   (h : Ev B fi d E o σ H fun ov H₁ => Ev B fi d E i σ H₁ fun iv H₂ => V2 B d E getItem ov iv H₂ fun old H₃ => Ev B fi d E value σ H₃ fun v H₄ => V2 B d E (inplaceOp op) old v H₄ fun new H₅ => SetV B d E ov iv new H₅ fun H₆ => Qn σ H₆)
   (ha : ∀ ov iv new, augStore i ov iv new = (do holding [new, ov, iv] (setItem ov iv new); release [new, ov, iv] []; pure .next) := by intro _ _ _; rfl) : X B fi d E (.AugAssign (.Subscript o i pos') op value pos) σ H Qn Qf := fun A s env e R I F => by
 refine wpAny_AugAssign_Subscript_any (wpAny_mono (h A s env e R I F) (fun ov s₁ hh1 => ?_) fun O O x => x) ha
 obtain ⟨p, H₁, t₁, r₁, h₁⟩ := hh1
 refine wpAny_mono (h₁ A s₁ env e R t₁.inv (F.tr I t₁)) (fun iv s₂ hh1 => ?_) fun O O x => x
 obtain ⟨p₂, H₂, t₂, r₂, h₂⟩ := hh1
 refine wpAny_mono (h₂ A s₂ R t₂.inv ov iv (r₁.tr t₂) r₂) (fun old s₃ hh1 => ?_) fun O O x => x
 obtain ⟨p₃, H₃, t₃, r₃, h₃⟩ := hh1
 have T₃ := (t₁.trans t₂).trans t₃
 refine wpAny_mono (h₃ A s₃ env e R t₃.inv (F.tr I T₃)) (fun v s₄ hh1 => ?_) fun O O x => x
 obtain ⟨p₄, H₄, t₄, r₄, h₄⟩ := hh1
 refine wpAny_mono (h₄ A s₄ R t₄.inv old v (r₃.tr t₄) r₄) (fun new s₅ hh1 => ?_) fun O O x => x
 obtain ⟨p₅, H₅, t₅, r₅, h₅⟩ := hh1
 have T₅ := (T₃.trans t₄).trans t₅
 exact wpAny_mono (h₅ A s₅ R t₅.inv ov iv new ((((r₁.tr t₂).tr t₃).tr t₄).tr t₅) (((r₂.tr t₃).tr t₄).tr t₅) r₅) (fun O s₆ hh1 => by obtain ⟨H₆, t₆, q⟩ := hh1; exact ⟨σ, H₆, (T₅.trans t₆).up, F.tr I (T₅.trans t₆), .inl ⟨rfl, q⟩⟩) fun O O x => x
theorem VRs.set {T : Addr -> Prop} {h : Heap} {v : Value} {p : PV} (r : VR T h v p) : ∀ {vs : List Value} {ps : List PV} (_ : VRs T h vs ps) (i : Nat), VRs T h (vs.set i v) (ps.set i p)
 | _, _, .nil, _ => by simpa using VRs.nil
 | _, _, .cons a b, 0 => by simpa using VRs.cons r b
 | _, _, .cons a b, i + 1 => by simpa using VRs.cons a (VRs.set r b i)
theorem Set_list {a : Addr} {xs : List PV} {k : Int} {v : PV} {H' : AH} {Q : AH -> Prop} (u : Upd a xs (xs.set k.toNat v) H H') (h0 : 0 <= k) (hfit : k < 2 ^ 63) (hn : k < xs.length) (h : Q H') :
   SetV B d E (.lref a) (.int k) v H Q := fun A s R I vo vi va r1 r2 r3 => by
 obtain ⟨O, rfl⟩ := r1.inv; obtain ⟨O, rfl⟩ := r2.inv
 obtain ⟨hg, vs, n, ho, hv⟩ := I.objs _ u.has
 have hsz := hv.asize
 refine ki_setAt ho h0 hfit (by rw [hsz]; exact hn) ?_
 refine ⟨H', Tr.upd (t := s.toks) u I (Heap.SameBut.update ..) (vs' := vs.setIfInBounds k.toNat va) (n' := if (vs.setIfInBounds k.toNat va).size == vs.size then n else n + 1) (Heap.get?_update_self _ ho rfl) ?_, h⟩
 rw [Array.toList_setIfInBounds]
 exact VRs.set r3 hv _
noncomputable def MethAt (B : Base) (H : AH) (name : Str) (id : String) (ov : PV) : Prop :=
 ∀ A (E : EP) s va, Inv B H s -> VR (Trk B H) s.heap va ov -> ∀ (pl : Sem Bool) (Q : Value × List Value -> Shared -> Prop), Q (.builtin id, [va]) s -> wpAny (model B.prog B.w) A (getMethod va name pl) Q E s
theorem Ev_Meth {o : Expr} {name : Str} {apos : Pos} {args : List Expr} {pos : Pos} {Q : PQ}
   (h : Ev B fi d E o σ H fun ov H₁ => ∃ id, MethAt B H₁ name id ov /\ EvL B fi d E args σ H₁ fun vs H₂ => CallV B d E (.raw (.builtin id)) (ov :: vs) [] H₂ Q)
   (hp : args.all plainE = true := by rfl)
   (he : ∀ env, eval (.Call (.Attribute o name apos) args [] pos) env = (do
     let ov <- eval o env
     standAt apos.atName
     let (f, first) <- holding [ov] (getMethod ov name (do return (<- importBound o env).getD true))
     callWith pos f first (backTo pos (starEach args env)) []) := by intro _; rfl) :
   Ev B fi d E (.Call (.Attribute o name apos) args [] pos) σ H Q := fun A s env e R I F => by
 refine MethodCall_ (wpAny_mono (h A s env e R I F) (fun ov s₁ hh1 => ?_) fun O O x => x) (he env)
 obtain ⟨p, H₁, t₁, r₁, id, hm, h₁⟩ := hh1
 refine hm A E s₁ ov t₁.inv r₁ _ _ ?_
 refine callWith_any (evalArgs_list hp (wpAny_mono (EvL_spliced h₁ hp A s₁ env e R t₁.inv (F.tr I t₁)) (fun vs s₂ hh1 => ?_) fun O O x => x))
 obtain ⟨ps, H₂, t₂, l₂, q₂, h₂⟩ := hh1
 refine ⟨fun Q' hQ' => wpAny_pure (hQ' _), ?_⟩
 refine wpAny_mono (h₂ A s₂ R t₂.inv (.builtin id) (ov :: vs) [] (.raw _) (.cons (r₁.tr t₂) q₂) ⟨.nil, rfl⟩) (fun O O p => (p.trans t₂).trans t₁) fun O O x => x
theorem CallV.at {f : PV} {args : List PV} {Q : PQ} (h : ∀ A s, Room A d -> Inv B H s -> ∀ vs, VRs (Trk B H) s.heap vs args -> ∀ fv, VR (Trk B H) s.heap fv f -> wpAny (model B.prog B.w) A (call fv vs []) (EvPost B H s Q) E s) : CallV B d E f args [] H Q :=
 fun A s R I fv vs kvs h1 h2 h3 => by rw [h3.nil]; exact h A s R I vs h2 fv h1
end
section
variable {B : Base} {fi : FnInfo} {d : Nat} {E : EP} {σ : St} {H : AH}
noncomputable def NewL (Q : PQ) (xs : List PV) (H : AH) : Prop := Q (.list xs) H \/ ∀ a, Q (.lref a) ((a, xs) :: H)
theorem EvPost.newL {s : Shared} {vs : List Value} {xs : List PV} {Q : PQ} (I : Inv B H s) (hv : VRs (Trk B H) s.heap vs xs) (h : NewL Q xs H) : EvPost B H s Q (.ref s.heap.objs.size) { s with heap := s.heap.push (lstObj vs.toArray 0) } := by
 rcases h with h | h
 . exact ⟨_, _, Tr.push I _, .list (Heap.get?_push_size _ rfl) (not_trk_size I) (hv.tr (Tr.push I _)), h⟩
 . exact ⟨_, _, Tr.track I hv, .lref _, h _⟩
theorem EvPost.newL' {s s' : Shared} {vs : Array Value} {xs : List PV} {Q : PQ} (t : Tr B noU H s H s') (hv : VRs (Trk B H) s'.heap vs.toList xs) (h : NewL Q xs H) : EvPost B H s Q (.ref s'.heap.objs.size) { s' with heap := s'.heap.push { cls := .type "list", data := .seq vs } } :=
 (EvPost.newL (vs := vs.toList) t.inv hv h).trans t
theorem Bin_addS {x y : Str} {Q : PQ} (hs : x.length + y.length <= sizeLine) (h : Q (.str (x ++ y)) H) : V2 B d E (binaryOp .Add) (.str x) (.str y) H Q := fun A s R I va vb r1 r2 => by
 obtain ⟨O, rfl⟩ := r1.inv; obtain ⟨O, rfl⟩ := r2.inv; exact SB.add (fun t' k => ⟨_, _, Tr.tok I _, .str _ _, h⟩) hs
theorem In_addS {x y : Str} {Q : PQ} (hs : x.length + y.length <= sizeLine) (h : Q (.str (x ++ y)) H) : V2 B d E (inplaceOp .Add) (.str x) (.str y) H Q := fun A s R I va vb r1 r2 => by
 obtain ⟨O, rfl⟩ := r1.inv; obtain ⟨O, rfl⟩ := r2.inv; exact SB.iadd (fun t' k => ⟨_, _, Tr.tok I _, .str _ _, h⟩) hs
theorem Bin_mulS {x : Str} {n : Int} {Q : PQ} (hok : MulOk x n) (h : Q (.str (Txt.mul x n)) H) : V2 B d E (binaryOp .Mult) (.str x) (.int n) H Q := fun A s R I va vb r1 r2 => by
 obtain ⟨O, rfl⟩ := r1.inv; obtain ⟨O, rfl⟩ := r2.inv; exact SB.mul hok (fun t' k => ⟨_, _, Tr.tok I _, .str _ _, h⟩)
theorem Str.toList_beq (x y : Str) : (x.cps.toList == y.cps.toList) = decide (x = y) := by
 have : (x = y) ↔ x.cps.toList = y.cps.toList := ⟨fun h => by rw [h], fun h => by obtain ⟨⟨a⟩⟩ := x; obtain ⟨⟨b⟩⟩ := y; simp at h; subst h; rfl⟩
 by_cases h : x = y
 . subst h; simp
 . rw [decide_eq_false h]
   exact beq_eq_false_iff_ne.mpr fun q => h (this.mpr q)
theorem Cmp_eqS {x y : Str} {Q : PQ} (h : Q (.bool (decide (x = y))) H) : V2 B d E (compareOp .Eq) (.str x) (.str y) H Q := fun A s R I va vb r1 r2 => by
 obtain ⟨O, rfl⟩ := r1.inv; obtain ⟨O, rfl⟩ := r2.inv; exact P.eq_str (by rw [Str.toList_beq]; exact EvPost.here I (.bool _) h)
theorem Cmp_neS {x y : Str} {Q : PQ} (h : Q (.bool (!decide (x = y))) H) : V2 B d E (compareOp .NotEq) (.str x) (.str y) H Q := fun A s R I va vb r1 r2 => by
 obtain ⟨O, rfl⟩ := r1.inv; obtain ⟨O, rfl⟩ := r2.inv; exact P.ne_str (by rw [bne, Str.toList_beq]; exact EvPost.here I (.bool _) h)
theorem Cmp_ninS {x y : Str} {Q : PQ} (h : Q (.bool (!Txt.contains x y)) H) : V2 B d E (compareOp .NotIn) (.str y) (.str x) H Q := fun A s R I va vb r1 r2 => by
 obtain ⟨O, rfl⟩ := r1.inv; obtain ⟨O, rfl⟩ := r2.inv; exact SB.notContains (EvPost.here I (.bool _) h)
theorem Meth_str {name : Str} {id : String} {x : Str} (hm : ∀ {A : Around} {E : EP} {s : Shared} {t : Tok} {pl : Sem Bool} {Q : Value × List Value -> Shared -> Prop}, Q (.builtin id, [.str x t]) s -> wpAny (model B.prog B.w) A (getMethod (.str x t) name pl) Q E s) : MethAt B H name id (.str x) :=
 fun A E s va I r pl Q q => by obtain ⟨O, rfl⟩ := r.inv; exact hm q
theorem Meth_join {x : Str} : MethAt B H "join" "str.join" (.str x) := Meth_str GM.join
theorem Meth_split {x : Str} : MethAt B H "split" "str.split" (.str x) := Meth_str GM.split
theorem Meth_strip {x : Str} : MethAt B H "strip" "str.strip" (.str x) := Meth_str GM.strip
theorem Meth_encode {x : Str} : MethAt B H "encode" "str.encode" (.str x) := Meth_str fun h => GM.of (.str _ _) (typeIs_str _ _ _) PySem.F.slot_str_encode PySem.F.type_str_encode GM.noRef h
theorem Meth_bitLen {i : Int} : MethAt B H "bit_length" "int.bit_length" (.int i) := fun A E s va I r pl Q q => by obtain ⟨O, rfl⟩ := r.inv; exact getMethod_int_bit_length q
theorem strsAre_of {T : Addr -> Prop} {h : Heap} : ∀ {vs : List Value} {ys : List Str}, VRs T h vs (ys.map PV.str) -> StrsAre vs ys
 | _, [], r => by rw [r.isnil]; exact .nil
 | _, y :: ys, r => by
   obtain ⟨v, ws, rfl, a, b⟩ := r.head
   cases a; exact .cons _ _ (strsAre_of b)
theorem Call_join {x : Str} {v : PV} {ys : List Str} {Q : PQ} (hv : v = .tup (ys.map PV.str) \/ Items H v (ys.map PV.str)) (hok : (ys.map (·.length)).sum + ys.length * x.length <= 16777216) (h : Q (.str (Txt.join x ys)) H) :
   CallV B d E (.raw (.builtin "str.join")) [.str x, v] [] H Q := CallV.at fun A s R I vs r fv rf => by
 obtain ⟨a, b, rfl, r1, r2⟩ := r.two
 obtain ⟨O, rfl⟩ := rf.inv; obtain ⟨O, rfl⟩ := r1.inv
 rcases hv with rfl | hv
 . cases r2 with | tup ho hn hs => exact join_tuple ⟨_, ho, rfl, _, rfl⟩ (strsAre_of hs) hok (fun t' k => ⟨_, _, Tr.tok I _, .str _ _, h⟩)
 . obtain ⟨l, vs, n, rfl, ho, hs⟩ := hv.at I r2
   exact join_list (lst_isList ho) (strsAre_of hs) hok (fun t' k => ⟨_, _, Tr.tok I _, .str _ _, h⟩)
theorem Call_stripS {x y : Str} {Q : PQ} (hsz : x.length <= sizeLine) (h : Q (.str (Txt.stripChars x y)) H) : CallV B d E (.raw (.builtin "str.strip")) [.str x, .str y] [] H Q := CallV.at fun A s R I vs r fv rf => by
 obtain ⟨a, b, rfl, r1, r2⟩ := r.two
 obtain ⟨O, rfl⟩ := rf.inv; obtain ⟨O, rfl⟩ := r1.inv; obtain ⟨O, rfl⟩ := r2.inv
 exact SC.stripChars (fun t' k => ⟨_, _, Tr.tok I _, .str _ _, h⟩) hsz
theorem Call_bitLen {i : Int} {Q : PQ} (h : Q (.int (Builtin.Int.intBits i)) H) : CallV B d E (.raw (.builtin "int.bit_length")) [.int i] [] H Q := CallV.at fun A s R I vs r fv rf => by
 obtain ⟨a, rfl, r1⟩ := r.one
 obtain ⟨O, rfl⟩ := rf.inv; obtain ⟨O, rfl⟩ := r1.inv
 exact call_int_bit_length ⟨_, _, Tr.tok I _, .int _ _, h⟩
theorem VRs.strs {T : Addr -> Prop} {h : Heap} : ∀ (l : List (Str × Tok)), VRs T h (strValues l) ((l.map (·.1)).map PV.str)
 | [] => .nil
 | (y, t) :: r => .cons (.str y t) (VRs.strs r)
theorem Tr.pushTok {s : Shared} (I : Inv B H s) (o : Obj) (k : Nat) : Tr B noU H s H { s with heap := s.heap.push o, toks := k } := (Tr.tok I k).trans (Tr.push (I.tok k) o)
open Builtin.Str Builtin in
theorem Call_split {x y : Str} {Q : PQ} (hy : (y.length == 0) = false) (hx : x.length <= 16777214) (h : NewL Q ((Txt.split x y).map PV.str) H) :
   CallV B d E (.raw (.builtin "str.split")) [.str x, .str y] [] H Q := CallV.at fun A s R I vs r fv rf => by
 obtain ⟨a, b, rfl, r1, r2⟩ := r.two
 obtain ⟨_, rfl⟩ := rf.inv; obtain ⟨_, rfl⟩ := r1.inv; obtain ⟨_, rfl⟩ := r2.inv
 rename_i t u
 have hsz : x.length <= sizeLine := by rw [sizeLine_eq]; lia
 have hsz2 : (partsBetween x (occurrences x y 0 x.length (x.length + 1)) y.length).length <= sizeLine := by
   have h1 := StrLaws.occ_length_le x y 0 x.length (x.length + 1)
   have h2 : (partsBetween x (occurrences x y 0 x.length (x.length + 1)) y.length).length = (occurrences x y 0 x.length (x.length + 1)).length + 1 := by
     simp [partsBetween]
   rw [h2, sizeLine_eq]
   have := StrLaws.occ_length_le_len x y 0 x.length (x.length + 1)
   lia
 have fin : ∀ (l : List (Str × Tok)) k, l.map (·.1) = Txt.split x y -> EvPost B H s Q (.ref s.heap.objs.size) { s with heap := s.heap.push { cls := .type "list", data := .seq (strValues l).toArray }, toks := k } := fun l k hl => by
   have := EvPost.newL' (s := s) (s' := { s with toks := k }) (vs := (strValues l).toArray) (Q := Q) (Tr.tok I k) (VRs.strs l) (by rw [hl]; exact h)
   exact this
 cases h1 : (decide (x.length < y.length) || decide (strKind x < strKind y))
 . cases hf : (occurrences x y 0 x.length (x.length + 1)).isEmpty
   . refine call_meets PySem.F.slot_str_split (typeIs_str _ _ _) PySem.F.entry_str_split (PySem.F.args_str_split_2 _ _) (meets_str_split_sep x y t u h1 hy hf hsz hsz2) ?_
     show wants _ E _ { s with toks := _, heap := s.heap.push { cls := .type "list", data := .seq (strsFrom s.toks (partsBetween x (occurrences x y 0 x.length (x.length + 1)) y.length)).toArray } }
     rw [strsFrom_eq]
     exact fin (numbered s.toks _) _ ((numbered_texts _ _).trans ((if_neg (ne_true_of_eq_false h1)).trans (if_neg (ne_true_of_eq_false hf))).symm)
   . exact call_meets PySem.F.slot_str_split (typeIs_str _ _ _) PySem.F.entry_str_split (PySem.F.args_str_split_2 _ _) (meets_str_split_not_found x y t u h1 hy hf)
       (fin [(x, t)] s.toks ((if_neg (ne_true_of_eq_false h1)).trans (if_pos hf)).symm)
 . exact call_meets PySem.F.slot_str_split (typeIs_str _ _ _) PySem.F.entry_str_split (PySem.F.args_str_split_2 _ _) (meets_str_split_cannot_occur x y t u h1)
     (fin [(x, t)] s.toks (if_pos h1).symm)
end
section
variable {B : Base} {fi : FnInfo} {d : Nat} {E : EP} {σ : St} {H : AH}
theorem Tr.made {s s' : Shared} {a : Addr} {vs : Array Value} {n : Nat} {xs : List PV} (I : Inv B H s) (hk : ∀ a o, s.heap.get? a = some o -> s'.heap.get? a = some o) (hz : s.heap.objs.size <= s'.heap.objs.size) (hg : s'.gens = s.gens) (ho : s'.os = s.os)
   (ha : s.heap.objs.size <= a) (hD : s'.heap.get? a = some (lstObj vs n)) (hv : VRs (Trk B H) s.heap vs.toList xs) : Tr B noU H s ((a, xs) :: H) s' := by
 have J : Inv B H s' := I.ext hk hz (hg ▸ I.bare) ho
 have lt_of : ∀ {b : Addr}, Trk B H b -> b < s.heap.objs.size := fun q => by
   rcases q with q | q
   . obtain ⟨p, hp, rfl⟩ := mmp q
     obtain ⟨O, O, O, h2, O⟩ := I.objs p hp
     exact Heap.lt_size h2
   . rcases q with q | q
     . obtain ⟨p, hp, rfl⟩ := mmp q
       obtain ⟨O, h2, O⟩ := I.tabs p hp
       exact Heap.lt_size h2
     . obtain ⟨p, hp, rfl⟩ := mmp q
       exact Heap.lt_size (I.hid p hp).1
 have hn : a ∉ H.map (·.1) := fun q => absurd (lt_of (.inl q)) (nlr ha)
 have ht : ∀ b, b < s.heap.objs.size -> Trk B ((a, xs) :: H) b -> Trk B H b := by
   intro b hb t
   rcases t with t | t
   . rcases mcp t with q | q
     . exact absurd hb (by rw [show b = a from q]; exact nlr ha)
     . exact .inl q
   . exact .inr t
 refine ⟨⟨J.keep, J.size, J.tabs, J.bare, J.os, List.nodup_cons.mpr ⟨hn, I.nodup⟩, fun q hq => let ⟨x, b, c, e⟩ := I.hid q hq; ⟨hk _ _ x, b, c, fun t => (mcp t).elim (fun t => absurd (Heap.lt_size x) (by rw [t]; exact nlr ha)) e⟩, fun p hp => ?_⟩, ⟨fun b o e O => hk b o e, hz, fun i x e => hg ▸ e⟩, fun b hb => ?_⟩
 . rcases mcp hp with rfl | hp
   . exact ⟨Heap.get?_none_of_le (ntr I.size ha), vs, n, hD, hv.mono (fun a o e O O => hk a o e) ht⟩
   . obtain ⟨h1, vs', n', h2, h3⟩ := I.objs p hp
     exact ⟨h1, vs', n', hk _ _ h2, h3.mono (fun a o e O O => hk a o e) ht⟩
 . rcases mcp hb with q | q
   . exact .inr (by rw [show b = a from q]; exact ha)
   . exact .inl q
theorem EvPost.made {s s' : Shared} {a : Addr} {vs : Array Value} {n : Nat} {xs : List PV} {Q : PQ} (I : Inv B H s) (hk : ∀ a o, s.heap.get? a = some o -> s'.heap.get? a = some o) (hz : s.heap.objs.size <= s'.heap.objs.size) (hg : s'.gens = s.gens) (ho : s'.os = s.os)
   (ha : s.heap.objs.size <= a) (hD : s'.heap.get? a = some (lstObj vs n)) (hv : VRs (Trk B H) s.heap vs.toList xs) (h : NewL Q xs H) : EvPost B H s Q (.ref a) s' := by
 rcases h with h | h
 . have t := Tr.made I hk hz hg ho ha hD hv
   exact ⟨_, _, t.drop_key, t.inv.freeze, h⟩
 . exact ⟨_, _, Tr.made I hk hz hg ho ha hD hv, .lref _, h _⟩
noncomputable def EvO (B : Base) (fi : FnInfo) (d : Nat) (E : EP) : Option Expr -> St -> AH -> (Option Int -> AH -> Prop) -> Prop
 | none, _, H, Q => Q none H
 | some e, σ, H, Q => Ev B fi d E e σ H fun v H₁ => (∃ i, v = .int i /\ Q (some i) H₁) \/ (v = .none /\ Q none H₁)
theorem EvO_ok {o : Option Expr} {Q : Option Int -> AH -> Prop} (h : EvO B fi d E o σ H Q) : ∀ A s env, EnvOk B fi env -> Room A d -> Inv B H s -> FrameOk B env σ H s ->
   wpAny (model B.prog B.w) A (evalPart o env) (fun v s' => ∃ i H', Tr B noU H s H' s' /\ IsPart v i /\ Q i H') E s := fun A s env e R I F => by
 cases o with
 | none => exact wpAny_pure ⟨none, H, .refl I, .none, h⟩
 | some x =>
   refine wpAny_mono (h A s env e R I F) (fun v s' hh1 => ?_) fun O O x => x
   obtain ⟨p, H', t, r, q⟩ := hh1
   rcases q with ⟨i, rfl, q⟩ | ⟨rfl, q⟩
   . obtain ⟨O, rfl⟩ := r.inv; exact ⟨some i, H', t, .int _ _, q⟩
   . obtain ⟨O, rfl⟩ := r.inv; exact ⟨none, H', t, .none, q⟩
noncomputable def GetSl (B : Base) (d : Nat) (E : EP) (o : PV) (l u k : Option Int) (H : AH) (Q : PQ) : Prop :=
 ∀ A s, Room A d -> Inv B H s -> ∀ vo sl vl vu vk, VR (Trk B H) s.heap vo o -> s.heap.IsSliceOf sl vl vu vk -> IsPart vl l -> IsPart vu u -> IsPart vk k -> wpAny (model B.prog B.w) A (getItem vo (.ref sl)) (EvPost B H s Q) E s
theorem Ev_SubSl {value : Expr} {lo hi st : Option Expr} {spos pos : Pos} {Q : PQ}
   (h : Ev B fi d E value σ H fun o H₁ => EvO B fi d E lo σ H₁ fun l H₂ => EvO B fi d E hi σ H₂ fun u H₃ => EvO B fi d E st σ H₃ fun k H₄ => SubAt B o H₄ /\ GetSl B d E o l u k H₄ Q) :
   Ev B fi d E (.Subscript value (.Slice lo hi st spos) pos) σ H Q := fun A s env e R I F => by
 refine Subscript_ (wpAny_mono (h A s env e R I F) (fun ov s₁ hh1 => ?_) fun O O x => x)
 obtain ⟨o, H₁, t₁, r₁, h₁⟩ := hh1
 refine wpAny_Slice (wpAny_mono (EvO_ok h₁ A s₁ env e R t₁.inv (F.tr I t₁)) (fun vl s₂ hh1 => ?_) fun O O x => x)
 obtain ⟨l, H₂, t₂, p₂, h₂⟩ := hh1
 refine wpAny_mono (EvO_ok h₂ A s₂ env e R t₂.inv (F.tr I (t₁.trans t₂))) (fun vu s₃ hh1 => ?_) fun O O x => x
 obtain ⟨u, H₃, t₃, p₃, h₃⟩ := hh1
 refine wpAny_mono (EvO_ok h₃ A s₃ env e R t₃.inv (F.tr I ((t₁.trans t₂).trans t₃))) (fun vk s₄ hh1 => ?_) fun O O x => x
 obtain ⟨k, H₄, t₄, p₄, hs, h₄⟩ := hh1
 have t₅ := Tr.push t₄.inv { cls := .type "slice", data := .fields #[vl, vu, vk] }
 have T := (((t₁.trans t₂).trans t₃).trans t₄).trans t₅
 have r₅ := (((r₁.tr t₂).tr t₃).tr t₄).tr t₅
 unfold subscriptTail
 refine wpAny_bind (hs A E _ ov t₅.inv r₅ _ ?_)
 exact sub_tail (wpAny_mono (h₄ A _ R t₅.inv ov _ vl vu vk r₅ (Heap.IsSliceOf.new ..) p₂ p₃ p₄) (fun O O p => p.trans T) fun O O x => x)
noncomputable def pick {α : Type} (xs : List α) (lo hi st : Option Int) : List α :=
 (sliceRange (sliceBounds lo hi st xs.length).1 (sliceBounds lo hi st xs.length).2.1 (sliceBounds lo hi st xs.length).2.2).filterMap (xs[·]?)
theorem VRs.at {T : Addr -> Prop} {h : Heap} {vs : List Value} {xs : List PV} (r : VRs T h vs xs) (i : Nat) : (vs[i]? = none /\ xs[i]? = none) \/ ∃ v p, vs[i]? = some v /\ xs[i]? = some p /\ VR T h v p := by
 rcases Nat.lt_or_ge i xs.length with hi | hi
 . obtain ⟨v, e, q⟩ := r.get (List.getElem?_eq_getElem hi)
   exact .inr ⟨v, _, e, List.getElem?_eq_getElem hi, q⟩
 . exact .inl ⟨List.getElem?_eq_none (by rw [r.length]; exact hi), List.getElem?_eq_none hi⟩
theorem VRs.places {T : Addr -> Prop} {h : Heap} {vs : List Value} {xs : List PV} (r : VRs T h vs xs) : ∀ l : List Nat, VRs T h (l.filterMap (vs[·]?)) (l.filterMap (xs[·]?))
 | [] => .nil
 | i :: l => by
   rcases r.at i with ⟨e1, e2⟩ | ⟨v, p, e1, e2, q⟩
   . rw [List.filterMap_cons_none e1, List.filterMap_cons_none e2]; exact VRs.places r l
   . rw [List.filterMap_cons_some e1, List.filterMap_cons_some e2]; exact .cons q (VRs.places r l)
theorem VRs.pick {T : Addr -> Prop} {h : Heap} {vs : Array Value} {xs : List PV} (r : VRs T h vs.toList xs) (lo hi st : Option Int) : VRs T h (slicePick vs lo hi st).toList (pick xs lo hi st) := by
 have e : (slicePick vs lo hi st).toList = (sliceRange (sliceBounds lo hi st xs.length).1 (sliceBounds lo hi st xs.length).2.1 (sliceBounds lo hi st xs.length).2.2).filterMap (vs.toList[·]?) := by
   unfold slicePick
   rw [r.asize]
   simp [Array.getElem?_toList]
 rw [e]
 exact r.places _
theorem Sl_list {v : PV} {xs : List PV} {l u k : Option Int} {Q : PQ} (hv : Items H v xs) (h0 : k ≠ some 0) (hz : xs.length <= sizeLine) (h : NewL Q (pick xs l u k) H) : GetSl B d E v l u k H Q := fun A s R I vo sl vl vu vk r hs pl pu pk => by
 obtain ⟨a, vs, n, rfl, ho, hr⟩ := hv.at I r
 exact wpAny_getItem_list_slice (lst_isList ho) hs pl pu pk h0 (EvPost.newL' (.refl I) (hr.pick l u k) h) (by rw [hr.asize]; exact hz)
noncomputable def strPick (x : Str) (l u k : Option Int) : Str := if (k.getD 1 == 1 && (Builtin.Str.strSliceIndices l u (k.getD 1) x.length).length == x.length) = true then x else ⟨((Builtin.Str.strSliceIndices l u (k.getD 1) x.length).filterMap (x.cps[·]?)).toArray⟩
theorem strPick_le (x : Str) (l u k : Option Int) (h0 : k ≠ some 0) : (strPick x l u k).length <= x.length := by
 unfold strPick
 split
 . exact Nat.le_refl _
 . show (List.filterMap _ _).toArray.size <= x.length
   rw [List.size_toArray]
   refine ntr (List.length_filterMap_le _ _) (sliceIndicesBy_le _ _ _ ?_ x.length)
   cases k with
   | none => decide
   | some k => exact fun q => h0 (by simpa using q)
theorem part_tok {v : Value} {i : Option Int} (p : IsPart v i) : ∃ j : Option (Int × Tok), v = partValue j /\ j.map (·.1) = i := by
 cases p with
 | none => exact ⟨none, rfl, rfl⟩
 | int i t => exact ⟨some (i, t), rfl, rfl⟩
theorem Sl_str {x : Str} {l u k : Option Int} {Q : PQ} (h0 : k ≠ some 0) (hz : x.length <= sizeLine) (h : Q (.str (strPick x l u k)) H) : GetSl B d E (.str x) l u k H Q := fun A s R I vo sl vl vu vk r hs pl pu pk => by
 obtain ⟨O, rfl⟩ := r.inv
 obtain ⟨l, rfl, rfl⟩ := part_tok pl
 obtain ⟨u, rfl, rfl⟩ := part_tok pu
 obtain ⟨k, rfl, rfl⟩ := part_tok pk
 have hk : ((k.map (·.1)).getD 1 == 0) = false := by
   cases k with
   | none => rfl
   | some k => simpa using fun q : k.1 = 0 => h0 (by simp [q])
 refine wpAny_getItem_str_slice (l := l) (u := u) (st := k) hs hk ?_
 exact post_val_or_str ⟨ntr (strPick_le x (l.map (·.1)) (u.map (·.1)) (k.map (·.1)) h0) hz, fun t' c => ⟨_, _, Tr.tok I c, .str _ _, h⟩⟩
theorem Bin_addL {a b : PV} {xs ys : List PV} {Q : PQ} (ha : Items H a xs) (hb : Items H b ys) (hz : xs.length + ys.length <= sizeLine) (h : NewL Q (xs ++ ys) H) : V2 B d E (binaryOp .Add) a b H Q := fun A s R I va vb r1 r2 => by
 obtain ⟨l, vs, n, rfl, ho, hr⟩ := ha.at I r1
 obtain ⟨l', ws, m, rfl, ho', hr'⟩ := hb.at I r2
 refine P.add_list ho ho' (EvPost.newL' (.refl I) (vs := vs ++ ws) ?_ h) (by rw [hr.asize, hr'.asize]; exact hz)
 rw [Array.toList_append]; exact hr.append hr'
theorem VRs.rep {T : Addr -> Prop} {h : Heap} {vs : List Value} {xs : List PV} (r : VRs T h vs xs) : ∀ n : Nat, VRs T h (List.replicate n vs).flatten (List.replicate n xs).flatten
 | 0 => .nil
 | n + 1 => by rw [List.replicate_succ, List.replicate_succ, List.flatten_cons, List.flatten_cons]; exact r.append (VRs.rep r n)
open PySem.F in
theorem Bin_mulL {a : PV} {xs : List PV} {x : Int} {Q : PQ} (ha : Items H a xs) (hlo : -(2 ^ 63 : Int) <= x) (hhi : x < 2 ^ 63) (hsz : xs.length * x.toNat <= 2 ^ 24) (h : NewL Q (List.replicate x.toNat xs).flatten H) : V2 B d E (binaryOp .Mult) a (.int x) H Q := fun A s R I va vb r1 r2 => by
 obtain ⟨l, vs, n, rfl, ho, hr⟩ := ha.at I r1
 obtain ⟨_, rfl⟩ := r2.inv
 rename_i u
 have hsz' : vs.size * x.toNat <= 2 ^ 24 := by rw [hr.asize]; exact hsz
 obtain ⟨vs⟩ := vs
 have hsz'' : vs.length * x.toNat <= 16777216 := by simpa using hsz'
 refine wpAny_binaryOp_repeat_ref (T := "list") (U := "int") (by decide) ⟨_, ho, rfl⟩ (fun s' => typeIs_int s' x u) noFill_list_mul PySem.F.fills_int_mul PySem.F.slot_int_rmul repeat_list PySem.F.slot_int_index.lookup
   (call_meets PySem.F.slot_int_rmul (typeIs_int s x u) PySem.F.entry_int_rmul (PySem.F.args_int_rmul_2 _ _) (lm_int_rmul_list_any x u l vs.toArray n none #[])
     ⟨ho, rfl, ⟨_, ho, rfl⟩, call_meets PySem.F.slot_list_mul ⟨_, ho, rfl⟩ PySem.F.entry_list_mul (PySem.F.args_list_mul_2 _ _)
       (lm_list_mul_any l vs.toArray n none #[] x u (by simp [Builtin.List.listFitsIndex]; lia) (by rw [List.size_toArray]; lia) (by simp [Builtin.List.listTooLong, sizeLine]; lia))
       ⟨ho, ?_⟩⟩)
 rw [listMul_foldl_if]
 exact EvPost.newL' (.refl I) (vs := (List.replicate x.toNat vs).flatten.toArray) (hr.rep _) h
theorem Meth_list {v : PV} {xs : List PV} {name : Str} {id : String} (hv : Items H v xs) (slot : Slot "list" name id) (hty : typeOf (.builtin id) = pure (.type "method_descriptor")) : MethAt B H name id v := fun A E s va I r pl Q q => by
 obtain ⟨a, vs, n, rfl, ho, O⟩ := hv.at I r
 exact getMethod_list_of slot hty (lst_isList ho) ⟨_, ho, rfl⟩ q
theorem Meth_append {v : PV} {xs : List PV} (hv : Items H v xs) : MethAt B H "append" "list.append" v := Meth_list hv PySem.F.slot_list_append PySem.F.type_list_append
theorem Meth_insert {v : PV} {xs : List PV} (hv : Items H v xs) : MethAt B H "insert" "list.insert" v := Meth_list hv PySem.F.slot_list_insert PySem.F.type_list_insert
theorem Meth_extend {v : PV} {xs : List PV} (hv : Items H v xs) : MethAt B H "extend" "list.extend" v := Meth_list hv PySem.F.slot_list_extend PySem.F.type_list_extend
theorem Meth_reverse {v : PV} {xs : List PV} (hv : Items H v xs) : MethAt B H "reverse" "list.reverse" v := Meth_list hv PySem.F.slot_list_reverse PySem.F.type_list_reverse
theorem Call_append {a : Addr} {xs : List PV} {p : PV} {H' : AH} {Q : PQ} (u : Upd a xs (xs ++ [p]) H H') (hz : xs.length <= sizeLine) (h : Q .none H') : CallV B d E (.raw (.builtin "list.append")) [.lref a, p] [] H Q := CallV.at fun A s R I vs r fv rf => by
 obtain ⟨v, w, rfl, r1, r2⟩ := r.two
 obtain ⟨O, rfl⟩ := rf.inv; obtain ⟨O, rfl⟩ := r1.inv
 exact wpAny_mono (append_ok u I r2 hz) (fun r s' hh1 => by obtain ⟨e, t⟩ := hh1; exact ⟨.none, H', t, e ▸ .none, h⟩) fun O O x => x
theorem inplace_ok {s : Shared} {a : Addr} {xs xs' : List PV} {H' : AH} {Q : PQ} {vs vs' : Array Value} {n n' : Nat} {h' : Heap} (u : Upd a xs xs' H H') (I : Inv B H s) (hs : Heap.SameBut a s.heap h') (ho' : h'.get? a = some (lstObj vs' n'))
   (hv : VRs (Trk B H) s.heap vs'.toList xs') (h : Q .none H') {t : Nat} : EvPost B H s Q .none { s with heap := h', toks := t } := ⟨.none, H', Tr.upd u I hs ho' hv, .none, h⟩
noncomputable def insAt {α : Type} (xs : List α) (k : Nat) (x : α) : List α := xs.take k ++ x :: xs.drop k
theorem Call_insert {a : Addr} {xs : List PV} {i : Int} {p : PV} {H' : AH} {Q : PQ} (h0 : 0 <= i) (h1 : i < 2 ^ 63) (u : Upd a xs (insAt xs (min i.toNat xs.length) p) H H') (hz : xs.length <= sizeLine) (h : Q .none H') : CallV B d E (.raw (.builtin "list.insert")) [.lref a, .int i, p] [] H Q := CallV.at fun A s R I vs r fv rf => by
 obtain ⟨v, w, y, rfl, r1, r2, r3⟩ := r.three
 obtain ⟨_, rfl⟩ := rf.inv; obtain ⟨_, rfl⟩ := r1.inv; obtain ⟨_, rfl⟩ := r2.inv
 rename_i t
 obtain ⟨hg, vs, n, ho, hv⟩ := I.objs _ u.has
 have hsz : vs.size = xs.length := hv.asize
 refine call_meets PySem.F.slot_list_insert ⟨_, ho, rfl⟩ PySem.F.entry_list_insert (PySem.F.args_list_insert_3 _ _ _) (PySem.AutoSeq1.list_insert_list_int_val_1 a vs n i t y (by simp [Builtin.List.listFitsIndex]; lia) (by rw [hsz]; exact hz)) ⟨ho, ?_⟩
 refine inplace_ok u I (Heap.SameBut.update ..) (vs := vs) (vs' := _) (n := n) (n' := _) (Heap.get?_update_self _ ho rfl) ?_ h
 simp only [show ¬ i < 0 by lia, if_false]
 have : ((vs.extract 0 (min i.toNat vs.size)).push y ++ vs.extract (min i.toNat vs.size)).toList = vs.toList.take (min i.toNat xs.length) ++ y :: vs.toList.drop (min i.toNat xs.length) := by
   have hl : vs.toList.length = xs.length := by simpa using hsz
   rw [hsz]; simp; rw [List.take_of_length_le (by rw [List.length_drop, hl]; exact Nat.le_refl _)]
 rw [this]
 exact (hv.take _).append (.cons r3 (hv.drop _))
theorem Call_reverse {a : Addr} {xs : List PV} {H' : AH} {Q : PQ} (u : Upd a xs xs.reverse H H') (hz : xs.length <= sizeLine) (h : Q .none H') : CallV B d E (.raw (.builtin "list.reverse")) [.lref a] [] H Q := CallV.at fun A s R I vs r fv rf => by
 obtain ⟨v, rfl, r1⟩ := r.one
 obtain ⟨O, rfl⟩ := rf.inv; obtain ⟨O, rfl⟩ := r1.inv
 obtain ⟨hg, vs, n, ho, hv⟩ := I.objs _ u.has
 have hsz : vs.size = xs.length := hv.asize
 refine call_meets PySem.F.slot_list_reverse ⟨_, ho, rfl⟩ PySem.F.entry_list_reverse (PySem.F.args_list_reverse_1 _) (PySem.AutoSeq1.list_reverse_list_0 a vs n (by rw [hsz]; exact hz)) ⟨ho, ?_⟩
 refine inplace_ok u I (Heap.SameBut.update ..) (vs := vs) (vs' := _) (n := n) (n' := _) (Heap.get?_update_self _ ho rfl) ?_ h
 simp only [Array.toList_reverse]
 exact hv.reverse
theorem Call_extend {a : Addr} {v : PV} {xs ys : List PV} {H' : AH} {Q : PQ} (hv : v = .tup ys \/ Items H v ys) (u : Upd a xs (xs ++ ys) H H') (hz : xs.length + ys.length <= 16777216) (h : Q .none H') : CallV B d E (.raw (.builtin "list.extend")) [.lref a, v] [] H Q := CallV.at fun A s R I vs r fv rf => by
 obtain ⟨x, y, rfl, r1, r2⟩ := r.two
 obtain ⟨O, rfl⟩ := rf.inv; obtain ⟨O, rfl⟩ := r1.inv
 obtain ⟨hg, vs, n, ho, hr⟩ := I.objs _ u.has
 have hsz : vs.size = xs.length := hr.asize
 have e24 : (2 : Nat) ^ 24 = 16777216 := by decide
 rcases hv with rfl | hv
 . cases r2 with
   | @tup b ws m _ ho' hn hr' =>
     have hsz' := hr'.asize
     refine call_meets PySem.F.slot_list_extend ⟨_, ho, rfl⟩ PySem.F.entry_list_extend (PySem.F.args_list_extend_2 _ _) (PySem.AutoSeq1.list_extend_list_tuple_0 a vs n b ws m (by simp [Builtin.List.listTooLong, sizeLine]; intro _; rw [hsz, hsz']; lia) (by rw [hsz, sizeLine_eq]; lia) (by rw [hsz, hsz', sizeLine_eq]; lia)) ⟨ho, ho', ?_⟩
     refine inplace_ok u I (Heap.SameBut.update ..) (vs := vs) (vs' := _) (n := n) (n' := _) (Heap.get?_update_self _ ho rfl) ?_ h
     simp only [Array.toList_append]
     exact hr.append hr'
 . obtain ⟨b, ws, m, rfl, ho', hr'⟩ := hv.at I r2
   have hsz' := hr'.asize
   refine call_meets PySem.F.slot_list_extend ⟨_, ho, rfl⟩ PySem.F.entry_list_extend (PySem.F.args_list_extend_2 _ _) (PySem.AutoSeq1.list_extend_list_list_0 a vs n b ws m (by simp [Builtin.List.listTooLong, sizeLine]; intro _; rw [hsz, hsz']; lia) (by rw [hsz, sizeLine_eq]; lia) (by rw [hsz, hsz', sizeLine_eq]; lia)) ⟨ho, ho', ?_⟩
   refine inplace_ok u I (Heap.SameBut.update ..) (vs := vs) (vs' := _) (n := n) (n' := _) (Heap.get?_update_self _ ho rfl) ?_ h
   simp only [Array.toList_append]
   exact hr.append hr'
theorem Call_list {v : PV} {xs : List PV} {Q : PQ} (hv : v = .tup xs \/ Items H v xs) (hz : xs.length <= sizeLine) (h : NewL Q xs H) : CallV B d E (.raw (.type "list")) [v] [] H Q := CallV.at fun A s R I vs r fv rf => by
 obtain ⟨x, rfl, r1⟩ := r.one
 obtain ⟨O, rfl⟩ := rf.inv
 rcases hv with rfl | hv
 . cases r1 with
   | tup ho hn hr =>
     exact wpAny_grow (call_list_seq (hsz := by rw [hr.asize]; exact hz) _ (.inr rfl) ho rfl rfl fun h' c' hk hD hz' => EvPost.made I hk hz' rfl rfl (Nat.le_refl _) hD hr h)
 . obtain ⟨b, ws, m, rfl, ho', hr'⟩ := hv.at I r1
   exact wpAny_grow (call_list_seq (hsz := by rw [hr'.asize]; exact hz) b (.inl rfl) ho' rfl rfl fun h' c' hk hD hz' => EvPost.made I hk hz' rfl rfl (Nat.le_refl _) hD hr' h)
theorem intsAre_of {T : Addr -> Prop} {h : Heap} : ∀ {vs : List Value} {ns : List Int}, VRs T h vs (ns.map PV.int) -> IntsAre vs ns
 | _, [], r => by rw [r.isnil]; exact .nil
 | _, y :: ys, r => by
   obtain ⟨v, ws, rfl, a, b⟩ := r.head
   cases a; exact .cons _ _ (intsAre_of b)
theorem Tr.kept {s : Shared} {h' : Heap} {t : Nat} (I : Inv B H s) (hk : ∀ b o, s.heap.get? b = some o -> h'.get? b = some o) (hz : s.heap.objs.size <= h'.objs.size) : Tr B noU H s H { s with heap := h', toks := t } := Tr.ext I hk hz rfl rfl
theorem Call_sum {v : PV} {ns : List Int} {Q : PQ} (hv : Items H v (ns.map PV.int)) (h : Q (.int ns.sum) H) : CallV B d E (.raw (.builtin "sum")) [v] [] H Q := CallV.at fun A s R I vs r fv rf => by
 obtain ⟨x, rfl, r1⟩ := r.one
 obtain ⟨O, rfl⟩ := rf.inv
 obtain ⟨l, ws, m, rfl, ho, hr⟩ := hv.at I r1
 have hi := intsAre_of hr
 obtain ⟨xs, hx⟩ := hi.allInts.items
 rw [Array.toArray_toList] at hx
 subst hx
 refine wpAny_grow (sum_intListG R.handled (lst_isList ho) fun h' tk t' hk hz => ?_)
 have e1 : ns = xs.toList.map (·.1) := by rw [<- nums_intItems]; exact hi.numsOf.symm
 have e2 : preSum (numAt xs) xs.size = ns.sum := by rw [preSum_eq, List.take_of_length_le (by simp), e1]
 rw [e2]
 exact ⟨_, _, Tr.kept I hk hz, .int _ _, h⟩
theorem Call_max2 {a b : Int} {Q : PQ} (h : Q (.int (max a b)) H) : CallV B d E (.raw (.builtin "max")) [.int a, .int b] [] H Q := CallV.at fun A s R I vs r fv rf => by
 obtain ⟨x, y, rfl, r1, r2⟩ := r.two
 obtain ⟨O, rfl⟩ := rf.inv; obtain ⟨O, rfl⟩ := r1.inv; obtain ⟨O, rfl⟩ := r2.inv
 refine wpAny_grow (max_two_ints R.handled fun h' tk hk hz => ⟨_, _, Tr.kept I hk hz, ?_, h⟩)
 by_cases hc : b > a
 . rw [if_pos hc, show max a b = b by lia]; exact .int _ _
 . rw [if_neg hc, show max a b = a by lia]; exact .int _ _
theorem Call_min2 {a b : Int} {Q : PQ} (h : Q (.int (min a b)) H) : CallV B d E (.raw (.builtin "min")) [.int a, .int b] [] H Q := CallV.at fun A s R I vs r fv rf => by
 obtain ⟨x, y, rfl, r1, r2⟩ := r.two
 obtain ⟨O, rfl⟩ := rf.inv; obtain ⟨O, rfl⟩ := r1.inv; obtain ⟨O, rfl⟩ := r2.inv
 refine wpAny_grow (min_two_ints R.handled fun h' tk hk hz => ⟨_, _, Tr.kept I hk hz, ?_, h⟩)
 by_cases hc : b < a
 . rw [if_pos hc, show min a b = b by lia]; exact .int _ _
 . rw [if_neg hc, show min a b = a by lia]; exact .int _ _
theorem Call_abs {a : Int} {Q : PQ} (h : Q (.int a.natAbs) H) : CallV B d E (.raw (.builtin "abs")) [.int a] [] H Q := CallV.at fun A s R I vs r fv rf => by
 obtain ⟨x, rfl, r1⟩ := r.one
 obtain ⟨O, rfl⟩ := rf.inv; obtain ⟨O, rfl⟩ := r1.inv
 refine call_abs_int fun u tk => ⟨_, _, Tr.tok I _, ?_, h⟩
 by_cases hc : a < 0
 . rw [if_pos hc, show ((a.natAbs : Nat) : Int) = -a by lia]; exact .int _ _
 . rw [if_neg hc, show ((a.natAbs : Nat) : Int) = a by lia]; exact .int _ _
theorem Call_min {v : PV} {ns : List Int} {Q : PQ} (hv : Items H v (ns.map PV.int)) (hne : ns ≠ []) (h : ∀ M, M ∈ ns -> (∀ a ∈ ns, M <= a) -> Q (.int M) H) : CallV B d E (.raw (.builtin "min")) [v] [] H Q := CallV.at fun A s R I vs r fv rf => by
 obtain ⟨x, rfl, r1⟩ := r.one
 obtain ⟨O, rfl⟩ := rf.inv
 obtain ⟨l, ws, m, rfl, ho, hr⟩ := hv.at I r1
 have hi := intsAre_of hr
 obtain ⟨xs, hx⟩ := hi.allInts.items
 rw [Array.toArray_toList] at hx
 subst hx
 have e1 : ns = xs.toList.map (·.1) := by rw [<- nums_intItems]; exact hi.numsOf.symm
 have hsz : 0 < xs.size := by
   rcases Nat.eq_zero_or_pos xs.size with q | q
   . exact absurd (by rw [e1, List.eq_nil_of_length_eq_zero (by simpa using q : xs.toList.length = 0)]; rfl) hne
   . exact q
 refine wpAny_grow (min_intList R.handled (lst_isList ho) hsz fun v h' tk hv hk hz => ?_)
 obtain ⟨t, rfl⟩ := intItems_at hv
 obtain ⟨h1, h2⟩ := argBest_lt (numAt xs) (xs.size - 1)
 refine ⟨_, _, Tr.kept I hk hz, .int _ _, h _ ?_ fun a ha => ?_⟩
 . rw [e1, numAt_eq]; exact getD_mem (by rw [List.length_map, Array.length_toList]; lia)
 . rw [e1] at ha
   obtain ⟨j, hj, rfl⟩ := mem_getD ha
   rw [List.length_map, Array.length_toList] at hj
   rw [<- numAt_eq]; exact h2 j (by lia)
end
section
variable {B : Base} {fi : FnInfo} {d : Nat} {E : EP} {σ : St} {H : AH}
noncomputable def CallI (B : Base) (d : Nat) (E : EP) (tgt : Expr) (f : PV) (args : List PV) (H : AH) (Q : IQ) : Prop :=
 ∀ A s, Room A d -> Inv B H s -> ∀ fv vs, VR (Trk B H) s.heap fv f -> VRs (Trk B H) s.heap vs args -> wpAny (model B.prog B.w) A (call fv vs []) (fun x s₁ => wpAny (model B.prog B.w) A (pyIter x) (Made B A tgt H s Q) E s₁) E s
theorem EvI_Call {tgt func : Expr} {args : List Expr} {pos : Pos} {Q : IQ}
   (h : Ev B fi d E func σ H fun f H₁ => KeepsV B f /\ EvL B fi d E args σ H₁ fun vs H₂ => CallI B d E tgt f vs H₂ Q)
   (hp : args.all plainE = true := by rfl)
   (he : ∀ env, eval (.Call func args [] pos) env = (do callWith pos (<- eval func env) [] (backTo pos (starEach args env)) (backToKw pos (keywordEach [] env))) := by intro _; rfl) :
   EvI B fi d E tgt (.Call func args [] pos) σ H Q := fun A s env e R I F => by
 refine Call_ (wpAny_mono (h A s env e R I F) (fun fv s₁ hh1 => ?_) fun O O x => x) (he env)
 obtain ⟨f, H₁, t₁, q₁, hk, h₁⟩ := hh1
 refine callWith_any (evalArgs_list hp (wpAny_mono (EvL_spliced h₁ hp A s₁ env e R t₁.inv (F.tr I t₁)) (fun vs s₂ hh1 => ?_) fun O O x => x))
 obtain ⟨ps, H₂, t₂, l₂, q₂, h₂⟩ := hh1
 refine ⟨hk A E H₂ s₂ fv t₂.inv (q₁.tr t₂), ?_⟩
 refine wpAny_mono (h₂ A s₂ R t₂.inv fv vs (q₁.tr t₂) q₂) (fun O O p => wpAny_mono p (fun it s₄ m => m.trans (t₁.trans t₂) (gens_size (t₁.trans t₂))) fun O O x => x) fun O O x => x
noncomputable def Src (B : Base) (deps H : AH) (s : Shared) (l : Addr) (xs : List PV) : Prop :=
 (∃ vs n, s.heap.get? l = some (lstObj vs n) /\ VRs (Trk B H) s.heap vs.toList xs) /\ (¬ Trk B H l \/ ((l, xs) ∈ deps /\ (l, xs) ∈ H))
theorem Src.stable {P : Addr -> Prop} {G : Nat -> Prop} {deps H' : AH} {s s' : Shared} {l : Addr} {xs : List PV} (h : Src B deps H s l xs) (e : Evo B P G deps H s H' s') : Src B deps H' s' l xs := by
 obtain ⟨⟨vs, n, hl, hv⟩, h | ⟨h1, h2⟩⟩ := h
 . exact ⟨⟨vs, n, e.seq _ _ hl ⟨_, _, rfl⟩ h, e.vrs hv⟩, .inl (e.trk (Heap.lt_size hl) h)⟩
 . have hm := e.deps _ h1
   obtain ⟨O, vs', n', ho, hv'⟩ := e.inv.objs _ hm
   exact ⟨⟨vs', n', ho, hv'⟩, .inr ⟨h1, hm⟩⟩
theorem Src.only {P : Addr -> Prop} {G : Nat -> Prop} {deps : AH} {s s' : Shared} {l : Addr} {xs : List PV} (h : Src B deps H s l xs) (hS : ∀ p, P p -> ∀ o, s.heap.get? p = some o -> ¬ IsSeqO o) (o : Only B P G H s s') : Src B deps H s' l xs := by
 obtain ⟨⟨vs, n, hl, hv⟩, h⟩ := h
 exact ⟨⟨vs, n, o.heap _ _ hl fun p => hS _ p _ hl ⟨_, _, rfl⟩, hv.mono (fun a ob e q O => o.heap a ob e fun p => hS _ p _ e q) fun O O t => t⟩, h⟩
noncomputable def depsOf : PV -> List PV -> AH
 | .lref a, xs => [(a, xs)]
 | _, _ => []
theorem Src.of {v : PV} {xs : List PV} {s : Shared} {va : Value} (hv : Items H v xs) (I : Inv B H s) (r : VR (Trk B H) s.heap va v) : ∃ l, va = .ref l /\ Src B (depsOf v xs) H s l xs /\ (∀ p ∈ depsOf v xs, p ∈ H) := by
 rcases hv with rfl | ⟨a, rfl, hm⟩
 . cases r with | list ho hn hs => exact ⟨_, rfl, ⟨⟨_, _, ho, hs⟩, .inl hn⟩, nofun⟩
 . obtain ⟨O, rfl⟩ := r.inv
   obtain ⟨O, vs, n, ho, hs⟩ := I.objs _ hm
   exact ⟨a, rfl, ⟨⟨vs, n, ho, hs⟩, .inr ⟨mcs, hm⟩⟩, fun p hp => by rcases mcp hp with rfl | hp; exact hm; cases hp⟩
noncomputable def Own (B : Base) (H : AH) (a : Addr) : Prop := B.g.objs.size <= a /\ ¬ Trk B H a
end
section
variable {B : Base} {fi : FnInfo} {d : Nat} {E : EP} {σ : St} {H : AH}
theorem own_only {ws : List Addr} {s : Shared} {h' : Heap} {t : Nat} (I : Inv B H s) (hk : ∀ a o, s.heap.get? a = some o -> a ∉ ws -> h'.get? a = some o) (hz : s.heap.objs.size <= h'.objs.size) (ho : ∀ p ∈ ws, Own B H p) (hL : ∀ p ∈ ws, ∀ o, s.heap.get? p = some o -> Loose o) : Only B (· ∈ ws) (fun O => False) H s { s with heap := h', toks := t } :=
 Only.make I hk hz ho hL (fun O O e O => e) (Nat.le_refl _) I.bare rfl
theorem own_stable {P : Addr -> Prop} {G : Nat -> Prop} {deps H' : AH} {s s' : Shared} (e : Evo B P G deps H s H' s') {a : Addr} (h : Own B H a) (ha : a < s.heap.objs.size) : Own B H' a := ⟨h.1, e.trk ha h.2⟩
theorem VR.ow {P : Addr -> Prop} {G : Nat -> Prop} {s s' : Shared} {v : Value} {p : PV} (r : VR (Trk B H) s.heap v p) (o : Only B P G H s s') (hS : ∀ p, P p -> ∀ o, s.heap.get? p = some o -> ¬ IsSeqO o) : VR (Trk B H) s'.heap v p :=
 r.mono (fun a ob e q O => o.heap a ob e fun p => hS _ p _ e q) fun O O t => t
theorem loose_fields {o : Obj} {vs : Array Value} (hd : o.data = .fields vs) (h : ∀ q t, vs[1]? ≠ some (.str q t)) : Loose o := by
 refine ⟨fun q => ?_, fun ws q t e => ?_⟩
 . obtain ⟨O, O, q⟩ := q; rw [hd] at q; cases q
 . rw [hd] at e; cases e; exact h q t
noncomputable def arith (step : Int) : Int -> Nat -> List PV
 | _, 0 => []
 | x, n + 1 => .int x :: arith step (x + step) n
inductive JR (B : Base) (it : Addr) (c : Int) (items : List PV) (H : AH) (s : Shared) : Prop
 | mk (x : Int) (n : Nat) (a : IsRangeIter s.heap it x (n : Nat) c) (b : items = arith c x n) (d : Own B H it)
theorem rit_loose {h : Heap} {it : Addr} {x l c : Int} (e : IsRangeIter h it x l c) : ∀ o, h.get? it = some o -> Loose o := fun o ho => by
 rw [e] at ho; cases ho; exact loose_fields rfl (by intro q t; simp [rawInt])
theorem Iter_JR (tgt : Expr) (it : Addr) (c : Int) : Iter B [] tgt (.ref it) (· ∈ [it]) (fun O => False) (JR B it c) where
 self := fun items H s A E Q ⟨x, n, hit, _, _⟩ q => wpAny_pyIter_slot ⟨_, hit, rfl⟩ PySem.F.slot_range_iterator_iter (wpAny_call_entry PySem.F.slot_range_iterator_iter ⟨_, hit, rfl⟩ PySem.F.entry_range_iterator_iter
     (show wpAny _ _ (ret (.ref it)) _ _ s from wpAny_pure ⟨_, rfl, "range_iterator", _, ⟨_, hit, rfl⟩, PySem.F.slot_range_iterator_next.lookup, q⟩) (PySem.F.args_range_iterator_iter_1 _))
 notseq := fun items H s ⟨x, n, hit, _, _⟩ p hp o ho => by rw [msp hp] at ho; exact (rit_loose hit o ho).1
 stable := fun items H s H' s' ⟨x, n, hit, hi, ho⟩ e => ⟨x, n, e.own _ _ hit (List.mem_singleton.mpr rfl), hi, own_stable e ho (Heap.lt_size hit)⟩
 next := fun items H s A ⟨x, n, hit, hi, ho⟩ R I => by
   have hL : ∀ p ∈ [it], ∀ o, s.heap.get? p = some o -> Loose o := fun p hp o e => rit_loose hit o (by rw [<- msp hp]; exact e)
   have hO : ∀ p ∈ [it], Own B H p := fun p hp => by rw [msp hp]; exact ho
   subst hi
   cases n with
   | zero => exact wpAny_grow (wpAny_pyNext_range_end R.handled hit (by simp) fun h' hx hz => ⟨rfl, own_only (t := s.toks) I (fun a o e hn => hx a o (fun q => hn (by simp [q])) e) hz hO hL⟩)
   | succ n =>
     refine wpAny_pyNext_range_item hit (by lia) fun h' hit' hs => ⟨_, rfl, letGo_plain hit' rfl rfl ?_⟩
     have o := own_only (t := s.toks + 1) I (fun a o e hn => (hs.2 a fun q => hn (by simp [q])).trans e) (by rw [hs.1]; exact Nat.le_refl _) hO hL
     exact ⟨o, .int _ _, x + c, n, by rw [show ((n + 1 : Nat) : Int) - 1 = (n : Nat) by lia] at hit'; exact hit', rfl, ho⟩
noncomputable def rangeLen (a b : Int) : Nat := (b - a).toNat
theorem rangeSize_len (a b : Int) : Builtin.Range.rangeSize a b 1 = (rangeLen a b : Nat) := by
 unfold rangeLen
 rw [rangeSize_one]; split <;> lia
theorem range_made {tgt : Expr} {s : Shared} {r : Addr} {a b c : Int} {t u v : Tok} {n : Nat} {A : Around} {Q : IQ} {s₀ : Shared} (I : Inv B H s) (hr : IsRange s.heap r a b c t u v) (hsm : Builtin.Range.small a b c = true) (hn : Builtin.Range.rangeSize a b c = (n : Nat)) (h : Q (arith c a n) [] H)
   (t₀ : Tr B noU H s₀ H s) (hg : s₀.gens.size <= s.gens.size) : wpAny (model B.prog B.w) A (pyIter (.ref r)) (Made B A tgt H s₀ Q) E s := by
 refine wpAny_pyIter_range hr hsm ?_
 rw [hn]
 have t := Tr.push I { cls := .type "range_iterator", data := .fields #[rawInt a, rawInt (n : Nat), rawInt c] }
 refine MadeO.made ⟨_, [], H, _, _, _, t₀.trans t, Iter_JR tgt s.heap.objs.size c, ⟨a, n, Heap.get?_push_size _ rfl, rfl, I.size, not_trk_size I⟩, fun p hp => ?_, fun O f => f.elim, (fun O hm => nomatch hm), h⟩
 rw [msp hp]
 exact ⟨t₀.step.size, size_push_lt, not_trk_size I⟩
theorem CallI_range1 {tgt : Expr} {b : Int} {Q : IQ} (hlo : -(2 ^ 62) <= b) (hhi : b < 2 ^ 62) (h : Q (arith 1 0 b.toNat) [] H) : CallI B d E tgt (.raw (.type "range")) [.int b] H Q := fun A s R I fv vs r1 r2 => by
 obtain ⟨_, rfl⟩ := r1.inv
 obtain ⟨v, rfl, r⟩ := r2.one
 obtain ⟨_, rfl⟩ := r.inv
 rename_i tb
 refine call_range_1 ?_
 have t := Tr.pushTok I { cls := .type "range", data := .fields #[.int 0 s.toks, .int b tb, .int 1 (s.toks + 1)] } (s.toks + 1 + 1)
 exact range_made t.inv (Heap.get?_push_size _ rfl) (small_one (by decide) (by decide) hlo hhi) (rangeSize_len 0 b) (by simpa [rangeLen] using h) t (Nat.le_refl _)
theorem CallI_range2 {tgt : Expr} {a b : Int} {Q : IQ} (hlo : -(2 ^ 62) <= b) (hhi : b < 2 ^ 62) (hlo' : -(2 ^ 62) <= a) (hhi' : a < 2 ^ 62) (h : Q (arith 1 a (b - a).toNat) [] H) : CallI B d E tgt (.raw (.type "range")) [.int a, .int b] H Q := fun A s R I fv vs r1 r2 => by
 obtain ⟨_, rfl⟩ := r1.inv
 obtain ⟨v, w, rfl, r, r'⟩ := r2.two
 obtain ⟨_, rfl⟩ := r.inv; cases r'
 rename_i ta tb
 refine call_range_2 ?_
 have t := Tr.pushTok I { cls := .type "range", data := .fields #[.int a ta, .int b tb, .int 1 s.toks] } (s.toks + 1)
 exact range_made t.inv (Heap.get?_push_size _ rfl) (small_one hlo' hhi' hlo hhi) (rangeSize_len a b) h t (Nat.le_refl _)
noncomputable def enumPV : Nat -> List PV -> List PV
 | _, [] => []
 | i, x :: r => .tup [.int i, x] :: enumPV (i + 1) r
inductive JE (B : Base) (deps : AH) (e it l : Addr) (xs : List PV) (items : List PV) (H : AH) (s : Shared) : Prop
 | mk (i : Nat) (old : Value) (a : IsEnum s.heap e it (i : Nat) old) (b : s.heap.IsListIter it l i) (c : Src B deps H s l xs) (d : items = enumPV i (xs.drop i)) (f : Own B H e) (g : Own B H it) (h : e ≠ it)
theorem enum_loose {h : Heap} {e it : Addr} {i : Int} {old : Value} (x : IsEnum h e it i old) : ∀ o, h.get? e = some o -> Loose o := fun o ho => by
 rw [x] at ho; cases ho; exact loose_fields rfl (by intro q t; simp)
theorem Iter_JE (elts : List Expr) (k : Nat) (pos : Pos) (deps : AH) (e it l : Addr) (xs : List PV) : Iter B deps (.Tuple elts k pos) (.ref e) (· ∈ [e, it]) (fun O => False) (JE B deps e it l xs) where
 self := fun items H s A E Q ⟨i, old, he, _, _, _, _, _, _⟩ q => wpAny_pyIter_enum he q
 notseq := fun items H s ⟨i, old, he, hit, _, _, _, _, _⟩ p hp o ho => by
   rcases mcp hp with rfl | hp
   . exact (enum_loose he o ho).1
   . rw [msp hp] at ho; exact (lit_loose hit o ho).1
 stable := fun items H s H' s' ⟨i, old, he, hit, hs, hi, ho, ho', hne⟩ ev =>
   ⟨i, old, ev.own _ _ he (by simp), lit_at ev (by simp) hit, hs.stable ev, hi, own_stable ev ho (Heap.lt_size he), own_stable ev ho' (lit_lt hit), hne⟩
 next := fun items H s A ⟨i, old, he, hit, hs, hi, ho, ho', hne⟩ R I => by
   have hL : ∀ p ∈ [e, it], ∀ o, s.heap.get? p = some o -> Loose o := fun p hp o eq => by
     rcases mcp hp with rfl | hp
     . exact enum_loose he o eq
     . rw [msp hp] at eq; exact lit_loose hit o eq
   have hO : ∀ p ∈ [e, it], Own B H p := fun p hp => by
     rcases mcp hp with rfl | hp
     . exact ho
     . rw [msp hp]; exact ho'
   have hS : ∀ p, p ∈ [e, it] -> ∀ o, s.heap.get? p = some o -> ¬ IsSeqO o := fun p hp o eq => (hL p hp o eq).1
   obtain ⟨⟨vs, n, hl, hv⟩, O⟩ := id hs
   subst hi
   rcases hv.at i with ⟨e1, e2⟩ | ⟨v, p, e1, e2, hr⟩
   . have hd : xs.drop i = [] := List.drop_eq_nil_iff.mpr (List.getElem?_eq_none_iff.mp e2)
     rw [hd]
     exact wpAny_grow (wpAny_pyNext_enum_end R.handled he hit (lst_isList hl) (by rw [<- Array.getElem?_toList]; exact e1) fun h' hx hz => ⟨rfl, own_only (t := s.toks) I (fun a o eq hn => hx a o (fun q => hn (by simp [q])) eq) hz hO hL⟩)
   . have hd : xs.drop i = p :: xs.drop (i + 1) := by
       obtain ⟨hi, e3⟩ := List.getElem?_eq_some_iff.mp e2
       rw [<- e3]; exact (List.drop_eq_getElem_cons hi)
     rw [hd]
     refine wpAny_pyNext_enum_item he hit (lst_isList hl) (by rw [<- Array.getElem?_toList]; exact e1) hne fun h' ho1 hit' hT hsz hk => ⟨_, rfl, ?_⟩
     refine wpAny_letOwnedTupleGo_enum ho1 fun h₂ he₂ hs₂ => ?_
     have hz : s.heap.objs.size <= h₂.objs.size := by rw [hs₂.1, hsz]; exact Nat.le_succ _
     have o := own_only (t := s.toks + 1) I (h' := h₂) (fun a o eq hn => (hs₂.2 a fun q => hn (by simp [q])).trans (hk a o (fun q => hn (by simp [q])) (fun q => hn (by simp [q])) eq)) hz hO hL
     have helt := Heap.lt_size he
     refine ⟨o, ?_, i + 1, v, by simpa using he₂, ?_, hs.only hS o, rfl, ho, ho', hne⟩
     . refine .tup (vs := #[.int i s.toks, v]) (n := 0) ((hs₂.2 _ (Nat.ne_of_gt helt)).trans hT) (not_trk_size I) ?_
       exact .cons (.int _ _) (.cons (hr.ow o hS) .nil)
     . obtain ⟨oi, a, b⟩ := hit'
       exact ⟨oi, (hs₂.2 _ (Ne.symm hne)).trans a, b⟩
theorem CallI_enum {elts : List Expr} {k : Nat} {pos : Pos} {v : PV} {xs : List PV} {Q : IQ} (hv : Items H v xs) (h : Q (enumPV 0 xs) (depsOf v xs) H) : CallI B d E (.Tuple elts k pos) (.raw (.type "enumerate")) [v] H Q := fun A s R I fv vs r1 r2 => by
 obtain ⟨O, rfl⟩ := r1.inv
 obtain ⟨va, rfl, r⟩ := r2.one
 obtain ⟨l, rfl, hs, hd⟩ := Src.of hv I r
 obtain ⟨⟨ws, n, hl, hr⟩, O⟩ := id hs
 refine call_enumerate_list (lst_isList hl) fun h' he hit hsz hk => ?_
 refine wpAny_pyIter_enum he ?_
 have hz : s.heap.objs.size <= h'.objs.size := by rw [hsz]; exact Nat.le_add_right _ _
 have t := Tr.kept (t := s.toks) I hk hz
 have hn : ∀ {b : Addr}, s.heap.objs.size <= b -> Own B H b := fun {b} hb => ⟨ntr I.size hb, fun q => absurd (nlt (by
     rcases q with q | q | q
     . obtain ⟨p, hp, rfl⟩ := mmp q
       obtain ⟨O, O, O, e, O⟩ := I.objs p hp; exact Heap.lt_size e
     . obtain ⟨p, hp, rfl⟩ := mmp q
       obtain ⟨O, e, O⟩ := I.tabs p hp; exact Heap.lt_size e
     . obtain ⟨p, hp, rfl⟩ := mmp q
       exact Heap.lt_size (I.hid p hp).1) hb) (Nat.lt_irrefl _)⟩
 refine MadeO.made ⟨enumPV 0 xs, depsOf v xs, H, _, _, _, t, Iter_JE elts k pos (depsOf v xs) _ _ l xs, ⟨0, .none, he, hit, ?_, rfl, hn (Nat.le_succ _), hn (Nat.le_refl _), Nat.succ_ne_self _⟩, fun p hp => ?_, fun O f => f.elim, hd, h⟩
 . exact ⟨⟨ws, n, hk _ _ hl, hr.tr t⟩, hs.2⟩
 . rcases mcp hp with rfl | hp
   . exact ⟨Nat.le_succ _, by show _ < h'.objs.size; rw [hsz]; exact Nat.lt_succ_self _, (hn (Nat.le_succ _)).2⟩
   . rw [msp hp]
     exact ⟨Nat.le_refl _, by show _ < h'.objs.size; rw [hsz]; exact Nat.lt_add_of_pos_right (by decide), (hn (Nat.le_refl _)).2⟩
inductive JV (B : Base) (deps : AH) (it l : Addr) (xs : List PV) (items : List PV) (H : AH) (s : Shared) : Prop
 | mk (i : Nat) (a : i <= xs.length) (b : s.heap.IsRevIter it l ((i : Int) - 1)) (c : Src B deps H s l xs) (d : items = (xs.take i).reverse) (e : Own B H it)
theorem rev_loose {h : Heap} {it l : Addr} {i : Int} (x : h.IsRevIter it l i) : ∀ o, h.get? it = some o -> Loose o := fun o ho => by
 obtain ⟨o', e, O, hd⟩ := x
 rw [e] at ho; cases ho; exact loose_fields hd (by intro q t; simp [rawInt])
theorem rev_lt {h : Heap} {it l : Addr} {i : Int} (x : h.IsRevIter it l i) : it < h.objs.size := by obtain ⟨o', e, O⟩ := x; exact Heap.lt_size e
theorem Iter_JV (tgt : Expr) (deps : AH) (it l : Addr) (xs : List PV) : Iter B deps tgt (.ref it) (· ∈ [it]) (fun O => False) (JV B deps it l xs) where
 self := fun items H s A E Q ⟨i, _, hit, _, _, _⟩ q => wpAny_pyIter_revIter hit q
 notseq := fun items H s ⟨i, _, hit, _, _, _⟩ p hp o ho => by rw [msp hp] at ho; exact (rev_loose hit o ho).1
 stable := fun items H s H' s' ⟨i, hi, hit, hs, hx, ho⟩ e => ⟨i, hi, hit.at fun o q => e.own _ _ q (List.mem_singleton.mpr rfl), hs.stable e, hx, own_stable e ho (rev_lt hit)⟩
 next := fun items H s A ⟨i, hi, hit, hs, hx, ho⟩ R I => by
   have hL : ∀ p ∈ [it], ∀ o, s.heap.get? p = some o -> Loose o := fun p hp o e => rev_loose hit o (by rw [<- msp hp]; exact e)
   have hO : ∀ p ∈ [it], Own B H p := fun p hp => by rw [msp hp]; exact ho
   have hS : ∀ p, p ∈ [it] -> ∀ o, s.heap.get? p = some o -> ¬ IsSeqO o := fun p hp o eq => (hL p hp o eq).1
   subst hx
   cases i with
   | zero => exact wpAny_grow (wpAny_pyNext_rev_end R.handled (by simpa using hit) fun h' hx hz => ⟨rfl, own_only (t := s.toks) I (fun a o e hn => hx a o (fun q => hn (by simp [q])) e) hz hO hL⟩)
   | succ i =>
     obtain ⟨⟨vs, n, hl, hv⟩, O⟩ := id hs
     have hlt : i < xs.length := hi
     obtain ⟨v, e1, hr⟩ := hv.get (List.getElem?_eq_getElem hlt)
     have ht : (xs.take (i + 1)).reverse = xs[i] :: (xs.take i).reverse := by rw [List.take_succ_eq_append_getElem hlt]; simp
     rw [ht]
     rw [show ((i + 1 : Nat) : Int) - 1 = (i : Nat) by lia] at hit
     refine wpAny_pyNext_rev_item hit (lst_isList hl) (by rw [<- Array.getElem?_toList]; exact e1) fun h' hit' hs' => ⟨_, rfl, ?_⟩
     have o := own_only (t := s.toks) I (fun a o e hn => (hs'.2 a fun q => hn (by simp [q])).trans e) (by rw [hs'.1]; exact Nat.le_refl _) hO hL
     obtain ⟨oo, a1, a2, a3⟩ := id hit'
     refine letGo_plain a1 a2 rfl ⟨o, hr.ow o hS, i, Nat.le_of_lt hlt, hit', hs.only hS o, rfl, ho⟩
theorem CallI_rev {tgt : Expr} {v : PV} {xs : List PV} {Q : IQ} (hv : Items H v xs) (h : Q xs.reverse (depsOf v xs) H) : CallI B d E tgt (.raw (.type "reversed")) [v] H Q := fun A s R I fv vs r1 r2 => by
 obtain ⟨O, rfl⟩ := r1.inv
 obtain ⟨va, rfl, r⟩ := r2.one
 obtain ⟨l, rfl, hs, hd⟩ := Src.of hv I r
 obtain ⟨⟨ws, n, hl, hr⟩, O⟩ := id hs
 refine call_reversed_list (lst_isList hl) ?_
 have t := Tr.push I (revObj l ((ws.size : Int) - 1))
 have hit : ({ s with heap := s.heap.push (revObj l ((ws.size : Int) - 1)) } : Shared).heap.IsRevIter s.heap.objs.size l ((xs.length : Int) - 1) := ⟨_, Heap.get?_push_size _ rfl, rfl, by rw [<- hr.asize]; rfl⟩
 refine wpAny_pyIter_revIter hit (MadeO.made ⟨xs.reverse, depsOf v xs, H, _, _, _, t, Iter_JV tgt (depsOf v xs) s.heap.objs.size l xs, ⟨xs.length, Nat.le_refl _, hit, ⟨⟨ws, n, Heap.get?_push_of_some _ hl, hr.tr t⟩, hs.2⟩, by simp, I.size, not_trk_size I⟩, fun p hp => ?_, fun O f => f.elim, hd, h⟩)
 rw [msp hp]
 exact ⟨Nat.le_refl _, size_push_lt, not_trk_size I⟩
end
section
variable {B : Base} {fi : FnInfo} {d : Nat} {E : EP} {σ : St} {H : AH}
mutual
noncomputable def pd : PV -> PyData
 | .none => .none
 | .bool b => .bool b
 | .int i => .int i
 | .str s => .str s
 | .tup xs => .tuple (pds xs)
 | .list xs => .list (pds xs)
 | .bytes _ => .dict []
 | .lref _ => .dict []
 | .raw _ => .dict []
noncomputable def pds : List PV -> List PyData
 | [] => []
 | x :: xs => pd x :: pds xs
end
theorem VR.reads {T : Addr -> Prop} {h : Heap} {v : Value} {p : PV} (r : VR T h v p) : (pd p).canLay0 = true -> ∃ as, Reads h v (pd p) as :=
 VR.rec (motive_1 := fun v p O => (pd p).canLay0 = true -> ∃ as, Reads h v (pd p) as) (motive_2 := fun vs ps O => PyData.canLayAll0 (pds ps) = true -> ∃ as, ReadsAll h vs (pds ps) as)
   (fun O => ⟨_, .none⟩) (fun b O => ⟨_, .bool b⟩) (fun i t O => ⟨_, .int i t⟩) (fun s t O => ⟨_, .str s t⟩) (fun O O c => by simp [pd, PyData.canLay0] at c) (fun ho O O ih c => (ih (by simpa only [pd, PyData.canLay0] using c)).elim fun O r => ⟨_, .tuple ho rfl rfl r⟩)
   (fun ho O O ih c => (ih (by simpa only [pd, PyData.canLay0] using c)).elim fun O r => ⟨_, .list ho rfl rfl r⟩) (fun O c => by simp [pd, PyData.canLay0] at c) (fun O c => by simp [pd, PyData.canLay0] at c) (fun O => ⟨_, .nil⟩) (fun O O ih1 ih2 c => by
     simp only [pds, PyData.canLayAll0, Bool.and_eq_true] at c
     obtain ⟨as, r1⟩ := ih1 c.1
     obtain ⟨bs, r2⟩ := ih2 c.2
     exact ⟨_, .cons r1 r2⟩) r
theorem VRs.reads {T : Addr -> Prop} {h : Heap} {vs : List Value} {ps : List PV} (r : VRs T h vs ps) : PyData.canLayAll0 (pds ps) = true -> ∃ as, ReadsAll h vs (pds ps) as :=
 r.ind (P := fun vs ps => PyData.canLayAll0 (pds ps) = true -> ∃ as, ReadsAll h vs (pds ps) as) (fun O => ⟨_, .nil⟩) fun O O O O a O ih c => by
   simp only [pds, PyData.canLayAll0, Bool.and_eq_true] at c
   obtain ⟨as, r1⟩ := a.reads c.1
   obtain ⟨bs, r2⟩ := ih c.2
   exact ⟨_, .cons r1 r2⟩
noncomputable def IsD (H : AH) (v p : PV) : Prop := v = p \/ ∃ xs, Items H v xs /\ p = .list xs
theorem IsD.self {v : PV} : IsD H v v := .inl rfl
theorem IsD.items {v : PV} {xs : List PV} (h : Items H v xs) : IsD H v (.list xs) := .inr ⟨xs, h, rfl⟩
theorem IsD.reads {v p : PV} {s : Shared} {va : Value} (h : IsD H v p) (I : Inv B H s) (r : VR (Trk B H) s.heap va v) (c : (pd p).canLay0 = true) : ∃ as, Reads s.heap va (pd p) as := by
 rcases h with rfl | ⟨xs, hv, rfl⟩
 . exact r.reads c
 . obtain ⟨a, vs, n, rfl, ho, hr⟩ := hv.at I r
   simp only [pd, PyData.canLay0] at c
   obtain ⟨as, q⟩ := hr.reads c
   exact ⟨_, .list ho rfl rfl q⟩
noncomputable def okD (p : PV) : Bool := SeqAt.shaped (pd p)
theorem room64 {A : Around} {d : Nat} (R : Room A d) : A.units + 64 < cLine := by have := R.units; lia
theorem Cmp_eqD {a b pa pb : PV} {Q : PQ} (ha : IsD H a pa) (hb : IsD H b pb) (oa : okD pa = true) (ob : okD pb = true) (h : Q (.bool (PyData.eqv (pd pa) (pd pb))) H) : V2 B d E (compareOp .Eq) a b H Q := fun A s R I va vb r1 r2 => by
 obtain ⟨O, q1⟩ := ha.reads I r1 (SeqAt.canLay_of_shaped oa)
 obtain ⟨O, q2⟩ := hb.reads I r2 (SeqAt.canLay_of_shaped ob)
 exact SeqAt.compareEq_shaped q1 q2 oa ob (room64 R) (EvPost.here I (.bool _) h)
theorem Cmp_neD {a b pa pb : PV} {Q : PQ} (ha : IsD H a pa) (hb : IsD H b pb) (oa : okD pa = true) (ob : okD pb = true) (h : Q (.bool (!PyData.eqv (pd pa) (pd pb))) H) : V2 B d E (compareOp .NotEq) a b H Q := fun A s R I va vb r1 r2 => by
 obtain ⟨O, q1⟩ := ha.reads I r1 (SeqAt.canLay_of_shaped oa)
 obtain ⟨O, q2⟩ := hb.reads I r2 (SeqAt.canLay_of_shaped ob)
 exact SeqAt.compareNe_shaped q1 q2 oa ob (room64 R) (EvPost.here I (.bool _) h)
theorem pds_map {α : Type} (f : α -> PV) : ∀ l : List α, pds (l.map f) = l.map fun a => pd (f a)
 | [] => rfl
 | a :: l => by simp only [List.map_cons, pds, pds_map f l]
theorem canLay_all {α : Type} (f : α -> PV) : ∀ l : List α, (∀ a ∈ l, (pd (f a)).canLay0 = true) -> PyData.canLayAll0 (pds (l.map f)) = true
 | [], _ => rfl
 | a :: l, h => by simp only [List.map_cons, pds, PyData.canLayAll0, h a mcs, canLay_all f l fun b hb => h b (mcm _ hb), Bool.and_self]
theorem depth_all {α : Type} (f : α -> PV) (n : Nat) : ∀ l : List α, (∀ a ∈ l, (pd (f a)).depth <= n) -> PyData.depthAll (pds (l.map f)) <= n
 | [], _ => Nat.zero_le _
 | a :: l, h => by
   simp only [List.map_cons, pds, PyData.depthAll]
   exact Nat.max_le.mpr ⟨h a mcs, depth_all f n l fun b hb => h b (mcm _ hb)⟩
theorem okD_list {α : Type} {f : α -> PV} {l : List α} (n : Nat) (hn : n <= 63) (hc : ∀ a ∈ l, (pd (f a)).canLay0 = true) (hd : ∀ a ∈ l, (pd (f a)).depth <= n) : okD (.list (l.map f)) = true := by
 have h1 := canLay_all f l hc
 have h2 := depth_all f n l hd
 simp only [okD, SeqAt.shaped, pd, PyData.canLay0, PyData.depth, h1, Bool.true_and, decide_eq_true_eq]
 lia
theorem okD_ints (ns : List Int) : okD (.list (ns.map PV.int)) = true := okD_list 0 (by decide) (fun O O => rfl) (fun O O => Nat.le_refl _)
theorem okD_bools (ns : List Bool) : okD (.list (ns.map PV.bool)) = true := okD_list 0 (by decide) (fun O O => rfl) (fun O O => Nat.le_refl _)
theorem okD_strs (ns : List Str) (h : ∀ x ∈ ns, PyData.strOk x = true) : okD (.list (ns.map PV.str)) = true := okD_list 0 (by decide) (fun x hx => h x hx) (fun O O => Nat.le_refl _)
theorem eqvAll_map {α : Type} [DecidableEq α] (f : α -> PyData) (hf : ∀ a b, PyData.eqv (f a) (f b) = decide (a = b)) : ∀ l m : List α, PyData.eqvAll (l.map f) (m.map f) = decide (l = m)
 | [], [] => by simp [PyData.eqvAll]
 | [], _ :: _ => by simp [PyData.eqvAll]
 | _ :: _, [] => by simp [PyData.eqvAll]
 | a :: r, b :: t => by
   simp only [List.map_cons, PyData.eqvAll, hf, eqvAll_map f hf r t]
   by_cases h : a = b <;> by_cases h' : r = t <;> simp [h, h']
theorem eqv_ints (ns ms : List Int) : PyData.eqv (pd (.list (ns.map PV.int))) (pd (.list (ms.map PV.int))) = decide (ns = ms) := by
 simp only [pd, PyData.eqv, pds_map]
 exact eqvAll_map PyData.int (fun a b => by simp only [PyData.eqv]; by_cases h : a = b <;> simp [h]) ns ms
theorem eqv_bools (ns ms : List Bool) : PyData.eqv (pd (.list (ns.map PV.bool))) (pd (.list (ms.map PV.bool))) = decide (ns = ms) := by
 simp only [pd, PyData.eqv, pds_map]
 exact eqvAll_map PyData.bool (fun a b => by simp only [PyData.eqv]; by_cases h : a = b <;> simp [h]) ns ms
theorem eqv_strs (ns ms : List Str) : PyData.eqv (pd (.list (ns.map PV.str))) (pd (.list (ms.map PV.str))) = decide (ns = ms) := by
 simp only [pd, PyData.eqv, pds_map]
 exact eqvAll_map PyData.str (fun a b => by simp only [PyData.eqv]; by_cases h : a = b <;> simp [h]) ns ms
theorem Cmp_eqI {a b : PV} {ns ms : List Int} {Q : PQ} (ha : Items H a (ns.map .int)) (hb : Items H b (ms.map .int)) (h : Q (.bool (decide (ns = ms))) H) : V2 B d E (compareOp .Eq) a b H Q :=
 Cmp_eqD (.items ha) (.items hb) (okD_ints _) (okD_ints _) (by rw [eqv_ints]; exact h)
theorem Cmp_neI {a b : PV} {ns ms : List Int} {Q : PQ} (ha : Items H a (ns.map .int)) (hb : Items H b (ms.map .int)) (h : Q (.bool (!decide (ns = ms))) H) : V2 B d E (compareOp .NotEq) a b H Q :=
 Cmp_neD (.items ha) (.items hb) (okD_ints _) (okD_ints _) (by rw [eqv_ints]; exact h)
theorem Cmp_eqSs {a b : PV} {ns ms : List Str} {Q : PQ} (ha : Items H a (ns.map .str)) (hb : Items H b (ms.map .str)) (h1 : ∀ x ∈ ns, PyData.strOk x = true) (h2 : ∀ x ∈ ms, PyData.strOk x = true) (h : Q (.bool (decide (ns = ms))) H) : V2 B d E (compareOp .Eq) a b H Q :=
 Cmp_eqD (.items ha) (.items hb) (okD_strs _ h1) (okD_strs _ h2) (by rw [eqv_strs]; exact h)
theorem Cmp_neSs {a b : PV} {ns ms : List Str} {Q : PQ} (ha : Items H a (ns.map .str)) (hb : Items H b (ms.map .str)) (h1 : ∀ x ∈ ns, PyData.strOk x = true) (h2 : ∀ x ∈ ms, PyData.strOk x = true) (h : Q (.bool (!decide (ns = ms))) H) : V2 B d E (compareOp .NotEq) a b H Q :=
 Cmp_neD (.items ha) (.items hb) (okD_strs _ h1) (okD_strs _ h2) (by rw [eqv_strs]; exact h)
theorem Cmp_neBs {a b : PV} {ns ms : List Bool} {Q : PQ} (ha : Items H a (ns.map .bool)) (hb : Items H b (ms.map .bool)) (h : Q (.bool (!decide (ns = ms))) H) : V2 B d E (compareOp .NotEq) a b H Q :=
 Cmp_neD (.items ha) (.items hb) (okD_bools _) (okD_bools _) (by rw [eqv_bools]; exact h)
theorem Tru_items {v : PV} {xs : List PV} {Q : BQ} (hv : Items H v xs) (hfit : xs.length < 2 ^ 60) (h : Q (!xs.isEmpty) H) : Tru B d E v H Q := fun A s R I va r => by
 obtain ⟨a, vs, n, rfl, ho, hr⟩ := hv.at I r
 refine wpAny_truthy_list (lst_isList ho) (by rw [hr.asize]; lia) ⟨H, Tr.tok I _, ?_⟩
 have : vs.isEmpty = xs.isEmpty := by
   have h1 := hr.asize
   cases xs with
   | nil => simpa using h1
   | cons y ys =>
     have h2 : vs.size ≠ 0 := by rw [h1]; simp
     simp only [Array.isEmpty, List.isEmpty_cons]
     exact decide_eq_false h2
 rw [this]; exact h
theorem Bin_shl {a n : Int} {Q : PQ} (hn : 0 <= n) (hsz : (Builtin.Int.intBits a : Int) + n <= 2 ^ 27) (h : Q (.int (a * 2 ^ n.toNat)) H) : V2 B d E (binaryOp .LShift) (.int a) (.int n) H Q := fun A s R I va vb r1 r2 => by
 obtain ⟨O, rfl⟩ := r1.inv; obtain ⟨O, rfl⟩ := r2.inv; exact lshift_int hn hsz ⟨_, _, Tr.tok I _, .int _ _, h⟩
theorem In_shl {a n : Int} {Q : PQ} (hn : 0 <= n) (hsz : (Builtin.Int.intBits a : Int) + n <= 2 ^ 27) (h : Q (.int (a * 2 ^ n.toNat)) H) : V2 B d E (inplaceOp .LShift) (.int a) (.int n) H Q := fun A s R I va vb r1 r2 => by
 obtain ⟨O, rfl⟩ := r1.inv; obtain ⟨O, rfl⟩ := r2.inv; exact ilshift_int hn hsz ⟨_, _, Tr.tok I _, .int _ _, h⟩
theorem In_shr {a n : Int} {Q : PQ} (hn : 0 <= n) (h : Q (.int (a.fdiv (2 ^ n.toNat))) H) : V2 B d E (inplaceOp .RShift) (.int a) (.int n) H Q := fun A s R I va vb r1 r2 => by
 obtain ⟨O, rfl⟩ := r1.inv; obtain ⟨O, rfl⟩ := r2.inv; exact irshift_int hn ⟨_, _, Tr.tok I _, .int _ _, h⟩
theorem Call_divmod {a b : Int} {Q : PQ} (hb : b ≠ 0) (hp : Builtin.divisionGoesByPylong a b = false) (h : Q (.tup [.int (a.fdiv b), .int (a.fmod b)]) H) : CallV B d E (.raw (.builtin "divmod")) [.int a, .int b] [] H Q := CallV.at fun A s R I vs r fv rf => by
 obtain ⟨x, y, rfl, r1, r2⟩ := r.two
 obtain ⟨O, rfl⟩ := rf.inv; obtain ⟨O, rfl⟩ := r1.inv; obtain ⟨O, rfl⟩ := r2.inv
 refine divmod_int hb ?_ (.inl hp)
 have t := Tr.pushTok I (tupObj #[.int (a.fdiv b) s.toks, .int (a.fmod b) (s.toks + 1)] 0) (s.toks + 1 + 1)
 exact ⟨_, _, t, .tup (vs := #[.int (a.fdiv b) s.toks, .int (a.fmod b) (s.toks + 1)]) (n := 0) (Heap.get?_push_size _ rfl) (not_trk_size I) (.cons (.int _ _) (.cons (.int _ _) .nil)), h⟩
end
section
variable {B : Base} {fi : FnInfo} {d : Nat} {E : EP} {σ : St} {H : AH}
theorem EvL_nil {Q : LQ} (h : Q [] H) : EvL B fi d E [] σ H Q := h
theorem EvL_cons {e : Expr} {r : List Expr} {Q : LQ} (h : Ev B fi d E e σ H fun v H₁ => EvL B fi d E r σ H₁ fun vs H₂ => Q (v :: vs) H₂) : EvL B fi d E (e :: r) σ H Q := h
theorem TstL_nil {op : BoolOp} {Q : BQ} (h : Q (op == .And) H) : TstL B fi d E op [] σ H Q := h
theorem TstL_or {x : Expr} {r : List Expr} {Q : BQ} (h : Tst B fi d E x σ H fun b H₁ => if b = true then Q true H₁ else TstL B fi d E .Or r σ H₁ Q) : TstL B fi d E .Or (x :: r) σ H Q := by
 show Tst B fi d E x σ H fun b H₁ => if b = (BoolOp.Or == BoolOp.Or) then Q b H₁ else TstL B fi d E .Or r σ H₁ Q
 intro A s env e R I F
 refine wpAny_mono (h A s env e R I F) (fun b s' ⟨H', t, q⟩ => ⟨H', t, ?_⟩) fun O O x => x
 cases b <;> exact q
theorem AsgL_nil {Q : SQ} (h : Q σ H) : AsgL B fi d E [] [] σ H Q := h
theorem Puts_nil {Q : St -> Prop} (h : Q σ) : Puts fi [] [] σ Q := h
theorem Puts_L {x : Str} {xs : List Str} {v : PV} {vs : List PV} {σ' : St} {Q : St -> Prop} (hr : Rep x v .local σ σ') (h : Puts fi xs vs σ' Q) : Puts fi (x :: xs) (v :: vs) σ Q := ⟨_, _, hr, Stb_L, h⟩
theorem EvO_none {Q : Option Int -> AH -> Prop} (h : Q none H) : EvO B fi d E none σ H Q := h
theorem EvO_int {e : Expr} {Q : Option Int -> AH -> Prop} (h : Ev B fi d E e σ H fun v H₁ => ∃ i, v = .int i /\ Q (some i) H₁) : EvO B fi d E (some e) σ H Q := Ev.mono h fun v H' q => .inl q
theorem int_is {i : Int} {P : Int -> Prop} (h : P i) : ∃ j, PV.int i = .int j /\ P j := ⟨i, rfl, h⟩
theorem Asg_N {x : Str} {pos : Pos} {v : PV} {Q : SQ} (h : ∃ k σ', Rep x v k σ σ' /\ storable fi k /\ Q σ' H) : Asg B fi d E (.Name x pos) v σ H Q := Asg_Name h
theorem Asg_T {ts : List Expr} {k : Nat} {pos : Pos} {xs : List PV} {Q : SQ} (hl : ts.length = xs.length) (hp : ts.all plainE = true) (h : AsgL B fi d E ts xs σ H Q) : Asg B fi d E (.Tuple ts k pos) (.tup xs) σ H Q := Asg_Tuple (.inl rfl) hl h hp
theorem ForL_nil {tgt : Expr} {body : List Stmt} {deps : AH} {Qn : SQ} {Qf : FQ} (h : Qn σ H) : ForL B fi d tgt body deps [] σ H Qn Qf := h
theorem ForL_cons {tgt : Expr} {body : List Stmt} {deps : AH} {x : PV} {xs : List PV} {Qn : SQ} {Qf : FQ}
   (h : Asg B fi d NoE tgt x σ H fun σ₁ H₁ => Xs B fi d NoE body σ₁ H₁ (fun σ₂ H₂ => (∀ p ∈ deps, p ∈ H₂) /\ ForL B fi d tgt body deps xs σ₂ H₂ Qn Qf)
     (fun σ₂ pf H₂ => match pf with
       | .cont => (∀ p ∈ deps, p ∈ H₂) /\ ForL B fi d tgt body deps xs σ₂ H₂ Qn Qf
       | .brk => Qn σ₂ H₂
       | .ret v => Qf σ₂ (.ret v) H₂)) : ForL B fi d tgt body deps (x :: xs) σ H Qn Qf := h
theorem V2.mono {t : Value -> Value -> Sem Value} {a b : PV} {Q Q' : PQ} (h : V2 B d E t a b H Q) (hq : ∀ v H', Q v H' -> Q' v H') : V2 B d E t a b H Q' :=
 fun A s R I va vb r1 r2 => wpAny_mono (h A s R I va vb r1 r2) (fun O O p => EvPost.mono hq p) fun O O x => x
theorem noPyS {a b : Int} (h : b.natAbs < 2 ^ 64) : Builtin.divisionGoesByPylong a b = false := noPy (nlt h (Nat.pow_le_pow_right (by decide) (by decide)))
end
theorem ifp {c : Prop} [Decidable c] {a b : Prop} (h : c) (q : a) : if c then a else b := (if_pos h).symm ▸ q
theorem dk {d k n : Nat} (h : Nat.ble n k = true) : n <= d + k := ntr (Nat.le_of_ble_eq_true h) (Nat.le_add_left k d)
theorem lt63 {j n : Nat} (h : j < n) (hn : n < 2 ^ 60) : (j : Int) < 2 ^ 63 := by omega
theorem bl {a b : Nat} (h : Nat.ble a b = true) : a <= b := Nat.le_of_ble_eq_true h
theorem ifn {c : Prop} [Decidable c] {a b : Prop} (h : ¬c) (q : b) : if c then a else b := (if_neg h).symm ▸ q
theorem ifpd {c : Prop} [Decidable c] {a b : Prop} (h : c) (q : a) : if decide c = true then a else b := ifp (decide_eq_true h) q
theorem ifnd {c : Prop} [Decidable c] {a b : Prop} (h : ¬c) (q : b) : if decide c = true then a else b := ifn (fun e => h (of_decide_eq_true e)) q
theorem ifnn {c : Prop} [Decidable c] {a b : Prop} (h : c) (q : b) : if (!decide c) = true then a else b := ifn (by rw [decide_eq_true h]; exact Bool.false_ne_true) q
theorem ifpn {c : Prop} [Decidable c] {a b : Prop} (h : ¬c) (q : a) : if (!decide c) = true then a else b := ifp (by rw [decide_eq_false h]; rfl) q
section
variable {α : Type} {e a b c x0 x1 x2 x3 x4 x5 x6 x7 : α} {l : List α}
theorem Has.h1 : Has e (x0 :: e :: l) := .tail .head
theorem Has.h2 : Has e (x0 :: x1 :: e :: l) := .tail .h1
theorem Has.h3 : Has e (x0 :: x1 :: x2 :: e :: l) := .tail .h2
theorem Has.h4 : Has e (x0 :: x1 :: x2 :: x3 :: e :: l) := .tail .h3
theorem Has.h5 : Has e (x0 :: x1 :: x2 :: x3 :: x4 :: e :: l) := .tail .h4
theorem Has.h6 : Has e (x0 :: x1 :: x2 :: x3 :: x4 :: x5 :: e :: l) := .tail .h5
theorem Has.h7 : Has e (x0 :: x1 :: x2 :: x3 :: x4 :: x5 :: x6 :: e :: l) := .tail .h6
theorem Has.t8 (h : Has e l) : Has e (x0 :: x1 :: x2 :: x3 :: x4 :: x5 :: x6 :: x7 :: l) := .tail (.tail (.tail (.tail (.tail (.tail (.tail (.tail h)))))))
end
section
variable {x : Str} {p : PV} {k : NameKind} {ov : Option PV} {e0 e1 e2 e3 e4 e5 e6 e7 : Str × NameKind × Option PV} {r r' : St}
theorem Rep.h1 : Rep x p k (e0 :: (x, k, ov) :: r) (e0 :: (x, k, some p) :: r) := .tail .head
theorem Rep.h2 : Rep x p k (e0 :: e1 :: (x, k, ov) :: r) (e0 :: e1 :: (x, k, some p) :: r) := .tail .h1
theorem Rep.h3 : Rep x p k (e0 :: e1 :: e2 :: (x, k, ov) :: r) (e0 :: e1 :: e2 :: (x, k, some p) :: r) := .tail .h2
theorem Rep.h4 : Rep x p k (e0 :: e1 :: e2 :: e3 :: (x, k, ov) :: r) (e0 :: e1 :: e2 :: e3 :: (x, k, some p) :: r) := .tail .h3
theorem Rep.h5 : Rep x p k (e0 :: e1 :: e2 :: e3 :: e4 :: (x, k, ov) :: r) (e0 :: e1 :: e2 :: e3 :: e4 :: (x, k, some p) :: r) := .tail .h4
theorem Rep.h6 : Rep x p k (e0 :: e1 :: e2 :: e3 :: e4 :: e5 :: (x, k, ov) :: r) (e0 :: e1 :: e2 :: e3 :: e4 :: e5 :: (x, k, some p) :: r) := .tail .h5
theorem Rep.h7 : Rep x p k (e0 :: e1 :: e2 :: e3 :: e4 :: e5 :: e6 :: (x, k, ov) :: r) (e0 :: e1 :: e2 :: e3 :: e4 :: e5 :: e6 :: (x, k, some p) :: r) := .tail .h6
theorem Rep.t8 (h : Rep x p k r r') : Rep x p k (e0 :: e1 :: e2 :: e3 :: e4 :: e5 :: e6 :: e7 :: r) (e0 :: e1 :: e2 :: e3 :: e4 :: e5 :: e6 :: e7 :: r') := .tail (.tail (.tail (.tail (.tail (.tail (.tail (.tail h)))))))
end
section
variable {B : Base} {fi : FnInfo} {d : Nat} {E : EP} {σ : St} {H : AH}
noncomputable def PE (B : Base) (fi : FnInfo) (d : Nat) (E : EP) (σ : St) (H : AH) (e : Expr) (v : PV) : Prop := ∀ Q : PQ, Q v H -> Ev B fi d E e σ H Q
noncomputable def PL (B : Base) (fi : FnInfo) (d : Nat) (E : EP) (σ : St) (H : AH) (e : List Expr) (v : List PV) : Prop := ∀ Q : LQ, Q v H -> EvL B fi d E e σ H Q
noncomputable def PT (B : Base) (fi : FnInfo) (d : Nat) (E : EP) (σ : St) (H : AH) (e : Expr) (c : Bool) : Prop := ∀ Q : BQ, Q c H -> Tst B fi d E e σ H Q
noncomputable def P2 (B : Base) (d : Nat) (E : EP) (H : AH) (t : Value -> Value -> Sem Value) (a b v : PV) : Prop := ∀ Q : PQ, Q v H -> V2 B d E t a b H Q
noncomputable def P1 (B : Base) (d : Nat) (E : EP) (H : AH) (t : Value -> Sem Value) (a v : PV) : Prop := ∀ Q : PQ, Q v H -> V1 B d E t a H Q
theorem cast_v {Q : PQ} {v w : PV} {H : AH} (h : v = w) (q : Q w H) : Q v H := h ▸ q
theorem V2_castL {t : Value -> Value -> Sem Value} {a b c : PV} {Q : PQ} (h : a = c) (q : V2 B d E t c b H Q) : V2 B d E t a b H Q := h ▸ q
theorem Ev_P {e : Expr} {v : PV} {Q : PQ} (p : PE B fi d E σ H e v) (q : Q v H) : Ev B fi d E e σ H Q := p Q q
theorem EvL_P {e : List Expr} {v : List PV} {Q : LQ} (p : PL B fi d E σ H e v) (q : Q v H) : EvL B fi d E e σ H Q := p Q q
theorem Tst_P {e : Expr} {c : Bool} {Q : BQ} (p : PT B fi d E σ H e c) (q : Q c H) : Tst B fi d E e σ H Q := p Q q
theorem V2_P {t : Value -> Value -> Sem Value} {a b v : PV} {Q : PQ} (p : P2 B d E H t a b v) (q : Q v H) : V2 B d E t a b H Q := p Q q
noncomputable def PK (x : Str) (k : NameKind) : Prop := (k = .local \/ k = .globalImplicit \/ k = .cell \/ (k = .free /\ (x == ("__classdict__" : Str)) = false)) /\ (x == ("__debug__" : Str)) = false
theorem PK_L {x : Str} (h : (x == ("__debug__" : Str)) = false) : PK x .local := ⟨.inl rfl, h⟩
theorem PK_G {x : Str} (h : (x == ("__debug__" : Str)) = false) : PK x .globalImplicit := ⟨.inr (.inl rfl), h⟩
theorem PK_C {x : Str} (h : (x == ("__debug__" : Str)) = false) : PK x .cell := ⟨.inr (.inr (.inl rfl)), h⟩
theorem PK_F {x : Str} (h : (x == ("__debug__" : Str)) = false) (h2 : (x == ("__classdict__" : Str)) = false) : PK x .free := ⟨.inr (.inr (.inr ⟨rfl, h2⟩)), h⟩
theorem P_N {x : Str} {k : NameKind} {v : PV} {pos : Pos} (h : Has (x, k, some v) σ) (hk : PK x k) : PE B fi d E σ H (.Name x pos) v := fun Q q => by
 obtain ⟨hk, hd⟩ := hk
 refine Ev_Name ?_ hd
 rcases hk with rfl | rfl | rfl | ⟨rfl, h2⟩
 . exact Ld_L h q
 . exact Ld_G h q
 . exact Ld_C h q
 . exact Ld_F h q h2
theorem P_i {i : Int} {k : Nat} {pos : Pos} : PE B fi d E σ H (.Constant (.int i) k pos) (.int i) := fun O q => Ev_int q
theorem P_s {x : Str} {k : Nat} {pos : Pos} : PE B fi d E σ H (.Constant (.str x) k pos) (.str x) := fun O q => Ev_str q
theorem P_y {x : List UInt8} {k : Nat} {pos : Pos} : PE B fi d E σ H (.Constant (.bytes x) k pos) (.bytes x.toArray) := fun O q => Ev_bytes q
theorem P_o {b : Bool} {k : Nat} {pos : Pos} : PE B fi d E σ H (.Constant (.bool b) k pos) (.bool b) := fun O q => Ev_bool q
theorem P_n {k : Nat} {pos : Pos} : PE B fi d E σ H (.Constant .none k pos) .none := fun O q => Ev_none q
theorem P_bin {l r : Expr} {op : Operator} {pos : Pos} {a b v : PV} (h1 : PE B fi d E σ H l a) (h2 : PE B fi d E σ H r b) (h3 : P2 B d E H (binaryOp op) a b v) : PE B fi d E σ H (.BinOp l op r pos) v := fun Q q => Ev_BinOp (h1 _ (h2 _ (h3 Q q)))
theorem P_cmp {l r : Expr} {op : CmpOp} {pos : Pos} {a b v : PV} (h1 : PE B fi d E σ H l a) (h2 : PE B fi d E σ H r b) (h3 : P2 B d E H (compareOp op) a b v) (hm : behindInMarks op r = false) : PE B fi d E σ H (.Compare l [op] [r] pos) v := fun Q q => Ev_Compare1 (h1 _ (h2 _ (h3 Q q))) hm
theorem P_un {l : Expr} {op : UnaryOp} {pos : Pos} {a v : PV} (h1 : PE B fi d E σ H l a) (h3 : P1 B d E H (unaryOp op) a v) : PE B fi d E σ H (.UnaryOp op l pos) v := fun Q q => Ev_UnaryOp (h1 _ (h3 Q q))
theorem P_nil : PL B fi d E σ H [] [] := fun O q => EvL_nil q
theorem P_cons {e : Expr} {r : List Expr} {v : PV} {vs : List PV} (h1 : PE B fi d E σ H e v) (h2 : PL B fi d E σ H r vs) : PL B fi d E σ H (e :: r) (v :: vs) := fun O q => EvL_cons (h1 _ (h2 _ q))
theorem P_tup {es : List Expr} {k : Nat} {pos : Pos} {vs : List PV} (h : PL B fi d E σ H es vs) (hp : es.all plainE = true) (hl : es.length <= 64) : PE B fi d E σ H (.Tuple es k pos) (.tup vs) := fun O q => Ev_Tuple (h _ q) hp hl
theorem P_add {a b : Int} : P2 B d E H (binaryOp .Add) (.int a) (.int b) (.int (a + b)) := fun O q => Bin_add q
theorem P_sub {a b : Int} : P2 B d E H (binaryOp .Sub) (.int a) (.int b) (.int (a - b)) := fun O q => Bin_sub q
theorem P_and {a b : Int} : P2 B d E H (binaryOp .BitAnd) (.int a) (.int b) (.int (Builtin.bitAnd a b)) := fun O q => Bin_and q
theorem P_or {a b : Int} : P2 B d E H (binaryOp .BitOr) (.int a) (.int b) (.int (Builtin.bitOr a b)) := fun O q => Bin_or q
theorem P_xor {a b : Int} : P2 B d E H (binaryOp .BitXor) (.int a) (.int b) (.int (Builtin.bitXor a b)) := fun O q => Bin_xor q
theorem P_neg {a : Int} : P1 B d E H (unaryOp .USub) (.int a) (.int (-a)) := fun O q => Un_neg q
theorem P_inv {a : Int} : P1 B d E H (unaryOp .Invert) (.int a) (.int (Builtin.bitNot a)) := fun O q => Un_inv q
theorem P_eq {a b : Int} : P2 B d E H (compareOp .Eq) (.int a) (.int b) (.bool (a == b)) := fun O q => Cmp_eq q
theorem P_ne {a b : Int} : P2 B d E H (compareOp .NotEq) (.int a) (.int b) (.bool (a != b)) := fun O q => Cmp_ne q
theorem P_lt {a b : Int} : P2 B d E H (compareOp .Lt) (.int a) (.int b) (.bool (decide (a < b))) := fun O q => Cmp_lt q
theorem P_le {a b : Int} : P2 B d E H (compareOp .LtE) (.int a) (.int b) (.bool (decide (a <= b))) := fun O q => Cmp_le q
theorem P_gt {a b : Int} : P2 B d E H (compareOp .Gt) (.int a) (.int b) (.bool (decide (a > b))) := fun O q => Cmp_gt q
theorem P_is {a b : PV} (hb : plainPV b = true) (ha : notBuiltin a = true) : P2 B d E H (compareOp .Is) a b (.bool (isPV a b)) := fun O q => Cmp_is q hb ha
theorem P_isn {a b : PV} (hb : plainPV b = true) (ha : notBuiltin a = true) : P2 B d E H (compareOp .IsNot) a b (.bool (!isPV a b)) := fun O q => Cmp_isnot q hb ha
theorem P_eqS {x y : Str} : P2 B d E H (compareOp .Eq) (.str x) (.str y) (.bool (decide (x = y))) := fun O q => Cmp_eqS q
theorem P_neS {x y : Str} : P2 B d E H (compareOp .NotEq) (.str x) (.str y) (.bool (!decide (x = y))) := fun O q => Cmp_neS q
theorem P_ninS {x y : Str} : P2 B d E H (compareOp .NotIn) (.str y) (.str x) (.bool (!Txt.contains x y)) := fun O q => Cmp_ninS q
theorem T_cmp {l r : Expr} {op : CmpOp} {pos : Pos} {a b : PV} {c : Bool} (h1 : PE B fi d E σ H l a) (h2 : PE B fi d E σ H r b) (h3 : P2 B d E H (compareOp op) a b (.bool c)) (hm : behindInMarks op r = false) : PT B fi d E σ H (.Compare l [op] [r] pos) c :=
 fun O q => Tst_Compare1 (h1 _ (h2 _ (h3 _ (Tru_bool q)))) hm
theorem T_int {e : Expr} {a : Int} (h : PE B fi d E σ H e (.int a)) (he : ∀ env w, isTrue e env w = (do let v <- w; standAt e.pos; holding [v] (truthy v))) : PT B fi d E σ H e (a != 0) := fun O q => Tst_plain (h _ (Tru_int q)) he
theorem T_bool {e : Expr} {c : Bool} (h : PE B fi d E σ H e (.bool c)) (he : ∀ env w, isTrue e env w = (do let v <- w; standAt e.pos; holding [v] (truthy v))) : PT B fi d E σ H e c := fun O q => Tst_plain (h _ (Tru_bool q)) he
end
section
noncomputable abbrev qB2 (B : Base) (d : Nat) (E : EP) (op : Operator) (a : PV) (Q : PQ) : PQ := fun b H₂ => V2 B d E (binaryOp op) a b H₂ Q
noncomputable abbrev qB1 (B : Base) (fi : FnInfo) (d : Nat) (E : EP) (op : Operator) (r : Expr) (σ : St) (Q : PQ) : PQ := fun a H₁ => Ev B fi d E r σ H₁ (qB2 B d E op a Q)
noncomputable abbrev qC2 (B : Base) (d : Nat) (E : EP) (op : CmpOp) (a : PV) (Q : PQ) : PQ := fun b H₂ => V2 B d E (compareOp op) a b H₂ Q
noncomputable abbrev qC1 (B : Base) (fi : FnInfo) (d : Nat) (E : EP) (op : CmpOp) (r : Expr) (σ : St) (Q : PQ) : PQ := fun a H₁ => Ev B fi d E r σ H₁ (qC2 B d E op a Q)
noncomputable abbrev qT (B : Base) (d : Nat) (E : EP) (Q : BQ) : PQ := fun v H₁ => Tru B d E v H₁ Q
noncomputable abbrev qNot (Q : BQ) : BQ := fun b H₁ => Q (!b) H₁
noncomputable def qOr (B : Base) (fi : FnInfo) (d : Nat) (E : EP) (r : List Expr) (σ : St) (Q : BQ) : BQ := fun b H₁ => if b = true then Q true H₁ else TstL B fi d E .Or r σ H₁ Q
noncomputable abbrev qL2 (v : PV) (Q : LQ) : LQ := fun vs H₂ => Q (v :: vs) H₂
noncomputable abbrev qL1 (B : Base) (fi : FnInfo) (d : Nat) (E : EP) (r : List Expr) (σ : St) (Q : LQ) : PQ := fun v H₁ => EvL B fi d E r σ H₁ (qL2 v Q)
noncomputable abbrev qTup (Q : PQ) : LQ := fun vs H₁ => Q (.tup vs) H₁
noncomputable abbrev qX (B : Base) (fi : FnInfo) (d : Nat) (E : EP) (rest : List Stmt) (Qn : SQ) (Qf : FQ) : SQ := fun σ' H' => Xs B fi d E rest σ' H' Qn Qf
noncomputable abbrev qP (fi : FnInfo) (x : Str) (σ : St) (Qn : SQ) : PQ := fun v H₁ => ∃ k σ', Rep x v k σ σ' /\ storable fi k /\ Qn σ' H₁
noncomputable abbrev qR (σ : St) (Qf : FQ) : PQ := fun v H₁ => Qf σ (.ret v) H₁
noncomputable abbrev qE (σ : St) (Qn : SQ) : PQ := fun O H₁ => Qn σ H₁
noncomputable def qI (B : Base) (fi : FnInfo) (d : Nat) (E : EP) (b o : List Stmt) (σ : St) (Qn : SQ) (Qf : FQ) : BQ := fun c H₁ => if c then Xs B fi d E b σ H₁ Qn Qf else Xs B fi d E o σ H₁ Qn Qf
noncomputable abbrev qA3 (B : Base) (d : Nat) (E : EP) (op : Operator) (a : PV) (fi : FnInfo) (x : Str) (σ : St) (Qn : SQ) : PQ := fun v H₂ => V2 B d E (inplaceOp op) a v H₂ (qP fi x σ Qn)
noncomputable abbrev qA1 (B : Base) (fi : FnInfo) (d : Nat) (E : EP) (op : Operator) (e : Expr) (x : Str) (σ : St) (Qn : SQ) : PQ := fun a H₁ => Ev B fi d E e σ H₁ (qA3 B d E op a fi x σ Qn)
noncomputable abbrev qCl2 (B : Base) (d : Nat) (E : EP) (f : PV) (Q : PQ) : LQ := fun vs H₂ => CallV B d E f vs [] H₂ Q
noncomputable abbrev qCl (B : Base) (fi : FnInfo) (d : Nat) (E : EP) (args : List Expr) (σ : St) (Q : PQ) : PQ := fun f H₁ => KeepsV B f /\ EvL B fi d E args σ H₁ (qCl2 B d E f Q)
noncomputable abbrev qIc2 (B : Base) (d : Nat) (E : EP) (tgt : Expr) (f : PV) (Q : IQ) : LQ := fun vs H₂ => CallI B d E tgt f vs H₂ Q
noncomputable abbrev qIc (B : Base) (fi : FnInfo) (d : Nat) (E : EP) (tgt : Expr) (args : List Expr) (σ : St) (Q : IQ) : PQ := fun f H₁ => KeepsV B f /\ EvL B fi d E args σ H₁ (qIc2 B d E tgt f Q)
noncomputable abbrev qS2 (B : Base) (d : Nat) (E : EP) (o : PV) (Q : PQ) : PQ := fun i H₂ => SubAt B o H₂ /\ V2 B d E getItem o i H₂ Q
noncomputable abbrev qS1 (B : Base) (fi : FnInfo) (d : Nat) (E : EP) (slice : Expr) (σ : St) (Q : PQ) : PQ := fun o H₁ => Ev B fi d E slice σ H₁ (qS2 B d E o Q)
noncomputable abbrev qSl4 (B : Base) (d : Nat) (E : EP) (o : PV) (l u : Option Int) (Q : PQ) : Option Int -> AH -> Prop := fun k H₄ => SubAt B o H₄ /\ GetSl B d E o l u k H₄ Q
noncomputable abbrev qSl3 (B : Base) (fi : FnInfo) (d : Nat) (E : EP) (st : Option Expr) (σ : St) (o : PV) (l : Option Int) (Q : PQ) : Option Int -> AH -> Prop := fun u H₃ => EvO B fi d E st σ H₃ (qSl4 B d E o l u Q)
noncomputable abbrev qSl2 (B : Base) (fi : FnInfo) (d : Nat) (E : EP) (hi st : Option Expr) (σ : St) (o : PV) (Q : PQ) : Option Int -> AH -> Prop := fun l H₂ => EvO B fi d E hi σ H₂ (qSl3 B fi d E st σ o l Q)
noncomputable abbrev qSl1 (B : Base) (fi : FnInfo) (d : Nat) (E : EP) (lo hi st : Option Expr) (σ : St) (Q : PQ) : PQ := fun o H₁ => EvO B fi d E lo σ H₁ (qSl2 B fi d E hi st σ o Q)
noncomputable abbrev qO (Q : Option Int -> AH -> Prop) : PQ := fun v H₁ => ∃ i, v = .int i /\ Q (some i) H₁
noncomputable abbrev qAs (B : Base) (fi : FnInfo) (d : Nat) (E : EP) (ts : List Expr) (vs : List PV) (Q : SQ) : SQ := fun σ₁ H₁ => AsgL B fi d E ts vs σ₁ H₁ Q
noncomputable abbrev qAt (B : Base) (fi : FnInfo) (d : Nat) (E : EP) (t : Expr) (σ : St) (Qn : SQ) : PQ := fun v H₁ => Asg B fi d E t v σ H₁ Qn
noncomputable abbrev qFo (B : Base) (fi : FnInfo) (d : Nat) (tgt : Expr) (body : List Stmt) (σ : St) (Qn : SQ) (Qf : FQ) : IQ := fun items deps H₁ => ForL B fi d tgt body deps items σ H₁ Qn Qf
variable {B : Base} {fi : FnInfo} {d : Nat} {E : EP} {σ : St} {H : AH} {Q : PQ} {T : BQ} {Qn : SQ} {Qf : FQ}
theorem Ev_BinOp' {l r : Expr} {op : Operator} {pos : Pos} (h : Ev B fi d E l σ H (qB1 B fi d E op r σ Q)) : Ev B fi d E (.BinOp l op r pos) σ H Q := Ev_BinOp h
theorem Ev_Compare1' {l r : Expr} {op : CmpOp} {pos : Pos} (h : Ev B fi d E l σ H (qC1 B fi d E op r σ Q)) (hm : behindInMarks op r = false) : Ev B fi d E (.Compare l [op] [r] pos) σ H Q := Ev_Compare1 h hm
theorem Tst_plain' {e : Expr} (h : Ev B fi d E e σ H (qT B d E T)) (he : ∀ env w, isTrue e env w = (do let v <- w; standAt e.pos; holding [v] (truthy v))) : Tst B fi d E e σ H T := Tst_plain h he
theorem Tst_Compare1' {l r : Expr} {op : CmpOp} {pos : Pos} (h : Ev B fi d E l σ H (qC1 B fi d E op r σ (qT B d E T))) (hm : behindInMarks op r = false) : Tst B fi d E (.Compare l [op] [r] pos) σ H T := Tst_Compare1 h hm
theorem Tst_Not' {x : Expr} {pos : Pos} (h : Tst B fi d E x σ H (qNot T)) : Tst B fi d E (.UnaryOp .Not x pos) σ H T := Tst_Not h
theorem TstL_or' {x : Expr} {r : List Expr} (h : Tst B fi d E x σ H (qOr B fi d E r σ T)) : TstL B fi d E .Or (x :: r) σ H T := TstL_or h
theorem qOr_un {r : List Expr} {b : Bool} (h : if b = true then T true H else TstL B fi d E .Or r σ H T) : qOr B fi d E r σ T b H := h
theorem qI_un {b o : List Stmt} {c : Bool} (h : if c then Xs B fi d E b σ H Qn Qf else Xs B fi d E o σ H Qn Qf) : qI B fi d E b o σ Qn Qf c H := h
theorem EvL_cons' {e : Expr} {r : List Expr} {Q : LQ} (h : Ev B fi d E e σ H (qL1 B fi d E r σ Q)) : EvL B fi d E (e :: r) σ H Q := h
theorem Ev_Tuple' {es : List Expr} {k : Nat} {pos : Pos} (h : EvL B fi d E es σ H (qTup Q)) (hp : es.all plainE = true) (hl : es.length <= 64) : Ev B fi d E (.Tuple es k pos) σ H Q := Ev_Tuple h hp hl
theorem Xs_cons' {st : Stmt} {rest : List Stmt} (h : X B fi d E st σ H (qX B fi d E rest Qn Qf) Qf) : Xs B fi d E (st :: rest) σ H Qn Qf := Xs_cons h
theorem X_Assign_Name' {x : Str} {pos' : Pos} {value : Expr} {pos : Pos} (h : Ev B fi d E value σ H (qP fi x σ Qn)) (hs : ∀ env, swapsWith value (some (.Name x pos')) pos.line env = pure false) : X B fi d E (.Assign [.Name x pos'] value pos) σ H Qn Qf := X_Assign_Name h hs
theorem X_Return' {e : Expr} {pos : Pos} (h : Ev B fi d E e σ H (qR σ Qf)) : X B fi d E (.Return (some e) pos) σ H Qn Qf := X_Return h
theorem X_Expr' {e : Expr} {pos : Pos} (h : Ev B fi d E e σ H (qE σ Qn)) (hs : ∀ env, swapsWith e none pos.line env = pure false) : X B fi d E (.Expr e pos) σ H Qn Qf := X_Expr h hs
theorem X_If' {t : Expr} {b o : List Stmt} {pos : Pos} (h : Tst B fi d E t σ H (qI B fi d E b o σ Qn Qf)) : X B fi d E (.If t b o pos) σ H Qn Qf := X_If h
theorem X_AugAssign_Name' {x : Str} {pos' : Pos} {op : Operator} {value : Expr} {pos : Pos} (h : Ld B fi d E x σ H (qA1 B fi d E op value x σ Qn)) : X B fi d E (.AugAssign (.Name x pos') op value pos) σ H Qn Qf := X_AugAssign_Name h
theorem Ev_Call' {func : Expr} {args : List Expr} {pos : Pos} (h : Ev B fi d E func σ H (qCl B fi d E args σ Q)) (hp : args.all plainE = true)
   (he : ∀ env, eval (.Call func args [] pos) env = (do callWith pos (<- eval func env) [] (backTo pos (starEach args env)) (backToKw pos (keywordEach [] env)))) : Ev B fi d E (.Call func args [] pos) σ H Q := Ev_Call h hp he
theorem EvI_Call' {tgt func : Expr} {args : List Expr} {pos : Pos} {Q : IQ} (h : Ev B fi d E func σ H (qIc B fi d E tgt args σ Q)) (hp : args.all plainE = true)
   (he : ∀ env, eval (.Call func args [] pos) env = (do callWith pos (<- eval func env) [] (backTo pos (starEach args env)) (backToKw pos (keywordEach [] env)))) : EvI B fi d E tgt (.Call func args [] pos) σ H Q := EvI_Call h hp he
theorem Ev_Sub' {value slice : Expr} {pos : Pos} (h : Ev B fi d E value σ H (qS1 B fi d E slice σ Q)) : Ev B fi d E (.Subscript value slice pos) σ H Q := Ev_Sub h
theorem Ev_SubSl' {value : Expr} {lo hi st : Option Expr} {spos pos : Pos} (h : Ev B fi d E value σ H (qSl1 B fi d E lo hi st σ Q)) : Ev B fi d E (.Subscript value (.Slice lo hi st spos) pos) σ H Q := Ev_SubSl h
theorem EvO_int' {e : Expr} {Q : Option Int -> AH -> Prop} (h : Ev B fi d E e σ H (qO Q)) : EvO B fi d E (some e) σ H Q := EvO_int h
theorem AsgL_cons' {t : Expr} {ts : List Expr} {v : PV} {vs : List PV} {Q : SQ} (h : Asg B fi d E t v σ H (qAs B fi d E ts vs Q)) : AsgL B fi d E (t :: ts) (v :: vs) σ H Q := h
theorem X_Assign_Tup' {ts : List Expr} {k : Nat} {tpos : Pos} {value : Expr} {pos : Pos} (h : Ev B fi d E value σ H (qAt B fi d E (.Tuple ts k tpos) σ Qn)) (hs : ∀ env, swapsWithSole [.Tuple ts k tpos] value pos.line env = pure false)
   (hw : ∀ env, EnvOk B fi env -> swappedStores [.Tuple ts k tpos] value env = pure none) : X B fi d E (.Assign [.Tuple ts k tpos] value pos) σ H Qn Qf := X_Assign_Tup h hs hw
theorem Asg_N' {x : Str} {pos : Pos} {v : PV} {Qn : SQ} (h : qP fi x σ Qn v H) : Asg B fi d E (.Name x pos) v σ H Qn := Asg_Name h
theorem X_For' {tgt it : Expr} {body : List Stmt} {pos : Pos} (h : EvI B fi d E tgt it σ H (qFo B fi d tgt body σ Qn Qf)) (hd : 3 <= d) (hs : ∀ env x, foldedSetIterable it env x = pure x) : X B fi d E (.For tgt it body [] pos) σ H Qn Qf := X_For h hd hs
end
noncomputable def Base.up (B : Base) (g : Heap) (hk : ∀ a o, B.g.get? a = some o -> g.get? a = some o) (ht : ∀ q ∈ B.tabs, g.get? q.2 = Option.none) : Base :=
 { B with g := g, inK := B.inK.keeps hk, nsg := B.nsg.keeps hk, nsb := B.nsb.keeps hk, nolimit := B.nolimit.keeps hk, tabsHidden := ht }
open Classical in
noncomputable def pinH (g h : Heap) (P : Addr -> Prop) : Heap :=
 { objs := Array.ofFn (n := h.objs.size) fun i => if P i.val then (h.objs[i.val]?).getD default else (g.objs[i.val]?).getD { cls := .none, data := .freed }, life := h.life }
theorem get?_eq {h h' : Heap} {a : Addr} (e : h.objs[a]? = h'.objs[a]?) : h.get? a = h'.get? a := by
 unfold Heap.get?; rw [e]
theorem pinH_size {g h : Heap} {P : Addr -> Prop} : (pinH g h P).objs.size = h.objs.size := by simp [pinH]
theorem pinH_in {g h : Heap} {P : Addr -> Prop} {a : Addr} (ha : P a) : (pinH g h P).get? a = h.get? a := by
 refine get?_eq ?_
 by_cases hl : @LT.lt Nat _ a h.objs.size
 . have : (pinH g h P).objs[a]? = some ((h.objs[a]?).getD default) := by
     rw [pinH, Array.getElem?_ofFn, dif_pos hl, if_pos ha]
   rw [this, Array.getElem?_eq_getElem hl]
   rfl
 . rw [Array.getElem?_eq_none (by rw [pinH_size]; exact Nat.le_of_not_lt hl), Array.getElem?_eq_none (Nat.le_of_not_lt hl)]
theorem pinH_out {g h : Heap} {P : Addr -> Prop} {a : Addr} (ha : ¬ P a) (hz : g.objs.size <= h.objs.size) : (pinH g h P).get? a = g.get? a := by
 by_cases hl : @LT.lt Nat _ a h.objs.size
 . have : (pinH g h P).objs[a]? = some ((g.objs[a]?).getD { cls := .none, data := .freed }) := by
     rw [pinH, Array.getElem?_ofFn, dif_pos hl, if_neg ha]
   unfold Heap.get?
   rw [this]
   cases hg : g.objs[a]? with
   | none => rfl
   | some o => rfl
 . refine get?_eq ?_
   rw [Array.getElem?_eq_none (by rw [pinH_size]; exact Nat.le_of_not_lt hl), Array.getElem?_eq_none (ntr hz (Nat.le_of_not_lt hl))]
section
variable {B : Base} {fi : FnInfo} {d : Nat} {E : EP} {σ : St} {H : AH}
theorem pin_keep {s : Shared} {env : Env} (I : Inv B H s) (F : FrameOk B env σ H s) : ∀ a o, B.g.get? a = some o -> (pinH B.g s.heap fun a => ¬ Trk B H a /\ a ≠ env.locals).get? a = some o := fun a o e => by
 by_cases hp : ¬ Trk B H a /\ a ≠ env.locals
 . rw [pinH_in hp]; exact I.keep a o e
 . rw [pinH_out hp I.size]; exact e
theorem pin_tabs {s : Shared} {env : Env} (I : Inv B H s) : ∀ q ∈ B.tabs, (pinH B.g s.heap fun a => ¬ Trk B H a /\ a ≠ env.locals).get? q.2 = Option.none := fun q hq => by
 rw [pinH_out (fun h => h.1 (.inr (.inl (List.mem_map_of_mem hq)))) I.size]
 exact B.tabsHidden q hq
variable {g : Heap} {hk : ∀ a o, B.g.get? a = some o -> g.get? a = some o} {ht : ∀ q ∈ B.tabs, g.get? q.2 = Option.none}
theorem none_of_up (hk : ∀ a o, B.g.get? a = some o -> g.get? a = some o) {a : Addr} (h : g.get? a = Option.none) : B.g.get? a = Option.none := by
 cases e : B.g.get? a with
 | none => rfl
 | some o => rw [hk a o e] at h; cases h
theorem Inv.down {s : Shared} (hz : B.g.objs.size <= g.objs.size) (I : Inv (B.up g hk ht) H s) : Inv B H s :=
 ⟨fun a o e => I.keep a o (hk a o e), ntr hz I.size, I.tabs, I.bare, I.os, I.nodup, fun q hq => let ⟨a, b, c, e⟩ := I.hid q hq; ⟨a, b, none_of_up hk c, e⟩, fun p hp => let ⟨a, vs, n, b, c⟩ := I.objs p hp; ⟨none_of_up hk a, vs, n, b, c⟩⟩
theorem Tr.down {U : Addr -> Prop} {H' : AH} {s s' : Shared} (hz : B.g.objs.size <= g.objs.size) (t : Tr (B.up g hk ht) U H s H' s') : Tr B U H s H' s' := ⟨t.inv.down hz, t.step, t.keys⟩
theorem FrameOk.down {env : Env} {s : Shared} (F : FrameOk (B.up g hk ht) env σ H s) : FrameOk B env σ H s := ⟨none_of_up hk F.fresh, F.apart, F.keys, F.nodup, F.ns, F.cell, F.glob⟩
theorem Inv.pin {s : Shared} {env : Env} (I : Inv B H s) (F : FrameOk B env σ H s) : Inv (B.up _ (pin_keep I F) (pin_tabs I)) H s := by
 have none' : ∀ a, Trk B H a -> B.g.get? a = Option.none -> (pinH B.g s.heap fun a => ¬ Trk B H a /\ a ≠ env.locals).get? a = Option.none := fun a h e => by
   rw [pinH_out (fun q => q.1 h) I.size]; exact e
 refine ⟨fun a o e => ?_, Nat.le_of_eq pinH_size, I.tabs, I.bare, I.os, I.nodup, fun q hq => ?_, fun p hp => ?_⟩
 . change (pinH B.g s.heap fun a => ¬ Trk B H a /\ a ≠ env.locals).get? a = some o at e
   by_cases hp : ¬ Trk B H a /\ a ≠ env.locals
   . rwa [pinH_in hp] at e
   . rw [pinH_out hp I.size] at e; exact I.keep a o e
 . obtain ⟨a, b, c, e⟩ := I.hid q hq
   exact ⟨a, b, none' _ (.inr (.inr (List.mem_map_of_mem hq))) c, e⟩
 . obtain ⟨a, vs, n, b, c⟩ := I.objs p hp
   exact ⟨none' _ (.inl (List.mem_map_of_mem hp)) a, vs, n, b, c⟩
theorem FrameOk.pin {s : Shared} {env : Env} (I : Inv B H s) (F : FrameOk B env σ H s) : FrameOk (B.up _ (pin_keep I F) (pin_tabs I)) env σ H s :=
 ⟨(pinH_out (fun q => q.2 rfl) I.size).trans F.fresh, F.apart, F.keys, F.nodup, F.ns, F.cell, F.glob⟩
theorem EnvOk.still {env : Env} (e : EnvOk B fi env) : EnvOk (B.up g hk ht) { fi with comp := true } env := ⟨e.scope, e.kind, e.coro, e.globals, e.builtins, e.qual, e.code, (fun h => nomatch h), (fun h => nomatch h)⟩
noncomputable def hardPV : PV -> Bool
 | .tup _ | .list _ => false
 | _ => true
theorem VR.hard {T : Addr -> Prop} {h : Heap} {v : Value} {p : PV} (r : VR T h v p) (hp : hardPV p = true) : ∀ T' h', VR T' h' v p := fun T' h' => by
 cases r with
 | none => exact .none
 | bool => exact .bool _
 | int => exact .int _ _
 | str => exact .str _ _
 | bytes => exact .bytes _ _
 | tup => cases hp
 | list => cases hp
 | lref => exact .lref _
 | raw => exact .raw _
structure NestOk (B : Base) (c P : Addr) (pos : Pos) (qual : Str) : Prop where
 mem : (c, P) ∈ B.tabs
 hd : CodeHd B.g c P
 qn : ∀ p : Pos, p.line = pos.line -> p.col = pos.col -> B.qn P p = some qual
 ba : B.g.BuiltinsAt B.mg P
noncomputable def closOf (env : Env) : List (Str × NameKind) -> List (Str × Addr) -> List (Str × Addr)
 | [], acc => acc
 | (n, k) :: r, acc => if k == .free then closOf env r ((n, (env.cells.lookup n).getD default) :: acc) else closOf env r acc
theorem closureFor_eq {scope : Scope} {env : Env} (h : ∀ n, (n, NameKind.free) ∈ scope.names -> ∃ c, env.cells.lookup n = some c) : closureFor scope env = pure (closOf env scope.names []) := by
 have go : ∀ (ns : List (Str × NameKind)) (acc : List (Str × Addr)), (∀ n, (n, NameKind.free) ∈ ns -> ∃ c, env.cells.lookup n = some c) ->
     (forIn ns acc fun x (cs : List (Str × Addr)) => (if (x.2 == NameKind.free) = true then do let c <- cellOf env x.1; pure (ForInStep.yield ((x.1, c) :: cs)) else pure (ForInStep.yield cs) : Sem _)) = pure (closOf env ns acc) := by
   intro ns
   induction ns with
   | nil => intro acc _; rfl
   | cons x r ih =>
     intro acc hn
     obtain ⟨n, k⟩ := x
     rw [List.forIn_cons]
     by_cases hf : (k == NameKind.free) = true
     . obtain ⟨c, hc⟩ := hn n (by rw [eq_of_beq hf]; exact mcs)
       simp only [hf, if_true, cellOf, hc, pure_bind, closOf, Option.getD_some]
       exact ih _ fun n' h' => hn n' (mcm _ h')
     . simp only [hf, if_false, pure_bind, closOf]
       exact ih _ fun n' h' => hn n' (mcm _ h')
 have := go scope.names [] h
 unfold closureFor
 simp only [bind_pure]
 exact this
theorem closOf_mem {env : Env} : ∀ {ns : List (Str × NameKind)} {acc : List (Str × Addr)} {x : Str} {c : Addr}, (∀ n, (n, NameKind.free) ∈ ns -> ∃ c, env.cells.lookup n = some c) -> (x, c) ∈ closOf env ns acc -> (x, c) ∈ acc \/ env.cells.lookup x = some c
 | [], acc, x, c, _, h => .inl h
 | (n, k) :: r, acc, x, c, hn, h => by
   simp only [closOf] at h
   split at h
   . rename_i hf
     rcases closOf_mem (fun n' h' => hn n' (mcm _ h')) h with h | h
     . rcases mcp h with e | h
       . cases e
         obtain ⟨c, hc⟩ := hn n (by rw [eq_of_beq hf]; exact mcs)
         exact .inr (by rw [hc]; rfl)
       . exact .inl h
     . exact .inr h
   . exact closOf_mem (fun n' h' => hn n' (mcm _ h')) h
theorem closOf_acc {env : Env} : ∀ {ns : List (Str × NameKind)} {acc : List (Str × Addr)} {e : Str × Addr}, e ∈ acc -> e ∈ closOf env ns acc
 | [], acc, e, h => h
 | (n, k) :: r, acc, e, h => by
   simp only [closOf]
   split
   . exact closOf_acc (mcm _ h)
   . exact closOf_acc h
theorem closOf_has {env : Env} : ∀ {ns : List (Str × NameKind)} {acc : List (Str × Addr)} {x : Str}, (x, NameKind.free) ∈ ns -> ∃ c, (x, c) ∈ closOf env ns acc
 | (n, k) :: r, acc, x, h => by
   simp only [closOf]
   rcases mcp h with e | h
   . cases e
     exact ⟨_, closOf_acc mcs⟩
   . split
     . exact closOf_has h
     . exact closOf_has h
theorem lookup_has {α : Type} : ∀ {l : List (Str × α)} {x : Str} {c : α}, (x, c) ∈ l -> ∃ c', l.lookup x = some c'
 | (y, q) :: r, x, c, h => by
   rw [List.lookup_cons]
   cases hb : x == y with
   | true => exact ⟨_, rfl⟩
   | false =>
     rcases mcp h with e | h
     . cases e; simp at hb
     . exact lookup_has h
theorem closOf_lookup {env : Env} {ns : List (Str × NameKind)} (hn : ∀ n, (n, NameKind.free) ∈ ns -> ∃ c, env.cells.lookup n = some c) {x : Str} (h : (x, NameKind.free) ∈ ns) : ∃ c, (closOf env ns []).lookup x = some c /\ env.cells.lookup x = some c := by
 obtain ⟨c, hc⟩ := closOf_has (env := env) (acc := []) h
 obtain ⟨c', hc'⟩ := lookup_has hc
 rcases closOf_mem hn (mem_of_lookup hc') with q | q
 . cases q
 . exact ⟨c', hc', q⟩
structure NestFn (B : Base) (f : Addr) (name qual : Str) (params : Arguments) (body : List Stmt) (scope : Scope) (σ : St) : Prop where
 at_ : ∃ clos doc pm cv ctv, B.g.get? f = some { cls := .type "function", data := .func (fnX name qual params body scope clos .none .none doc pm none cv ctv) } /\ B.g.CodeRec cv qual /\
   (∀ x p, (x, NameKind.free) ∈ scope.names -> (x, NameKind.cell, some p) ∈ σ -> hardPV p = true -> ∃ c v, clos.lookup x = some c /\ B.g.IsCell c (some v) /\ ∀ T h, VR T h v p) /\
   (∀ x y c, clos.lookup x = some c -> clos.lookup y = some c -> x = y)
theorem qualname_eq {env : Env} {name : Str} {k : NameKind} (h : env.kindOf name = some k) (hk : k ≠ .globalExplicit) : qualnameIn env name name = env.qual ++ name := by
 unfold qualnameIn
 rw [h, if_neg]
 intro q
 exact hk (by simpa using q)
end
theorem codeAmong_app {p : Pos} {a b : Int} {c cv : Value} (l : List Value) (h : TriplesOk l) : codeAmong p (l ++ [rawInt a, rawInt b, c]) = some cv -> codeAmong p l = some cv \/ ((p.line : Int) = a /\ (p.col : Int) = b /\ cv = c) := by
 fun_induction TriplesOk l with
 | case1 =>
   intro e
   simp only [List.nil_append, codeAmong, rawInt] at e
   split at e
   . rename_i hc
     simp only [Bool.and_eq_true, beq_iff_eq] at hc
     exact .inr ⟨hc.1.symm, hc.2.symm, (Option.some.inj e).symm⟩
   . cases e
 | case2 x t y u z rest ih =>
   intro e
   simp only [List.cons_append, codeAmong] at e ⊢
   split at e
   . rename_i hc; rw [if_pos hc]; exact .inl e
   . rename_i hc; rw [if_neg hc]; exact ih h e
 | case3 => exact h.elim
theorem triples_one {l : List Value} (h : TriplesOk l) {x : Str} {t : Tok} : l[1]? ≠ some (.str x t) := by
 fun_induction TriplesOk l with
 | case1 => exact fun e => nomatch e
 | case2 a t y u z rest ih => exact fun e => nomatch (e : some (Value.int y u) = some (.str x _))
 | case3 => exact h.elim
section
variable {B : Base} {fi : FnInfo} {d : Nat} {E : EP} {σ : St} {H : AH}
theorem codeRec_ne {h : Heap} {c : Addr} {q : Str} {P : Addr} {ps : Array Value} (r : h.CodeRec (.ref c) q) (hP : h.get? P = some (tabObj ps)) (ht : TriplesOk ps.toList) : c ≠ P := fun e => by
 obtain ⟨c', o, vs, t, e1, e2, e3, e4⟩ := r
 cases e1
 subst e
 rw [hP] at e2; cases e2; cases e3
 exact triples_one ht (by rw [Array.getElem?_toList]; exact e4)
theorem tab_not_key {s : Shared} (I : Inv B H s) {q : Addr × Addr} (hq : q ∈ B.tabs) : q.2 ∉ H.map (·.1) /\ q.2 ∉ B.hid.map (·.1) := by
 obtain ⟨ps, h1, O⟩ := I.tabs q hq
 exact ⟨not_key_of I h1 (fun O O => nofun), not_hid_of I h1 (fun O O => nofun)⟩
theorem codeRec_extBut {h h' : Heap} {cd : Value} {q : Str} {P : Addr} {ps : Array Value} (r : h.CodeRec cd q) (hP : h.get? P = some (tabObj ps)) (ht : TriplesOk ps.toList) (hx : Heap.ExtBut P h h') : h'.CodeRec cd q := by
 obtain ⟨c, o, vs, t, e1, e2, e3, e4⟩ := id r
 subst e1
 exact ⟨c, o, vs, t, rfl, hx _ _ (codeRec_ne r hP ht) e2, e3, e4⟩
theorem Tr.grown {s : Shared} {c P : Addr} {pos : Pos} {qual : Str} {ps : Array Value} {c' : Addr} {h' : Heap} {o : Obj} {tk : Tok} (I : Inv B H s) (N : NestOk B c P pos qual) (hP : s.heap.get? P = some (tabObj ps)) (ht : TriplesOk ps.toList)
   (hc : ∀ p cv, codeAmong p ps.toList = some cv -> ∃ qn, B.qn P p = some qn /\ s.heap.CodeRec cv qn)
   (hx : Heap.ExtBut P s.heap h') (hz : s.heap.objs.size <= h'.objs.size) (hr : h'.CodeRec (.ref c') qual) (hP' : h'.get? P = some (tabObj (ps ++ #[rawInt pos.line, rawInt pos.col, .ref c']))) : Tr B noU H s H { s with heap := h'.push o, toks := tk } := by
 have kk : ∀ a ob, a ≠ P -> s.heap.get? a = some ob -> (h'.push o).get? a = some ob := fun a ob hn e => Heap.get?_push_of_some _ (hx a ob hn e)
 have tP : Trk B H P := .inr (.inl (mmr ⟨_, N.mem, rfl⟩))
 have hsz : s.heap.objs.size <= (h'.push o).objs.size := by rw [Heap.size_push]; exact ntr hz (Nat.le_succ _)
 refine ⟨⟨fun a ob e => kk a ob (fun q => ?_) (I.keep a ob e), ntr I.size hsz, fun q hq => ?_, I.bare, I.os, I.nodup, fun q hq => ?_, fun p hp => ?_⟩, ⟨fun a ob e hn => kk a ob (fun q => hn (.inl (q ▸ tP))) e, hsz, fun O O e => e⟩, fun O h => .inl h⟩
 . have := B.tabsHidden _ N.mem
   rw [q] at e; rw [e] at this; cases this
 . by_cases hq2 : q.2 = P
   . refine ⟨_, by rw [hq2]; exact Heap.get?_push_of_some _ hP', by rw [Array.toList_append]; exact TriplesOk_snoc _ _ _ _ ht, fun p cv e => ?_⟩
     rw [Array.toList_append] at e
     rcases codeAmong_app _ ht e with e | ⟨a1, a2, a3⟩
     . obtain ⟨qn, b1, b2⟩ := hc p cv e
       exact ⟨qn, by rw [hq2]; exact b1, (codeRec_extBut b2 hP ht hx).push _⟩
     . subst a3
       exact ⟨qual, by rw [hq2]; exact N.qn p (Int.ofNat.inj a1) (Int.ofNat.inj a2), hr.push _⟩
   . obtain ⟨qs, h1, h2, h3⟩ := I.tabs q hq
     exact ⟨qs, kk _ _ hq2 h1, h2, fun p cv e => (h3 p cv e).imp fun qn b => ⟨b.1, (codeRec_extBut b.2 hP ht hx).push _⟩⟩
 . obtain ⟨a, r1, r2, r3⟩ := I.hid q hq
   refine ⟨kk _ _ (fun e => (tab_not_key I N.mem).2 ?_) a, r1, r2, r3⟩
   exact mmr ⟨q, hq, e⟩
 . obtain ⟨a, vs, n, e, r⟩ := I.objs p hp
   refine ⟨a, vs, n, kk _ _ (fun e => (tab_not_key I N.mem).1 (mmr ⟨p, hp, e⟩)) e, r.mono (fun b ob eb O hn => kk b ob (fun q => hn (q ▸ tP)) eb) fun O O t => t⟩
theorem make_ok {A : Around} {s : Shared} {env : Env} {c P : Addr} {pos : Pos} {qual name : Str} {params : Arguments} {body : List Stmt} {scope : Scope} {clos : List (Str × Addr)} {Q : Value -> Shared -> Prop} (e : EnvOk B fi env) (I : Inv B H s) (N : NestOk B c P pos qual) (hfi : fi.code = some (c, P)) (hcl : closureFor scope env = pure clos)
   (h : ∀ f doc pm cv ctv s', Tr B noU H s H s' -> s.heap.objs.size <= f -> s'.heap.get? f = some { cls := .type "function", data := .func (fnX name qual params body scope clos .none .none doc pm none cv ctv) } -> s'.heap.CodeRec cv qual -> Q (.ref f) s') :
   wpAny (model B.prog B.w) A (makeFunction name qual params (.stmts body) scope env [] [] [] pos pos.line) Q E s := by
 obtain ⟨ps, hP, ht, hc⟩ := I.tabs _ N.mem
 have C : CodeHd s.heap c P := N.hd.keeps I.keep
 have ba : s.heap.BuiltinsAt B.mg P := by
   obtain ⟨bm, o, h1, h2, h3, h4, h5, r⟩ := N.ba
   exact ⟨bm, o, h1, h2, h3, h4, I.keep _ _ h5, r⟩
 have hg := B.nsg.keeps I.keep
 cases hf : codeAmong pos ps.toList with
 | none =>
   refine makeFunction_K hcl e.globals hg (e.code _ _ hfi) C hP ht hf (B.low _ N.mem) ba fun c' ctv doc h' tk hx hge hlt hr hP' => ?_
   have hz : s.heap.objs.size <= h'.objs.size := ntr hge (Nat.le_of_lt hlt)
   exact h _ _ _ _ _ _ (Tr.grown I N hP ht hc hx hz hr hP') hz (Heap.get?_push_size _ rfl) (hr.push _)
 | some cv =>
   refine makeFunction_hit hcl e.globals hg (e.code _ _ hfi) C hP ht hf ba fun ctv doc h' tk hk hz => ?_
   obtain ⟨qn, b1, b2⟩ := hc pos cv hf
   have b3 := N.qn pos rfl rfl
   rw [b1] at b3; cases b3
   refine h _ _ _ _ _ _ (Tr.ext I (fun a o e => Heap.get?_push_of_some _ (hk a o e)) (by rw [Heap.size_push]; exact ntr hz (Nat.le_succ _)) rfl rfl) hz (Heap.get?_push_size _ rfl) ((b2.keeps hk).push _)
theorem code_keep {s : Shared} {h' : Heap} {cv : Value} {q : Str} (I : Inv B H s) (r : s.heap.CodeRec cv q) (k : ∀ a o vs, s.heap.get? a = some o -> o.data = .fields vs -> ¬ Trk B H a -> h'.get? a = some o) : h'.CodeRec cv q := by
 obtain ⟨c', o, vs, t, e1, e2, e3, e4⟩ := id r
 refine ⟨c', o, vs, t, e1, k _ _ _ e2 e3 fun q => ?_, e3, e4⟩
 rcases q with q | q | q
 . exact not_key_of I e2 (fun O O => by rw [e3]; nofun) q
 . obtain ⟨qq, hq, rfl⟩ := mmp q
   obtain ⟨ps, h1, h2, O⟩ := I.tabs qq hq
   subst e1
   exact codeRec_ne r h1 h2 rfl
 . exact not_hid_of I e2 (fun O O => by rw [e3]; nofun) q
theorem FrameOk.nloc {s : Shared} {env : Env} (F : FrameOk B env σ H s) {a : Addr} {o : Obj} (e : s.heap.get? a = some o) (hd : ∀ es n, o.data ≠ .dict es n) : a ≠ env.locals := fun q => by
 obtain ⟨O, ⟨O, O, O, e', hd', O⟩, O⟩ := F.ns
 subst q
 cases e.symm.trans e'
 exact hd _ _ hd'
theorem Xs_Def {name qual : Str} {params : Arguments} {body rest : List Stmt} {scope : Scope} {pos : Pos} {c P : Addr} {k : NameKind} {σ' : Addr -> St} {Qn : SQ} {Qf : FQ}
   (N : NestOk B c P pos qual) (hfi : fi.code = some (c, P)) (hq : fi.qual ++ name = qual) (hd0 : params.defaults = []) (hk0 : params.kw_defaults = []) (ha : ∀ env, annTrees params none env = [])
   (hfr : ∀ n, (n, NameKind.free) ∈ scope.names -> ∃ ov, (n, NameKind.cell, ov) ∈ σ) (hrep : ∀ f, Rep name (.raw (.ref f)) k σ (σ' f)) (hst : storable fi k)
   (h : ∀ g hk ht f, NestFn (B.up g hk ht) f name qual params body scope (σ' f) -> Xs (B.up g hk ht) { fi with comp := true } d E rest (σ' f) H Qn Qf) :
   Xs B fi d E (.FunctionDef name params body [] none [] scope none name pos :: rest) σ H Qn Qf := fun A s env e R I F => by
 have hcells : ∀ n, (n, NameKind.free) ∈ scope.names -> ∃ c, env.cells.lookup n = some c := fun n hn => by
   obtain ⟨ov, hm⟩ := hfr n hn
   obtain ⟨c, O, hc, O⟩ := F.cell n ov (.inl hm)
   exact ⟨c, hc⟩
 have hkn : env.kindOf name = some k := by
   obtain ⟨ov, hm⟩ := (hrep default).has
   exact F.kindOf hm
 have hqe : qualnameIn env name name = qual := by
   rw [qualname_eq hkn (by rcases hst with rfl | ⟨rfl, _⟩ <;> nofun), e.qual, hq]
 refine wpAny_execs_cons ?_
 refine nestDef_K hd0 hk0 (ha env) ?_
 rw [hqe]
 refine make_ok e I N hfi (closureFor_eq hcells) fun f doc pm cv ctv s₁ t₁ hf ho hr => ?_
 refine wpAny_mono (store_ok e t₁.inv (F.tr I t₁) (.raw _) (hrep f) hst) (fun O s₂ hh1 => ?_) fun O O x => x
 obtain ⟨t₂, F₂⟩ := hh1
 have I₂ := t₂.inv
 have t : Tr B (ownU env) H s H s₂ := t₁.up.trans t₂
 have fresh : ∀ a, Trk B H a \/ ownU env a -> a < s.heap.objs.size := fun a q => by
   rcases q with q | q
   . exact Trk_lt I q
   . exact F.own_lt q
 have ho₂ := t₂.step.heap f _ ho fun q => absurd (fresh f q) (nlr hf)
 have F₁ := F.tr I t₁
 have hr₂ : s₂.heap.CodeRec cv qual := code_keep t₁.inv hr fun a o vs e d n => t₂.step.heap a o e fun q => q.elim n fun u => (F₁.own_not u e).2 vs d
 have pinned : ∀ {a : Addr} {o : Obj}, s₂.heap.get? a = some o -> ¬ Trk B H a -> a ≠ env.locals -> (pinH B.g s₂.heap fun a => ¬ Trk B H a /\ a ≠ env.locals).get? a = some o := fun e h1 h2 => by rw [pinH_in ⟨h1, h2⟩]; exact e
 have hz : B.g.objs.size <= (pinH B.g s₂.heap fun a => ¬ Trk B H a /\ a ≠ env.locals).objs.size := by rw [pinH_size]; exact I₂.size
 have NF : NestFn (B.up _ (pin_keep I₂ F₂) (pin_tabs I₂)) f name qual params body scope (σ' f) := by
   refine ⟨_, doc, pm, cv, ctv, pinned ho₂ (not_trk_of I₂ ho₂ (fun O O => nofun) (fun O => nofun)) (F₂.nloc ho₂ (fun O O => nofun)), code_keep I₂ hr₂ fun a o vs e d n => pinned e n (F₂.nloc e fun O O => by rw [d]; nofun), fun x p hx hp hh => ?_, fun x y c hx hy => ?_⟩
   . obtain ⟨c, hc1, hc2⟩ := closOf_lookup hcells hx
     obtain ⟨c', w, hc', ⟨o, eo, ed⟩, v, hw, hv⟩ := F₂.cell x _ (.inl hp)
     rw [hc2] at hc'; cases hc'
     subst hw
     exact ⟨c, v, hc1, ⟨o, pinned eo (not_trk_of I₂ eo (fun O O => by rw [ed]; nofun) (fun O => by rw [ed]; nofun)) (F₂.nloc eo (fun O O => by rw [ed]; nofun)), ed⟩, hv.hard hh⟩
   . rcases closOf_mem hcells (mem_of_lookup hx) with q | q
     . cases q
     . rcases closOf_mem hcells (mem_of_lookup hy) with q' | q'
       . cases q'
       . exact F.apart x y c q q'
 refine wpAny_mono (h _ (pin_keep I₂ F₂) (pin_tabs I₂) f NF A s₂ env e.still R (I₂.pin F₂) (F₂.pin I₂)) (fun fl s₃ hh1 => by obtain ⟨σ₃, H₃, t₃, F₃, q⟩ := hh1; exact ⟨σ₃, H₃, t.trans (t₃.down hz), F₃.down, q⟩) fun O O x => x
end
inductive IniN (B : Base) (bs : List (Str × PV)) (out : St) : List (Str × NameKind) -> St -> Prop
 | nil : IniN B bs out [] []
 | arg {x : Str} {p : PV} {r : List (Str × NameKind)} {σ : St} : (x, p) ∈ bs -> IniN B bs out r σ -> IniN B bs out ((x, .local) :: r) ((x, .local, some p) :: σ)
 | unset {x : Str} {r : List (Str × NameKind)} {σ : St} : IniN B bs out r σ -> IniN B bs out ((x, .local) :: r) ((x, .local, Option.none) :: σ)
 | glob {x : Str} {p : PV} {r : List (Str × NameKind)} {σ : St} : GlobIs B x p -> IniN B bs out r σ -> IniN B bs out ((x, .globalImplicit) :: r) ((x, .globalImplicit, some p) :: σ)
 | free {x : Str} {p : PV} {r : List (Str × NameKind)} {σ : St} : (x, NameKind.cell, some p) ∈ out -> hardPV p = true -> IniN B bs out r σ -> IniN B bs out ((x, .free) :: r) ((x, .free, some p) :: σ)
section
variable {B : Base} {bs : List (Str × PV)} {out : St} {ns : List (Str × NameKind)} {σ : St}
theorem IniN.keys (h : IniN B bs out ns σ) : σ.map (fun e => (e.1, e.2.1)) = ns := by
 induction h <;> first | rfl | exact congrArg (List.cons _) (by assumption)
noncomputable def NMem (B : Base) (bs : List (Str × PV)) (out : St) (e : Str × NameKind × Option PV) : Prop := match e.2.1 with
 | .local => ∀ p, e.2.2 = some p -> (e.1, p) ∈ bs
 | .globalImplicit => ∀ p, e.2.2 = some p -> GlobIs B e.1 p
 | .free => ∃ p, e.2.2 = some p /\ (e.1, NameKind.cell, some p) ∈ out /\ hardPV p = true
 | _ => False
theorem IniN.all (h : IniN B bs out ns σ) : ∀ e ∈ σ, NMem B bs out e := by
 induction h with
 | nil => exact fun O h => absurd h List.not_mem_nil
 | arg h1 _ ih => exact fmc ⟨fun p e => Option.some.inj e ▸ h1, ih⟩
 | unset _ ih => exact fmc ⟨(fun p e => nomatch e), ih⟩
 | glob h1 _ ih => exact fmc ⟨fun p e => Option.some.inj e ▸ h1, ih⟩
 | free h1 h2 _ ih => exact fmc ⟨⟨_, rfl, h1, h2⟩, ih⟩
end
section
variable {B : Base} {d : Nat} {H : AH}
theorem NestFn.call {f : Addr} {name qual : Str} {params : Arguments} {body : List Stmt} {scope : Scope} {σ σ₀ : St} {args : List PV} {kw bs : List (Str × PV)} {Q : PQ} (h : NestFn B f name qual params body scope σ)
   (hb : ∀ clos doc pm cv ctv, BindV B (fnX name qual params body scope clos .none .none doc pm none cv ctv) args kw H bs) (hbn : (bs.map (fun e => e.1)).Nodup) (hbk : ∀ e ∈ bs, (e.1, NameKind.local) ∈ scope.names)
   (hsn : (scope.names.map (fun e => e.1)).Nodup) (hnc : ∀ e ∈ scope.names, e.2 ≠ .cell) (hk : scope.kind = .function) (hco : scope.isCoroutine = false) (hge : scope.isGenerator = false) (hi : IniN B bs σ scope.names σ₀)
   (hx : Xs B ⟨scope, none, qual ++ ".<locals>.", false⟩ d NoE body σ₀ H (fun O H' => Q .none H') (PX Q)) : CallV B (d + 1) NoE (.raw (.ref f)) args kw H Q := fun A s R I fv vs kvs h1 h2 h3 => by
 obtain ⟨clos, doc, pm, cv, ctv, ho, hcr, hcell, hap⟩ := h.at_
 cases h1
 refine wpAny_call ?_
 refine codeAny_call_function (by have := R.depth; lia) (I.keep _ _ ho) rfl hco hge rfl (hcr.keeps I.keep) ?_
 refine hb clos doc pm cv ctv _ s I vs kvs h2 h3 _ _ fun bv hbv => ?_
 have hn1 : (bv.map (fun e => e.1)).Nodup := hbv.2.symm ▸ hbn
 refine wpAny_newFunctionEnv hnc (fun x hx => ?_) (fun h' hns hsb => ?_) hk
 . obtain ⟨e', he', hee⟩ := mmp (hbv.2 ▸ List.mem_map_of_mem (f := fun e : Str × Value => e.1) hx : x.1 ∈ bs.map (fun e => e.1))
   exact lookup_of_nodup hsn (hee ▸ hbk e' he')
 have t₁ : Tr B noU H s H { s with heap := h', toks := s.toks + bv.length } := Tr.ext I (fun a o e => (hsb.2 a (Nat.ne_of_lt (Heap.lt_size e))).trans (Heap.get?_push_of_some _ e)) (by rw [hsb.1, Heap.size_push]; exact Nat.le_succ _) rfl rfl
 refine ⟨B.nolimit.keeps t₁.inv.keep, codeAny_func ?_⟩
 generalize henv : newEnv scope s.heap.objs.size mainGlobals clos (qual ++ ".<locals>.") (some f) cv none builtinsNs = env
 obtain ⟨hlo, hcs, hsc, hgl, hbu, hq⟩ : env.locals = s.heap.objs.size /\ env.cells = clos /\ env.scope = scope /\ env.globals = mainGlobals /\ env.builtins = builtinsNs /\ env.qual = qual ++ ".<locals>." := henv ▸ ⟨rfl, rfl, rfl, rfl, rfl, rfl⟩
 have nocell : ∀ x, env.kindOf x ≠ some .cell := fun x hm => hnc (x, .cell) (mem_of_lookup (by unfold Env.kindOf at hm; rw [hsc] at hm; exact hm)) rfl
 have mk : ∀ {x : Str} {k : NameKind} {ov : Option PV}, (x, k, ov) ∈ σ₀ -> (x, k) ∈ scope.names := fun hm => hi.keys ▸ List.mem_map_of_mem (f := fun e : Str × NameKind × Option PV => (e.1, e.2.1)) hm
 have Fr : FrameOk B env σ₀ H { s with heap := h', toks := s.toks + bv.length } := by
   refine ⟨Heap.get?_none_of_le (hlo ▸ I.size), fun x y c hx hy => hap x y c (hcs ▸ hx) (hcs ▸ hy), hi.keys.trans (hsc ▸ rfl), hsc ▸ hsn, ⟨_, by rw [hlo]; exact hns, fun x p hm => ?_⟩, fun x ov hm => ?_, fun x p hm => hi.all _ hm p rfl⟩
   . obtain ⟨v, hv, hr⟩ := VRs.zip_mem hbv.1 hbv.2 _ (hi.all _ hm p rfl)
     exact ⟨v, lookup_of_nodup (by rw [List.map_reverse]; exact List.pairwise_reverse.mpr (hn1.imp fun h => Ne.symm h)) (List.mem_reverse.mpr hv), hr.tr t₁⟩
   . rcases hm with hm | hm
     . exact absurd rfl (hnc _ (mk hm))
     . obtain ⟨p, e, q1, q2⟩ := hi.all _ hm
       obtain ⟨c, v, c1, c2, c3⟩ := hcell x p (mk hm) q1 q2
       exact ⟨c, some v, hcs ▸ c1, c2.keeps t₁.inv.keep, (show ov = some p from e) ▸ ⟨v, rfl, c3 _ _⟩⟩
 exact wpAny_mono (hx (A.deeper env) _ env ⟨hsc, hk, hco, hgl, hbu, hq, (fun c P e => nomatch e), (fun O x c hx O => absurd hx (nocell x)), (fun O x c hx O => absurd hx (nocell x))⟩ (R.deeper env) t₁.inv Fr) (fun fl s' p => ret_post I t₁ (fun a ha => ha.elim (fun e => Nat.le_of_eq (by rw [e]; exact hlo.symm)) fun q => q.elim fun x q => absurd q.1 (nocell x)) p) fun O O x => x.elim
end
noncomputable abbrev pw : Program := PySem.Challenge.pw_wc0020_04
noncomputable abbrev kDiv2 : Nat := 3
noncomputable abbrev kDiv3 : Nat := 4
noncomputable abbrev kDigits : Nat := 5
noncomputable abbrev kDigitsInt : Nat := 6
noncomputable abbrev kDivPos : Nat := 7
noncomputable abbrev kDivmod : Nat := 8
noncomputable abbrev kInsR : Nat := 10
noncomputable abbrev kBisR : Nat := 11
noncomputable abbrev kInsL : Nat := 12
noncomputable abbrev kBisL : Nat := 13
noncomputable abbrev kIter : Nat := 15
noncomputable abbrev kStrip : Nat := 16
noncomputable abbrev kCheck : Nat := 17
noncomputable abbrev kPre : Nat := 18
noncomputable abbrev kQuote : Nat := 24
noncomputable abbrev kPeriods : Nat := 25
noncomputable abbrev kEols : Nat := 26
noncomputable def topSt (k : Nat) : Stmt := (pw.main.body[k]?).getD (.Pass default)
noncomputable def stArgs : Stmt -> Arguments
 | .FunctionDef _ a _ _ _ _ _ _ _ _ => a
 | _ => ⟨[], [], none, [], [], none, []⟩
noncomputable def stBody : Stmt -> List Stmt
 | .FunctionDef _ _ b _ _ _ _ _ _ _ => b
 | _ => []
noncomputable def stScope : Stmt -> Scope
 | .FunctionDef _ _ _ _ _ _ s _ _ _ => s
 | _ => ⟨.module, [], false, false, []⟩
set_option genInjectivity false in
set_option genSizeOf false in
structure FnIs (B : Base) (f : Addr) (name : Str) (k : Nat) (dV kV cdv : Value) : Prop where
 at_ : ∃ oc od osl doc pm an ct, B.g.get? f = some ⟨oc, od, .func (fnOf name name (stArgs (topSt k)) (stBody (topSt k)) (stScope (topSt k)) dV kV doc pm an cdv ct), osl⟩
 code : B.g.CodeRec cdv name
noncomputable abbrev fiOf (k : Nat) (name : Str) : FnInfo := ⟨stScope (topSt k), none, name ++ ".<locals>.", false⟩
noncomputable abbrev fdOf (name : Str) (k : Nat) (dV kV doc pm : Value) (an : Option Addr) (cdv ct : Value) : FuncData := fnOf name name (stArgs (topSt k)) (stBody (topSt k)) (stScope (topSt k)) dV kV doc pm an cdv ct
noncomputable def chkF (nm : List Str) (s : Scope) : Bool :=
 decide nm.Nodup && nm.all (fun x => s.names.any fun e => decide (e.1 = x) && (e.2 == .local || e.2 == .cell)) && decide ((s.names.map fun e => e.1).Nodup) && s.names.all (fun e => e.2 != .free) && (s.kind == .function) && !s.isCoroutine && !s.isGenerator
theorem chkF_nodup {nm : List Str} {s : Scope} (h : chkF nm s = true) : nm.Nodup := by
 simp only [chkF, Bool.and_eq_true, decide_eq_true_eq] at h; exact h.1.1.1.1.1.1
theorem chkF_mem {nm : List Str} {s : Scope} (h : chkF nm s = true) : ∀ x ∈ nm, ∃ k, (x, k) ∈ s.names /\ argKind k := fun x hx => by
 simp only [chkF, Bool.and_eq_true, List.all_eq_true, List.any_eq_true, decide_eq_true_eq, Bool.or_eq_true, beq_iff_eq] at h
 obtain ⟨⟨y, k⟩, he, rfl, hk⟩ := h.1.1.1.1.1.2 x hx
 exact ⟨k, he, hk⟩
theorem chkF_names {nm : List Str} {s : Scope} (h : chkF nm s = true) : (s.names.map fun e => e.1).Nodup := by
 simp only [chkF, Bool.and_eq_true, decide_eq_true_eq] at h; exact h.1.1.1.1.2
theorem chkF_free {nm : List Str} {s : Scope} (h : chkF nm s = true) : ∀ e ∈ s.names, e.2 ≠ .free := fun e he => by
 simp only [chkF, Bool.and_eq_true, List.all_eq_true] at h
 have := h.1.1.1.2 e he
 simpa using this
theorem chkF_kind {nm : List Str} {s : Scope} (h : chkF nm s = true) : s.kind = .function := by
 simp only [chkF, Bool.and_eq_true, beq_iff_eq] at h; exact h.1.1.2
theorem chkF_co {nm : List Str} {s : Scope} (h : chkF nm s = true) : s.isCoroutine = false := by
 simp only [chkF, Bool.and_eq_true, Bool.not_eq_true'] at h; exact h.1.2
theorem chkF_gen {nm : List Str} {s : Scope} (h : chkF nm s = true) : s.isGenerator = false := by
 simp only [chkF, Bool.and_eq_true, Bool.not_eq_true'] at h; exact h.2
section
variable {B : Base} {d : Nat} {H : AH}
theorem FnIs.call {f : Addr} {name : Str} {k : Nat} {dV kV cdv : Value} (h : FnIs B f name k dV kV cdv) {args : List PV} {kw bs : List (Str × PV)} {nm : List Str} {σ₀ : St} {Q : PQ}
   (hb : ∀ doc pm an ct, BindV B (fdOf name k dV kV doc pm an cdv ct) args kw H bs) (hnm : bs.map (fun e => e.1) = nm) (hc : chkF nm (stScope (topSt k)) = true)
   (hi : Ini B bs (stScope (topSt k)).names σ₀) (hx : Xs B (fiOf k name) d NoE (stBody (topSt k)) σ₀ H (fun O H' => Q .none H') (PX Q)) : CallV B (d + 1) NoE (.raw (.ref f)) args kw H Q := by
 obtain ⟨oc, od, osl, doc, pm, an, ct, ho⟩ := h.at_
 exact CallV_fd (fd := fdOf name k dV kV doc pm an cdv ct) (cp := none) (fun s I => I.keep _ _ ho) rfl rfl (fun s I => h.code.keeps I.keep) (chkF_kind hc) (chkF_co hc) (chkF_gen hc) rfl rfl (fun O O h => nomatch h) (hb doc pm an ct)
   (by rw [hnm]; exact chkF_nodup hc) (fun e he => chkF_mem hc _ (by rw [<- hnm]; exact mmr ⟨e, he, rfl⟩)) (chkF_names hc) (chkF_free hc) hi hx
end
noncomputable abbrev keyDict (hs : Int) (tk : Tok) (n : Nat) : Obj := { cls := .type "dict", dict := none, data := .dict #[⟨hs, .str (Str.ofString "key") tk, .none⟩] n, slots := #[] }
set_option genInjectivity false in
set_option genSizeOf false in
structure BisDef (B : Base) (dV kV : Value) : Prop where
 d : ∃ T n t, dV = .ref T /\ B.g.get? T = some (tupObj #[.int 0 t, .none] n)
 k : ∃ D hs tk n, kV = .ref D /\ B.g.get? D = some (keyDict hs tk n)
noncomputable def feed' {α : Type} (S : Setting) : Sem α -> List Obj -> Option (List Addr × α)
 | .pure a => fun os => if os.isEmpty then some ([], a) else none
 | .rule _ k => feed' S (k ())
 | .point _ k => feed' S (k ())
 | .ask k => feed' S (k S)
 | .load a _ k => fun os => os.head?.bind fun o => (feed' S (k o) os.tail).map fun r => (a :: r.1, r.2)
 | _ => fun O => none
noncomputable abbrev feed {α : Type} (S : Setting) (os : List Obj) (t : Sem α) : Option (List Addr × α) := feed' S t os
theorem wp_of_feed {α : Type} {M : Model} {Γ : Ctx} {Q : α -> Pos -> Shared -> Prop} {E : Value -> Pos -> Shared -> Prop} {p : Pos} {s : Shared} :
   ∀ (t : Sem α) (os : List Obj) (as : List Addr) (r : α), feed ⟨M.prog, M.w.params⟩ os t = some (as, r) -> (∀ e ∈ as.zip os, s.heap.get? e.1 = some e.2) -> Q r p s -> Sem.wp M Γ t Q E p s := by
 intro t
 induction t with
 | pure b =>
   intro os as r e _ q
   cases os with
   | nil => cases e; exact q
   | cons _ _ => cases e
 | rule _ k ih => intro os as r e h q; exact ih () os as r e h q
 | point _ k ih => intro os as r e h q; exact ih () os as r e h q
 | ask k ih => intro os as r e h q; exact ih _ os as r e h q
 | load a _ k ih =>
   intro os as r e h q
   cases os with
   | nil => cases e
   | cons o os =>
     obtain ⟨⟨as', r'⟩, e1, e2⟩ := Option.map_eq_some_iff.mp e
     cases e2
     exact ⟨o, h (a, o) mcs, ih o os as' r' e1 (fun x hx => h x (mcm _ hx)) q⟩
 | _ => intro _ _ _ e; cases e
theorem wpAny_feed {α : Type} {M : Model} {A : Around} {Q : α -> Shared -> Prop} {E : EP} {s : Shared} {t : Sem α} {os : List Obj} {as : List Addr} {r : α} (e : feed ⟨M.prog, M.w.params⟩ os t = some (as, r)) (h : ∀ e ∈ as.zip os, s.heap.get? e.1 = some e.2) (q : Q r s) : wpAny M A t Q E s :=
 fun O O O => wp_of_feed t os as r e h q
section
variable {T D : Addr} {n m : Nat} {t tk : Tok} {hs : Int} {S : Setting} {name : Str} {doc pm cdv ct : Value} {an : Option Addr} {v w u z ky : Value}
noncomputable abbrev bisOs (n m : Nat) (t tk : Tok) (hs : Int) : List Obj := [tupObj #[.int 0 t, .none] n, keyDict hs tk m]
noncomputable abbrev bisBs (v w u z ky : Value) : List (Str × Value) := [(Str.ofString "a", v), (Str.ofString "x", w), (Str.ofString "lo", u), (Str.ofString "hi", z), (Str.ofString "key", ky)]
noncomputable abbrev bisFd (k : Nat) (name : Str) (T D : Addr) (doc pm : Value) (an : Option Addr) (cdv ct : Value) : FuncData := fdOf name k (.ref T) (.ref D) doc pm an cdv ct
theorem bis4L : feed S (bisOs n m t tk hs) (bindArgs (bisFd kBisL name T D doc pm an cdv ct) ⟨[v, w, u, z], []⟩) = some ([T, D], bisBs v w u z .none) := by kernel_rfl
theorem bis4R : feed S (bisOs n m t tk hs) (bindArgs (bisFd kBisR name T D doc pm an cdv ct) ⟨[v, w, u, z], []⟩) = some ([T, D], bisBs v w u z .none) := by kernel_rfl
theorem ins4L : feed S (bisOs n m t tk hs) (bindArgs (bisFd kInsL name T D doc pm an cdv ct) ⟨[v, w, u, z], []⟩) = some ([T, D], bisBs v w u z .none) := by kernel_rfl
theorem ins4R : feed S (bisOs n m t tk hs) (bindArgs (bisFd kInsR name T D doc pm an cdv ct) ⟨[v, w, u, z], []⟩) = some ([T, D], bisBs v w u z .none) := by kernel_rfl
theorem bis2L : feed S (bisOs n m t tk hs) (bindArgs (bisFd kBisL name T D doc pm an cdv ct) ⟨[v, w], []⟩) = some ([T, D], bisBs v w (.int 0 t) .none .none) := by kernel_rfl
theorem bis2R : feed S (bisOs n m t tk hs) (bindArgs (bisFd kBisR name T D doc pm an cdv ct) ⟨[v, w], []⟩) = some ([T, D], bisBs v w (.int 0 t) .none .none) := by kernel_rfl
end
local macro_rules | `(tactic| walk_at "c_r") => `(tactic| rfl)
local macro_rules | `(tactic| walk_at "c_d") => `(tactic| decide)
local macro_rules | `(tactic| walk_at "c_i") => `(tactic| (intros; rfl))
local macro_rules | `(tactic| walk_at "c_u") => `(tactic| with_unfolding_all rfl)
local macro_rules | `(tactic| walk_at $s:str) => do
 match [("m_has", "Has.head|Has.h1|Has.h2|Has.h3|Has.h4|Has.h5|Has.h6|Has.h7|Has.t8 m_has"), ("m_rep", "Rep.head|Rep.h1|Rep.h2|Rep.h3|Rep.h4|Rep.h5|Rep.h6|Rep.h7|Rep.t8 m_rep"),
   ("mm", "Has.mem m_has|Has.ex m_has"), ("c_k", "dk c_r"), ("pk", "PK_L c_d|PK_G c_d|PK_C c_d|PK_F c_d c_d"), ("pu", "P_neg|P_inv"), ("p2", "P_add|P_sub|P_eq|P_lt|P_le|P_gt|P_ge|P_ne|P_and|P_or|P_xor|P_eqS|P_neS|P_inS|P_ninS|P_is c_r c_r|P_isn c_r c_r"),
   ("pe", "P_N m_has pk|P_i|P_bin pe pe p2|P_s|P_un pe pu|P_cmp pe pe p2 c_u|P_tup pl c_r c_d|P_n|P_o|P_y"), ("pl", "P_nil|P_cons pe pl"), ("pt", "T_cmp pe pe p2 c_u|T_not pt|T_bool pe c_i|T_int pe c_i"),
   ("mw", "Ev_P pe _|Tst_P pt _|EvL_P pl _|V2_P p2 _|qI_un _|qOr_un _|qAnd_un _|ite_f _|ite_t _|ite_nt _|ite_nf _|ite_oa _|ite_aa _|Xs_FD _|Xs_cons' _|Xs_nil _|X_If' _|X_Assign_Name' _ c_i|X_Assign_Tup' _ c_i c_i|X_Return' _|X_ReturnNone _|X_Expr' _ c_i|X_AugAssign_Name' _|X_Break _|X_For' _ c_k c_i|EvI_Call' _ c_r c_i|Ev_Name _ c_d|Ld_L m_has _|Ld_G m_has _|Ld_C m_has _|Ld_F m_has _ c_d|Put_L m_rep _|Put_C m_rep _ c_r|Ev_int _|Ev_str _|Ev_bytes _|Ev_none _|Ev_bool _|Ev_BinOp' _|Ev_UnaryOp' _|Tst_Compare1' _ c_u|Tst_Not' _|Tst_BoolOp _|TstL_or' _|TstL_and' _|TstL_nil _|Tst_plain' _ c_i|Ev_Compare1' _ c_u|Ev_Tuple' _ c_r c_d|EvL_cons' _|EvL_nil _|Asg_N' _|Asg_T c_r c_r _|AsgL_cons' _|AsgL_nil _|Puts_nil _|Puts_L m_rep _|EvO_none _|EvO_int' _|int_is _|Tru_bool _|Tru_int _|Tru_none _|Cmp_lt _|Cmp_le _|Cmp_gt _|Cmp_ge _|Cmp_eq _|Cmp_ne _|Cmp_is _ c_r c_r|Cmp_isnot _ c_r c_r|Cmp_eqS _|Cmp_neS _|Cmp_inS _|Cmp_ninS _|Bin_add _|Bin_sub _|Bin_and _|Bin_or _|Bin_xor _|Un_neg _|Un_inv _|In_add _|In_sub _|Ev_SubSl' _|Ev_Sub' _|Ev_Meth _ c_r c_i|Ev_Call' _ c_r c_i")].lookup s.getString with
 | some v =>
   let ts <- (v.splitOn "|").toArray.mapM fun a => do
     let as := (a.splitOn " ").toArray
     let hs <- as.mapIdxM fun i O => return Lean.mkIdent (<- Lean.Macro.addMacroScope (.mkSimple s!"h{i}"))
     let xs <- (as.zip hs)[1:].toArray.mapM fun (a, h) => if a == "_" then `(?_) else `(?$h:ident)
     let cs <- ((as.zip hs)[1:].toArray.filter (·.1 != "_")).mapM fun (a, h) => `(tactic| case $h:ident => walk_at $(Lean.Syntax.mkStrLit a):str)
     let t <- `(tactic| with_reducible refine' $(Lean.mkIdent as[0]!.toName) $xs*)
     if cs.isEmpty then return t else `(tactic| ($t:tactic; $[$cs:tactic];*))
   `(tactic| first $[| $ts:tactic]*)
 | none => Lean.Macro.throwUnsupported
local macro_rules | `(tactic| walk_at "w") => `(tactic| repeat walk_at "mw")
theorem KwRel.cons {T : Addr -> Prop} {h : Heap} {x : Str} {v : Value} {p : PV} {kvs : List (Str × Value)} {kw : List (Str × PV)} (a : VR T h v p) (b : KwRel T h kvs kw) : KwRel T h ((x, v) :: kvs) ((x, p) :: kw) := ⟨.cons a b.1, by simp only [List.map_cons]; rw [b.2]⟩
theorem KwRel.nl {T : Addr -> Prop} {h : Heap} : KwRel T h [] [] := ⟨.nil, rfl⟩
section
variable {B : Base} {d : Nat} {H : AH} {dV kV cdv : Value}
noncomputable abbrev bisP (a x lo hi key : PV) : List (Str × PV) := [(Str.ofString "a", a), (Str.ofString "x", x), (Str.ofString "lo", lo), (Str.ofString "hi", hi), (Str.ofString "key", key)]
theorem bis_feed {A : Around} {E : EP} {fd : Value -> Value -> FuncData} {vs : List Value} {kvs : List (Str × Value)} {bv : Tok -> List (Str × Value)} (D : BisDef B dV kV) {s : Shared} (I : Inv B H s) {Q : List (Str × Value) -> Shared -> Prop}
   (h : ∀ T D n m t tk hs, feed ⟨B.prog, B.w.params⟩ (bisOs n m t tk hs) (bindArgs (fd (.ref T) (.ref D)) ⟨vs, kvs⟩) = some ([T, D], bv t)) (q : ∀ t, Q (bv t) s) : wpAny (model B.prog B.w) A (bindArgs (fd dV kV) ⟨vs, kvs⟩) Q E s := by
 obtain ⟨T, n, t, rfl, e1⟩ := D.d
 obtain ⟨D', hs, tk, m, rfl, e2⟩ := D.k
 refine wpAny_feed (os := bisOs n m t tk hs) (h T D' n m t tk hs) (fun e he => ?_) (q t)
 simp only [List.zip_cons_cons, List.zip_nil_right, List.mem_cons, List.not_mem_nil, or_false] at he
 rcases he with rfl | rfl
 . exact I.keep _ _ e1
 . exact I.keep _ _ e2
theorem BindV_4 {a x lo hi : PV} {fd : Value -> Value -> FuncData} (D : BisDef B dV kV) (hf : ∀ (S : Setting) T D n m t tk hs v w u z, feed S (bisOs n m t tk hs) (bindArgs (fd (.ref T) (.ref D)) ⟨[v, w, u, z], []⟩) = some ([T, D], bisBs v w u z .none)) :
   BindV B (fd dV kV) [a, x, lo, hi] [] H (bisP a x lo hi .none) := fun A s I vs kvs h1 h2 E Q hQ => by
 obtain ⟨v, w, u, z, rfl, r1, r2, r3, r4⟩ := h1.four
 rw [h2.nil]
 exact bis_feed D I (bv := fun O => bisBs v w u z .none) (fun T D n m t tk hs => hf _ T D n m t tk hs v w u z) fun t => hQ _ (.cons r1 (.cons r2 (.cons r3 (.cons r4 (.cons .none .nl)))))
theorem BindV_2 {a x : PV} {fd : Value -> Value -> FuncData} (D : BisDef B dV kV) (hf : ∀ (S : Setting) T D n m t tk hs v w, feed S (bisOs n m t tk hs) (bindArgs (fd (.ref T) (.ref D)) ⟨[v, w], []⟩) = some ([T, D], bisBs v w (.int 0 t) .none .none)) :
   BindV B (fd dV kV) [a, x] [] H (bisP a x (.int 0) .none .none) := fun A s I vs kvs h1 h2 E Q hQ => by
 obtain ⟨v, w, rfl, r1, r2⟩ := h1.two
 rw [h2.nil]
 exact bis_feed D I (bv := fun t => bisBs v w (.int 0 t) .none .none) (fun T D n m t tk hs => hf _ T D n m t tk hs v w) fun t => hQ _ (.cons r1 (.cons r2 (.cons (.int _ _) (.cons .none (.cons .none .nl)))))
end
section
open Lean
variable {B : Base} {d : Nat} {H : AH} {dV kV cdv : Value}
noncomputable abbrev stBis (a x lo hi : PV) : St := [(Str.ofString "a", .local, some a), (Str.ofString "x", .local, some x), (Str.ofString "lo", .local, some lo), (Str.ofString "hi", .local, some hi), (Str.ofString "key", .local, some .none), (Str.ofString "mid", .local, none),
 (Str.ofString "ValueError", .globalImplicit, some (.raw (.type "ValueError"))), (Str.ofString "len", .globalImplicit, some (.raw (.builtin "len")))]
theorem le_mid {lo hi : Nat} (h : lo < hi) : lo <= (lo + hi) / 2 := by omega
theorem mid_lt {lo hi : Nat} (h : lo < hi) : (lo + hi) / 2 < hi := by omega
noncomputable def clp (c lo hi : Nat) : Nat := max lo (min c hi)
theorem clp_up {c lo hi : Nat} (h : lo < hi) (hc : (lo + hi) / 2 < c) : clp c ((lo + hi) / 2 + 1) hi = clp c lo hi := by
 have h1 : (lo + hi) / 2 + 1 <= min c hi := Nat.le_min.mpr ⟨hc, mid_lt h⟩
 unfold clp; rw [Nat.max_eq_right h1, Nat.max_eq_right (ntr (Nat.le_succ_of_le (le_mid h)) h1)]
theorem clp_dn {c lo hi : Nat} (h : lo < hi) (hc : ¬ (lo + hi) / 2 < c) : clp c lo ((lo + hi) / 2) = clp c lo hi := by
 have h1 := Nat.le_of_not_lt hc
 unfold clp; rw [Nat.min_eq_left h1, Nat.min_eq_left (ntr h1 (Nat.le_of_lt (mid_lt h)))]
theorem clp_end {c lo hi : Nat} (h : ¬ lo < hi) : clp c lo hi = lo := Nat.max_eq_left (ntr (Nat.min_le_right _ _) (Nat.le_of_not_lt h))
theorem clp_all {c n : Nat} (h : c <= n) : clp c 0 n = c := (Nat.max_eq_right (Nat.zero_le _)).trans (Nat.min_eq_left h)
theorem clp_le {c lo hi n : Nat} (h : lo <= n) (h2 : hi <= n) : clp c lo hi <= n := Nat.max_le.mpr ⟨h, ntr (Nat.min_le_right _ _) h2⟩
noncomputable abbrev stBm (a x lo hi : PV) (mid : Option PV) : St := [(Str.ofString "a", .local, some a), (Str.ofString "x", .local, some x), (Str.ofString "lo", .local, some lo), (Str.ofString "hi", .local, some hi), (Str.ofString "key", .local, some .none), (Str.ofString "mid", .local, mid),
 (Str.ofString "ValueError", .globalImplicit, some (.raw (.type "ValueError"))), (Str.ofString "len", .globalImplicit, some (.raw (.builtin "len")))]
theorem half_nat (lo hi : Nat) : ((lo : Int) + (hi : Int)).fdiv 2 = ((lo + hi) / 2 : Nat) := by
 rw [Int.fdiv_eq_ediv_of_nonneg _ (by decide)]; lia
noncomputable def HiIs (hv : PV) (hi n : Nat) : Prop := (hv = .none /\ hi = n) \/ (hv = .int hi /\ hi <= n)
theorem HiIs.le {hv : PV} {hi n : Nat} (h : HiIs hv hi n) : hi <= n := by rcases h with ⟨_, h⟩ | ⟨_, h⟩ <;> lia
theorem Get_nat {B : Base} {d : Nat} {E : EP} {H : AH} {v : PV} {xs : List PV} {m : Nat} {Q : PQ} (hv : Items H v xs) (hm : m < xs.length) (hn : xs.length < 2 ^ 60) (h : Q xs[m] H) : V2 B d E getItem v (.int (m : Nat)) H Q :=
 Get_list hv (Int.natCast_nonneg _) (Int.lt_trans (Int.ofNat_lt.mpr (Nat.lt_trans hm hn)) (by decide)) (List.getElem?_eq_getElem hm) h
inductive BisIv (H : AH) (a x : PV) (c lo hi n : Nat) : Nat -> SQ
 | mk {lo' hi' : Nat} (mid : Option PV) (h : clp c lo' hi' = clp c lo hi) (hn : hi' <= n) : BisIv H a x c lo hi n (hi' - lo') (stBm a x (.int lo') (.int hi') mid) H
theorem bis_up {lo hi : Nat} (h : lo < hi) : hi - ((lo + hi) / 2 + 1) < hi - lo := by omega
theorem bis_dn {lo hi : Nat} (h : lo < hi) : (lo + hi) / 2 - lo < hi - lo := by omega
theorem X_to {B : Base} {fi : FnInfo} {d : Nat} {E : EP} {st : Stmt} {σ S : St} {H : AH} {Qn : SQ} {Qf : FQ} (h : X B fi d E st σ H (fun σ' H' => σ' = S /\ H' = H) Qf) (q : Qn S H) : X B fi d E st σ H Qn Qf :=
fun A s env eo R I F => wpAny_mono (h A s env eo R I F) (fun fl s' p => by
   obtain ⟨σ', H', t, F', hq⟩ := p
   rcases hq with ⟨e, rfl, rfl⟩ | h
   . exact ⟨_, _, t, F', .inl ⟨e, q⟩⟩
   . exact ⟨σ', H', t, F', .inr h⟩) fun O O x => x
theorem bisL_body {a x hv : PV} {lo hi c : Nat} {xs : List PV} {Q : PQ} (ha : Items H a xs) (hh : HiIs hv hi xs.length) (hn : xs.length < 2 ^ 60)
   (hlt : ∀ (d : Nat) m y, xs[m]? = some y -> P2 B d NoE H (compareOp .Lt) y x (.bool (decide (m < c)))) (q : Q (.int (clp c lo hi)) H) :
   Xs B (fiOf kBisL "bisect_left") d NoE (stBody (topSt kBisL)) (stBis a x (.int lo) hv) H (fun _ H' => Q .none H') (PX Q) := by
 refine' Xs_cons' ?_
 walk_at "w"
 refine' ifnd (Int.not_lt.mpr (Int.natCast_nonneg _)) ?_
 refine' Xs_nil (Xs_cons' (X_to (S := stBis a x (.int lo) (.int hi)) ?_ ?_))
 . walk_at "w"
   rcases hh with ⟨rfl, rfl⟩ | ⟨rfl, _⟩
   . walk_at "w"
     refine' ifp rfl ?_
     walk_at "w"
     refine ⟨KeepsV_builtin, ?_⟩
     walk_at "w"
     refine Call_len_list ha hn ?_
     walk_at "w"
     exact ⟨rfl, rfl⟩
   . walk_at "w"
     refine' ifn Bool.false_ne_true ?_
     walk_at "w"
     exact ⟨rfl, rfl⟩
 walk_at "w"
 refine' ifp rfl ?_
 refine' Xs_cons' (X_While (BisIv H a x c lo hi xs.length) ⟨none, rfl, hh.le⟩ ?_)
 rintro _ _ _ ⟨mid, hb, hle'⟩
 rename_i lo' hi'
 walk_at "w"
 by_cases hc : lo' < hi'
 . refine' ifp (decide_eq_true (Int.ofNat_lt.mpr hc)) ?_
   walk_at "w"
   refine' Bin_fdiv (by decide) (noPyS (by decide)) ?_
   rw [half_nat]
   walk_at "w"
   refine ⟨SubAt_items ha, ?_⟩
   have hm : (lo' + hi') / 2 < xs.length := nlt (mid_lt hc) hle'
   refine Get_nat ha hm hn ?_
   walk_at "w"
   refine' V2_P (hlt d _ _ (List.getElem?_eq_getElem hm)) ?_
   walk_at "w"
   by_cases hp : (lo' + hi') / 2 < c
   . refine' ifpd hp ?_
     walk_at "w"
     exact ⟨_, bis_up hc, ⟨_, (clp_up hc hp).trans hb, hle'⟩⟩
   . refine' ifnd hp ?_
     walk_at "w"
     exact ⟨_, bis_dn hc, ⟨_, (clp_dn hc hp).trans hb, Nat.le_of_lt hm⟩⟩
 . refine' ifn (fun e => hc (Int.ofNat_lt.mp (of_decide_eq_true e))) ?_
   walk_at "w"
   rw [clp_end hc] at hb
   rw [<- hb] at q
   exact q
theorem bisR_body {a x hv : PV} {lo hi c : Nat} {xs : List PV} {Q : PQ} (ha : Items H a xs) (hh : HiIs hv hi xs.length) (hn : xs.length < 2 ^ 60)
   (hlt : ∀ (d : Nat) m y, xs[m]? = some y -> P2 B d NoE H (compareOp .Lt) x y (.bool (!decide (m < c)))) (q : Q (.int (clp c lo hi)) H) :
   Xs B (fiOf kBisR "bisect_right") d NoE (stBody (topSt kBisR)) (stBis a x (.int lo) hv) H (fun _ H' => Q .none H') (PX Q) := by
 refine' Xs_cons' ?_
 walk_at "w"
 refine' ifnd (Int.not_lt.mpr (Int.natCast_nonneg _)) ?_
 refine' Xs_nil (Xs_cons' (X_to (S := stBis a x (.int lo) (.int hi)) ?_ ?_))
 . walk_at "w"
   rcases hh with ⟨rfl, rfl⟩ | ⟨rfl, _⟩
   . walk_at "w"
     refine' ifp rfl ?_
     walk_at "w"
     refine ⟨KeepsV_builtin, ?_⟩
     walk_at "w"
     refine Call_len_list ha hn ?_
     walk_at "w"
     exact ⟨rfl, rfl⟩
   . walk_at "w"
     refine' ifn Bool.false_ne_true ?_
     walk_at "w"
     exact ⟨rfl, rfl⟩
 walk_at "w"
 refine' ifp rfl ?_
 refine' Xs_cons' (X_While (BisIv H a x c lo hi xs.length) ⟨none, rfl, hh.le⟩ ?_)
 rintro _ _ _ ⟨mid, hb, hle'⟩
 rename_i lo' hi'
 walk_at "w"
 by_cases hc : lo' < hi'
 . refine' ifp (decide_eq_true (Int.ofNat_lt.mpr hc)) ?_
   walk_at "w"
   refine' Bin_fdiv (by decide) (noPyS (by decide)) ?_
   rw [half_nat]
   walk_at "w"
   refine ⟨SubAt_items ha, ?_⟩
   have hm : (lo' + hi') / 2 < xs.length := nlt (mid_lt hc) hle'
   refine Get_nat ha hm hn ?_
   walk_at "w"
   refine' V2_P (hlt d _ _ (List.getElem?_eq_getElem hm)) ?_
   walk_at "w"
   by_cases hp : (lo' + hi') / 2 < c
   . refine' ifnn hp ?_
     walk_at "w"
     exact ⟨_, bis_up hc, ⟨_, (clp_up hc hp).trans hb, hle'⟩⟩
   . refine' ifpn hp ?_
     walk_at "w"
     exact ⟨_, bis_dn hc, ⟨_, (clp_dn hc hp).trans hb, Nat.le_of_lt hm⟩⟩
 . refine' ifn (fun e => hc (Int.ofNat_lt.mp (of_decide_eq_true e))) ?_
   walk_at "w"
   rw [clp_end hc] at hb
   rw [<- hb] at q
   exact q
theorem bisL_chk : chkF [Str.ofString "a", Str.ofString "x", Str.ofString "lo", Str.ofString "hi", Str.ofString "key"] (stScope (topSt kBisL)) = true := by decide +kernel
theorem bisL_ini {a x lo hi : PV} (gV : GlobIs B "ValueError" (.raw (.type "ValueError"))) (gl : GlobIs B "len" (.raw (.builtin "len"))) : Ini B (bisP a x lo hi .none) (stScope (topSt kBisL)).names (stBis a x lo hi) := by
 refine .arg (by walk_at "mm") (.inl rfl) (.arg (by walk_at "mm") (.inl rfl) (.arg (by walk_at "mm") (.inl rfl) (.arg (by walk_at "mm") (.inl rfl) (.arg (by walk_at "mm") (.inl rfl) (.unset (.glob gV (.glob gl .nil)))))))
theorem bisL_call {f : Addr} {bs : List PV} {a x hv : PV} {lo hi c : Nat} {xs : List PV} {Q : PQ} (h : FnIs B f "bisect_left" kBisL dV kV cdv) (D : BisDef B dV kV)
   (gV : GlobIs B "ValueError" (.raw (.type "ValueError"))) (gl : GlobIs B "len" (.raw (.builtin "len"))) (ha : Items H a xs) (hh : HiIs hv hi xs.length) (hn : xs.length < 2 ^ 60)
   (hlt : ∀ (d : Nat) m y, xs[m]? = some y -> P2 B d NoE H (compareOp .Lt) y x (.bool (decide (m < c))))
   (hb : ∀ doc pm an ct, BindV B (fdOf "bisect_left" kBisL dV kV doc pm an cdv ct) bs [] H (bisP a x (.int lo) hv .none)) (q : Q (.int (clp c lo hi)) H) :
   CallV B (d + 1) NoE (.raw (.ref f)) bs [] H Q :=
 h.call hb rfl bisL_chk (bisL_ini gV gl) (bisL_body ha hh hn hlt q)
theorem bisL_call4 {f : Addr} {a x hv : PV} {lo hi c : Nat} {xs : List PV} {Q : PQ} (h : FnIs B f "bisect_left" kBisL dV kV cdv) (D : BisDef B dV kV)
   (gV : GlobIs B "ValueError" (.raw (.type "ValueError"))) (gl : GlobIs B "len" (.raw (.builtin "len"))) (ha : Items H a xs) (hh : HiIs hv hi xs.length) (hn : xs.length < 2 ^ 60)
   (hlt : ∀ (d : Nat) m y, xs[m]? = some y -> P2 B d NoE H (compareOp .Lt) y x (.bool (decide (m < c)))) (q : Q (.int (clp c lo hi)) H) :
   CallV B (d + 1) NoE (.raw (.ref f)) [a, x, .int lo, hv] [] H Q :=
 bisL_call h D gV gl ha hh hn hlt (fun doc pm an ct => BindV_4 (fd := fun dV kV => fdOf "bisect_left" kBisL dV kV doc pm an cdv ct) D fun S T D n m t tk hs v w u z => bis4L) q
theorem bisL_call2 {f : Addr} {a x : PV} {c : Nat} {xs : List PV} {Q : PQ} (h : FnIs B f "bisect_left" kBisL dV kV cdv) (D : BisDef B dV kV)
   (gV : GlobIs B "ValueError" (.raw (.type "ValueError"))) (gl : GlobIs B "len" (.raw (.builtin "len"))) (ha : Items H a xs) (hn : xs.length < 2 ^ 60)
   (hlt : ∀ (d : Nat) m y, xs[m]? = some y -> P2 B d NoE H (compareOp .Lt) y x (.bool (decide (m < c)))) (q : Q (.int (clp c 0 xs.length)) H) :
   CallV B (d + 1) NoE (.raw (.ref f)) [a, x] [] H Q :=
 bisL_call (lo := 0) (hi := xs.length) (hv := .none) h D gV gl ha (.inl ⟨rfl, rfl⟩) hn hlt (fun doc pm an ct => BindV_2 (fd := fun dV kV => fdOf "bisect_left" kBisL dV kV doc pm an cdv ct) D fun S T D n m t tk hs v w => bis2L) q
theorem bisR_chk : chkF [Str.ofString "a", Str.ofString "x", Str.ofString "lo", Str.ofString "hi", Str.ofString "key"] (stScope (topSt kBisR)) = true := by decide +kernel
theorem bisR_ini {a x lo hi : PV} (gV : GlobIs B "ValueError" (.raw (.type "ValueError"))) (gl : GlobIs B "len" (.raw (.builtin "len"))) : Ini B (bisP a x lo hi .none) (stScope (topSt kBisR)).names (stBis a x lo hi) := by
 refine .arg (by walk_at "mm") (.inl rfl) (.arg (by walk_at "mm") (.inl rfl) (.arg (by walk_at "mm") (.inl rfl) (.arg (by walk_at "mm") (.inl rfl) (.arg (by walk_at "mm") (.inl rfl) (.unset (.glob gV (.glob gl .nil)))))))
theorem bisR_call {f : Addr} {bs : List PV} {a x hv : PV} {lo hi c : Nat} {xs : List PV} {Q : PQ} (h : FnIs B f "bisect_right" kBisR dV kV cdv) (D : BisDef B dV kV)
   (gV : GlobIs B "ValueError" (.raw (.type "ValueError"))) (gl : GlobIs B "len" (.raw (.builtin "len"))) (ha : Items H a xs) (hh : HiIs hv hi xs.length) (hn : xs.length < 2 ^ 60)
   (hlt : ∀ (d : Nat) m y, xs[m]? = some y -> P2 B d NoE H (compareOp .Lt) x y (.bool (!decide (m < c))))
   (hb : ∀ doc pm an ct, BindV B (fdOf "bisect_right" kBisR dV kV doc pm an cdv ct) bs [] H (bisP a x (.int lo) hv .none)) (q : Q (.int (clp c lo hi)) H) :
   CallV B (d + 1) NoE (.raw (.ref f)) bs [] H Q :=
 h.call hb rfl bisR_chk (bisR_ini gV gl) (bisR_body ha hh hn hlt q)
theorem bisR_call4 {f : Addr} {a x hv : PV} {lo hi c : Nat} {xs : List PV} {Q : PQ} (h : FnIs B f "bisect_right" kBisR dV kV cdv) (D : BisDef B dV kV)
   (gV : GlobIs B "ValueError" (.raw (.type "ValueError"))) (gl : GlobIs B "len" (.raw (.builtin "len"))) (ha : Items H a xs) (hh : HiIs hv hi xs.length) (hn : xs.length < 2 ^ 60)
   (hlt : ∀ (d : Nat) m y, xs[m]? = some y -> P2 B d NoE H (compareOp .Lt) x y (.bool (!decide (m < c)))) (q : Q (.int (clp c lo hi)) H) :
   CallV B (d + 1) NoE (.raw (.ref f)) [a, x, .int lo, hv] [] H Q :=
 bisR_call h D gV gl ha hh hn hlt (fun doc pm an ct => BindV_4 (fd := fun dV kV => fdOf "bisect_right" kBisR dV kV doc pm an cdv ct) D fun S T D n m t tk hs v w u z => bis4R) q
theorem bisR_call2 {f : Addr} {a x : PV} {c : Nat} {xs : List PV} {Q : PQ} (h : FnIs B f "bisect_right" kBisR dV kV cdv) (D : BisDef B dV kV)
   (gV : GlobIs B "ValueError" (.raw (.type "ValueError"))) (gl : GlobIs B "len" (.raw (.builtin "len"))) (ha : Items H a xs) (hn : xs.length < 2 ^ 60)
   (hlt : ∀ (d : Nat) m y, xs[m]? = some y -> P2 B d NoE H (compareOp .Lt) x y (.bool (!decide (m < c)))) (q : Q (.int (clp c 0 xs.length)) H) :
   CallV B (d + 1) NoE (.raw (.ref f)) [a, x] [] H Q :=
 bisR_call (lo := 0) (hi := xs.length) (hv := .none) h D gV gl ha (.inl ⟨rfl, rfl⟩) hn hlt (fun doc pm an ct => BindV_2 (fd := fun dV kV => fdOf "bisect_right" kBisR dV kV doc pm an cdv ct) D fun S T D n m t tk hs v w => bis2R) q
end
section
open Lean
variable {B : Base} {d : Nat} {H : AH} {dV kV cdv dV' kV' cdv' : Value}
noncomputable abbrev stIns (g : Str) (a x lo hi gf : PV) : St := [(Str.ofString "a", .local, some a), (Str.ofString "x", .local, some x), (Str.ofString "lo", .local, some lo), (Str.ofString "hi", .local, some hi), (Str.ofString "key", .local, some .none), (g, .globalImplicit, some gf)]
theorem insL_chk : chkF [Str.ofString "a", Str.ofString "x", Str.ofString "lo", Str.ofString "hi", Str.ofString "key"] (stScope (topSt kInsL)) = true := by decide +kernel
theorem insR_chk : chkF [Str.ofString "a", Str.ofString "x", Str.ofString "lo", Str.ofString "hi", Str.ofString "key"] (stScope (topSt kInsR)) = true := by decide +kernel
theorem insL_ini {a x lo hi gf : PV} (gb : GlobIs B "bisect_left" gf) : Ini B (bisP a x lo hi .none) (stScope (topSt kInsL)).names (stIns "bisect_left" a x lo hi gf) := by
 refine .arg (by walk_at "mm") (.inl rfl) (.arg (by walk_at "mm") (.inl rfl) (.arg (by walk_at "mm") (.inl rfl) (.arg (by walk_at "mm") (.inl rfl) (.arg (by walk_at "mm") (.inl rfl) (.glob gb .nil)))))
theorem insR_ini {a x lo hi gf : PV} (gb : GlobIs B "bisect_right" gf) : Ini B (bisP a x lo hi .none) (stScope (topSt kInsR)).names (stIns "bisect_right" a x lo hi gf) := by
 refine .arg (by walk_at "mm") (.inl rfl) (.arg (by walk_at "mm") (.inl rfl) (.arg (by walk_at "mm") (.inl rfl) (.arg (by walk_at "mm") (.inl rfl) (.arg (by walk_at "mm") (.inl rfl) (.glob gb .nil)))))
theorem KeepsV_FnIs {f : Addr} {name : Str} {k : Nat} (h : FnIs B f name k dV kV cdv) : KeepsV B (.raw (.ref f)) := by
 obtain ⟨oc, od, osl, doc, pm, an, ct, ho⟩ := h.at_
 exact KeepsV_fn ho rfl
theorem insL_call4 {f g A : Addr} {x hv : PV} {lo hi c : Nat} {xs : List PV} {H' : AH} {Q : PQ} (h : FnIs B f "insort_left" kInsL dV kV cdv) (D : BisDef B dV kV) (h' : FnIs B g "bisect_left" kBisL dV' kV' cdv') (D' : BisDef B dV' kV')
   (gb : GlobIs B "bisect_left" (.raw (.ref g))) (gV : GlobIs B "ValueError" (.raw (.type "ValueError"))) (gl : GlobIs B "len" (.raw (.builtin "len"))) (hm : (A, xs) ∈ H) (hh : HiIs hv hi xs.length) (hlo : lo <= 2 ^ 60) (hn : xs.length <= sizeLine)
   (hlt : ∀ (d : Nat) m y, xs[m]? = some y -> P2 B d NoE H (compareOp .Lt) y x (.bool (decide (m < c)))) (u : Upd A xs (insAt xs (min (clp c lo hi) xs.length) x) H H') (q : Q .none H') :
   CallV B (d + 2) NoE (.raw (.ref f)) [.lref A, x, .int lo, hv] [] H Q := by
 refine h.call (fun doc pm an ct => BindV_4 (fd := fun dV kV => fdOf "insort_left" kInsL dV kV doc pm an cdv ct) D fun S T D n m t tk hs v w u z => ins4L) rfl insL_chk (insL_ini gb) ?_
 have hn' : xs.length < 2 ^ 60 := by have := hn; rw [sizeLine_eq] at this; lia
 have hb : clp c lo hi < 2 ^ 63 := Nat.lt_of_le_of_lt (clp_le hlo (ntr hh.le (Nat.le_of_lt hn'))) (by decide)
 refine' Xs_cons' ?_
 walk_at "w"
 refine' ifp (show isPV .none .none = true from rfl) ?_
 walk_at "w"
 refine ⟨KeepsV_FnIs h', ?_⟩
 walk_at "w"
 refine bisL_call4 h' D' gV gl (.lref hm) hh hn' hlt ?_
 walk_at "w"
 refine ⟨_, Meth_insert (.lref hm), ?_⟩
 walk_at "w"
 refine Call_insert (by lia) (by lia) (by rw [Int.toNat_natCast]; exact u) hn ?_
 walk_at "w"
 exact q
theorem insR_call4 {f g A : Addr} {x hv : PV} {lo hi c : Nat} {xs : List PV} {H' : AH} {Q : PQ} (h : FnIs B f "insort_right" kInsR dV kV cdv) (D : BisDef B dV kV) (h' : FnIs B g "bisect_right" kBisR dV' kV' cdv') (D' : BisDef B dV' kV')
   (gb : GlobIs B "bisect_right" (.raw (.ref g))) (gV : GlobIs B "ValueError" (.raw (.type "ValueError"))) (gl : GlobIs B "len" (.raw (.builtin "len"))) (hm : (A, xs) ∈ H) (hh : HiIs hv hi xs.length) (hlo : lo <= 2 ^ 60) (hn : xs.length <= sizeLine)
   (hlt : ∀ (d : Nat) m y, xs[m]? = some y -> P2 B d NoE H (compareOp .Lt) x y (.bool (!decide (m < c)))) (u : Upd A xs (insAt xs (min (clp c lo hi) xs.length) x) H H') (q : Q .none H') :
   CallV B (d + 2) NoE (.raw (.ref f)) [.lref A, x, .int lo, hv] [] H Q := by
 refine h.call (fun doc pm an ct => BindV_4 (fd := fun dV kV => fdOf "insort_right" kInsR dV kV doc pm an cdv ct) D fun S T D n m t tk hs v w u z => ins4R) rfl insR_chk (insR_ini gb) ?_
 have hn' : xs.length < 2 ^ 60 := by have := hn; rw [sizeLine_eq] at this; lia
 have hb : clp c lo hi < 2 ^ 63 := Nat.lt_of_le_of_lt (clp_le hlo (ntr hh.le (Nat.le_of_lt hn'))) (by decide)
 refine' Xs_cons' ?_
 walk_at "w"
 refine' ifp (show isPV .none .none = true from rfl) ?_
 walk_at "w"
 refine ⟨KeepsV_FnIs h', ?_⟩
 walk_at "w"
 refine bisR_call4 h' D' gV gl (.lref hm) hh hn' hlt ?_
 walk_at "w"
 refine ⟨_, Meth_insert (.lref hm), ?_⟩
 walk_at "w"
 refine Call_insert (by lia) (by lia) (by rw [Int.toNat_natCast]; exact u) hn ?_
 walk_at "w"
 exact q
end
noncomputable def escTok : Nat -> Bool -> List Nat -> List (Nat × List Nat)
 | i, e, [] => if e then [(i - 1, [92])] else []
 | i, true, c :: r => (i, [92, c]) :: escTok (i + 1) false r
 | i, false, c :: r => if c = 92 then escTok (i + 1) true r else (i, [c]) :: escTok (i + 1) false r
noncomputable def tokPV (t : Nat × List Nat) : PV := .tup [.int t.1, .str ⟨t.2.toArray⟩]
noncomputable def B0 (B : Base) : Base := { B with tabs := [], tabsHidden := (fun O h => nomatch h), low := (fun O h => nomatch h) }
theorem Inv0 {B : Base} {H : AH} {s : Shared} (I : Inv B H s) : Inv (B0 B) [] s := ⟨I.keep, I.size, (fun O h => nomatch h), I.bare, I.os, List.nodup_nil, (fun q hq => let ⟨a, b, c, _⟩ := I.hid q hq; ⟨a, b, c, (fun h => nomatch h)⟩), (fun O h => nomatch h)⟩
theorem Trk0 {B : Base} {s : Shared} {a : Addr} {o : Obj} (I : Inv (B0 B) [] s) (e : s.heap.get? a = some o) (hs : ¬ IsSeqO o) : ¬ Trk (B0 B) [] a := fun q => by
 rcases q with q | q | q
 . cases q
 . cases q
 . exact not_hid_of I e (fun vs n h => hs ⟨vs, n, h⟩) q
section
variable {B : Base}
noncomputable abbrev stG (x : Str) (p e ch : Option PV) : St := [(Str.ofString "addr", .local, some (.str x)), (Str.ofString "pos", .local, p), (Str.ofString "escape", .local, e), (Str.ofString "ch", .local, ch), (Str.ofString "enumerate", .globalImplicit, some (.raw (.type "enumerate")))]
noncomputable abbrev fiG : FnInfo := fiOf kIter "_iter_escaped_chars"
structure GRel (B : Base) (ws : List Addr) (s s' : Shared) : Prop where
 inv : Inv (B0 B) [] s'
 heap : ∀ a o, s.heap.get? a = some o -> a ∉ ws -> s'.heap.get? a = some o
 size : s.heap.objs.size <= s'.heap.objs.size
 gens : ∀ (i : Nat) (x : GenState), s.gens[i]? = some x -> s'.gens[i]? = some x
theorem GRel.refl {ws : List Addr} {s : Shared} (I : Inv (B0 B) [] s) : GRel B ws s s := ⟨I, fun O O e O => e, Nat.le_refl _, fun O O e => e⟩
theorem GRel.trans {ws : List Addr} {s s' s'' : Shared} (a : GRel B ws s s') (b : GRel B ws s' s'') : GRel B ws s s'' :=
 ⟨b.inv, fun x o e n => b.heap x o (a.heap x o e n) n, ntr a.size b.size, fun i x e => b.gens i x (a.gens i x e)⟩
theorem GRel.of_tr {env : Env} {ws : List Addr} {s s' : Shared} (I : Inv (B0 B) [] s) (hc : env.cells = []) (hw : env.locals ∈ ws) (t : Tr (B0 B) (ownU env) [] s [] s') : GRel B ws s s' :=
by
 refine ⟨t.inv, fun a o e n => ?_, t.step.size, t.step.gens⟩
 by_cases hh : a ∈ (B0 B).hid.map (·.1)
 . obtain ⟨q, hq, rfl⟩ := mmp hh
   have h1 := (I.hid q hq).1
   rw [e] at h1; cases h1
   exact (t.inv.hid q hq).1
 . refine t.step.heap a o e fun q => ?_
   rcases q with q | q | ⟨x, _, hx, _⟩
   . rcases q with q | q | q
     . cases q
     . cases q
     . exact hh q
   . exact n (q ▸ hw)
   . rw [hc] at hx; cases hx
structure GLater (B : Base) (ws : List Addr) (s s' : Shared) : Prop where
 inv : Inv (B0 B) [] s'
 own : ∀ a ∈ ws, ∀ o, s.heap.get? a = some o -> s'.heap.get? a = some o
noncomputable def easy (q : PV) : Prop := ∀ {T T' : Addr -> Prop} {h h' : Heap} {v : Value}, VR T h v q -> VR T' h' v q
noncomputable def plainO (o : Option PV) : Prop := ∀ q, o = some q -> easy q
noncomputable def GMem (e : Str × NameKind × Option PV) : Prop := match e.2.1 with
 | .local => plainO e.2.2
 | .globalImplicit => True
 | _ => False
theorem plain_int {i : Int} : plainO (some (.int i)) := fun q e => Option.some.inj e ▸ fun r => by obtain ⟨O, rfl⟩ := r.inv; exact .int _ _
theorem plain_str {z : Str} : plainO (some (.str z)) := fun q e => Option.some.inj e ▸ fun r => by obtain ⟨O, rfl⟩ := r.inv; exact .str _ _
theorem plain_bool {b : Bool} : plainO (some (.bool b)) := fun q e => Option.some.inj e ▸ fun r => by rw [r.inv]; exact .bool _
theorem plain_none : plainO none := fun q e => nomatch e
theorem stG_plain {x : Str} {p e ch : Option PV} (h1 : plainO p) (h2 : plainO e) (h3 : plainO ch) : ∀ q ∈ stG x p e ch, GMem q :=
 fmc ⟨plain_str, fmc ⟨h1, fmc ⟨h2, fmc ⟨h3, fmc ⟨trivial, fun O h => absurd h List.not_mem_nil⟩⟩⟩⟩⟩
theorem FrameOk.glater {env : Env} {x : Str} {p e ch : Option PV} {s s' : Shared} {ws : List Addr} (F : FrameOk (B0 B) env (stG x p e ch) [] s) (hw : env.locals ∈ ws) (l : GLater B ws s s')
   (hp : ∀ q ∈ stG x p e ch, GMem q) : FrameOk (B0 B) env (stG x p e ch) [] s' := by
 refine ⟨F.fresh, F.apart, F.keys, F.nodup, ?_, fun y ov hy => hy.elim (fun h => (hp _ h).elim) fun h => (hp _ h).elim, F.glob⟩
 obtain ⟨m, ⟨o, es, ep, ho, hd, r⟩, hm⟩ := F.ns
 refine ⟨m, ⟨o, es, ep, l.own _ hw _ ho, hd, r⟩, fun y q hy => ?_⟩
 obtain ⟨v, e1, e2⟩ := hm y q hy
 exact ⟨v, e1, hp _ hy q rfl e2⟩
variable {A : Around} {env : Env} {x : Str} {t : Tok}
structure GAt (B : Base) (env : Env) (x : Str) (t : Tok) (e it : Addr) (i : Nat) (p esc ch : Option PV) (s : Shared) : Prop where
 frame : FrameOk (B0 B) env (stG x p esc ch) [] s
 enum : ∃ old, IsEnum s.heap e it i old
 iter : s.heap.IsStrIter it "str_ascii_iterator" x t i
 ne : e ≠ it
 ne1 : env.locals ≠ e
 ne2 : env.locals ≠ it
 ge : B.g.objs.size <= e
 gi : B.g.objs.size <= it
 le : i <= x.cps.size
noncomputable abbrev gws (env : Env) (e it : Addr) : List Addr := [env.locals, e, it]
theorem GAt.notin {e it : Addr} {i : Nat} {p esc ch : Option PV} {s : Shared} (g : GAt B env x t e it i p esc ch s) : ∀ a ∈ [env.locals], a ∉ [e, it] := fun a h => msp h ▸ fun q => (mcp q).elim g.ne1 fun q => g.ne2 (msp q)
theorem GAt.later {e it : Addr} {i : Nat} {p esc ch : Option PV} {s s' : Shared} (g : GAt B env x t e it i p esc ch s) (l : GLater B (gws env e it) s s') (h1 : plainO p) (h2 : plainO esc) (h3 : plainO ch) : GAt B env x t e it i p esc ch s' :=
 ⟨g.frame.glater (.head _) l (stG_plain h1 h2 h3), by obtain ⟨old, h⟩ := g.enum; exact ⟨old, l.own _ (.tail _ (.head _)) _ h⟩, by obtain ⟨o, h, r⟩ := g.iter; exact ⟨o, l.own _ (.tail _ (.tail _ (.head _))) _ h, r⟩, g.ne, g.ne1, g.ne2, g.ge, g.gi, g.le⟩
theorem GAt.frm {e it : Addr} {i : Nat} {p esc ch p' esc' ch' : Option PV} {s s' : Shared} (g : GAt B env x t e it i p esc ch s) (r : GRel B [env.locals] s s') (F : FrameOk (B0 B) env (stG x p' esc' ch') [] s') : GAt B env x t e it i p' esc' ch' s' :=
 ⟨F, by obtain ⟨old, h⟩ := g.enum; exact ⟨old, r.heap _ _ h (fun q => g.ne1 (msp q).symm)⟩, by obtain ⟨o, h, q⟩ := g.iter; exact ⟨o, r.heap _ _ h (fun q => g.ne2 (msp q).symm), q⟩, g.ne, g.ne1, g.ne2, g.ge, g.gi, g.le⟩
theorem GRel.mono {ws ws' : List Addr} {s s' : Shared} (h : ∀ a ∈ ws, a ∈ ws') (r : GRel B ws s s') : GRel B ws' s s' := ⟨r.inv, fun a o e n => r.heap a o e fun q => n (h a q), r.size, r.gens⟩
theorem siter_loose {h : Heap} {it : Addr} {i : Nat} {ty : String} (y : h.IsStrIter it ty x t i) : ∀ o, h.get? it = some o -> Loose o := fun o ho => by
 obtain ⟨o', e, O, hd⟩ := y
 rw [e] at ho; cases ho; exact loose_fields hd (by intro q t; simp)
theorem ns_loose {h : Heap} {C : Addr} {m : Str -> Option Value} (y : h.Ns C m) : ∀ o, h.get? C = some o -> Loose o := fun o ho => by
 obtain ⟨o', O, O, e, hd, O⟩ := y
 rw [e] at ho; cases ho
 refine ⟨fun q => ?_, fun vs q t e => ?_⟩
 . obtain ⟨O, O, q⟩ := q; rw [hd] at q; cases q
 . rw [hd] at e; cases e
theorem own0 {a : Addr} {s : Shared} {o : Obj} (I : Inv (B0 B) [] s) (h : B.g.objs.size <= a) (e : s.heap.get? a = some o) (hl : Loose o) : Own (B0 B) [] a := ⟨h, Trk0 I e hl.1⟩
theorem scan_next {elts : List Expr} {k : Nat} {pos : Pos} {e it : Addr} {i : Nat} {p esc ch : Option PV} {s : Shared} (ha : x.cps.all (· < 128) = true) (hA : A.handled = none) (I : Inv (B0 B) [] s) (g : GAt B env x t e it i p esc ch s) :
   wpAny (model B.prog B.w) A (pyNext (.ref e)) (fun r s₁ => match x.cps.toList.drop i with
     | [] => r = none /\ GRel B [e, it] s s₁
     | c :: _ => ∃ v, r = some v /\ wpAny (model B.prog B.w) A (letOwnedTupleGo (.Tuple elts k pos) (.ref e) v) (fun O s₂ => GRel B [e, it] s s₂ /\ VR (Trk (B0 B) []) s₂.heap v (.tup [.int i, .str ⟨#[c]⟩]) /\
         (∃ old, IsEnum s₂.heap e it (i + 1 : Nat) old) /\ s₂.heap.IsStrIter it "str_ascii_iterator" x t (i + 1)) NoE s₁) NoE s := by
 obtain ⟨old, he⟩ := g.enum
 have D := Draws.strAscii (prog := B.prog) (w := B.w) (A := A.in1) hA it x t
 have hL : ∀ p ∈ [e, it], ∀ o, s.heap.get? p = some o -> Loose o := fun p hp o eq => by
   rcases mcp hp with rfl | hp
   . exact enum_loose he o eq
   . rw [msp hp] at eq; exact siter_loose g.iter o eq
 have hO : ∀ p ∈ [e, it], Own (B0 B) [] p := fun p hp => by
   rcases mcp hp with rfl | hp
   . exact own0 I g.ge he (hL _ (.head _) _ he)
   . rw [msp hp]
     obtain ⟨oi, hoi, O⟩ := id g.iter
     exact own0 I g.gi hoi (hL _ (.tail _ (.head _)) _ hoi)
 have toRel : ∀ {s' : Shared}, Only (B0 B) (· ∈ [e, it]) (fun O => False) [] s s' -> GRel B [e, it] s s' := fun o => ⟨o.inv, o.heap, o.size, fun i x q => o.gens i x q id⟩
 rcases Nat.lt_or_ge i x.cps.size with hi | hi
 . have hd : x.cps.toList.drop i = x.cps[i] :: x.cps.toList.drop (i + 1) := by
     rw [List.drop_eq_getElem_cons (by simpa using hi)]; simp
   rw [hd]
   refine wpAny_pyNext_enum_itemD D he g.iter hi g.ne (by simp [g.ne]) fun y h' tk hP ho hit' hT hsz hk => ⟨_, rfl, ?_⟩
   obtain ⟨c, u, hc, rfl⟩ := hP
   have hcc : c = x.cps[i] := by rw [Array.getElem?_eq_getElem hi] at hc; cases hc; rfl
   subst hcc
   refine wpAny_letOwnedTupleGo_enum ho fun h₂ he₂ hs₂ => ?_
   have hz : s.heap.objs.size <= h₂.objs.size := by rw [hs₂.1, hsz]; exact Nat.le_succ _
   have o := own_only (t := tk + 1) I (h' := h₂) (fun a o eq hn => (hs₂.2 a fun q => hn (q ▸ .head _)).trans (hk a o (fun q => hn (q ▸ .head _)) (fun q => hn (q ▸ .tail _ (.head _))) eq)) hz hO hL
   have helt := Heap.lt_size he
   refine ⟨toRel o, ?_, ⟨_, by simpa using he₂⟩, ?_⟩
   . exact .tup (vs := #[.int i tk, .str ⟨#[x.cps[i]]⟩ u]) (n := 0) ((hs₂.2 _ (Nat.ne_of_gt helt)).trans hT) (not_trk_size I) (.cons (.int _ _) (.cons (.str _ _) .nil))
   . obtain ⟨oi, a, b⟩ := hit'
     exact ⟨oi, (hs₂.2 _ (Ne.symm g.ne)).trans a, b⟩
 . have hd : x.cps.toList.drop i = [] := List.drop_eq_nil_iff.mpr (by simpa using hi)
   rw [hd]
   have hi' : i = x.cps.size := Nat.le_antisymm g.le hi
   have hit := g.iter
   rw [hi'] at hit
   exact wpAny_grow (wpAny_pyNext_enum_endD D he hit fun h' hx hz => ⟨rfl, toRel (own_only (t := s.toks) I (fun a o eq hn => hx a o (fun q => hn (q ▸ .tail _ (.head _))) eq) hz hO hL)⟩)
inductive GSus (B : Base) (A : Around) (tk : Nat × List Nat) (N : List Addr -> Shared -> End -> Shared -> Prop) (ws : List Addr) (s₀ : Shared) (e : End) (s' : Shared) : Prop
 | mk (v : Value) (g : Bool) (l : List Value) (k : Resume -> Sem Fin) (c : Code) (p : Pos) (fs : List Frame) (ws' : List Addr) (he : e = .susp v g l k c p fs) (hq : e.quiet = true) (vr : VR (Trk (B0 B) []) s'.heap v (tokPV tk)) (G : GRel B ws s₀ s')
     (hws : ∀ a ∈ ws', (a ∈ ws \/ s₀.heap.objs.size <= a) /\ ∃ o, s'.heap.get? a = some o /\ Loose o) (go : ∀ s'', GLater B ws' s' s'' -> GoesE (model B.prog B.w) A (N ws' s'') e.genState s'')
noncomputable def GEnd (B : Base) (A : Around) : List (Nat × List Nat) -> List Addr -> Shared -> End -> Shared -> Prop
 | [], ws, s₀, e, s' => e = .ret (.ok (.ret .none)) /\ GRel B ws s₀ s'
 | tk :: r, ws, s₀, e, s' => GSus B A tk (fun ws' s'' => GEnd B A r ws' s'') ws s₀ e s'
theorem GRel.gsize {ws : List Addr} {s s' : Shared} (r : GRel B ws s s') : s.gens.size <= s'.gens.size := Nat.le_of_not_lt fun h =>
 nomatch (Array.getElem?_eq_none (Nat.le_refl _)).symm.trans (r.gens _ _ (Array.getElem?_eq_getElem h))
theorem GRel.ext {ws ws' : List Addr} {s₀ s s' : Shared} (a : GRel B ws s₀ s) (b : GRel B ws' s s') (h : ∀ x ∈ ws', x ∈ ws \/ s₀.heap.objs.size <= x) : GRel B ws s₀ s' :=
 ⟨b.inv, fun x o e n => b.heap x o (a.heap x o e n) fun q => (h x q).elim n fun q => absurd (Heap.lt_size e) (nlr q), ntr a.size b.size, fun i x e => b.gens i x (a.gens i x e)⟩
theorem GAt.loose {e it : Addr} {i : Nat} {p esc ch : Option PV} {s : Shared} (g : GAt B env x t e it i p esc ch s) : ∀ a ∈ gws env e it, ∃ o, s.heap.get? a = some o /\ Loose o := fun a ha => by
 simp only [gws, List.mem_cons, List.not_mem_nil, or_false] at ha
 rcases ha with rfl | rfl | rfl
 . obtain ⟨m, hns, O⟩ := g.frame.ns
   obtain ⟨o, a1, a2, ho, r⟩ := id hns
   exact ⟨o, ho, ns_loose hns o ho⟩
 . obtain ⟨old, he⟩ := g.enum; exact ⟨_, he, enum_loose he _ he⟩
 . obtain ⟨o, ho, r⟩ := id g.iter; exact ⟨o, ho, siter_loose g.iter o ho⟩
theorem GRel.later {ws ws' : List Addr} {s s' : Shared} (r : GRel B ws s s') (h : ∀ a ∈ ws', a ∉ ws) : GLater B ws' s s' := ⟨r.inv, fun a ha o e => r.heap a o e (h a ha)⟩
noncomputable def forTgt : Stmt -> Expr
 | .For t _ _ _ _ => t
 | _ => .Constant .none 0 default
noncomputable def forBody : Stmt -> List Stmt
 | .For _ _ b _ _ => b
 | _ => []
noncomputable abbrev gFor : Stmt := ((stBody (topSt kIter))[2]?).getD (.Pass default)
theorem gTgt : ∃ elts k pos, forTgt gFor = .Tuple elts k pos := ⟨_, _, _, rfl⟩
theorem gen_assign {i : Nat} {c : Nat} {p esc ch : Option PV} {d : Nat} : Asg (B0 B) fiG d NoE (forTgt gFor) (.tup [.int i, .str ⟨#[c]⟩]) (stG x p esc ch) [] (fun σ H => σ = stG x (some (.int i)) esc (some (.str ⟨#[c]⟩)) /\ H = []) := by
 obtain ⟨elts, k, pos, h⟩ := gTgt
 show Asg (B0 B) fiG d NoE (.Tuple _ _ _) _ _ _ _
 walk_at "w"
 exact ⟨rfl, rfl⟩
end
section
variable {B : Base} {A : Around} {env : Env} {x : Str} {t : Tok}
theorem GRel.of_tr0 {s s' : Shared} (I : Inv (B0 B) [] s) (t : Tr (B0 B) noU [] s [] s') : GRel B [] s s' := by
 refine ⟨t.inv, fun a o e n => ?_, t.step.size, t.step.gens⟩
 by_cases hh : a ∈ (B0 B).hid.map (·.1)
 . obtain ⟨q, hq, rfl⟩ := mmp hh
   have h1 := (I.hid q hq).1
   rw [e] at h1; cases h1
   exact (t.inv.hid q hq).1
 . refine t.step.heap a o e fun q => ?_
   rcases q with q | q
   . rcases q with q | q | q
     . cases q
     . cases q
     . exact hh q
   . exact q
theorem gen_exec {c : Code} {fs : List Frame} {Φ : End -> Shared -> Prop} {K : Flow -> Sem Fin} {Hh : Value -> Sem Fin} {gd : Bool -> Bool} {lv : List Value -> List Value} {st : Stmt} {σ : St} {s : Shared} {Qn : St -> Prop}
   (he : EnvOk (B0 B) fiG env) (hc : env.cells = []) (R : Room (A.over c fs) 3) (I : Inv (B0 B) [] s) (F : FrameOk (B0 B) env σ [] s)
   (hx : X (B0 B) fiG 3 NoE st σ [] (fun σ' H => H = [] /\ Qn σ') (fun O O O => False))
   (h : ∀ σ' s', Qn σ' -> FrameOk (B0 B) env σ' [] s' -> GRel B [env.locals] s s' -> SegE (model B.prog B.w) A Φ c (K .next) fs s') : SegE (model B.prog B.w) A Φ c ((exec st env).wrap K Hh gd lv) fs s := by
 refine sg_exec (wpAny_mono (hx (A.over c fs) s env he R I F) (fun f s' hh1 => ?_) fun O O x => x)
 obtain ⟨σ', H', tr, F', q⟩ := hh1
 rcases q with ⟨rfl, rfl, q⟩ | ⟨pf, _, q⟩
 . exact h σ' s' q F' (GRel.of_tr I hc (by simp) tr)
 . exact q.elim
theorem gen_If {c : Code} {fs : List Frame} {Φ : End -> Shared -> Prop} {K : Flow -> Sem Fin} {Hh : Value -> Sem Fin} {gd : Bool -> Bool} {lv : List Value -> List Value} {tst : Expr} {b o : List Stmt} {pos : Pos} {σ : St} {s : Shared} {r : Bool}
   (he : EnvOk (B0 B) fiG env) (hc : env.cells = []) (R : Room (A.over c fs) 3) (I : Inv (B0 B) [] s) (F : FrameOk (B0 B) env σ [] s)
   (hx : Tst (B0 B) fiG 3 NoE tst σ [] (fun v H => H = [] /\ v = r))
   (h : ∀ s', FrameOk (B0 B) env σ [] s' -> GRel B [] s s' -> SegE (model B.prog B.w) A Φ c ((execs (if r then b else o) env).wrap K Hh gd lv) fs s') : SegE (model B.prog B.w) A Φ c ((exec (.If tst b o pos) env).wrap K Hh gd lv) fs s := by
 refine sg_If (wpAny_mono (hx (A.over c fs) s env he R I F) (fun v s' hh1 => ?_) fun O O x => x)
 obtain ⟨H', tr, q⟩ := hh1
 obtain ⟨rfl, rfl⟩ := q
 exact h s' (F.tr I tr) (GRel.of_tr0 I tr)
theorem gen_Yield {c : Code} {fs : List Frame} {K : Flow -> Sem Fin} {Hh : Value -> Sem Fin} {gd : Bool -> Bool} {lv : List Value -> List Value} {y : Expr} {ypos pos : Pos} {σ : St} {s s₀ : Shared} {tk : Nat × List Nat} {rest : List (Nat × List Nat)} {ws ws' : List Addr}
   (he : EnvOk (B0 B) fiG env) (hc : env.cells = []) (R : Room (A.over c fs) 3) (I : Inv (B0 B) [] s) (F : FrameOk (B0 B) env σ [] s) (hfs : splitAtGen fs = none) (hgd : gd false = false) (hfg : fs.any Frame.guarded = false) (hw : env.locals ∈ ws)
   (hr : GRel B ws s₀ s) (hl : ∀ s', FrameOk (B0 B) env σ [] s' -> GRel B [] s s' -> ∀ a ∈ ws', (a ∈ ws \/ s₀.heap.objs.size <= a) /\ ∃ o, s'.heap.get? a = some o /\ Loose o)
   (hx : Ev (B0 B) fiG 3 NoE y σ [] (fun v H => H = [] /\ v = tokPV tk))
   (h : ∀ s' s'', FrameOk (B0 B) env σ [] s' -> GRel B [] s s' -> GLater B ws' s' s'' -> SegE (model B.prog B.w) A (GEnd B A rest ws' s'') c (K .next) fs s'') :
   SegE (model B.prog B.w) A (GEnd B A (tk :: rest) ws s₀) c ((exec (.Expr (.Yield (some y) ypos) pos) env).wrap K Hh gd lv) fs s := by
 refine sg_Yield hfs hgd hfg (wpAny_mono (hx (A.over c fs) s env he R I F) (fun v s' hh1 => ?_) fun O O x => x) (by rw [he.scope]; exact he.coro) (by unfold interactive; rw [he.kindF]; rfl)
 obtain ⟨p, H', tr, r, q⟩ := hh1
 obtain ⟨rfl, rfl⟩ := q
 intro g l p k hk hq
 have F' := F.tr I tr
 have G := GRel.of_tr0 I tr
 exact ⟨v, g, l, k, c, p, fs, ws', rfl, hq, r, hr.trans (G.mono (by simp)), hl s' F' G, fun s'' ls => hk _ s'' (h s' s'' F' G ls)⟩
end
section
variable {B : Base} {A : Around} {env : Env} {x : Str} {t : Tok}
theorem bs_str : Str.ofString "\\" = (⟨#[92]⟩ : Str) := by decide +kernel
theorem one_eq (c : Nat) : decide ((⟨#[c]⟩ : Str) = ⟨#[92]⟩) = decide (c = 92) := by
 by_cases h : c = 92
 . subst h; simp
 . rw [decide_eq_false h, decide_eq_false]; intro q; injection q with q; simp at q; exact h q
theorem GAt.nil {e it : Addr} {i : Nat} {p esc ch : Option PV} {s s' : Shared} (g : GAt B env x t e it i p esc ch s) (r : GRel B [] s s') (F : FrameOk (B0 B) env (stG x p esc ch) [] s') : GAt B env x t e it i p esc ch s' := g.frm (r.mono (by simp)) F
theorem gen_loop {fs : List Frame} {e it : Addr} (he : EnvOk (B0 B) fiG env) (hc : env.cells = []) (ha : x.cps.all (· < 128) = true) (hfs : splitAtGen fs = none) (hfg : fs.any Frame.guarded = false)
   (R : Room (A.over (.forLoop (forTgt gFor) (.ref e) (forBody gFor) [] env) fs) 3)
   (hend : ∀ ws s₀ s esc p ch, GRel B ws s₀ s -> env.locals ∈ ws -> FrameOk (B0 B) env (stG x (some p) (some (.bool esc)) ch) [] s -> Inv (B0 B) [] s -> (esc = true -> p = .int ((x.cps.size - 1 : Nat))) -> plainO (some p) -> plainO ch ->
     SegE (model B.prog B.w) A (GEnd B A (escTok x.cps.size esc []) ws s₀) (.block [] env) (leafOf (.ok .next)) fs s) :
   ∀ k i esc p ch ws s₀ s, i + k = x.cps.size -> GRel B ws s₀ s -> env.locals ∈ ws -> (∀ a ∈ gws env e it, a ∈ ws \/ s₀.heap.objs.size <= a) -> Inv (B0 B) [] s -> GAt B env x t e it i (some p) (some (.bool esc)) ch s -> (esc = true -> p = .int ((i - 1 : Nat))) -> plainO (some p) -> plainO ch ->
     SegE (model B.prog B.w) A (GEnd B A (escTok i esc (x.cps.toList.drop i)) ws s₀) (.forLoop (forTgt gFor) (.ref e) (forBody gFor) [] env) ((model B.prog B.w).den (.forLoop (forTgt gFor) (.ref e) (forBody gFor) [] env)) fs s := by
 intro k
 induction k with
 | zero =>
   intro i esc p ch ws s₀ s hk hr hw hws I g hp pp pc
   obtain rfl : i = x.cps.size := hk
   have hd : x.cps.toList.drop x.cps.size = [] := List.drop_eq_nil_iff.mpr (Nat.le_refl _)
   obtain ⟨elts, k, pos, ht⟩ := gTgt
   refine sg_forLoop (wpAny_mono (scan_next (elts := elts) (k := k) (pos := pos) ha R.handled I g) (fun r s₁ h₁ => ?_) fun O O x => x)
   rw [hd] at h₁ ⊢
   obtain ⟨rfl, G₁⟩ := h₁
   have F₁ := g.frame.glater (ws := [env.locals]) (.head _) (G₁.later g.notin) (stG_plain pp plain_bool pc)
   exact hend ws s₀ s₁ esc p ch (hr.ext G₁ fun a ha => hws a (.tail _ ha)) hw F₁ G₁.inv hp pp pc
 | succ k ih =>
   intro i esc p ch ws s₀ s hk hr hw hws I g hp pp pc
   have hi : i < x.cps.size := hk ▸ Nat.lt_add_of_pos_right (Nat.succ_pos k)
   have hk1 : i + 1 + k = x.cps.size := (Nat.succ_add_eq_add_succ i k).trans hk
   have hd : x.cps.toList.drop i = x.cps[i] :: x.cps.toList.drop (i + 1) := List.drop_eq_getElem_cons hi
   generalize hcc : x.cps[i] = c at hd
   obtain ⟨elts, kk, pos, ht⟩ := gTgt
   refine sg_forLoop (wpAny_mono (scan_next (elts := elts) (k := kk) (pos := pos) ha R.handled I g) (fun r s₁ h₁ => ?_) fun O O x => x)
   rw [hd] at h₁ ⊢
   obtain ⟨v, rfl, h₁⟩ := h₁
   dsimp only
   rw [ht]
   refine wpAny_mono h₁ (fun O s₂ hh1 => ?_) fun O O x => x
   obtain ⟨G₂, vr, hen, hit⟩ := hh1
   have F₂ := g.frame.glater (ws := [env.locals]) (.head _) (G₂.later g.notin) (stG_plain pp plain_bool pc)
   rw [<- ht]
   refine wpAny_mono (gen_assign (d := 3) (A.over _ fs) s₂ env he R G₂.inv F₂ v vr) (fun O s₃ hh1 => ?_) fun O O x => x
   obtain ⟨σ', H', tr, F₃, q⟩ := hh1
   obtain ⟨rfl, rfl⟩ := q
   have one : ∀ a ∈ [env.locals], a ∈ ws := fun a h => msp h ▸ hw
   have zero : ∀ {ws : List Addr}, ∀ a ∈ ([] : List Addr), a ∈ ws := fun a h => nomatch h
   have G₃ := GRel.of_tr G₂.inv hc (ws := [env.locals]) (.head _) tr
   have g₂ : GAt B env x t e it (i + 1) (some p) (some (.bool esc)) ch s₂ := ⟨F₂, hen, hit, g.ne, g.ne1, g.ne2, g.ge, g.gi, hi⟩
   have g₃ := g₂.frm G₃ F₃
   have hr₃ : GRel B ws s₀ s₃ := (hr.ext G₂ fun a ha => hws a (.tail _ ha)).trans (G₃.mono one)
   refine sg_cons ?_
   refine gen_If (r := esc) he hc R G₃.inv F₃ ?_ fun s₄ F₄ G₄ => ?_
   . walk_at "w"
     exact ⟨rfl, rfl⟩
   have g₄ := g₃.nil G₄ F₄
   have hr₄ := hr₃.trans (G₄.mono zero)
   have loose : ∀ {s s' : Shared} {p esc ch : Option PV} {i : Nat}, GAt B env x t e it i p esc ch s -> ∀ (ws : List Addr) (s₀ : Shared), (∀ a ∈ gws env e it, a ∈ ws \/ s₀.heap.objs.size <= a) -> FrameOk (B0 B) env (stG x p esc ch) [] s' -> GRel B [] s s' -> ∀ a ∈ gws env e it, (a ∈ ws \/ s₀.heap.objs.size <= a) /\ ∃ o, s'.heap.get? a = some o /\ Loose o :=
     fun g ws s₀ hws F G a ha => ⟨hws a ha, (g.nil G F).loose a ha⟩
   cases esc with
   | true =>
     have htk : escTok i true (c :: x.cps.toList.drop (i + 1)) = (i, [92, c]) :: escTok (i + 1) false (x.cps.toList.drop (i + 1)) := rfl
     rw [htk, if_pos rfl]
     refine sg_cons (gen_Yield (ws' := gws env e it) he hc R G₄.inv F₄ hfs rfl hfg hw hr₄ (fun s' F' G => loose g₄ ws s₀ hws F' G) ?_ fun s' s'' F' G ls => ?_)
     . walk_at "w"
       refine Bin_addS (bl rfl) ?_
       walk_at "w"
       exact ⟨rfl, by rw [bs_str]; rfl⟩
     . have g'' := (g₄.nil G F').later ls plain_int plain_bool plain_str
       refine sg_cons (gen_exec (Qn := fun σ' => σ' = stG x (some (.int i)) (some (.bool false)) (some (.str ⟨#[c]⟩))) he hc R ls.inv g''.frame ?_ fun σ' s₆ hq F₆ G₆ => ?_)
       . walk_at "w"
         exact ⟨rfl, rfl⟩
       . subst hq
         exact sg_again rfl (ih (i + 1) false (.int i) _ (gws env e it) s'' s₆ hk1 (G₆.mono fun a h => msp h ▸ .head _) (.head _) (fun a ha => .inl ha) G₆.inv (g''.frm G₆ F₆) (fun h => nomatch h) plain_int plain_str)
   | false =>
     rw [if_neg Bool.false_ne_true]
     refine sg_cons (gen_If (r := decide (c = 92)) he hc R G₄.inv F₄ ?_ fun s₅ F₅ G₅ => ?_)
     . walk_at "w"
       exact ⟨rfl, by rw [bs_str]; exact one_eq c⟩
     have g₅ := g₄.nil G₅ F₅
     have hr₅ := hr₄.trans (G₅.mono zero)
     by_cases h92 : c = 92
     . rw [decide_eq_true h92, if_pos rfl]
       have htk : escTok i false (c :: x.cps.toList.drop (i + 1)) = escTok (i + 1) true (x.cps.toList.drop (i + 1)) := by rw [escTok, if_pos h92]
       rw [htk]
       refine sg_cons (gen_exec (Qn := fun σ' => σ' = stG x (some (.int i)) (some (.bool true)) (some (.str ⟨#[c]⟩))) he hc R G₅.inv F₅ ?_ fun σ' s₆ hq F₆ G₆ => ?_)
       . walk_at "w"
         exact ⟨rfl, rfl⟩
       . subst hq
         exact sg_again rfl (ih (i + 1) true (.int i) _ ws s₀ s₆ hk1 (hr₅.trans (G₆.mono one)) hw hws G₆.inv (g₅.frm G₆ F₆) (fun O => rfl) plain_int plain_str)
     . rw [decide_eq_false h92, if_neg Bool.false_ne_true]
       have htk : escTok i false (c :: x.cps.toList.drop (i + 1)) = (i, [c]) :: escTok (i + 1) false (x.cps.toList.drop (i + 1)) := by rw [escTok, if_neg h92]
       rw [htk]
       refine sg_cons (gen_Yield (ws' := gws env e it) he hc R G₅.inv F₅ hfs rfl hfg hw hr₅ (fun s' F' G => loose g₅ ws s₀ hws F' G) ?_ fun s' s'' F' G ls => ?_)
       . walk_at "w"
         exact ⟨rfl, rfl⟩
       . have g'' := (g₅.nil G F').later ls plain_int plain_bool plain_str
         exact sg_again rfl (ih (i + 1) false (.int i) _ (gws env e it) s'' s'' hk1 (.refl ls.inv) (.head _) (fun a ha => .inl ha) ls.inv g''  (fun h => nomatch h) plain_int plain_str)
end
section
variable {B : Base} {A : Around} {env : Env} {x : Str} {t : Tok}
theorem over_func {body : List Stmt} {d : Nat} (R : Room A (d + 1)) : Room (A.over (.func body env) []) d := by
 refine ⟨R.handled, ?_, ?_⟩
 . have := R.depth
   show A.depth + frameCount [] + (Code.func body env).weight + d < _
   have h1 : frameCount [] = 0 := rfl
   have h2 : (Code.func body env).weight = 1 := rfl
   lia
 . have := R.units
   show A.units + unitsOf [] + (Code.func body env).cUnits + 8 * d + 100 < _
   have h1 : unitsOf [] = 0 := rfl
   have h2 : (Code.func body env).cUnits = 3 := rfl
   lia
theorem over_loop {body body' : List Stmt} {tgt : Expr} {it : Value} {k : Result -> Sem Fin} {l : List Value} {p : Pos} {kp : List Value} {d : Nat} (R : Room A (d + 2)) : Room (A.over (.forLoop tgt it body [] env) [.ret k none false l (.func body' env) p kp]) d := by
 refine ⟨R.handled, ?_, ?_⟩
 . have := R.depth
   show A.depth + frameCount [(Code.func body' env, p)] + (Code.forLoop tgt it body [] env).weight + d < _
   have h1 : frameCount [(Code.func body' env, p)] = 1 := rfl
   have h2 : (Code.forLoop tgt it body [] env).weight = 0 := rfl
   lia
 . have := R.units
   show A.units + unitsOf [(Code.func body' env, p)] + (Code.forLoop tgt it body [] env).cUnits + 8 * d + 100 < _
   have h1 : unitsOf [(Code.func body' env, p)] = 3 := rfl
   have h2 : (Code.forLoop tgt it body [] env).cUnits = 0 := rfl
   lia
theorem gen_enum {p esc ch : Option PV} {s : Shared} (he : EnvOk (B0 B) fiG env) (ha : x.cps.all (· < 128) = true) (R : Room A 3) (I : Inv (B0 B) [] s) (F : FrameOk (B0 B) env (stG x p esc ch) [] s) {func : Expr} {args : List Expr} {pos : Pos} (hp : args.all plainE = true)
   (hf : Ev (B0 B) fiG 3 NoE func (stG x p esc ch) [] fun f H₁ => f = .raw (.type "enumerate") /\ H₁ = []) (hargs : EvL (B0 B) fiG 3 NoE args (stG x p esc ch) [] fun vs H₁ => vs = [.str x] /\ H₁ = [])
   (hev : ∀ env, eval (.Call func args [] pos) env = (do callWith pos (<- eval func env) [] (backTo pos (starEach args env)) (backToKw pos (keywordEach [] env)))) :
   wpAny (model B.prog B.w) A (eval (.Call func args [] pos) env) (fun v s₁ => wpAny (model B.prog B.w) A (pyIter v) (fun itv s₂ => ∃ e it t, itv = .ref e /\ GRel B [] s s₂ /\ GAt B env x t e it 0 p esc ch s₂ /\ s.heap.objs.size <= e /\ s.heap.objs.size <= it) NoE s₁) NoE s := by
 refine Call_ (wpAny_mono (hf A s env he R I F) (fun fv s₁ hh1 => ?_) fun O O x => x) (hev env)
 obtain ⟨f, H₁, t₁, q₁, e1, e2⟩ := hh1
 subst e1 e2
 obtain ⟨O, rfl⟩ := q₁.inv
 have F₁ := F.tr I t₁
 refine callWith_any (evalArgs_list hp (wpAny_mono (EvL_spliced hargs hp A s₁ env he R t₁.inv F₁) (fun vs s₂ hh1 => ?_) fun O O x => x))
 obtain ⟨ps, H₂, t₂, l₂, q₂, e3, e4⟩ := hh1
 refine ⟨fun Q' hQ => wpAny_pure (hQ _), ?_⟩
 subst e3 e4
 have F₂ := F₁.tr t₁.inv t₂
 obtain ⟨va, rfl, r⟩ := q₂.one
 cases r with
 | str _ t =>
   show wpAny (model B.prog B.w) A (call (.type "enumerate") [.str x t]) _ NoE s₂
   refine call_enumerate_str fun h' hE hI hsz hk => ?_
   refine wpAny_pyIter_enum hE ?_
   have hz : s₂.heap.objs.size <= h'.objs.size := by rw [hsz]; exact Nat.le_add_right _ _
   have t₃ := Tr.kept (t := s₂.toks) t₂.inv hk hz
   have T := (t₁.trans t₂).trans t₃
   have hs : s.heap.objs.size <= s₂.heap.objs.size := (t₁.trans t₂).step.size
   have hty : strIterType x = "str_ascii_iterator" := by unfold strIterType; rw [if_pos ha]
   rw [hty] at hI
   have hl : env.locals < s₂.heap.objs.size := by obtain ⟨m, hns, O⟩ := F₂.ns; exact hns.lt
   refine ⟨_, _, t, rfl, GRel.of_tr0 I T, ⟨F₂.tr t₂.inv t₃, ⟨_, hE⟩, hI, Nat.succ_ne_self _, Nat.ne_of_lt (Nat.lt_succ_of_lt hl), Nat.ne_of_lt hl, ntr t₂.inv.size (Nat.le_succ _), t₂.inv.size, Nat.zero_le _⟩, ntr hs (Nat.le_succ _), hs⟩
theorem gen_fresh {s : Shared} (he : EnvOk (B0 B) fiG env) (hc : env.cells = []) (ha : x.cps.all (· < 128) = true) (R : Room A 5) (I : Inv (B0 B) [] s) (F : FrameOk (B0 B) env (stG x none none none) [] s) :
   SegE (model B.prog B.w) A (GEnd B A (escTok 0 false x.cps.toList) [env.locals] s) (.func (stBody (topSt kIter)) env) ((model B.prog B.w).den (.func (stBody (topSt kIter)) env)) [] s := by
 have R0 : Room (A.over (.func (stBody (topSt kIter)) env) []) 3 := over_func (R.le (by decide))
 refine sg_func ?_
 refine sg_cons (gen_exec (Qn := fun σ' => σ' = stG x (some (.int (0 : Nat))) none none) he hc R0 I F ?_ fun σ' s₁ hq F₁ G₁ => ?_)
 . walk_at "w"
   exact ⟨rfl, rfl⟩
 subst hq
 refine sg_cons (gen_exec (Qn := fun σ' => σ' = stG x (some (.int (0 : Nat))) (some (.bool false)) none) he hc R0 G₁.inv F₁ ?_ fun σ' s₂ hq F₂ G₂ => ?_)
 . walk_at "w"
   exact ⟨rfl, rfl⟩
 subst hq
 refine sg_cons (sg_For (fun O => rfl) (wpAny_mono (gen_enum he ha R0 G₂.inv F₂ ?_ ?_ ?_ ?_) (fun v s₃ h₃ => wpAny_mono h₃ (fun itv s₄ hh1 p => ?_) fun O O x => x) fun O O x => x))
 . rfl
 . walk_at "w"
   exact ⟨rfl, rfl⟩
 . walk_at "w"
   exact ⟨rfl, rfl⟩
 . intro _; rfl
 obtain ⟨e, it, t, e1, G₄, g₄, ge, gi⟩ := hh1
 subst e1
 have G : GRel B [env.locals] s s₄ := (G₁.trans G₂).trans (G₄.mono (by simp))
 have hs : s.heap.objs.size <= s₂.heap.objs.size := (G₁.trans G₂).size
 show SegE _ _ (GEnd B A (escTok 0 false (x.cps.toList.drop 0)) [env.locals] s) _ _ _ _
 refine gen_loop (t := t) he hc ha ?_ ?_ (over_loop (R.le (by decide))) ?_ x.cps.size 0 false (.int (0 : Nat)) none [env.locals] s s₄ (Nat.zero_add _) G (.head _) (fun a ha => by
   simp only [gws, List.mem_cons, List.not_mem_nil, or_false] at ha
   rcases ha with rfl | rfl | rfl
   . exact .inl (by simp)
   . exact .inr (ntr hs ge)
   . exact .inr (ntr hs gi)) G₄.inv g₄ (fun h => nomatch h) plain_int plain_none
 . rfl
 . rfl
 . intro ws s₀ s₅ esc p ch hr hw F₅ I₅ hp pp pc
   refine sg_leaf (.ok .next) ?_
   refine sg_cons (gen_If (r := esc) he hc R0 I₅ F₅ ?_ fun s₆ F₆ G₆ => ?_)
   . walk_at "w"
     exact ⟨rfl, rfl⟩
   have hr₆ := hr.trans (G₆.mono (by simp))
   cases esc with
   | true =>
     have hp' := hp rfl
     subst hp'
     rw [if_pos rfl]
     have htk : escTok x.cps.size true [] = [(x.cps.size - 1, [92])] := rfl
     rw [htk]
     refine sg_cons (gen_Yield (ws' := []) he hc R0 G₆.inv F₆ rfl rfl rfl hw hr₆ (fun s' F' G a ha => nomatch ha) ?_ fun s' s'' F' G ls => ?_)
     . walk_at "w"
       exact ⟨rfl, by rw [bs_str]; rfl⟩
     . exact sg_end (.ok (.ret .none)) ⟨rfl, .refl ls.inv⟩
   | false =>
     rw [if_neg Bool.false_ne_true]
     exact sg_end (.ok (.ret .none)) ⟨rfl, hr₆⟩
end
section
variable {B : Base} {A : Around} {env : Env} {x : Str} {t : Tok} {H : AH}
theorem bare_set {a : Array GenState} {g : Nat} {y : GenState} (h : AllBare a) (hy : y.bare = true) : AllBare (a.setIfInBounds g y) := fun z hz => by
 obtain ⟨i, hi, rfl⟩ := Array.mem_iff_getElem.mp hz
 simp only [Array.size_setIfInBounds] at hi
 rw [Array.getElem_setIfInBounds]
 split
 . exact hy
 . exact h _ (Array.getElem_mem hi)
 . exact hi
theorem gens_other {s : Shared} {g i : Nat} {y z : GenState} (h : s.gens[i]? = some z) (hne : i ≠ g) : (s.setGen g y).gens[i]? = some z := by
 simp [Shared.setGen, Ne.symm hne, h]
theorem Inv.gen {s : Shared} {g : Nat} {y : GenState} (I : Inv B H s) (hy : y.bare = true) : Inv B H (s.setGen g y) := ⟨I.keep, I.size, I.tabs, bare_set I.bare hy, I.os, I.nodup, I.hid, I.objs⟩
inductive JG (B : Base) (A : Around) (a : Addr) (g : Nat) (W : Addr -> Prop) (items : List PV) (H : AH) (s : Shared) : Prop
 | mk (rest : List (Nat × List Nat)) (ws : List Addr) (gs : GenState) (hi : items = rest.map tokPV) (hW : W = (fun p => p = a \/ p ∈ ws)) (hg : s.heap.IsGen a g) (hgs : s.gens[g]? = some gs) (ha : a ∉ ws)
   (ho : ∀ p ∈ ws, Own B H p /\ ∃ o, s.heap.get? p = some o /\ Loose o) (hgo : ∀ s'', GLater B ws s s'' -> GoesE (model B.prog B.w) A.in1 (GEnd B A.in1 rest ws s'') gs s'')
theorem VR.up0 {s : Shared} {v : Value} {tk : Nat × List Nat} (I : Inv B H s) (r : VR (Trk (B0 B) []) s.heap v (tokPV tk)) : VR (Trk B H) s.heap v (tokPV tk) := by
 obtain ⟨a, vs, n, rfl, ho, hn, hs⟩ := r.inv
 obtain ⟨u, w, he, h1, h2⟩ := hs.two
 refine .tup ho (fun q => ?_) (he ▸ .cons (plain_int _ rfl h1) (.cons (plain_str _ rfl h2) .nil))
 rcases q with q | q | q
 . obtain ⟨p, hp, rfl⟩ := mmp q
   obtain ⟨O, vs, n, e, O⟩ := I.objs p hp
   exact absurd (Value.type.inj (congrArg Obj.cls (Option.some.inj (e.symm.trans ho)))) (by decide)
 . exact not_tab_of I ho (by nofun) q
 . exact hn (.inr (.inr q))
theorem gen_at {h h' : Heap} {a : Addr} {g : Nat} (hg : h.IsGen a g) (k : ∀ o, h.get? a = some o -> h'.get? a = some o) : h'.IsGen a g := by
 obtain ⟨o, nm, qn, e, r⟩ := hg
 exact ⟨o, nm, qn, k o e, r⟩
theorem gen_lt {h : Heap} {a : Addr} {g : Nat} (hg : h.IsGen a g) : a < h.objs.size := by
 obtain ⟨o, nm, qn, e, r⟩ := hg
 exact Heap.lt_size e
theorem gen_nseq {h : Heap} {a : Addr} {g : Nat} {o : Obj} (hg : h.IsGen a g) (e : h.get? a = some o) : ¬ IsSeqO o := by
 obtain ⟨o', nm, qn, e', O, hd, O⟩ := hg
 cases e'.symm.trans e
 rintro ⟨_, _, q⟩
 exact nomatch hd.symm.trans q
section
variable {ws : List Addr} {a : Addr} {g : Nat} {s s₁ : Shared} (I : Inv B H s) (ho : ∀ p ∈ ws, Own B H p /\ ∃ o, s.heap.get? p = some o /\ Loose o)
include I ho
theorem JG.only {h' : Heap} {y : GenState} (G : GRel B ws (s.setGen g .running) s₁) (hk : ∀ b o, s₁.heap.get? b = some o -> h'.get? b = some o) (hz : s₁.heap.objs.size <= h'.objs.size) (hy : y.bare = true) :
   Only B (fun p => p = a \/ p ∈ ws) (· = g) H s { s₁.setGen g y with heap := h' } := by
 have o := Only.make (B := B) (H := H) (P := (· ∈ ws)) (G := (· = g)) (s := s) (s' := { s₁.setGen g y with heap := h' }) I (fun b ob e hn => hk b ob (G.heap b ob e hn)) (ntr G.size hz) (fun p hp => (ho p hp).1)
   (fun p hp o e => by obtain ⟨O, o', e', hl⟩ := ho p hp; exact Option.some.inj (e'.symm.trans e) ▸ hl)
   (fun i z e hne => gens_other (G.gens i z (gens_other e hne)) hne) ?_ (bare_set G.inv.bare hy) (G.inv.os.trans I.os.symm)
 . exact ⟨o.inv, fun b ob e hn => o.heap b ob e fun q => hn (.inr q), o.size, o.gens, o.gsize⟩
 . have h := G.gsize
   rw [show (s.setGen g .running).gens.size = s.gens.size from Array.size_setIfInBounds] at h
   exact ntr h (Nat.le_of_eq Array.size_setIfInBounds.symm)
theorem JG.susp {tgt : Expr} {gs : GenState} (hg : s.heap.IsGen a g) (hgs : s.gens[g]? = some gs) (ha : a ∉ ws) {tk : Nat × List Nat} {r : List (Nat × List Nat)} {e : End} (h : GSus B A.in1 tk (fun ws' s'' => GEnd B A.in1 r ws' s'') ws (s.setGen g .running) e s₁) :
   ∃ v g₀ l k c p fs, e = .susp v g₀ l k c p fs /\ ∃ v', some v = some v' /\ wpAny (model B.prog B.w) A (letOwnedTupleGo tgt (.ref a) v') (fun O s₂ => Only B (fun p => p = a \/ p ∈ ws) (· = g) H s s₂ /\ VR (Trk B H) s₂.heap v' (tokPV tk) /\
       ∃ W' : Addr -> Prop, (∀ p, W' p -> (p = a \/ p ∈ ws) \/ (s.heap.objs.size <= p /\ p < s₂.heap.objs.size)) /\ JG B A a g W' (r.map tokPV) H s₂) NoE (s₁.setGen g e.genState) := by
 obtain ⟨v, g₀, l, k, c, p, fs, ws', he, hq, vr, G, hws, hgo₁⟩ := h
 subst he
 have O : Only B (fun p => p = a \/ p ∈ ws) (· = g) H s (s₁.setGen g (End.susp v g₀ l k c p fs).genState) := JG.only I ho G (fun O O e => e) (Nat.le_refl _) (End.bare_of_quiet hq)
 have hg' : (s₁.setGen g (End.susp v g₀ l k c p fs).genState).heap.IsGen a g := gen_at hg fun o e => G.heap a o e ha
 obtain ⟨og, nm, qn, eg, cg, rg⟩ := id hg'
 refine ⟨v, g₀, l, k, c, p, fs, rfl, v, rfl, letGo_plain eg cg rfl ⟨O, VR.up0 O.inv vr, fun p => p = a \/ p ∈ ws', fun p hp => ?_, r, ws', _, rfl, rfl, hg', setGen_self (gs := .running) (G.gens g _ (setGen_self hgs)), fun q => (hws a q).1.elim ha fun q => absurd (gen_lt hg) (nlr q), fun p hp => ?_, fun s'' ls => hgo₁ s'' ⟨ls.inv, ls.own⟩⟩⟩
 . rcases hp with rfl | hp
   . exact .inl (.inl rfl)
   . obtain ⟨q, o, eo, O⟩ := hws p hp
     exact q.imp .inr fun q => ⟨q, Heap.lt_size eo⟩
 . have x := hws p hp
   exact ⟨x.1.elim (fun q => (ho p q).1) fun q => ⟨ntr I.size q, fun t => absurd (Trk_lt I t) (nlr q)⟩, x.2⟩
end
theorem Iter_JG (tgt : Expr) (a : Addr) (g : Nat) : IterW B A [] tgt (.ref a) (· = g) (JG B A a g) where
 self := fun W items H s E Q j q => by
   obtain ⟨O, O, O, O, O, hg, O, O, O, O⟩ := j
   exact wpAny_pyIter_gen hg q
 notseq := fun W items H s j p hp o e => by
   obtain ⟨O, ws, O, O, hW, hg, O, O, ho, O⟩ := j
   subst hW
   rcases hp with rfl | hp
   . exact gen_nseq hg e
   . obtain ⟨O, o', e', hl⟩ := ho p hp
     exact Option.some.inj (e'.symm.trans e) ▸ hl.1
 stable := fun W items H s H' s' j e => by
   obtain ⟨rest, ws, gs, hi, hW, hg, hgs, ha, ho, hgo⟩ := j
   subst hW
   refine ⟨rest, ws, gs, hi, rfl, gen_at hg fun o eo => e.own a o eo (.inl rfl), e.gens g gs rfl hgs, ha, fun p hp => ?_, fun s'' l => hgo s'' ⟨l.inv, fun p hp o eo => l.own p hp o (e.own p o eo (.inr hp))⟩⟩
   obtain ⟨h, o, eo, hl⟩ := ho p hp
   exact ⟨⟨h.1, e.trk (Heap.lt_size eo) h.2⟩, o, e.own p o eo (.inr hp), hl⟩
 next := fun W items H s j R I => by
   obtain ⟨rest, ws, gs, hi, hW, hg, hgs, ha, ho, hgo⟩ := j
   subst hW hi
   refine sg_next R.handled (B.nolimit.keeps I.keep) (by have := R.depth; lia) hg hgs (hgo (s.setGen g .running) ⟨(Inv0 I).gen rfl, fun p hp o e => e⟩) (fun e s' h => ?_) (fun e s₁ h => ?_)
   . cases rest with
     | nil => rw [h.1]; rfl
     | cons tk r =>
       obtain ⟨O, O, O, O, O, O, O, O, O, hq, O⟩ := h
       exact hq
   . cases rest with
     | nil => exact .inl ⟨h.1, fun h' hk hz => ⟨rfl, JG.only I ho h.2 hk hz rfl⟩⟩
     | cons tk r => exact .inr (JG.susp I ho hg hgs ha h)
end
section
variable {B : Base} {x : Str} {H : AH} {d : Nat} {E : EP}
theorem esc_bind {S : Setting} {doc pm cdv ct : Value} {an : Option Addr} {v : Value} : feed S [] (bindArgs (fdOf "_iter_escaped_chars" kIter .none .none doc pm an cdv ct) ⟨[v], []⟩) = some ([], [(Str.ofString "addr", v)]) := by kernel_rfl
theorem esc_names : (stScope (topSt kIter)).names = [(Str.ofString "addr", .local), (Str.ofString "pos", .local), (Str.ofString "escape", .local), (Str.ofString "ch", .local), (Str.ofString "enumerate", .globalImplicit)] := by kernel_rfl
theorem esc_kind : (stScope (topSt kIter)).kind = .function := by kernel_rfl
theorem esc_co : (stScope (topSt kIter)).isCoroutine = false := by kernel_rfl
theorem esc_gen : (stScope (topSt kIter)).isGenerator = true := by kernel_rfl
theorem Tr.gpush {B : Base} {H : AH} {s s' : Shared} {y : GenState} (I : Inv B H s) (hk : ∀ a o, s.heap.get? a = some o -> s'.heap.get? a = some o) (hz : s.heap.objs.size <= s'.heap.objs.size) (hg : s'.gens = s.gens.push y) (hy : y.bare = true) (ho : s'.os = s.os) : Tr B noU H s H s' :=
 ⟨I.ext hk hz (hg ▸ I.bare.push hy) ho, ⟨fun a o e O => hk a o e, hz, fun i x e => by
   rw [hg, Array.getElem?_push, if_neg fun q => nomatch (q ▸ e).symm.trans (Array.getElem?_eq_none (Nat.le_refl _))]
   exact e⟩, fun O h => .inl h⟩
theorem CallI_esc {tgt : Expr} {f : Addr} {cdv : Value} {Q : IQ} (h : FnIs B f "_iter_escaped_chars" kIter .none .none cdv) (ge : GlobIs B "enumerate" (.raw (.type "enumerate"))) (ha : x.cps.all (· < 128) = true)
   (q : Q ((escTok 0 false x.cps.toList).map tokPV) [] H) : CallI B (d + 7) E tgt (.raw (.ref f)) [.str x] H Q := fun A s R I fv vs r1 r2 => by
 obtain ⟨O, rfl⟩ := r1.inv
 obtain ⟨v, rfl, r⟩ := r2.one
 cases r with
 | str _ tx =>
 obtain ⟨oc, od, osl, doc, pm, an, ct, ho⟩ := h.at_
 refine wpAny_call (codeAny_call_generator (by have := R.depth; lia) (I.keep _ _ ho) rfl esc_co esc_gen rfl (h.code.keeps I.keep) ?_)
 refine wpAny_feed (os := []) esc_bind (by simp) ?_
 refine wpAny_newFunctionEnv_cells esc_kind (fun e he => ?_) fun env he s₁ ic => ⟨(B.nolimit.keeps I.keep).keeps ic.toInCall.keep, ?_⟩
 . rw [msp he]
   exact .inl (by show (stScope (topSt kIter)).names.lookup _ = _; rw [esc_names]; simp [List.lookup])
 . have fd : FdIn (B0 B) [] s fiG (stG x none none none) env s₁ := by
     subst he
     exact fd_in (bs := [(Str.ofString "addr", .str x)]) rfl rfl rfl (Inv0 I) ic (by rw [esc_names]; decide +kernel) (by rw [esc_names]; decide +kernel) (by rw [esc_names]; exact .arg (.head _) (.inl rfl) (.unset (.unset (.unset (.glob ge .nil))))) (List.nodup_cons.mpr ⟨List.not_mem_nil, List.nodup_nil⟩) ⟨.cons (.str _ _) .nil, rfl⟩ rfl rfl rfl rfl (fun O O e => nomatch e) esc_kind esc_co
   have hloc := fd.loc
   have hcells : env.cells = [] := by
     rw [he]
     show cellsFrom (s.heap.objs.size + 1) (stScope (topSt kIter)).names [] = []
     rw [esc_names]; rfl
   obtain ⟨h', tk, hs₁, O⟩ := ic.toInCall.done
   have hl₁ : s.heap.objs.size < s₁.heap.objs.size := Nat.lt_of_le_of_lt ic.toInCall.fresh ic.toInCall.ns.lt
   have t₁ : Tr B noU H s H s₁ := Tr.ext I ic.toInCall.keep (Nat.le_of_lt hl₁) (by rw [hs₁]) (by rw [hs₁])
   generalize hs₂ : ({ s₁ with gens := s₁.gens.push (.fresh (.func (stBody (topSt kIter)) env)), toks := s₁.toks + 1 + 1, heap := s₁.heap.push { cls := .type "generator", data := .fields #[.int s₁.gens.size 0, .str (fdOf "_iter_escaped_chars" kIter .none .none doc pm an cdv ct).name s₁.toks, .str (fdOf "_iter_escaped_chars" kIter .none .none doc pm an cdv ct).qualname (s₁.toks + 1)] } } : Shared) = s₂
   have hh₂ : s₂.heap = s₁.heap.push { cls := .type "generator", data := .fields #[.int s₁.gens.size 0, .str (fdOf "_iter_escaped_chars" kIter .none .none doc pm an cdv ct).name s₁.toks, .str (fdOf "_iter_escaped_chars" kIter .none .none doc pm an cdv ct).qualname (s₁.toks + 1)] } := by rw [<- hs₂]
   have hg₂ : s₂.gens = s₁.gens.push (.fresh (.func (stBody (topSt kIter)) env)) := by rw [<- hs₂]
   have ho₂ : s₂.os = s₁.os := by rw [<- hs₂]
   have k₂ : ∀ a o, s₁.heap.get? a = some o -> s₂.heap.get? a = some o := fun a o e => by rw [hh₂]; exact Heap.get?_push_of_some _ e
   have z₂ : s₂.heap.objs.size = s₁.heap.objs.size + 1 := by rw [hh₂, Heap.size_push]
   have z : s₁.heap.objs.size <= s₂.heap.objs.size := by rw [z₂]; exact Nat.le_succ _
   have t₂ : Tr B noU H s₁ H s₂ := .gpush t₁.inv k₂ z hg₂ rfl ho₂
   have hG : s₂.heap.IsGen s₁.heap.objs.size s₁.gens.size := ⟨_, _, _, by rw [hh₂]; exact Heap.get?_push_size _ rfl, rfl, rfl, rfl⟩
   have hgs : s₂.gens[s₁.gens.size]? = some (.fresh (.func (stBody (topSt kIter)) env)) := by rw [hg₂]; exact Array.getElem?_push_size ..
   have hns₂ : s₂.heap.Ns env.locals (bindL env.kindOf [(Str.ofString "addr", .str x tx)] fun O => none) := ic.toInCall.ns.at' fun o e => k₂ _ o e
   have F₂ : FrameOk (B0 B) env (stG x none none none) [] s₂ := fd.frm.tr fd.tr.inv (.gpush fd.tr.inv k₂ z hg₂ rfl ho₂)
   refine wpAny_pyIter_gen hG ?_
   have hap : env.locals < s₁.heap.objs.size := by rw [hloc]; exact hl₁
   refine ⟨_, [], H, _, (· = s₁.gens.size), JG B A s₁.heap.objs.size s₁.gens.size, t₁.trans t₂, Iter_JG tgt _ _, ⟨escTok 0 false x.cps.toList, [env.locals], _, rfl, rfl, hG, hgs, ?_, fun p hp => ?_, fun s'' l => ?_⟩, fun p hp => ?_, fun i hi => ?_, (fun O hm => nomatch hm), q⟩
   . intro hm
     rw [List.mem_singleton] at hm
     exact absurd hap (by rw [<- hm]; exact Nat.lt_irrefl _)
   . rw [msp hp]
     obtain ⟨o, a1, a2, eo, r⟩ := id hns₂
     refine ⟨⟨hloc ▸ I.size, fun q => ?_⟩, o, eo, ns_loose hns₂ o eo⟩
     exact absurd (Trk_lt I q) (by rw [hloc]; exact Nat.lt_irrefl _)
   . exact gen_fresh fd.eok hcells ha (⟨R.handled, by have := R.depth; show A.depth + 5 < _; lia, by have := R.units; show A.units + 1 + 8 * 5 + 100 < _; lia⟩) l.inv (F₂.glater (.head _) l (stG_plain plain_none plain_none plain_none))
   . rcases hp with rfl | hp
     . exact ⟨Nat.le_of_lt hl₁, by rw [z₂]; exact Nat.lt_succ_self _, fun q => absurd (Trk_lt t₁.inv q) (Nat.lt_irrefl _)⟩
     . rw [msp hp]
       exact ⟨Nat.le_of_eq hloc.symm, by rw [z₂]; exact Nat.lt_succ_of_lt hap, fun q => absurd (Trk_lt I q) (by rw [hloc]; exact Nat.lt_irrefl _)⟩
   . subst hi
     exact ⟨gens_size t₁, by rw [hg₂, Array.size_push]; exact Nat.lt_succ_self _⟩
end
noncomputable def stripGo (x : Str) : List (Nat × List Nat) -> Nat -> Option Nat -> List Str -> List Str
 | [], st, _, acc => if st < x.length then acc ++ [strPick x (some st) none none] else acc
 | (p, s) :: r, st, o, acc => if s = [34] then (match o with
     | none => stripGo x r st (some p) acc
     | some op => stripGo x r (p + 1) none (if st ≠ op then acc ++ [strPick x (some st) (some op) none] else acc)) else stripGo x r st o acc
section
variable {x : Str} {p st op : Nat} {o : Option Nat} {s : List Nat} {r : List (Nat × List Nat)} {acc : List Str}
theorem stripGo_skip (h : s ≠ [34]) : stripGo x ((p, s) :: r) st o acc = stripGo x r st o acc := by simp [stripGo, h]
theorem stripGo_open (h : s = [34]) : stripGo x ((p, s) :: r) st none acc = stripGo x r st (some p) acc := by simp [stripGo, h]
theorem stripGo_same (h : s = [34]) (e : st = op) : stripGo x ((p, s) :: r) st (some op) acc = stripGo x r (p + 1) none acc := by simp [stripGo, h, e]
theorem stripGo_add (h : s = [34]) (e : ¬ st = op) : stripGo x ((p, s) :: r) st (some op) acc = stripGo x r (p + 1) none (acc ++ [strPick x (some (st : Int)) (some (op : Int)) none]) := by simp [stripGo, h, e]
end
noncomputable def stripS (x : Str) : Str := if Txt.contains x ⟨#[34]⟩ = true then Txt.join ⟨#[]⟩ (stripGo x (escTok 0 false x.cps.toList) 0 none []) else x
theorem escTok_len : ∀ (l : List Nat) (i : Nat) (e : Bool), (escTok i e l).length <= l.length + 1
 | [], i, e => by cases e <;> simp [escTok]
 | c :: r, i, true => by simp only [escTok, List.length_cons]; have := escTok_len r (i + 1) false; lia
 | c :: r, i, false => by
   simp only [escTok]
   split
   . have := escTok_len r (i + 1) true; simp only [List.length_cons]; lia
   . have := escTok_len r (i + 1) false; simp only [List.length_cons]; lia
section
variable {B : Base} {d : Nat} {E : EP} {H : AH}
theorem BindV_p1 {fd : FuncData} {nm : Str} {a : PV} (hf : ∀ (S : Setting) v, feed S [] (bindArgs fd ⟨[v], []⟩) = some ([], [(nm, v)])) : BindV B fd [a] [] H [(nm, a)] := fun A s I vs kvs h1 h2 E Q hQ => by
 obtain ⟨v, rfl, r1⟩ := h1.one
 rw [h2.nil]
 exact wpAny_feed (os := []) (hf _ v) (by simp) (hQ _ (.cons r1 .nl))
theorem BindV_p2 {fd : FuncData} {n1 n2 : Str} {a b : PV} (hf : ∀ (S : Setting) v w, feed S [] (bindArgs fd ⟨[v, w], []⟩) = some ([], [(n1, v), (n2, w)])) : BindV B fd [a, b] [] H [(n1, a), (n2, b)] := fun A s I vs kvs h1 h2 E Q hQ => by
 obtain ⟨v, w, rfl, r1, r2⟩ := h1.two
 rw [h2.nil]
 exact wpAny_feed (os := []) (hf _ v w) (by simp) (hQ _ (.cons r1 (.cons r2 .nl)))
theorem BindV_p3 {fd : FuncData} {n1 n2 n3 : Str} {a b c : PV} (hf : ∀ (S : Setting) v w u, feed S [] (bindArgs fd ⟨[v, w, u], []⟩) = some ([], [(n1, v), (n2, w), (n3, u)])) : BindV B fd [a, b, c] [] H [(n1, a), (n2, b), (n3, c)] := fun A s I vs kvs h1 h2 E Q hQ => by
 obtain ⟨v, w, u, rfl, r1, r2, r3⟩ := h1.three
 rw [h2.nil]
 exact wpAny_feed (os := []) (hf _ v w u) (by simp) (hQ _ (.cons r1 (.cons r2 (.cons r3 .nl))))
theorem CallV_drop {f : PV} {args : List PV} {kw : List (Str × PV)} {Q : PQ} (h : CallV B d E f args kw H fun v H' => ∃ e H'', H' = e :: H'' /\ Q v H'') : CallV B d E f args kw H Q := fun A s R I fv vs kvs h1 h2 h3 =>
 wpAny_mono (h A s R I fv vs kvs h1 h2 h3) (fun r s' p => by
   obtain ⟨v, H', t, r', e, H'', eq, q⟩ := p
   subst eq
   exact ⟨v, H'', t.drop_key, r'.drop_key, q⟩) fun O O x => x
end
section
variable {B : Base} {d : Nat} {H : AH} {cdv cdv' : Value} {x : Str}
theorem strip_bind {S : Setting} {doc pm cdv ct : Value} {an : Option Addr} {v : Value} : feed S [] (bindArgs (fdOf "_strip_quoted_realnames" kStrip .none .none doc pm an cdv ct) ⟨[v], []⟩) = some ([], [(Str.ofString "addr", v)]) := by kernel_rfl
theorem strip_chk : chkF [Str.ofString "addr"] (stScope (topSt kStrip)) = true := by decide +kernel
noncomputable abbrev stS (x : Str) (st op res pos ch : Option PV) (g : Addr) : St := [(Str.ofString "addr", .local, some (.str x)), (Str.ofString "start", .local, st), (Str.ofString "open_pos", .local, op), (Str.ofString "result", .local, res), (Str.ofString "pos", .local, pos), (Str.ofString "ch", .local, ch),
 (Str.ofString "_iter_escaped_chars", .globalImplicit, some (.raw (.ref g))), (Str.ofString "len", .globalImplicit, some (.raw (.builtin "len")))]
theorem strip_ini {g : Addr} (gi : GlobIs B "_iter_escaped_chars" (.raw (.ref g))) (gl : GlobIs B "len" (.raw (.builtin "len"))) : Ini B [(Str.ofString "addr", .str x)] (stScope (topSt kStrip)).names (stS x none none none none none g) := by
 refine .arg (by walk_at "mm") (.inl rfl) (.unset (.unset (.unset (.unset (.unset (.glob gi (.glob gl .nil)))))))
theorem quote_str : Str.ofString "\"" = (⟨#[34]⟩ : Str) := by decide +kernel
theorem list_eq (s : List Nat) (c : Nat) : decide ((⟨s.toArray⟩ : Str) = ⟨#[c]⟩) = decide (s = [c]) := by
 by_cases h : s = [c]
 . subst h; simp
 . rw [decide_eq_false h, decide_eq_false]; intro q; injection q with q; apply h; simpa using congrArg Array.toList q
noncomputable abbrev sFor : Stmt := ((stBody (topSt kStrip))[4]?).getD (.Pass default)
noncomputable def optPV : Option Nat -> PV
 | none => .none
 | some n => .int n
theorem strip_for {a g : Addr} {Qn : SQ} {Qf : FQ} (hx : x.length <= 4096) : ∀ (toks : List (Nat × List Nat)) (st : Nat) (o : Option Nat) (acc : List Str) (pos ch : Option PV), st <= 5000 -> (∀ t ∈ toks, t.1 <= 4096) -> (∀ op, o = some op -> op <= 4096) -> acc.length + toks.length <= 5000 ->
   (∀ st' o' acc' pos' ch', (∀ y ∈ acc', y.length <= x.length) -> st' <= 5000 -> acc'.length <= 5000 -> stripGo x toks st o acc = stripGo x [] st' o' acc' -> Qn (stS x (some (.int (st' : Nat))) (some (optPV o')) (some (.lref a)) pos' ch' g) ((a, acc'.map PV.str) :: H)) -> (∀ y ∈ acc, y.length <= x.length) ->
   ForL B (fiOf kStrip "_strip_quoted_realnames") d (forTgt sFor) (forBody sFor) [] (toks.map tokPV) (stS x (some (.int (st : Nat))) (some (optPV o)) (some (.lref a)) pos ch g) ((a, acc.map PV.str) :: H) Qn Qf
 | [], st, o, acc, pos, ch, hst, ht, ho, hn, hq, hacc => ForL_nil (hq st o acc pos ch hacc hst (by simp at hn; exact hn) rfl)
 | (p, s) :: r, st, o, acc, pos, ch, hst, ht, ho, hn, hq, hacc => by
   refine ForL_cons ?_
   have htp : p <= 4096 := ht _ mcs
   have ih := fun st o acc pos ch h1 h2 h3 => strip_for (a := a) (g := g) (Qn := Qn) (Qf := Qf) hx r st o acc pos ch h1 (fun t h => ht t (mcm _ h)) h2 h3
   have hn' : acc.length + r.length + 1 <= 5000 := by simp at hn; lia
   show Asg B _ d NoE (forTgt sFor) (.tup [.int p, .str ⟨s.toArray⟩]) _ _ _
   refine' Asg_T rfl rfl ?_
   walk_at "w"
   refine' Xs_cons' ?_
   walk_at "w"
   rw [quote_str, list_eq]
   by_cases h34 : s = [34]
   . rw [decide_eq_true h34, if_pos rfl]
     cases o with
     | none =>
       walk_at "w"
       refine' ifp (show isPV (optPV none) .none = true from rfl) ?_
       walk_at "w"
       refine ⟨(fun O h => nomatch h), ih st (some p) acc _ _ hst (fun op e => by cases e; exact htp) (by lia) (fun st' o' acc' pos' ch' h1 h2 h3 h4 => hq st' o' acc' pos' ch' h1 h2 h3 ((stripGo_open h34).trans h4)) hacc⟩
     | some op =>
       have hop := ho op rfl
       walk_at "w"
       rw [if_neg (show ¬ isPV (optPV (some op)) .none = true from Bool.false_ne_true), show optPV (some op) = .int (op : Nat) from rfl]
       walk_at "w"
       have hz : x.length <= sizeLine := by rw [sizeLine_eq]; lia
       by_cases hse : st = op
       . have e1 : ((st : Int) != (op : Int)) = false := by simp [hse]
         rw [e1, if_neg Bool.false_ne_true]
         walk_at "w"
         refine ⟨(fun O h => nomatch h), ?_⟩
         have e2 : (p : Int) + 1 = ((p + 1 : Nat) : Int) := by lia
         rw [e2]
         exact ih (p + 1) none acc _ _ (by lia) (fun op e => nomatch e) (by lia) (fun st' o' acc' pos' ch' h1 h2 h3 h4 => hq st' o' acc' pos' ch' h1 h2 h3 ((stripGo_same h34 hse).trans h4)) hacc
       . have e1 : ((st : Int) != (op : Int)) = true := by simp; lia
         rw [e1, if_pos rfl]
         walk_at "w"
         refine ⟨_, Meth_append (.lref mcs), ?_⟩
         walk_at "w"
         refine ⟨SubAt_of SubOk_str, Sl_str (by simp) hz ?_⟩
         walk_at "w"
         refine Call_append .head (by rw [List.length_map, sizeLine_eq]; lia) ?_
         walk_at "w"
         refine ⟨(fun O h => nomatch h), ?_⟩
         have e2 : (p : Int) + 1 = ((p + 1 : Nat) : Int) := by lia
         have e3 : acc.map PV.str ++ [PV.str (strPick x (some (st : Int)) (some (op : Int)) none)] = (acc ++ [strPick x (some (st : Int)) (some (op : Int)) none]).map PV.str := by simp
         rw [e2, e3]
         exact ih (p + 1) none _ _ _ (by lia) (fun op e => nomatch e) (by simp; lia) (fun st' o' acc' pos' ch' h1 h2 h3 h4 => hq st' o' acc' pos' ch' h1 h2 h3 ((stripGo_add h34 hse).trans h4)) (fun y hy => by
           rcases mpp hy with h | h
           . exact hacc y h
           . rw [msp h]; exact strPick_le x _ _ _ (by simp))
   . rw [decide_eq_false h34, if_neg Bool.false_ne_true]
     walk_at "w"
     refine ⟨(fun O h => nomatch h), ih st o acc _ _ hst ho (by lia) (fun st' o' acc' pos' ch' h1 h2 h3 h4 => hq st' o' acc' pos' ch' h1 h2 h3 ((stripGo_skip h34).trans h4)) hacc⟩
theorem escTok_pos : ∀ (l : List Nat) (i : Nat) (e : Bool), ∀ t ∈ escTok i e l, t.1 <= i + l.length
 | [], i, e, t, h => by cases e <;> simp [escTok] at h; subst h; simp
 | c :: r, i, true, t, h => by
   simp only [escTok, List.mem_cons] at h
   rcases h with rfl | h
   . simp
   . have := escTok_pos r (i + 1) false t h; simp only [List.length_cons]; lia
 | c :: r, i, false, t, h => by
   simp only [escTok] at h
   split at h
   . have := escTok_pos r (i + 1) true t h; simp only [List.length_cons]; lia
   . rcases mcp h with rfl | h
     . simp
     . have := escTok_pos r (i + 1) false t h; simp only [List.length_cons]; lia
theorem sum_le {x : Nat} : ∀ (l : List Str), (∀ y ∈ l, y.length <= x) -> (l.map (·.length)).sum <= l.length * x
 | [], _ => by simp
 | a :: r, h => by
   have := sum_le r fun y hy => h y (mcm _ hy)
   have := h a mcs
   simp only [List.map_cons, List.sum_cons, List.length_cons, Nat.add_mul, Nat.one_mul]; lia
theorem strip_call {f g : Addr} {Q : PQ} (h : FnIs B f "_strip_quoted_realnames" kStrip .none .none cdv) (hg : FnIs B g "_iter_escaped_chars" kIter .none .none cdv') (gi : GlobIs B "_iter_escaped_chars" (.raw (.ref g))) (gl : GlobIs B "len" (.raw (.builtin "len")))
   (ge : GlobIs B "enumerate" (.raw (.type "enumerate"))) (ha : x.cps.all (· < 128) = true) (hx : x.length <= 3000) (q : Q (.str (stripS x)) H) : CallV B (d + 12) NoE (.raw (.ref f)) [.str x] [] H Q := by
 have hz : x.length <= sizeLine := by rw [sizeLine_eq]; lia
 have hl : x.cps.toList.length = x.length := rfl
 by_cases hc : Txt.contains x ⟨#[34]⟩ = true
 . refine CallV_drop ?_
   refine h.call (d := d + 11) (fun doc pm an ct => BindV_p1 fun S v => strip_bind) rfl strip_chk (strip_ini gi gl) ?_
   refine' Xs_cons' ?_
   walk_at "w"
   refine' ifn (show ¬ (!Txt.contains x (Str.ofString "\"")) = true by rw [quote_str, hc]; exact Bool.false_ne_true) ?_
   walk_at "w"
   refine Ev_ListT ?_
   refine EvL_nil fun a => ?_
   walk_at "w"
   refine ⟨KeepsV_FnIs hg, ?_⟩
   walk_at "w"
   refine CallI_esc (d := d + 4) hg ge ha ?_
   refine strip_for (x := x) (by lia) (escTok 0 false x.cps.toList) 0 none [] none none (by lia) (fun t ht => by have := escTok_pos _ _ _ t ht; lia) (fun O e => nomatch e) (by have := escTok_len x.cps.toList 0 false; simp only [List.length_nil]; lia) ?_ (fun O e => nomatch e)
   intro st' o' acc' pos' ch' h1 h2 h3 h4
   have hsum := sum_le acc' h1
   have hmul : acc'.length * x.length <= 5000 * 3000 := Nat.mul_le_mul h3 hx
   have hres : stripS x = Txt.join ⟨#[]⟩ (stripGo x [] st' o' acc') := by rw [stripS, if_pos hc, h4]
   have e0 : (Str.ofString "").length = 0 := by decide +kernel
   walk_at "w"
   refine ⟨KeepsV_builtin, ?_⟩
   walk_at "w"
   refine Call_len_str (by lia) ?_
   walk_at "w"
   by_cases hlt : st' < x.length
   . refine' ifp (show decide ((st' : Int) < (x.length : Int)) = true by simp; lia) ?_
     walk_at "w"
     refine ⟨_, Meth_append (.lref mcs), ?_⟩
     walk_at "w"
     refine ⟨SubAt_of SubOk_str, Sl_str (by simp) hz ?_⟩
     walk_at "w"
     refine Call_append .head (by rw [List.length_map, sizeLine_eq]; lia) ?_
     walk_at "w"
     refine ⟨_, Meth_join, ?_⟩
     walk_at "w"
     have e3 : acc'.map PV.str ++ [PV.str (strPick x (some (st' : Int)) none none)] = (acc' ++ [strPick x (some (st' : Int)) none none]).map PV.str := by simp
     rw [e3]
     have hp := strPick_le x (some (st' : Int)) none none (by simp)
     refine Call_join (.inr (.lref mcs)) (by rw [e0]; simp only [List.map_append, List.sum_append, List.map_cons, List.map_nil, List.sum_cons, List.sum_nil, Nat.mul_zero]; lia) ?_
     refine ⟨_, _, rfl, ?_⟩
     rw [hres, stripGo, if_pos hlt] at q
     exact q
   . refine' ifn (show ¬ decide ((st' : Int) < (x.length : Int)) = true by simp; lia) ?_
     walk_at "w"
     refine ⟨_, Meth_join, ?_⟩
     walk_at "w"
     refine Call_join (.inr (.lref mcs)) (by rw [e0]; lia) ?_
     refine ⟨_, _, rfl, ?_⟩
     rw [hres, stripGo, if_neg hlt] at q
     exact q
 . refine h.call (d := d + 11) (fun doc pm an ct => BindV_p1 fun S v => strip_bind) rfl strip_chk (strip_ini gi gl) ?_
   refine' Xs_cons' ?_
   walk_at "w"
   refine' ifp (show (!Txt.contains x (Str.ofString "\"")) = true by rw [quote_str]; simpa using hc) ?_
   walk_at "w"
   rw [stripS, if_neg hc] at q
   exact q
end
noncomputable def Asc (x : Str) : Prop := ∀ c ∈ x.cps.toList, c < 128
theorem Asc.all {x : Str} (h : Asc x) : x.cps.all (· < 128) = true := by
 rw [<- Array.all_toList, List.all_eq_true]; exact fun c hc => decide_eq_true (h c hc)
theorem Asc.pick {x : Str} (h : Asc x) (l u k : Option Int) : Asc (strPick x l u k) := by
 unfold strPick
 split
 . exact h
 . intro c hc
   simp only [List.mem_filterMap] at hc
   obtain ⟨i, O, e⟩ := hc
   exact h c (by rw [<- Array.getElem?_toList] at e; exact List.mem_of_getElem? e)
theorem Asc.add {x y : Str} (hx : Asc x) (hy : Asc y) : Asc (x ++ y) := by
 intro c hc
 have e : (x ++ y).cps.toList = x.cps.toList ++ y.cps.toList := by
   show (x.cps ++ y.cps).toList = _
   simp
 rw [e] at hc
 rcases mpp hc with h | h
 . exact hx c h
 . exact hy c h
theorem Asc.join {s : Str} (hs : Asc s) : ∀ {l : List Str}, (∀ y ∈ l, Asc y) -> Asc (Txt.join s l) := by
 intro l h
 unfold Txt.join
 rw [StrLaws.glued_eq_join]
 induction l with
 | nil => intro c hc; simp [Str.join, Str.empty] at hc
 | cons a r ih =>
   cases r with
   | nil => exact h a mcs
   | cons b r => exact ((h a mcs).add hs).add (ih fun y hy => h y (mcm _ hy))
theorem stripGo_asc {x : Str} (hx : Asc x) : ∀ (t : List (Nat × List Nat)) (st : Nat) (o : Option Nat) (acc : List Str), (∀ y ∈ acc, Asc y) -> ∀ y ∈ stripGo x t st o acc, Asc y
 | [], st, o, acc, h, y, hy => by
   rw [stripGo] at hy
   split at hy
   . rcases mpp hy with h' | h'
     . exact h y h'
     . rw [msp h']; exact hx.pick _ _ _
   . exact h y hy
 | (p, s) :: r, st, o, acc, h, y, hy => by
   by_cases hs : s = [34]
   . cases o with
     | none => rw [stripGo_open hs] at hy; exact stripGo_asc hx r _ _ _ h y hy
     | some op =>
       by_cases e : st = op
       . rw [stripGo_same hs e] at hy; exact stripGo_asc hx r _ _ _ h y hy
       . rw [stripGo_add hs e] at hy
         refine stripGo_asc hx r _ _ _ (fun z hz => ?_) y hy
         rcases mpp hz with h' | h'
         . exact h z h'
         . rw [msp h']; exact hx.pick _ _ _
   . rw [stripGo_skip hs] at hy; exact stripGo_asc hx r _ _ _ h y hy
theorem stripS_asc {x : Str} (h : Asc x) : Asc (stripS x) := by
 unfold stripS
 split
 . exact Asc.join (fun c hc => by simp at hc) (stripGo_asc h _ _ _ _ (fun O hy => nomatch hy))
 . exact h
noncomputable def chkGo : List (Nat × List Nat) -> Int -> Bool
 | [], o => o == 0
 | (_, s) :: r, o => if s = [40] then chkGo r (o + 1) else if s = [41] then (if o - 1 < 0 then false else chkGo r (o - 1)) else chkGo r o
noncomputable def chkS (x : Str) : Bool := chkGo (escTok 0 false (stripS x).cps.toList) 0
section
variable {o : Int} {p : Nat} {s : List Nat} {r : List (Nat × List Nat)}
theorem chkGo_open (h : s = [40]) : chkGo ((p, s) :: r) o = chkGo r (o + 1) := by simp [chkGo, h]
theorem chkGo_neg (h : s = [41]) (hn : o - 1 < 0) : chkGo ((p, s) :: r) o = false := by simp [chkGo, h, hn]
theorem chkGo_close (h : s = [41]) (hn : ¬ o - 1 < 0) : chkGo ((p, s) :: r) o = chkGo r (o - 1) := by simp only [chkGo, h, hn]; simp
theorem chkGo_skip (h : ¬ s = [40]) (h' : ¬ s = [41]) : chkGo ((p, s) :: r) o = chkGo r o := by simp [chkGo, h, h']
end
section
variable {B : Base} {d : Nat} {H : AH} {cdv cdv' cdv'' : Value} {x : Str}
theorem check_bind {S : Setting} {doc pm cdv ct : Value} {an : Option Addr} {v : Value} : feed S [] (bindArgs (fdOf "_check_parenthesis" kCheck .none .none doc pm an cdv ct) ⟨[v], []⟩) = some ([], [(Str.ofString "addr", v)]) := by kernel_rfl
theorem check_chk : chkF [Str.ofString "addr"] (stScope (topSt kCheck)) = true := by decide +kernel
noncomputable abbrev stC (x : Str) (ops pos ch : Option PV) (f g : Addr) : St := [(Str.ofString "addr", .local, some (.str x)), (Str.ofString "opens", .local, ops), (Str.ofString "pos", .local, pos), (Str.ofString "ch", .local, ch),
 (Str.ofString "_strip_quoted_realnames", .globalImplicit, some (.raw (.ref f))), (Str.ofString "_iter_escaped_chars", .globalImplicit, some (.raw (.ref g)))]
theorem check_ini {f g : Addr} (gs : GlobIs B "_strip_quoted_realnames" (.raw (.ref f))) (gi : GlobIs B "_iter_escaped_chars" (.raw (.ref g))) : Ini B [(Str.ofString "addr", .str x)] (stScope (topSt kCheck)).names (stC x none none none f g) := by
 refine .arg (by walk_at "mm") (.inl rfl) (.unset (.unset (.unset (.glob gs (.glob gi .nil)))))
theorem open_str : Str.ofString "(" = (⟨#[40]⟩ : Str) := by decide +kernel
theorem close_str : Str.ofString ")" = (⟨#[41]⟩ : Str) := by decide +kernel
noncomputable abbrev cFor : Stmt := ((stBody (topSt kCheck))[2]?).getD (.Pass default)
theorem check_for {f g : Addr} {Qn : SQ} {Qf : FQ} : ∀ (toks : List (Nat × List Nat)) (o : Int) (pos ch : Option PV),
   (∀ o' pos' ch', chkGo toks o = (o' == 0) -> Qn (stC x (some (.int o')) pos' ch' f g) H) -> (∀ σ, chkGo toks o = false -> Qf σ (.ret (.bool false)) H) ->
   ForL B (fiOf kCheck "_check_parenthesis") d (forTgt cFor) (forBody cFor) [] (toks.map tokPV) (stC x (some (.int o)) pos ch f g) H Qn Qf
 | [], o, pos, ch, hq, hf => ForL_nil (hq o pos ch rfl)
 | (p, s) :: r, o, pos, ch, hq, hf => by
   refine ForL_cons ?_
   have ih := fun o pos ch => check_for (f := f) (g := g) (Qn := Qn) (Qf := Qf) r o pos ch
   show Asg B _ d NoE (forTgt cFor) (.tup [.int p, .str ⟨s.toArray⟩]) _ _ _
   refine' Asg_T rfl rfl ?_
   walk_at "w"
   refine' Xs_cons' ?_
   walk_at "w"
   rw [open_str, list_eq]
   by_cases h1 : s = [40]
   . rw [decide_eq_true h1, if_pos rfl]
     walk_at "w"
     exact ⟨(fun O h => nomatch h), ih (o + 1) _ _ (fun o' pos' ch' e => hq o' pos' ch' ((chkGo_open h1).trans e)) fun σ e => hf σ ((chkGo_open h1).trans e)⟩
   . rw [decide_eq_false h1, if_neg Bool.false_ne_true]
     walk_at "w"
     rw [close_str, list_eq]
     by_cases h2 : s = [41]
     . rw [decide_eq_true h2, if_pos rfl]
       walk_at "w"
       by_cases h3 : o - 1 < 0
       . refine' ifp (decide_eq_true h3) ?_
         walk_at "w"
         exact hf _ (chkGo_neg h2 h3)
       . refine' ifn (by simpa using h3) ?_
         walk_at "w"
         exact ⟨(fun O h => nomatch h), ih (o - 1) _ _ (fun o' pos' ch' e => hq o' pos' ch' ((chkGo_close h2 h3).trans e)) fun σ e => hf σ ((chkGo_close h2 h3).trans e)⟩
     . rw [decide_eq_false h2, if_neg Bool.false_ne_true]
       walk_at "w"
       exact ⟨(fun O h => nomatch h), ih o _ _ (fun o' pos' ch' e => hq o' pos' ch' ((chkGo_skip h1 h2).trans e)) fun σ e => hf σ ((chkGo_skip h1 h2).trans e)⟩
set_option genInjectivity false in
set_option genSizeOf false in
structure MailFns (B : Base) where
 f : Addr
 g : Addr
 c : Addr
 cdf : Value
 cdg : Value
 cdc : Value
 hf : FnIs B f "_strip_quoted_realnames" kStrip .none .none cdf
 hg : FnIs B g "_iter_escaped_chars" kIter .none .none cdg
 hc : FnIs B c "_check_parenthesis" kCheck .none .none cdc
 gf : GlobIs B "_strip_quoted_realnames" (.raw (.ref f))
 gg : GlobIs B "_iter_escaped_chars" (.raw (.ref g))
 gc : GlobIs B "_check_parenthesis" (.raw (.ref c))
 gl : GlobIs B "len" (.raw (.builtin "len"))
 ge : GlobIs B "enumerate" (.raw (.type "enumerate"))
theorem check_call (M : MailFns B) {Q : PQ} (ha : Asc x) (hx : x.length <= 3000) (q : Q (.bool (chkS x)) H) : CallV B (d + 13) NoE (.raw (.ref M.c)) [.str x] [] H Q := by
 refine M.hc.call (d := d + 12) (fun doc pm an ct => BindV_p1 fun S v => check_bind) rfl check_chk (check_ini M.gf M.gg) ?_
 refine' Xs_cons' ?_
 walk_at "w"
 refine ⟨KeepsV_FnIs M.hf, ?_⟩
 walk_at "w"
 refine strip_call M.hf M.hg M.gg M.gl M.ge ha.all hx ?_
 walk_at "w"
 refine ⟨KeepsV_FnIs M.hg, ?_⟩
 walk_at "w"
 refine CallI_esc (d := d + 5) M.hg M.ge (stripS_asc ha).all ?_
 refine check_for (escTok 0 false (stripS x).cps.toList) 0 none none (fun o' pos' ch' e => ?_) fun σ e => ?_
 . walk_at "w"
   have e' : chkS x = (o' == 0) := e
   rw [e'] at q
   exact q
 . have e' : chkS x = false := e
   rw [e'] at q
   exact q
end
noncomputable def vain : Str := Str.ofString "('', '')"
noncomputable def keepS (x : Str) : Str := if chkS x = true then x else vain
section
variable {B : Base} {d : Nat} {H : AH} {cdv cdv' cdv'' : Value} {x : Str}
theorem pre_bind {S : Setting} {doc pm cdv ct : Value} {an : Option Addr} {v : Value} : feed S [] (bindArgs (fdOf "_pre_parse_validation" kPre .none .none doc pm an cdv ct) ⟨[v], []⟩) = some ([], [(Str.ofString "email_header_fields", v)]) := by kernel_rfl
theorem pre_chk : chkF [Str.ofString "email_header_fields"] (stScope (topSt kPre)) = true := by decide +kernel
noncomputable abbrev stPre (a : Addr) (acc v : Option PV) (c : Addr) : St := [(Str.ofString "email_header_fields", .local, some (.lref a)), (Str.ofString "accepted_values", .local, acc), (Str.ofString "v", .local, v), (Str.ofString "_check_parenthesis", .globalImplicit, some (.raw (.ref c)))]
theorem pre_ini {a c : Addr} (gc : GlobIs B "_check_parenthesis" (.raw (.ref c))) : Ini B [(Str.ofString "email_header_fields", .lref a)] (stScope (topSt kPre)).names (stPre a none none c) := by
 refine .arg (by walk_at "mm") (.inl rfl) (.unset (.unset (.glob gc .nil)))
noncomputable abbrev pFor : Stmt := ((stBody (topSt kPre))[1]?).getD (.Pass default)
theorem pre_for (M : MailFns B) {a b : Addr} {all : List Str} (ha : (a, all.map PV.str) ∈ H) {Qn : SQ} {Qf : FQ} : ∀ (l acc : List Str) (v : Option PV), (∀ x ∈ l, Asc x /\ x.length <= 3000) -> acc.length + l.length <= 5000 ->
   (∀ v', Qn (stPre a (some (.lref b)) v' M.c) ((b, (acc ++ l.map keepS).map PV.str) :: H)) ->
   ForL B (fiOf kPre "_pre_parse_validation") (d + 14) (forTgt pFor) (forBody pFor) [(a, all.map PV.str)] (l.map PV.str) (stPre a (some (.lref b)) v M.c) ((b, acc.map PV.str) :: H) Qn Qf
 | [], acc, v, hl, hn, hq => by simpa using ForL_nil (hq v)
 | x :: r, acc, v, hl, hn, hq => by
   refine ForL_cons ?_
   have ih := fun acc v => pre_for M (b := b) ha (Qn := Qn) (Qf := Qf) r acc v (fun y hy => hl y (mcm _ hy))
   obtain ⟨hx, hx'⟩ := hl x mcs
   have hn' : acc.length + r.length + 1 <= 5000 := by simp at hn; lia
   have hz : (acc.map PV.str).length <= sizeLine := by rw [List.length_map, sizeLine_eq]; lia
   have fin : ∀ y v', y = keepS x -> (∀ p ∈ [(a, all.map PV.str)], p ∈ (b, acc.map PV.str ++ [PV.str y]) :: H) /\ ForL B (fiOf kPre "_pre_parse_validation") (d + 14) (forTgt pFor) (forBody pFor) [(a, all.map PV.str)] (r.map PV.str) (stPre a (some (.lref b)) v' M.c) ((b, acc.map PV.str ++ [PV.str y]) :: H) Qn Qf := fun y v' e => by
     subst e
     refine ⟨fun p hp => by rw [msp hp]; exact mcm _ ha, ?_⟩
     have e : acc.map PV.str ++ [PV.str (keepS x)] = (acc ++ [keepS x]).map PV.str := by simp
     rw [e]
     exact ih (acc ++ [keepS x]) v' (by simp; lia) fun v'' => by simpa using hq v''
   show Asg B _ (d + 14) NoE (forTgt pFor) (.str x) _ _ _
   refine' Asg_N ?_
   walk_at "w"
   refine' Xs_cons' ?_
   walk_at "w"
   refine ⟨KeepsV_FnIs M.hc, ?_⟩
   walk_at "w"
   refine check_call M (d := d + 1) hx hx' ?_
   walk_at "w"
   cases hk : chkS x with
   | true =>
     refine' ifn (by simp) ?_
     walk_at "w"
     refine ⟨_, Meth_append (.lref mcs), ?_⟩
     walk_at "w"
     refine Call_append .head hz ?_
     walk_at "w"
     exact fin _ _ (by rw [keepS, if_pos hk])
   | false =>
     refine' ifp (by simp) ?_
     walk_at "w"
     refine ⟨_, Meth_append (.lref mcs), ?_⟩
     walk_at "w"
     refine Call_append .head hz ?_
     walk_at "w"
     exact fin _ _ (by rw [keepS, if_neg (by simp [hk])]; rfl)
theorem pre_call (M : MailFns B) {f a : Addr} {all : List Str} {Q : PQ} (h : FnIs B f "_pre_parse_validation" kPre .none .none cdv) (ha : (a, all.map PV.str) ∈ H) (hl : ∀ x ∈ all, Asc x /\ x.length <= 3000) (hn : all.length <= 4000)
   (q : ∀ b, Q (.lref b) ((b, (all.map keepS).map PV.str) :: H)) : CallV B (d + 15) NoE (.raw (.ref f)) [.lref a] [] H Q := by
 refine h.call (d := d + 14) (fun doc pm an ct => BindV_p1 fun S v => pre_bind) rfl pre_chk (pre_ini M.gc) ?_
 refine' Xs_cons' ?_
 walk_at "w"
 refine Ev_ListT ?_
 refine EvL_nil fun b => ?_
 walk_at "w"
 refine EvI_of ?_
 walk_at "w"
 refine IterV_lref (mcm _ ha) ?_
 refine pre_for M ha all [] none hl (by simp; lia) fun v' => ?_
 walk_at "w"
 exact q b
end
noncomputable abbrev bits (n : Nat) : Nat := Builtin.Int.intBits (n : Int)
theorem bits_le {a m : Nat} : bits a <= m ↔ a < 2 ^ m := by
 have := intBits_le_iff (m := m) (x := (a : Int))
 simpa using this
theorem lt_bits (a : Nat) : a < 2 ^ bits a := bits_le.mp (Nat.le_refl _)
theorem bits_ge {b : Nat} (h : b ≠ 0) : 1 <= bits b /\ 2 ^ (bits b - 1) <= b := by
 have h1 : 1 <= bits b := by
   rcases Nat.eq_zero_or_pos (bits b) with e | e
   . have := bits_le.mp (Nat.le_of_eq e); simp at this; exact absurd this h
   . exact e
 refine ⟨h1, ?_⟩
 rcases Nat.lt_or_ge b (2 ^ (bits b - 1)) with q | q
 . have := bits_le.mpr q; lia
 . exact q
theorem shr_nat (a k : Nat) : ((a : Int)).fdiv (2 ^ k) = ((a / 2 ^ k : Nat) : Int) := by
 rw [Int.fdiv_eq_ediv_of_nonneg _ (by exact_mod_cast Nat.zero_le _)]
 norm_cast
theorem shl_nat (a k : Nat) : (a : Int) * 2 ^ k = ((a * 2 ^ k : Nat) : Int) := by norm_cast
theorem mask_nat (k : Nat) : (1 : Int) * 2 ^ k - 1 = ((2 ^ k - 1 : Nat) : Int) := by
 have := Nat.one_le_two_pow (n := k)
 have e : ((2 ^ k - 1 : Nat) : Int) = ((2 ^ k : Nat) : Int) - 1 := by lia
 rw [e]
 norm_cast
 lia
theorem and_nat (a b : Nat) : Builtin.bitAnd (a : Int) (b : Int) = ((a &&& b : Nat) : Int) := by
 rw [bitAnd_pp (by lia) (by lia)]; simp
theorem and_mask (a k : Nat) : Builtin.bitAnd (a : Int) ((2 ^ k - 1 : Nat) : Int) = ((a % 2 ^ k : Nat) : Int) := by
 rw [and_nat, Nat.and_two_pow_sub_one_eq_mod]
theorem and_one (a : Nat) : Builtin.bitAnd (a : Int) 1 = ((a % 2 : Nat) : Int) := by rw [bitAnd_m1]; lia
theorem or_low {r k a : Nat} (h : a < 2 ^ k) : Builtin.bitOr ((r * 2 ^ k : Nat) : Int) (a : Int) = ((r * 2 ^ k + a : Nat) : Int) := by
 rw [bitOr_and, and_nat]
 have : r * 2 ^ k &&& a = 0 := by
   apply Nat.eq_of_testBit_eq
   intro i
   rw [Nat.testBit_and, Nat.zero_testBit]
   by_cases hi : i < k
   . rw [Nat.mul_comm, Nat.testBit_two_pow_mul, decide_eq_false (by lia)]; simp
   . rw [Nat.testBit_lt_two_pow (nlt h (Nat.pow_le_pow_right (by decide) (by lia)))]; simp
 rw [this]
 lia
theorem xor_high (x k : Nat) : Builtin.bitXor (x : Int) ((x / 2 ^ k * 2 ^ k : Nat) : Int) = ((x % 2 ^ k : Nat) : Int) := by
 rw [bitXor_and, and_nat]
 have : x &&& x / 2 ^ k * 2 ^ k = x / 2 ^ k * 2 ^ k := by
   apply Nat.eq_of_testBit_eq
   intro i
   rw [Nat.testBit_and, Nat.mul_comm, Nat.testBit_two_pow_mul]
   by_cases hi : k <= i
   . rw [decide_eq_true hi, Bool.true_and, Nat.testBit_div_two_pow, Nat.sub_add_cancel hi]; simp
   . rw [decide_eq_false hi]; simp
 rw [this]
 have := Nat.div_add_mod x (2 ^ k)
 have e : x / 2 ^ k * 2 ^ k = 2 ^ k * (x / 2 ^ k) := Nat.mul_comm _ _
 lia
theorem fdiv_nat (a b : Nat) : ((a : Int)).fdiv (b : Int) = ((a / b : Nat) : Int) := by
 rw [Int.fdiv_eq_ediv_of_nonneg _ (by lia)]; norm_cast
theorem fmod_nat (a b : Nat) : ((a : Int)).fmod (b : Int) = ((a % b : Nat) : Int) := by
 rw [Int.fmod_eq_emod_of_nonneg _ (by lia)]; norm_cast
theorem noPyQ {a b n : Nat} (hb : 2 ^ (n - 1) <= b) (ha : a < 2 ^ (n + 4000)) (hn : 1 <= n) : Builtin.divisionGoesByPylong (a : Int) (b : Int) = false := by
 unfold Builtin.divisionGoesByPylong
 have hb0 : b ≠ 0 := by have := Nat.two_pow_pos (n - 1); lia
 have h1 : n - 1 <= b.log2 := (Nat.le_log2 hb0).mpr hb
 have h2 : a ≠ 0 -> a.log2 < n + 4000 := fun h => (Nat.log2_lt h).mpr ha
 have e0 : ((b : Int) == 0) = false := by simp; lia
 simp only [e0, Int.natAbs_natCast, Bool.false_eq_true, if_false, Bool.and_eq_false_iff, decide_eq_false_iff_not]
 right
 by_cases ha0 : a = 0
 . subst ha0; simp
 . have e1 : ((a : Int) == 0) = false := by simp; lia
   simp only [e1, Bool.false_eq_true, if_false]
   have := h2 ha0
   lia
theorem est_hi {a12 a3 b1 b2 b n : Nat} (e : b = b1 * 2 ^ n + b2) (h3 : a3 < 2 ^ n) (hlt : a12 < b) : a12 * 2 ^ n + a3 < b * 2 ^ n := by
 have : (a12 + 1) * 2 ^ n <= b * 2 ^ n := Nat.mul_le_mul_right _ hlt
 rw [Nat.add_mul] at this
 lia
theorem loop_end {T b : Nat} {q r : Int} (e : q * b + r = T) (h0 : 0 <= r) (h1 : r < b) : q = ((T / b : Nat) : Int) /\ r = ((T % b : Nat) : Int) := by
 have hb : (0 : Int) < b := by lia
 have hq : q = (T : Int) / b := by
   rw [<- e, Int.add_comm, Int.add_mul_ediv_right _ _ (by lia), Int.ediv_eq_zero_of_lt h0 h1, Int.zero_add]
 have hr : r = (T : Int) % b := by
   rw [<- e, Int.add_comm, Int.add_mul_emod_self_right, Int.emod_eq_of_lt h0 h1]
 exact ⟨by rw [hq]; norm_cast, by rw [hr]; norm_cast⟩
section
variable {B : Base} {d : Nat} {E : EP} {H : AH} {Q : PQ}
theorem Bin_shrN {x s : Nat} (q : Q (.int ((x / 2 ^ s : Nat) : Int)) H) : V2 B d E (binaryOp .RShift) (.int (x : Nat)) (.int (s : Nat)) H Q := Bin_shr (Int.natCast_nonneg s) (by rw [Int.toNat_natCast, shr_nat]; exact q)
theorem shl_room {x s m : Nat} (hx : x < 2 ^ m) (hz : m + s <= 134217728) : (Builtin.Int.intBits (x : Int) : Int) + (s : Nat) <= 2 ^ 27 := Int.ofNat_le.mpr (ntr (Nat.add_le_add_right (bits_le.mpr hx) s) hz)
theorem Bin_shlN {x s m : Nat} (hx : x < 2 ^ m) (hz : m + s <= 134217728) (q : Q (.int ((x * 2 ^ s : Nat) : Int)) H) : V2 B d E (binaryOp .LShift) (.int (x : Nat)) (.int (s : Nat)) H Q := Bin_shl (Int.natCast_nonneg s) (shl_room hx hz) (by rw [Int.toNat_natCast, shl_nat]; exact q)
theorem In_shlN {x s m : Nat} (hx : x < 2 ^ m) (hz : m + s <= 134217728) (q : Q (.int ((x * 2 ^ s : Nat) : Int)) H) : V2 B d E (inplaceOp .LShift) (.int (x : Nat)) (.int (s : Nat)) H Q := In_shl (Int.natCast_nonneg s) (shl_room hx hz) (by rw [Int.toNat_natCast, shl_nat]; exact q)
theorem Bin_mulN {a : Nat} {b : Int} (h : a < 2 ^ 62) (q : Q (.int (a * b)) H) : V2 B d E (binaryOp .Mult) (.int (a : Nat)) (.int b) H Q := Bin_mul (.of_left (intBits_le_64 (by omega) (by omega))) q
end
theorem half_lo {L R : Nat} (h : L < R) (hc : R ≠ L + 1) : L < (L + R) / 2 := (Nat.le_div_iff_mul_le (by decide)).mpr (by omega)
theorem half_hi {L R : Nat} (h : L < R) : (L + R) / 2 < R := (Nat.div_lt_iff_lt_mul (by decide)).mpr (by omega)
theorem half_le {L R k : Nat} (h : R - L <= 2 ^ (k + 1)) (hl : L < R) : (L + R) / 2 - L <= 2 ^ k := by
 rw [Nat.pow_succ] at h
 exact Nat.sub_le_of_le_add (Nat.div_le_of_le_mul (by omega))
theorem half_ge {L R k : Nat} (h : R - L <= 2 ^ (k + 1)) (hl : L < R) : R - (L + R) / 2 <= 2 ^ k := by
 rw [Nat.pow_succ] at h
 exact Nat.sub_le_of_le_add (by omega)
theorem mid_int (L R : Nat) : ((L : Int) + (R : Int)).fdiv (2 ^ (1 : Int).toNat) = (((L + R) / 2 : Nat) : Int) := shr_nat (L + R) 1
theorem sum_mid {L M R : Nat} (h1 : L <= M) (h2 : M <= R) : R - L = (M - L) + (R - M) := by omega
section
variable {B : Base} {d : Nat} {H : AH}
theorem BindV_q2 {fd : FuncData} {n1 n2 : Str} {a b : PV} (hf : ∀ (S : Setting) v w, feed S [] (bindArgs fd ⟨[v, w], []⟩) = some ([], [(n1, v), (n2, w)])) : BindV B fd [a, b] [] H [(n1, a), (n2, b)] := fun A s I vs kvs h1 h2 E Q hQ => by
 obtain ⟨v, w, rfl, r1, r2⟩ := h1.two
 rw [h2.nil]
 exact wpAny_feed (os := []) (hf _ v w) (by simp) (hQ _ (.cons r1 (.cons r2 .nl)))
theorem BindV_q3 {fd : FuncData} {n1 n2 n3 : Str} {a b c : PV} (hf : ∀ (S : Setting) v w u, feed S [] (bindArgs fd ⟨[v, w, u], []⟩) = some ([], [(n1, v), (n2, w), (n3, u)])) : BindV B fd [a, b, c] [] H [(n1, a), (n2, b), (n3, c)] := fun A s I vs kvs h1 h2 E Q hQ => by
 obtain ⟨v, w, u, rfl, r1, r2, r3⟩ := h1.three
 rw [h2.nil]
 exact wpAny_feed (os := []) (hf _ v w u) (by simp) (hQ _ (.cons r1 (.cons r2 (.cons r3 .nl))))
theorem BindV_q6 {fd : FuncData} {n1 n2 n3 n4 n5 n6 : Str} {a b c a' b' c' : PV} (hf : ∀ (S : Setting) v w u v' w' u', feed S [] (bindArgs fd ⟨[v, w, u, v', w', u'], []⟩) = some ([], [(n1, v), (n2, w), (n3, u), (n4, v'), (n5, w'), (n6, u')])) :
   BindV B fd [a, b, c, a', b', c'] [] H [(n1, a), (n2, b), (n3, c), (n4, a'), (n5, b'), (n6, c')] := fun A s I vs kvs h1 h2 E Q hQ => by
 cases h1 with | cons r1 h1 =>
 cases h1 with | cons r2 h1 =>
 cases h1 with | cons r3 h1 =>
 cases h1 with | cons r4 h1 =>
 cases h1 with | cons r5 h1 =>
 cases h1 with | cons r6 h1 =>
 cases h1
 rw [h2.nil]
 exact wpAny_feed (os := []) (hf _ _ _ _ _ _ _) (by simp) (hQ _ (.cons r1 (.cons r2 (.cons r3 (.cons r4 (.cons r5 (.cons r6 .nl)))))))
set_option genInjectivity false in
set_option genSizeOf false in
structure DivFns (B : Base) where
 f2 : Addr
 f3 : Addr
 cd2 : Value
 cd3 : Value
 h2 : FnIs B f2 "_div2n1n" kDiv2 .none .none cd2
 h3 : FnIs B f3 "_div3n2n" kDiv3 .none .none cd3
 g2 : GlobIs B "_div2n1n" (.raw (.ref f2))
 g3 : GlobIs B "_div3n2n" (.raw (.ref f3))
 gl : GlobIs B "_DIV_LIMIT" (.int 4000)
 gd : GlobIs B "divmod" (.raw (.builtin "divmod"))
theorem d2_bind {S : Setting} {doc pm cdv ct : Value} {an : Option Addr} {v w u : Value} : feed S [] (bindArgs (fdOf "_div2n1n" kDiv2 .none .none doc pm an cdv ct) ⟨[v, w, u], []⟩) = some ([], [(Str.ofString "a", v), (Str.ofString "b", w), (Str.ofString "n", u)]) := by kernel_rfl
theorem d2_chk : chkF [Str.ofString "a", Str.ofString "b", Str.ofString "n"] (stScope (topSt kDiv2)) = true := by decide +kernel
theorem d3_bind {S : Setting} {doc pm cdv ct : Value} {an : Option Addr} {v w u v' w' u' : Value} : feed S [] (bindArgs (fdOf "_div3n2n" kDiv3 .none .none doc pm an cdv ct) ⟨[v, w, u, v', w', u'], []⟩) = some ([], [(Str.ofString "a12", v), (Str.ofString "a3", w), (Str.ofString "b", u), (Str.ofString "b1", v'), (Str.ofString "b2", w'), (Str.ofString "n", u')]) := by kernel_rfl
theorem d3_chk : chkF [Str.ofString "a12", Str.ofString "a3", Str.ofString "b", Str.ofString "b1", Str.ofString "b2", Str.ofString "n"] (stScope (topSt kDiv3)) = true := by decide +kernel
noncomputable abbrev stD3 (a12 a3 b b1 b2 n : Nat) (q r : Option PV) (f2 : Addr) : St := [(Str.ofString "a12", .local, some (.int a12)), (Str.ofString "a3", .local, some (.int a3)), (Str.ofString "b", .local, some (.int b)), (Str.ofString "b1", .local, some (.int b1)), (Str.ofString "b2", .local, some (.int b2)), (Str.ofString "n", .local, some (.int n)),
 (Str.ofString "q", .local, q), (Str.ofString "r", .local, r), (Str.ofString "_div2n1n", .globalImplicit, some (.raw (.ref f2)))]
theorem d3_ini (F : DivFns B) {a12 a3 b b1 b2 n : Nat} : Ini B [(Str.ofString "a12", .int a12), (Str.ofString "a3", .int a3), (Str.ofString "b", .int b), (Str.ofString "b1", .int b1), (Str.ofString "b2", .int b2), (Str.ofString "n", .int n)] (stScope (topSt kDiv3)).names (stD3 a12 a3 b b1 b2 n none none F.f2) := by
 refine .arg (by walk_at "mm") (.inl rfl) (.arg (by walk_at "mm") (.inl rfl) (.arg (by walk_at "mm") (.inl rfl) (.arg (by walk_at "mm") (.inl rfl) (.arg (by walk_at "mm") (.inl rfl) (.arg (by walk_at "mm") (.inl rfl) (.unset (.unset (.glob F.g2 .nil))))))))
noncomputable def D2Ok (B : Base) (F : DivFns B) (l : Nat) : Prop := ∀ (H : AH) (Q : PQ) (n a b : Nat), 2 ^ (n - 1) <= b -> b < 2 ^ n -> 1 <= n -> a < b * 2 ^ n -> n <= 4000 * 2 ^ l -> n <= 2097152 ->
 Q (.tup [.int ((a / b : Nat) : Int), .int ((a % b : Nat) : Int)]) H -> CallV B (2 * l + 2) NoE (.raw (.ref F.f2)) [.int a, .int b, .int n] [] H Q
theorem d3_loop {a12 a3 b b1 b2 n T : Nat} {f2 : Addr} {q r : Int} {fi : FnInfo} {Qn : SQ} {Qf : FQ} {test : Expr} {body : List Stmt} {pos : Pos} (e : q * b + r = T) (h1 : r < b)
   (hs : ((stBody (topSt kDiv3))[2]?).getD (.Pass default) = .While test body [] pos)
   (hq : Qn (stD3 a12 a3 b b1 b2 n (some (.int ((T / b : Nat) : Int))) (some (.int ((T % b : Nat) : Int))) f2) H) :
   X B fi d NoE (.While test body [] pos) (stD3 a12 a3 b b1 b2 n (some (.int q)) (some (.int r)) f2) H Qn Qf := by
 injection hs with e1 e2 e3 e4
 subst e1 e2
 refine X_While (fun m σ H' => ∃ q' r' : Int, σ = stD3 a12 a3 b b1 b2 n (some (.int q')) (some (.int r')) f2 /\ H' = H /\ q' * b + r' = T /\ r' < b /\ m = (-r').toNat) (n := (-r).toNat) ⟨q, r, rfl, rfl, e, h1, rfl⟩ ?_
 rintro m σ H' ⟨q', r', rfl, rfl, e', h1', rfl⟩
 walk_at "w"
 by_cases hc : r' < 0
 . refine' ifp (by simpa using hc) ?_
   walk_at "w"
   have hb : (0 : Int) < b := by
     rcases Nat.eq_zero_or_pos b with q | q
     . subst q; have := e'; simp at this; lia
     . lia
   refine ⟨(-(r' + b)).toNat, by lia, q' - 1, r' + b, rfl, rfl, ?_, by lia, rfl⟩
   rw [Int.sub_mul]; lia
 . refine' ifn (by simpa using hc) ?_
   walk_at "w"
   obtain ⟨a1, a2⟩ := loop_end e' (by lia) h1'
   rw [a1, a2]
   exact hq
end
section
variable {B : Base} {d : Nat} {H : AH}
theorem mulOk {x y : Int} {m n : Nat} (hx : x.natAbs < 2 ^ m) (hy : y.natAbs < 2 ^ n) (hm : m <= 1048576) (hn : n <= 1048576) : IntMulOk x y :=
 IntMulOk.of_bits (ntr (intBits_le_iff.mpr hx) hm) (ntr (intBits_le_iff.mpr hy) hn)
noncomputable def swapQ (bk : Bool) (lk : Str -> Option NameKind) (ts vs : List Expr) : Option (Option (List Str)) :=
 if (!(ts.length == 2 || ts.length == 3) || vs.length != ts.length || bk) = true then some none else
 if (vs.any fun | .Starred .. => true | _ => false) = true then some none else
 let line := (ts.head?.map (·.pos.line)).getD 0
 let names := ts.filterMap fun
   | .Name id pos => if lk id == some .local && pos.line == line then some id else none
   | _ => none
 if (names.length != ts.length || names.eraseDups.length != names.length) = true then some none else
 if vs.all (foldedForSure 8) = true then some none else
 if vs.all (constantsAlone 8) = true then none else some (some names)
noncomputable abbrev swapP (sc : Scope) (ts vs : List Expr) : Option (Option (List Str)) := swapQ false (fun id => sc.names.lookup id) ts vs
theorem sw_if {c : Prop} [Decidable c] {x r : Option (List Str)} {o : Option (Option (List Str))} {m : Sem (Option (List Str))} (h : (if c then some x else o) = some r) (k : o = some r -> m = pure r) : (if c then pure x else m) = pure r := by
 by_cases hc : c
 . rw [if_pos hc] at h ⊢
   exact congrArg pure (Option.some.inj h)
 . rw [if_neg hc] at h ⊢
   exact k h
theorem sw_last {c : Prop} [Decidable c] {x : List Str} {r : Option (List Str)} {m : Sem (Option (List Str))} (h : (if c then none else some (some x)) = some r) : (if c then m else pure (some x)) = pure r := by
 by_cases hc : c
 . rw [if_pos hc] at h; exact nomatch h
 . rw [if_neg hc] at h ⊢
   exact congrArg pure (Option.some.inj h)
theorem swapQ_eq {env : Env} {ts vs : List Expr} {k k' : Nat} {p p' : Pos} {r : Option (List Str)} (h : swapQ (env.blockKind != .function) env.kindOf ts vs = some r) : swappedStores [.Tuple ts k p] (.Tuple vs k' p') env = pure r :=
 sw_if h fun h => sw_if h fun h => sw_if h fun h => sw_if h fun h => sw_last h
theorem swapP_eq {fi : FnInfo} {env : Env} (e : EnvOk B fi env) {ts vs : List Expr} {k k' : Nat} {p p' : Pos} {r : Option (List Str)} (h : swapP fi.scope ts vs = some r) : swappedStores [.Tuple ts k p] (.Tuple vs k' p') env = pure r := by
 refine swapQ_eq ?_
 rw [show (env.blockKind != .function) = false by unfold Env.blockKind; rw [e.kindF]; rfl, show env.kindOf = fun id => fi.scope.names.lookup id by unfold Env.kindOf; rw [e.scope]]
 exact h
theorem if_id (a12 a3 b b1 b2 n : Nat) (hb : b = b1 * 2 ^ n + b2) : ((a12 : Int) - ((b1 * 2 ^ n : Nat) : Int) + b1) * 2 ^ n + a3 - ((2 ^ n - 1 : Nat) : Int) * b2 + ((2 ^ n - 1 : Nat) : Int) * b = ((a12 * 2 ^ n + a3 : Nat) : Int) := by
 have h1 : ((2 ^ n - 1 : Nat) : Int) = (2 : Int) ^ n - 1 := by rw [<- mask_nat, Int.one_mul]
 have h2 : (b : Int) = (b1 : Int) * 2 ^ n + b2 := by rw [hb]; push_cast; rfl
 rw [h1, h2]
 push_cast
 simp only [Int.add_mul, Int.sub_mul, Int.mul_add, Int.one_mul]
 have h3 : (2 : Int) ^ n * ((b1 : Int) * 2 ^ n) = (b1 : Int) * 2 ^ n * 2 ^ n := Int.mul_comm _ _
 lia
theorem else_id (a12 a3 b b1 b2 n : Nat) (hb : b = b1 * 2 ^ n + b2) : ((a12 % b1 : Nat) : Int) * 2 ^ n + a3 - ((a12 / b1 : Nat) : Int) * b2 + ((a12 / b1 : Nat) : Int) * b = ((a12 * 2 ^ n + a3 : Nat) : Int) := by
 have h1 : (a12 : Int) = (b1 : Int) * ((a12 / b1 : Nat) : Int) + ((a12 % b1 : Nat) : Int) := by
   have := Nat.div_add_mod a12 b1
   exact_mod_cast this.symm
 have h2 : (b : Int) = (b1 : Int) * 2 ^ n + b2 := by rw [hb]; push_cast; rfl
 have h3 : ((a12 * 2 ^ n + a3 : Nat) : Int) = (a12 : Int) * 2 ^ n + a3 := by push_cast; rfl
 rw [h3, h2]
 generalize ((a12 / b1 : Nat) : Int) = qq at *
 generalize ((a12 % b1 : Nat) : Int) = rr at *
 rw [h1]
 simp only [Int.add_mul, Int.mul_add]
 have h4 : qq * ((b1 : Int) * 2 ^ n) = (b1 : Int) * qq * 2 ^ n := by rw [<- Int.mul_assoc, Int.mul_comm qq]
 lia
noncomputable abbrev qSw2 (fi : FnInfo) (x y : Str) (σ : St) (v : PV) (Qn : SQ) : PQ := fun w H₂ => Puts fi [y, x] [w, v] σ fun σ' => Qn σ' H₂
noncomputable abbrev qSw1 (B : Base) (fi : FnInfo) (d : Nat) (E : EP) (e2 : Expr) (x y : Str) (σ : St) (Qn : SQ) : PQ := fun v H₁ => Ev B fi d E e2 σ H₁ (qSw2 fi x y σ v Qn)
theorem X_Swap2 {fi : FnInfo} {E : EP} {σ : St} (x y : Str) {ts : List Expr} {k : Nat} {tpos : Pos} {e1 e2 : Expr} {k' : Nat} {epos : Pos} {pos : Pos} {Qn : SQ} {Qf : FQ} (hw : swapP fi.scope ts [e1, e2] = some [x, y]) (h : Ev B fi d E e1 σ H (qSw1 B fi d E e2 x y σ Qn))
   (hs : ∀ env, swapsWithSole [.Tuple ts k tpos] (.Tuple [e1, e2] k' epos) pos.line env = pure false := by intro _; rfl) (hp : [e1, e2].all plainE = true := by rfl) : X B fi d E (.Assign [.Tuple ts k tpos] (.Tuple [e1, e2] k' epos) pos) σ H Qn Qf :=
 X_Assign_Swap [x, y] (fun env e => swapP_eq e hw) (h.mono fun v H₁ h₁ => Ev.mono h₁ fun w H₂ h₂ => ⟨rfl, h₂⟩) hs hp (Nat.le_of_ble_eq_true rfl)
theorem d3_call (F : DivFns B) {l : Nat} (ok : D2Ok B F l) {a12 a3 b b1 b2 n : Nat} {Q : PQ} (hb : b = b1 * 2 ^ n + b2) (h2 : b2 < 2 ^ n) (h1 : 2 ^ (n - 1) <= b1) (h1' : b1 < 2 ^ n) (hn : 1 <= n) (h3 : a3 < 2 ^ n) (ha : a12 < b) (hl : n <= 4000 * 2 ^ l) (hz : n <= 1048576)
   (q : Q (.tup [.int (((a12 * 2 ^ n + a3) / b : Nat) : Int), .int (((a12 * 2 ^ n + a3) % b : Nat) : Int)]) H) : CallV B (2 * l + 3) NoE (.raw (.ref F.f3)) [.int a12, .int a3, .int b, .int b1, .int b2, .int n] [] H Q := by
 refine F.h3.call (d := 2 * l + 2) (fun doc pm an ct => BindV_q6 fun S v w u v' w' u' => d3_bind) rfl d3_chk (d3_ini F) ?_
 have est := est_hi hb h3 ha
 have hp : 0 < 2 ^ n := Nat.two_pow_pos n
 have hbn : b < 2 ^ (n + n) := by
   rw [hb, Nat.pow_add]
   have : (b1 + 1) * 2 ^ n <= 2 ^ n * 2 ^ n := Nat.mul_le_mul_right _ h1'
   exact nlt (Nat.add_lt_add_left h2 _) (Nat.succ_mul b1 (2 ^ n) ▸ this)
 have fin : ∀ qq rr : Int, (rr * 2 ^ n + a3 - qq * b2 + qq * b = ((a12 * 2 ^ n + a3 : Nat) : Int)) -> 0 <= qq -> qq.natAbs < 2 ^ n -> 0 <= rr -> rr < 2 ^ (n + n) -> (rr * 2 ^ n + a3 - qq * b2 < b) ->
     Xs B (fiOf kDiv3 "_div3n2n") (2 * l + 2) NoE ((stBody (topSt kDiv3)).drop 1) (stD3 a12 a3 b b1 b2 n (some (.int qq)) (some (.int rr)) F.f2) H (fun O H' => Q .none H') (PX Q) := fun qq rr e hq0 hq hr0 hr hlt => by
   obtain ⟨rn, rfl⟩ := Int.eq_ofNat_of_zero_le hr0
   refine' Xs_cons' ?_
   walk_at "w"
   refine Bin_shlN (m := n + n) (by exact_mod_cast hr) (ntr (Nat.add_le_add (Nat.add_le_add hz hz) hz) (by decide)) ?_
   walk_at "w"
   rw [or_low h3]
   refine Bin_mul (mulOk hq (show (b2 : Int).natAbs < 2 ^ n from h2) hz hz) ?_
   walk_at "w"
   have e1 : ((rn * 2 ^ n + a3 : Nat) : Int) = (rn : Int) * 2 ^ n + a3 := by push_cast; rfl
   rw [e1]
   refine d3_loop (T := a12 * 2 ^ n + a3) ((Int.add_comm _ _).trans e) hlt rfl ?_
   walk_at "w"
   exact q
 refine' Xs_cons' ?_
 walk_at "w"
 refine Bin_shrN ?_
 walk_at "w"
 by_cases hc : a12 / 2 ^ n = b1
 . rw [hc]
   refine' ifp (beq_self_eq_true _) ?_
   walk_at "w"
   refine X_Swap2 (Str.ofString "q") (Str.ofString "r") (by kernel_rfl) ?_
   walk_at "w"
   refine Bin_shl (Int.natCast_nonneg n) (shl_room (x := 1) (m := 1) (by decide) (ntr (Nat.add_le_add_left hz 1) (by decide))) ?_
   rw [Int.toNat_natCast]
   walk_at "w"
   rw [mask_nat]
   refine Bin_shlN h1' (ntr (Nat.add_le_add hz hz) (by decide)) ?_
   have hle : b1 * 2 ^ n <= a12 := by rw [<- hc]; exact Nat.div_mul_le_self _ _
   have hge : b1 <= b1 * 2 ^ n := Nat.le_mul_of_pos_right _ hp
   repeat first | (refine fin _ _ ?_ ?_ ?_ ?_ ?_ ?_) | walk_at "mw"
   . exact if_id a12 a3 b b1 b2 n hb
   . lia
   . lia
   . lia
   . have : ((2 : Int) ^ (n + n)) = ((2 ^ (n + n) : Nat) : Int) := by norm_cast
     rw [this]; lia
   . have := if_id a12 a3 b b1 b2 n hb
     have h8 : ((2 ^ n - 1 : Nat) : Int) * b = ((b * 2 ^ n : Nat) : Int) - b := by
       have : ((2 ^ n - 1 : Nat) : Int) = ((2 ^ n : Nat) : Int) - 1 := by lia
       rw [this, Int.sub_mul, Int.one_mul, Int.mul_comm, <- Int.natCast_mul]
     lia
 . refine' ifn (fun q => hc (Int.ofNat.inj (eq_of_beq q))) ?_
   walk_at "w"
   refine ⟨KeepsV_FnIs F.h2, ?_⟩
   walk_at "w"
   have hlt : a12 < b1 * 2 ^ n := by
     have h5 : a12 / 2 ^ n < b1 := by
       have h6 : a12 / 2 ^ n < b1 + 1 := by
         rw [Nat.div_lt_iff_lt_mul hp, Nat.add_mul]
         lia
       lia
     rw [Nat.div_lt_iff_lt_mul hp] at h5
     exact h5
   refine ok _ _ n a12 b1 h1 h1' hn hlt hl (by lia) ?_
   have hb1 : 0 < b1 := nlt (Nat.two_pow_pos _) h1
   have hr : a12 % b1 < b1 := Nat.mod_lt _ hb1
   have hq : a12 / b1 < 2 ^ n := by rw [Nat.div_lt_iff_lt_mul hb1, Nat.mul_comm]; exact hlt
   repeat first | (refine fin _ _ ?_ ?_ ?_ ?_ ?_ ?_) | walk_at "mw"
   . exact else_id a12 a3 b b1 b2 n hb
   . exact Int.natCast_nonneg _
   . rw [Int.natAbs_natCast]; exact hq
   . exact Int.natCast_nonneg _
   . have : ((2 : Int) ^ (n + n)) = ((2 ^ (n + n) : Nat) : Int) := by norm_cast
     have h9 : 2 ^ n <= 2 ^ (n + n) := Nat.pow_le_pow_right (by decide) (by lia)
     rw [this]; lia
   . have h8 : (a12 % b1 + 1) * 2 ^ n <= b1 * 2 ^ n := Nat.mul_le_mul_right _ hr
     rw [Nat.add_mul] at h8
     have h9 : ((a12 % b1 : Nat) : Int) * 2 ^ n = ((a12 % b1 * 2 ^ n : Nat) : Int) := by norm_cast
     have h10 : ((a12 / b1 : Nat) : Int) * (b2 : Int) = ((a12 / b1 * b2 : Nat) : Int) := by norm_cast
     rw [h9, h10]
     lia
end
section
variable {B : Base} {d : Nat} {H : AH}
noncomputable abbrev stD2 (a b n : Nat) (pad half mask b1 b2 q1 r q2 : Option PV) (f3 : Addr) : St := [(Str.ofString "a", .local, some (.int a)), (Str.ofString "b", .local, some (.int b)), (Str.ofString "n", .local, some (.int n)), (Str.ofString "pad", .local, pad), (Str.ofString "half_n", .local, half), (Str.ofString "mask", .local, mask),
 (Str.ofString "b1", .local, b1), (Str.ofString "b2", .local, b2), (Str.ofString "q1", .local, q1), (Str.ofString "r", .local, r), (Str.ofString "q2", .local, q2), (Str.ofString "_DIV_LIMIT", .globalImplicit, some (.int 4000)), (Str.ofString "divmod", .globalImplicit, some (.raw (.builtin "divmod"))), (Str.ofString "_div3n2n", .globalImplicit, some (.raw (.ref f3)))]
theorem d2_ini (F : DivFns B) {a b n : Nat} : Ini B [(Str.ofString "a", .int a), (Str.ofString "b", .int b), (Str.ofString "n", .int n)] (stScope (topSt kDiv2)).names (stD2 a b n none none none none none none none none F.f3) := by
 refine .arg (by walk_at "mm") (.inl rfl) (.arg (by walk_at "mm") (.inl rfl) (.arg (by walk_at "mm") (.inl rfl) (.unset (.unset (.unset (.unset (.unset (.unset (.unset (.unset (.glob F.gl (.glob F.gd (.glob F.g3 .nil)))))))))))))
theorem split_hi (a h : Nat) : a / 2 ^ (h + h) * 2 ^ h + a / 2 ^ h % 2 ^ h = a / 2 ^ h := by
 rw [Nat.pow_add, <- Nat.div_div_eq_div_mul, Nat.mul_comm, Nat.div_add_mod]
theorem two_step (a b h : Nat) (hb : 0 < b) : a / b = (a / 2 ^ h) / b * 2 ^ h + ((a / 2 ^ h) % b * 2 ^ h + a % 2 ^ h) / b /\ a % b = ((a / 2 ^ h) % b * 2 ^ h + a % 2 ^ h) % b := by
 have e1 : a = (a / 2 ^ h) * 2 ^ h + a % 2 ^ h := by rw [Nat.mul_comm, Nat.div_add_mod]
 have e2 : a / 2 ^ h = (a / 2 ^ h) / b * b + (a / 2 ^ h) % b := by rw [Nat.mul_comm, Nat.div_add_mod]
 have e3 : a = (a / 2 ^ h) / b * 2 ^ h * b + ((a / 2 ^ h) % b * 2 ^ h + a % 2 ^ h) := by
   have : (a / 2 ^ h) * 2 ^ h = (a / 2 ^ h) / b * 2 ^ h * b + (a / 2 ^ h) % b * 2 ^ h := by
     rw [Nat.mul_right_comm, <- Nat.add_mul, <- e2]
   lia
 generalize (a / 2 ^ h) / b * 2 ^ h = q at *
 generalize (a / 2 ^ h) % b * 2 ^ h + a % 2 ^ h = t at *
 rw [e3, Nat.add_comm, Nat.add_mul_div_right _ _ hb, Nat.add_mul_mod_self_right]
 exact ⟨Nat.add_comm _ _, rfl⟩
theorem d2_core (F : DivFns B) {l : Nat} (ok : D2Ok B F l) {a b h p : Nat} {Q : PQ} (hh : 1 <= h) (h1 : 2 ^ (h + h - 1) <= b) (h2 : b < 2 ^ (h + h)) (ha : a < b * 2 ^ (h + h)) (hl : h <= 4000 * 2 ^ l) (hz : h <= 1048576)
   (q : Q (.tup [.int ((a / b : Nat) : Int), .int ((if p = 0 then a % b else a % b / 2 : Nat) : Int)]) H) :
   Xs B (fiOf kDiv2 "_div2n1n") (2 * l + 3) NoE ((stBody (topSt kDiv2)).drop 3) (stD2 a b (h + h) (some (.int p)) none none none none none none none F.f3) H (fun O H' => Q .none H') (PX Q) := by
 have hp : 0 < 2 ^ h := Nat.two_pow_pos h
 have hb0 : 0 < b := nlt (Nat.two_pow_pos _) h1
 have e0 : (h + h) / 2 ^ 1 = h := by rw [Nat.pow_one, <- Nat.two_mul, Nat.mul_div_cancel_left _ (by decide)]
 have hpp : 2 ^ (h + h) = 2 ^ h * 2 ^ h := Nat.pow_add ..
 have hb1 : 2 ^ (h - 1) <= b / 2 ^ h := by
   rw [Nat.le_div_iff_mul_le hp, <- Nat.pow_add]
   exact ntr (Nat.pow_le_pow_right (by decide) (Nat.le_of_eq (Nat.sub_add_comm hh).symm)) h1
 have hb1' : b / 2 ^ h < 2 ^ h := by rw [Nat.div_lt_iff_lt_mul hp, <- hpp]; exact h2
 have hT : a / 2 ^ h < b * 2 ^ h := by
   rw [Nat.div_lt_iff_lt_mul hp, Nat.mul_assoc, <- hpp]; exact ha
 have hT2 : a / 2 ^ (h + h) < b := by rw [Nat.div_lt_iff_lt_mul (Nat.two_pow_pos _)]; exact ha
 have hbe : b = b / 2 ^ h * 2 ^ h + b % 2 ^ h := by rw [Nat.mul_comm, Nat.div_add_mod]
 have hq1 : (a / 2 ^ h) / b < 2 ^ h := by rw [Nat.div_lt_iff_lt_mul hb0, Nat.mul_comm]; exact hT
 have hr1 : (a / 2 ^ h) % b < b := Nat.mod_lt _ hb0
 have hq2 : ((a / 2 ^ h) % b * 2 ^ h + a % 2 ^ h) / b < 2 ^ h := by
   rw [Nat.div_lt_iff_lt_mul hb0, Nat.mul_comm (2 ^ h) b]; exact est_hi hbe (Nat.mod_lt _ hp) hr1
 obtain ⟨t1, t2⟩ := two_step a b h hb0
 refine' Xs_cons' ?_
 walk_at "w"
 refine Bin_shrN (x := h + h) (s := 1) ?_
 rw [e0]
 walk_at "w"
 refine Bin_shl (Int.natCast_nonneg h) (shl_room (x := 1) (m := 1) (by decide) (ntr (Nat.add_le_add_left hz 1) (by decide))) ?_
 rw [Int.toNat_natCast]
 walk_at "w"
 rw [mask_nat]
 walk_at "w"
 refine X_Swap2 (Str.ofString "b1") (Str.ofString "b2") (by kernel_rfl) ?_
 walk_at "w"
 refine Bin_shrN ?_
 walk_at "w"
 rw [and_mask]
 walk_at "w"
 refine ⟨KeepsV_FnIs F.h3, ?_⟩
 walk_at "w"
 refine Bin_shrN ?_
 walk_at "w"
 refine Bin_shrN ?_
 walk_at "w"
 rw [and_mask]
 walk_at "w"
 refine d3_call F ok hbe (Nat.mod_lt _ hp) hb1 hb1' hh (Nat.mod_lt _ hp) hT2 hl hz ?_
 rw [split_hi]
 walk_at "w"
 refine ⟨KeepsV_FnIs F.h3, ?_⟩
 walk_at "w"
 rw [and_mask]
 walk_at "w"
 refine d3_call F ok hbe (Nat.mod_lt _ hp) hb1 hb1' hh (Nat.mod_lt _ hp) hr1 hl hz ?_
 rw [<- t2]
 walk_at "w"
 have ret : ∀ rr : Nat, rr = (if p = 0 then a % b else a % b / 2) -> V2 B (2 * l + 3) NoE (binaryOp .LShift) (.int ((a / 2 ^ h / b : Nat) : Int)) (.int (h : Nat)) H fun x H₁ => V2 B (2 * l + 3) NoE (binaryOp .BitOr) x (.int (((a / 2 ^ h % b * 2 ^ h + a % 2 ^ h) / b : Nat) : Int)) H₁ fun y H₂ => Q (.tup [y, .int (rr : Nat)]) H₂ := fun rr e => by
   subst e
   refine Bin_shlN hq1 (ntr (Nat.add_le_add hz hz) (by decide)) ?_
   walk_at "w"
   rw [or_low hq2, <- t1]
   exact q
 by_cases hp0 : p = 0
 . subst hp0
   refine' ifn Bool.false_ne_true ?_
   walk_at "w"
   refine V2.mono (ret (a % b) (if_pos rfl).symm) fun v H' h => ?_
   walk_at "w"
   refine V2.mono h fun v H' h => ?_
   walk_at "w"
   exact h
 . refine' ifp (bne_iff_ne.mpr fun e => hp0 (Int.ofNat.inj e)) ?_
   walk_at "w"
   refine In_shr (by decide) ?_
   rw [show ((1 : Int).toNat) = 1 from rfl, shr_nat]
   walk_at "w"
   refine V2.mono (ret (a % b / 2 ^ 1) (by rw [if_neg hp0, Nat.pow_one])) fun v H' h => ?_
   walk_at "w"
   refine V2.mono h fun v H' h => ?_
   walk_at "w"
   exact h
theorem short_iff {a n : Nat} : (Builtin.Int.intBits (a : Int) : Int) - (n : Nat) <= 4000 ↔ bits a <= n + 4000 := by
 show (bits a : Int) - n <= 4000 ↔ _
 omega
theorem even_half {n : Nat} (h : n % 2 = 0) : ∃ h, n = h + h := ⟨n / 2, by omega⟩
theorem d2_ok (F : DivFns B) : ∀ l, D2Ok B F l := by
 have small : ∀ (d' : Nat) (H : AH) (Q : PQ) (n a b : Nat), 2 ^ (n - 1) <= b -> 1 <= n -> bits a <= n + 4000 -> Q (.tup [.int ((a / b : Nat) : Int), .int ((a % b : Nat) : Int)]) H -> CallV B (d' + 1) NoE (.raw (.ref F.f2)) [.int a, .int b, .int n] [] H Q := fun d' H Q n a b h1 hn hc q => by
   refine F.h2.call (d := d') (fun doc pm an ct => BindV_q3 fun S v w u => d2_bind) rfl d2_chk (d2_ini F) ?_
   refine' Xs_cons' ?_
   walk_at "w"
   refine ⟨_, Meth_bitLen, ?_⟩
   walk_at "w"
   refine Call_bitLen ?_
   walk_at "w"
   refine' ifpd (short_iff.mpr hc) ?_
   walk_at "w"
   refine ⟨KeepsV_builtin, ?_⟩
   walk_at "w"
   refine Call_divmod (Int.natCast_ne_zero.mpr (Nat.ne_of_gt (nlt (Nat.two_pow_pos _) h1))) (noPyQ h1 (bits_le.mp hc) hn) ?_
   rw [fdiv_nat, fmod_nat]
   exact q
 intro l
 have hbts : ∀ {n a b : Nat}, b < 2 ^ n -> a < b * 2 ^ n -> bits a <= n + n := fun {n a b} h2 ha => bits_le.mpr (nlt ha (by rw [Nat.pow_add]; exact Nat.mul_le_mul_right _ (Nat.le_of_lt h2)))
 induction l with
 | zero =>
   intro H Q n a b h1 h2 hn ha hl hz q
   exact small 1 H Q n a b h1 hn (ntr (hbts h2 ha) (Nat.add_le_add_left hl n)) q
 | succ l ih =>
   intro H Q n a b h1 h2 hn ha hl hz q
   by_cases hc : bits a <= n + 4000
   . exact small (2 * l + 3) H Q n a b h1 hn hc q
   have hl2 : n <= 4000 * 2 ^ l + 4000 * 2 ^ l := by rw [Nat.pow_succ, <- Nat.mul_assoc, Nat.mul_two] at hl; exact hl
   refine F.h2.call (d := 2 * l + 3) (fun doc pm an ct => BindV_q3 fun S v w u => d2_bind) rfl d2_chk (d2_ini F) ?_
   refine' Xs_cons' ?_
   walk_at "w"
   refine ⟨_, Meth_bitLen, ?_⟩
   walk_at "w"
   refine Call_bitLen ?_
   walk_at "w"
   refine' ifnd (fun h => hc (short_iff.mp h)) ?_
   walk_at "w"
   rw [and_one]
   walk_at "w"
   by_cases hp0 : n % 2 = 0
   . rw [hp0]
     refine' ifn Bool.false_ne_true ?_
     obtain ⟨h, rfl⟩ := even_half hp0
     have := d2_core F ih (p := 0) (H := H) (Q := Q) (by omega) h1 h2 ha (by omega) (by omega) (by rw [if_pos rfl]; exact q)
     refine' Xs_nil ?_
     exact this
   . refine' ifp (bne_iff_ne.mpr fun e => hp0 (Int.ofNat.inj e)) ?_
     obtain ⟨h, hnh⟩ := even_half (n := n + 1) (by omega)
     have main := d2_core F ih (a := a * 2 ^ 1) (b := b * 2 ^ 1) (h := h) (p := n % 2) (H := H) (Q := Q) (by omega)
       (by rw [<- hnh, Nat.add_sub_cancel, <- Nat.sub_add_cancel hn, Nat.pow_succ]; exact Nat.mul_le_mul_right _ h1)
       (by rw [<- hnh, Nat.pow_succ]; exact Nat.mul_lt_mul_of_pos_right h2 (by decide))
       (by
         rw [<- hnh, Nat.pow_one, Nat.pow_succ, Nat.mul_mul_mul_comm]
         exact nlt (Nat.mul_lt_mul_of_pos_right ha (by decide)) (Nat.mul_le_mul_left _ (by decide))) (by omega) (by omega)
       (by rw [if_neg hp0, Nat.mul_div_mul_right _ _ (by decide), Nat.mul_mod_mul_right, Nat.pow_one, Nat.mul_div_cancel _ (by decide)]; exact q)
     walk_at "w"
     have hn1 : n + 1 <= 134217728 := ntr (Nat.add_le_add_right hz 1) (by decide)
     refine In_shlN (s := 1) (bits_le.mp (hbts h2 ha)) (ntr (Nat.add_le_add_right (Nat.add_le_add hz hz) 1) (by decide)) ?_
     walk_at "w"
     refine In_shlN (s := 1) h2 hn1 ?_
     unfold stD2 at main
     rw [<- hnh] at main
     repeat first | exact main | walk_at "mw"
end
noncomputable def Stop (p : Prop) : Prop := p
theorem Xs_FD {B : Base} {fi : FnInfo} {d : Nat} {E : EP} {n m : Str} {a : Arguments} {b rest : List Stmt} {ds : List Expr} {r : Option Expr} {tps : List TypeParam} {sc : Scope} {o : Option Scope} {p : Pos} {σ : St} {H : AH} {Qn : SQ} {Qf : FQ}
   (h : Stop (Xs B fi d E (.FunctionDef n a b ds r tps sc o m p :: rest) σ H Qn Qf)) : Xs B fi d E (.FunctionDef n a b ds r tps sc o m p :: rest) σ H Qn Qf := h
noncomputable def inSt (k i : Nat) : Stmt := ((stBody (topSt k))[i]?).getD (.Pass default)
noncomputable def stPos : Stmt -> Pos
 | .FunctionDef _ _ _ _ _ _ _ _ _ p => p
 | _ => default
noncomputable def freeOk (ns ks : List (Str × NameKind)) : Bool := ns.all fun e => e.2 != .free || ks.any fun f => f.1 == e.1 && f.2 == .cell
theorem freeOk_ok {ns : List (Str × NameKind)} {σ : St} (h : freeOk ns (σ.map fun e => (e.1, e.2.1)) = true) : ∀ n, (n, NameKind.free) ∈ ns -> ∃ ov, (n, NameKind.cell, ov) ∈ σ := fun n hn => by
 have := List.all_eq_true.mp h _ hn
 simp only [Bool.or_eq_true, List.any_eq_true, Bool.and_eq_true, beq_iff_eq] at this
 rcases this with q | ⟨f, hf, h1, h2⟩
 . cases q
 . obtain ⟨⟨y, k, ov⟩, he, rfl⟩ := mmp hf
   simp only at h1 h2
   subst h1 h2
   exact ⟨ov, he⟩
noncomputable def nestOk (nm : List Str) (s : Scope) : Bool :=
 decide nm.Nodup && nm.all (fun x => s.names.any fun e => decide (e.1 = x) && (e.2 == .local)) && decide ((s.names.map fun e => e.1).Nodup) && s.names.all (fun e => e.2 != .cell) && (s.kind == .function) && !s.isCoroutine && !s.isGenerator
section
variable {B : Base} {d : Nat} {H : AH}
theorem NestFn.call' {f : Addr} {name qual : Str} {params : Arguments} {body : List Stmt} {scope : Scope} {σ σ₀ : St} {args : List PV} {kw bs : List (Str × PV)} {Q : PQ} {nm : List Str} (h : NestFn B f name qual params body scope σ)
   (hb : ∀ clos doc pm cv ctv, BindV B (fnX name qual params body scope clos .none .none doc pm none cv ctv) args kw H bs) (hnm : bs.map (fun e => e.1) = nm) (hc : nestOk nm scope = true) (hi : IniN B bs σ scope.names σ₀)
   (hx : Xs B ⟨scope, none, qual ++ ".<locals>.", false⟩ d NoE body σ₀ H (fun O H' => Q .none H') (PX Q)) : CallV B (d + 1) NoE (.raw (.ref f)) args kw H Q := by
 simp only [nestOk, Bool.and_eq_true, decide_eq_true_eq, Bool.not_eq_true', beq_iff_eq] at hc
 obtain ⟨⟨⟨⟨⟨⟨h1, h2⟩, h3⟩, h4⟩, h5⟩, h6⟩, h7⟩ := hc
 refine h.call hb (by rw [hnm]; exact h1) (fun e he => ?_) h3 (fun e he => ?_) h5 h6 h7 hi hx
 . have hm : e.1 ∈ nm := by rw [<- hnm]; exact mmr ⟨e, he, rfl⟩
   have := List.all_eq_true.mp h2 _ hm
   simp only [List.any_eq_true, Bool.and_eq_true, decide_eq_true_eq, beq_iff_eq] at this
   obtain ⟨⟨x, k⟩, hx, rfl, rfl⟩ := this
   exact hx
 . have := List.all_eq_true.mp h4 _ he
   simpa using this
theorem FnIs.callC {f c P : Addr} {name : Str} {k : Nat} {dV kV : Value} (h : FnIs B f name k dV kV (.ref c)) {args : List PV} {kw bs : List (Str × PV)} {nm : List Str} {σ₀ : St} {Q : PQ}
   (hb : ∀ doc pm an ct, BindV B (fdOf name k dV kV doc pm an (.ref c) ct) args kw H bs) (hnm : bs.map (fun e => e.1) = nm) (hc : chkF nm (stScope (topSt k)) = true)
   (hi : Ini B bs (stScope (topSt k)).names σ₀) (hx : Xs B ⟨stScope (topSt k), some (c, P), name ++ ".<locals>.", false⟩ d NoE (stBody (topSt k)) σ₀ H (fun O H' => Q .none H') (PX Q)) : CallV B (d + 1) NoE (.raw (.ref f)) args kw H Q := by
 obtain ⟨oc, od, osl, doc, pm, an, ct, ho⟩ := h.at_
 exact CallV_fd (fd := fdOf name k dV kV doc pm an (.ref c) ct) (cp := some (c, P)) (fun s I => I.keep _ _ ho) rfl rfl (fun s I => h.code.keeps I.keep) (chkF_kind hc) (chkF_co hc) (chkF_gen hc) rfl rfl (fun O O h => by cases h; rfl) (hb doc pm an ct)
   (by rw [hnm]; exact chkF_nodup hc) (fun e he => chkF_mem hc _ (by rw [<- hnm]; exact mmr ⟨e, he, rfl⟩)) (chkF_names hc) (chkF_free hc) hi hx
end
noncomputable def dig (n x i : Nat) : Nat := x / 2 ^ (n * i) % 2 ^ n
noncomputable def Digs (n x L R : Nat) (xs ys : List PV) : Prop := ys.length = xs.length /\ ∀ j, ys[j]? = if L <= j /\ j < R then some (.int (dig n x (j - L) : Nat)) else xs[j]?
theorem dig_low {n x m i : Nat} (h : i < m) : dig n (x % 2 ^ (n * m)) i = dig n x i := by
 unfold dig
 obtain ⟨k, rfl⟩ := Nat.exists_eq_add_of_lt h
 have e : n * (i + k + 1) = n * i + (n + n * k) := by rw [Nat.mul_succ, Nat.mul_add, Nat.add_assoc, Nat.add_comm (n * k)]
 rw [e, Nat.pow_add, Nat.mod_mul_right_div_self, Nat.pow_add, Nat.mod_mul_right_mod]
theorem dig_high {n x m i : Nat} : dig n (x / 2 ^ (n * m)) i = dig n x (m + i) := by
 unfold dig
 rw [Nat.div_div_eq_div_mul, <- Nat.pow_add, Nat.mul_add]
theorem Digs.both {n x L M R : Nat} {xs ys zs : List PV} (h1 : L <= M) (h2 : M <= R) (hz : R <= xs.length) (a : Digs n (x % 2 ^ (n * (M - L))) L M xs ys) (b : Digs n (x / 2 ^ (n * (M - L))) M R ys zs) : Digs n x L R xs zs := by
 refine ⟨b.1.trans a.1, fun j => ?_⟩
 rw [b.2 j, a.2 j]
 by_cases hj : M <= j /\ j < R
 . rw [if_pos hj, if_pos ⟨ntr h1 hj.1, hj.2⟩, dig_high, Nat.add_comm, Nat.sub_add_sub_cancel hj.1 h1]
 . rw [if_neg hj]
   by_cases hk : L <= j /\ j < M
   . rw [if_pos hk, if_pos ⟨hk.1, nlt hk.2 h2⟩, dig_low (Nat.sub_lt_sub_right hk.1 hk.2)]
   . rw [if_neg hk, if_neg (by lia)]
theorem Digs.one {n x L : Nat} {xs : List PV} (hx : x < 2 ^ n) (hl : L < xs.length) : Digs n x L (L + 1) xs (xs.set L (.int (x : Nat))) := by
 refine ⟨by simp, fun j => ?_⟩
 rw [List.getElem?_set]
 by_cases hj : L = j
 . subst hj
   rw [if_pos rfl, if_pos hl, if_pos ⟨Nat.le_refl _, Nat.lt_succ_self _⟩]
   simp [dig, Nat.mod_eq_of_lt hx]
 . rw [if_neg hj, if_neg (by lia)]
theorem Digs.eq {n x m : Nat} {xs ys : List PV} (h : Digs n x 0 m xs ys) (hm : xs.length = m) : ys = (List.range m).map fun i => PV.int (dig n x i : Nat) := by
 apply List.ext_getElem?
 intro j
 rw [h.2 j]
 by_cases hj : j < m
 . rw [if_pos ⟨Nat.zero_le _, hj⟩]; simp [hj]
 . rw [if_neg (by lia)]
   rw [List.getElem?_eq_none (by lia), List.getElem?_eq_none (by simp; lia)]
section
variable {B : Base} {d : Nat} {H : AH}
noncomputable abbrev nI : Stmt := inSt kDigits 1
noncomputable abbrev stI (a n A f : PV) : St := [(Str.ofString "a", .local, some a), (Str.ofString "n", .cell, some n), (Str.ofString "a_digits", .cell, some A), (Str.ofString "inner", .cell, some f), (Str.ofString "len", .globalImplicit, some (.raw (.builtin "len")))]
noncomputable abbrev stJ (x L R mid shift upper lower : Option PV) (A f n : PV) : St := [(Str.ofString "x", .local, x), (Str.ofString "L", .local, L), (Str.ofString "R", .local, R), (Str.ofString "mid", .local, mid), (Str.ofString "shift", .local, shift), (Str.ofString "upper", .local, upper), (Str.ofString "lower", .local, lower),
 (Str.ofString "a_digits", .free, some A), (Str.ofString "inner", .free, some f), (Str.ofString "n", .free, some n)]
theorem in_bind {S : Setting} {clos : List (Str × Addr)} {doc pm cv ctv v w u : Value} : feed S [] (bindArgs (fnX "inner" "_int2digits.<locals>.inner" (stArgs nI) (stBody nI) (stScope nI) clos .none .none doc pm none cv ctv) ⟨[v, w, u], []⟩) = some ([], [(Str.ofString "x", v), (Str.ofString "L", w), (Str.ofString "R", u)]) := by kernel_rfl
theorem in_chk : nestOk [Str.ofString "x", Str.ofString "L", Str.ofString "R"] (stScope nI) = true := by decide +kernel
theorem in_ini {x L R a A n : PV} {f : Addr} (hA : hardPV A = true) (hn : hardPV n = true) : IniN B [(Str.ofString "x", x), (Str.ofString "L", L), (Str.ofString "R", R)] (stI a n A (.raw (.ref f))) (stScope nI).names (stJ (some x) (some L) (some R) none none none none A (.raw (.ref f)) n) := by
 refine .arg (by walk_at "mm") (.arg (by walk_at "mm") (.arg (by walk_at "mm") (.unset (.unset (.unset (.unset (.free (by simp) hA (.free (by simp) rfl (.free (by simp) hn .nil)))))))))
theorem KeepsV_Nest {f : Addr} {name qual : Str} {params : Arguments} {body : List Stmt} {scope : Scope} {σ : St} (h : NestFn B f name qual params body scope σ) : KeepsV B (.raw (.ref f)) := by
 obtain ⟨clos, doc, pm, cv, ctv, ho, O⟩ := h.at_
 exact KeepsV_fn ho rfl
theorem in_call {f A : Addr} {a : PV} {n : Nat} (hn : 1 <= n) (hn2 : n <= 2097152) (NF : NestFn B f "inner" "_int2digits.<locals>.inner" (stArgs nI) (stBody nI) (stScope nI) (stI a (.int n) (.lref A) (.raw (.ref f)))) :
   ∀ (k x L R : Nat) (xs : List PV) (Q : PQ), L < R -> R - L <= 2 ^ k -> R <= xs.length -> x < 2 ^ (n * (R - L)) -> n * (R - L) <= 2 ^ 26 -> xs.length <= 2 ^ 24 -> (∀ ys, Digs n x L R xs ys -> Q .none ((A, ys) :: H)) ->
     CallV B (k + 1) NoE (.raw (.ref f)) [.int x, .int L, .int R] [] ((A, xs) :: H) Q := by
 have one : ∀ (d' x L : Nat) (xs : List PV) (Q : PQ), L + 1 <= xs.length -> x < 2 ^ (n * (L + 1 - L)) -> xs.length <= 2 ^ 24 -> (∀ ys, Digs n x L (L + 1) xs ys -> Q .none ((A, ys) :: H)) ->
     CallV B (d' + 1) NoE (.raw (.ref f)) [.int x, .int L, .int (L + 1 : Nat)] [] ((A, xs) :: H) Q := fun d' x L xs Q h3 h4 h6 q => by
   refine NF.call' (d := d') (fun clos doc pm cv ctv => BindV_q3 fun S v w u => in_bind) rfl in_chk (in_ini rfl rfl) ?_
   refine' Xs_cons' ?_
   walk_at "w"
   refine' ifp (beq_self_eq_true _) ?_
   walk_at "w"
   refine X_Assign_Sub ?_
   walk_at "w"
   refine Set_list .head (Int.natCast_nonneg _) (lt63 h3 (Nat.lt_of_le_of_lt h6 (by decide))) (Int.ofNat_lt.mpr h3) ?_
   walk_at "w"
   rw [Nat.add_sub_cancel_left, Nat.mul_one] at h4
   exact q _ (Digs.one h4 h3)
 intro k
 induction k with
 | zero =>
   intro x L R xs Q h1 h2 h3 h4 h5 h6 q
   obtain rfl : R = L + 1 := Nat.le_antisymm (Nat.sub_le_iff_le_add'.mp h2) h1
   exact one 0 x L xs Q h3 h4 h6 q
 | succ k ih =>
   intro x L R xs Q h1 h2 h3 h4 h5 h6 q
   by_cases hc : R = L + 1
   . subst hc
     exact one (k + 1) x L xs Q h3 h4 h6 q
   . refine NF.call' (d := k + 1) (fun clos doc pm cv ctv => BindV_q3 fun S v w u => in_bind) rfl in_chk (in_ini rfl rfl) ?_
     refine' Xs_cons' ?_
     walk_at "w"
     refine' ifn (fun e => hc (Int.ofNat.inj (eq_of_beq e)).symm) ?_
     walk_at "w"
     have hM1 := half_lo h1 hc
     have hM2 := half_hi h1
     have hM3 := half_le h2 h1
     have hM4 := half_ge h2 h1
     refine Bin_shr (by decide) ?_
     refine cast_v (congrArg PV.int (mid_int L R)) ?_
     generalize (L + R) / 2 = M at *
     have hLM := Nat.le_of_lt hM1
     have hMR := Nat.le_of_lt hM2
     have hMx : M < 2 ^ 62 := nlt hM2 (ntr h3 (ntr h6 (by decide)))
     walk_at "w"
     refine V2_castL (congrArg PV.int (Int.ofNat_sub hLM).symm) ?_
     refine Bin_mulN (Nat.lt_of_le_of_lt (Nat.sub_le _ _) hMx) ?_
     refine cast_v (w := .int ((n * (M - L) : Nat) : Int)) (congrArg (fun z : Nat => PV.int z) (Nat.mul_comm _ _)) ?_
     have hs3 : n * (R - L) = n * (M - L) + n * (R - M) := by rw [<- Nat.mul_add, <- sum_mid hLM hMR]
     have hs1 : n * (M - L) <= n * (R - L) := hs3 ▸ Nat.le_add_right _ _
     have hs2 : n * (R - M) <= n * (R - L) := hs3 ▸ Nat.le_add_left _ _
     have hu : x / 2 ^ (n * (M - L)) < 2 ^ (n * (R - M)) := by
       rw [Nat.div_lt_iff_lt_mul (Nat.two_pow_pos _), <- Nat.pow_add, Nat.add_comm, <- hs3]; exact h4
     walk_at "w"
     refine Bin_shrN ?_
     walk_at "w"
     refine Bin_shlN hu (ntr (Nat.le_of_eq ((Nat.add_comm _ _).trans hs3.symm)) (ntr h5 (by decide))) ?_
     walk_at "w"
     rw [xor_high]
     walk_at "w"
     refine ⟨KeepsV_Nest NF, ?_⟩
     walk_at "w"
     refine ih _ L M xs _ hM1 hM3 (ntr hMR h3) (Nat.mod_lt _ (Nat.two_pow_pos _)) (ntr hs1 h5) h6 fun ys hy => ?_
     walk_at "w"
     refine ⟨KeepsV_Nest NF, ?_⟩
     walk_at "w"
     refine ih _ M R ys _ hM2 hM4 (hy.1 ▸ h3) hu (ntr hs2 h5) (hy.1 ▸ h6) fun zs hz => ?_
     walk_at "w"
     exact q _ (Digs.both hLM hMR h3 hy hz)
end
section
variable {B : Base} {d : Nat} {H : AH}
theorem i2d_bind {S : Setting} {doc pm cdv ct : Value} {an : Option Addr} {v w : Value} : feed S [] (bindArgs (fdOf "_int2digits" kDigits .none .none doc pm an cdv ct) ⟨[v, w], []⟩) = some ([], [(Str.ofString "a", v), (Str.ofString "n", w)]) := by kernel_rfl
theorem i2d_chk : chkF [Str.ofString "a", Str.ofString "n"] (stScope (topSt kDigits)) = true := by decide +kernel
theorem i2d_ini {a n : PV} (gl : GlobIs B "len" (.raw (.builtin "len"))) : Ini B [(Str.ofString "a", a), (Str.ofString "n", n)] (stScope (topSt kDigits)).names [(Str.ofString "a", .local, some a), (Str.ofString "n", .cell, some n), (Str.ofString "a_digits", .cell, none), (Str.ofString "inner", .cell, none), (Str.ofString "len", .globalImplicit, some (.raw (.builtin "len")))] := by
 refine .arg (by walk_at "mm") (.inl rfl) (.arg (by walk_at "mm") (.inr rfl) (.unset (.unset (.glob gl .nil))))
noncomputable def nDig (a n : Nat) : Nat := (bits a + n - 1) / n
theorem nDig_fit {a n : Nat} (hn : 1 <= n) : a < 2 ^ (n * nDig a n) := by
 refine nlt (lt_bits a) (Nat.pow_le_pow_right (by decide) ?_)
 refine Nat.le_of_add_le_add_right (b := n - 1) ?_
 rw [<- Nat.add_sub_assoc hn, <- Nat.div_add_mod (bits a + n - 1) n]
 exact Nat.add_le_add_left (Nat.le_sub_one_of_lt (Nat.mod_lt _ hn)) _
theorem nDig_le {a n : Nat} : n * nDig a n <= bits a + n - 1 := Nat.mul_div_le _ _
theorem nDig_pos {a n : Nat} (hn : 1 <= n) (ha : a ≠ 0) : 0 < nDig a n := by
 exact Nat.div_pos (by rw [Nat.add_comm, Nat.add_sub_assoc (bits_ge ha).1]; exact Nat.le_add_right _ _) hn
theorem flat_rep (k : Nat) (x : PV) : (List.replicate k [x]).flatten = List.replicate k x := by
 induction k with
 | zero => rfl
 | succ k ih => rw [List.replicate_succ, List.flatten_cons, ih]; rfl
theorem i2d_call {f c P : Addr} {a n : Nat} {Q : PQ} (h : FnIs B f "_int2digits" kDigits .none .none (.ref c)) (N : NestOk B c P (stPos nI) "_int2digits.<locals>.inner") (gl : GlobIs B "len" (.raw (.builtin "len")))
   (hn : 1 <= n) (hn2 : n <= 2097152) (ha : bits a <= 4194304) (q : ∀ A, Q (.lref A) ((A, (List.range (nDig a n)).map fun i => PV.int (dig n a i : Nat)) :: H)) : CallV B (d + 26) NoE (.raw (.ref f)) [.int a, .int n] [] H Q := by
 refine h.callC (d := d + 25) (P := P) (fun doc pm an ct => BindV_q2 fun S v w => i2d_bind) rfl i2d_chk (i2d_ini gl) ?_
 have hl : nDig a n <= 4194304 + 2097152 := by
   exact ntr (Nat.div_le_self _ _) (ntr (Nat.sub_le _ _) (Nat.add_le_add ha hn2))
 have hl24 : nDig a n <= 2 ^ 23 := ntr hl (by decide)
 refine' Xs_cons' ?_
 walk_at "w"
 refine Ev_ListF ?_
 walk_at "w"
 refine ⟨_, Meth_bitLen, ?_⟩
 walk_at "w"
 refine Call_bitLen ?_
 walk_at "w"
 refine Bin_fdiv (Int.natCast_ne_zero.mpr (Nat.ne_of_gt hn)) (noPyS (Nat.lt_of_le_of_lt hn2 (by decide))) ?_
 have e1 : ((Builtin.Int.intBits (a : Int) : Int) + (n : Int) - 1).fdiv (n : Int) = ((nDig a n : Nat) : Int) := by
   have : ((Builtin.Int.intBits (a : Int) : Int) + (n : Int) - 1) = ((bits a + n - 1 : Nat) : Int) := by
     exact (Int.ofNat_sub (ntr hn (Nat.le_add_left _ _))).symm
   rw [this, fdiv_nat]; rfl
 refine cast_v (congrArg PV.int e1) ?_
 refine Bin_mulL .list (Int.le_trans (by decide) (Int.natCast_nonneg _)) (lt63 (Nat.lt_succ_of_le hl24) (by decide)) (by rw [List.length_singleton, Nat.one_mul]; exact ntr hl24 (by decide)) ?_
 rw [flat_rep, Int.toNat_natCast]
 refine .inr fun A => ?_
 walk_at "w"
 unfold Stop
 refine Xs_Def (c := c) (P := P) (qual := Str.ofString "_int2digits.<locals>.inner") (k := .cell) (σ' := fun f => stI (.int a) (.int n) (.lref A) (.raw (.ref f))) ?hN ?hfi ?hq ?hd ?hkd ?han ?hfr ?hrep ?hst ?_
 case hN => exact N
 case hfi => rfl
 case hq => kernel_rfl
 case hd => rfl
 case hkd => rfl
 case han => exact fun env => rfl
 case hfr => exact freeOk_ok (by kernel_rfl)
 case hrep => exact fun f => .tail (.tail (.tail .head))
 case hst => exact .inr ⟨rfl, rfl⟩
 intro g hk ht fi NF
 have nf : NestFn (B.up g hk ht) fi "inner" "_int2digits.<locals>.inner" (stArgs nI) (stBody nI) (stScope nI) (stI (.int a) (.int n) (.lref A) (.raw (.ref fi))) := NF
 walk_at "w"
 by_cases ha0 : a = 0
 . subst ha0
   refine' ifn Bool.false_ne_true ?_
   walk_at "w"
   have e0 : nDig 0 n = 0 := by
     show (bits 0 + n - 1) / n = 0
     have : bits 0 <= 0 := bits_le.mpr (by decide)
     exact Nat.div_eq_of_lt (by rw [Nat.le_zero.mp this, Nat.zero_add]; exact Nat.sub_lt hn (by decide))
   have := q A
   rw [e0] at this ⊢
   exact this
 . refine' ifp (bne_iff_ne.mpr fun e => ha0 (Int.ofNat.inj e)) ?_
   walk_at "w"
   refine ⟨KeepsV_Nest nf, ?_⟩
   walk_at "w"
   refine ⟨KeepsV_builtin, ?_⟩
   walk_at "w"
   refine Call_len_list (.lref mcs) (by rw [List.length_replicate]; exact Nat.lt_of_le_of_lt hl24 (by decide)) ?_
   walk_at "w"
   rw [List.length_replicate]
   have hfit := nDig_fit (a := a) hn
   have hpos := nDig_pos hn ha0
   have hle := nDig_le (a := a) (n := n)
   refine CallV.le (d' := 24) (dk rfl) ?_
   refine in_call hn hn2 nf 23 a 0 (nDig a n) _ _ hpos hl24 (Nat.le_of_eq List.length_replicate.symm) (by rw [Nat.sub_zero]; exact hfit) (by rw [Nat.sub_zero]; exact ntr hle (ntr (Nat.sub_le _ _) (ntr (Nat.add_le_add ha hn2) (by decide)))) (by rw [List.length_replicate]; exact ntr hl24 (by decide)) fun ys hy => ?_
   walk_at "w"
   rw [hy.eq List.length_replicate]
   exact q A
end
noncomputable def valD (n : Nat) : List Nat -> Nat
 | [] => 0
 | d :: r => d + 2 ^ n * valD n r
theorem valD_append {n : Nat} : ∀ {l m : List Nat}, valD n (l ++ m) = valD n l + 2 ^ (n * l.length) * valD n m
 | [], m => by simp [valD]
 | d :: r, m => by
   simp only [List.cons_append, valD, valD_append (l := r), List.length_cons, Nat.mul_add, Nat.mul_one]
   rw [Nat.add_comm (n * r.length) n, Nat.pow_add, Nat.mul_assoc, Nat.add_assoc]
theorem valD_lt {n : Nat} : ∀ {l : List Nat}, (∀ d ∈ l, d < 2 ^ n) -> valD n l < 2 ^ (n * l.length)
 | [], _ => by simp [valD]
 | d :: r, h => by
   have h1 := h d mcs
   have h2 := valD_lt (l := r) fun x hx => h x (mcm _ hx)
   simp only [valD, List.length_cons, Nat.mul_add, Nat.mul_one]
   rw [Nat.add_comm (n * r.length) n, Nat.pow_add]
   have h3 : 2 ^ n * (valD n r + 1) <= 2 ^ n * 2 ^ (n * r.length) := Nat.mul_le_mul_left _ h2
   rw [Nat.mul_add] at h3
   lia
noncomputable def slc (ds : List Nat) (L R : Nat) : List Nat := (ds.drop L).take (R - L)
theorem slc_split {ds : List Nat} {L M R : Nat} (h1 : L <= M) (h2 : M <= R) : slc ds L R = slc ds L M ++ slc ds M R := by
 unfold slc
 rw [sum_mid h1 h2, List.take_add, List.drop_drop, Nat.add_sub_cancel' h1]
theorem slc_len {ds : List Nat} {L R : Nat} (h : R <= ds.length) : (slc ds L R).length = R - L := by
 unfold slc; rw [List.length_take, List.length_drop]; exact Nat.min_eq_left (Nat.sub_le_sub_right h L)
theorem slc_one {ds : List Nat} {L : Nat} (h : L < ds.length) : slc ds L (L + 1) = [ds[L]] := by
 unfold slc
 rw [Nat.add_sub_cancel_left, List.drop_eq_getElem_cons h, List.take_succ_cons, List.take_zero]
theorem slc_mem {ds : List Nat} {L R d : Nat} (h : d ∈ slc ds L R) : d ∈ ds := List.mem_of_mem_drop (List.mem_of_mem_take h)
theorem slc_all {ds : List Nat} : slc ds 0 ds.length = ds := by unfold slc; simp
section
variable {B : Base} {d : Nat} {H : AH}
noncomputable abbrev nO : Stmt := inSt kDigitsInt 0
noncomputable abbrev stO (A n f : PV) : St := [(Str.ofString "digits", .cell, some A), (Str.ofString "n", .cell, some n), (Str.ofString "inner", .cell, some f), (Str.ofString "len", .globalImplicit, some (.raw (.builtin "len")))]
noncomputable abbrev stP (L R mid shift : Option PV) (A f n : PV) : St := [(Str.ofString "L", .local, L), (Str.ofString "R", .local, R), (Str.ofString "mid", .local, mid), (Str.ofString "shift", .local, shift),
 (Str.ofString "digits", .free, some A), (Str.ofString "inner", .free, some f), (Str.ofString "n", .free, some n)]
theorem on_bind {S : Setting} {clos : List (Str × Addr)} {doc pm cv ctv v w : Value} : feed S [] (bindArgs (fnX "inner" "_digits2int.<locals>.inner" (stArgs nO) (stBody nO) (stScope nO) clos .none .none doc pm none cv ctv) ⟨[v, w], []⟩) = some ([], [(Str.ofString "L", v), (Str.ofString "R", w)]) := by kernel_rfl
theorem on_chk : nestOk [Str.ofString "L", Str.ofString "R"] (stScope nO) = true := by decide +kernel
theorem on_ini {L R A n : PV} {f : Addr} (hA : hardPV A = true) (hn : hardPV n = true) : IniN B [(Str.ofString "L", L), (Str.ofString "R", R)] (stO A n (.raw (.ref f))) (stScope nO).names (stP (some L) (some R) none none A (.raw (.ref f)) n) := by
 refine .arg (by walk_at "mm") (.arg (by walk_at "mm") (.unset (.unset (.free (by simp) hA (.free (by simp) rfl (.free (by simp) hn .nil))))))
theorem on_call {f A : Addr} {n : Nat} {ds : List Nat} (hn : 1 <= n) (hn2 : n <= 2097152) (NF : NestFn B f "inner" "_digits2int.<locals>.inner" (stArgs nO) (stBody nO) (stScope nO) (stO (.lref A) (.int n) (.raw (.ref f)))) (hA : (A, ds.map fun x : Nat => PV.int x) ∈ H)
   (hd : ∀ x ∈ ds, x < 2 ^ n) (hlen : ds.length <= 2 ^ 24) : ∀ (k L R : Nat) (Q : PQ), L < R -> R - L <= 2 ^ k -> R <= ds.length -> n * (R - L) <= 2 ^ 26 -> Q (.int (valD n (slc ds L R) : Nat)) H ->
     CallV B (k + 1) NoE (.raw (.ref f)) [.int L, .int R] [] H Q := by
 have one : ∀ (d' L : Nat) (Q : PQ), L + 1 <= ds.length -> Q (.int (valD n (slc ds L (L + 1)) : Nat)) H -> CallV B (d' + 1) NoE (.raw (.ref f)) [.int L, .int (L + 1 : Nat)] [] H Q := fun d' L Q h3 q => by
   refine NF.call' (d := d') (fun clos doc pm cv ctv => BindV_q2 fun S v w => on_bind) rfl on_chk (on_ini rfl rfl) ?_
   refine' Xs_cons' ?_
   walk_at "w"
   refine' ifp (beq_self_eq_true _) ?_
   walk_at "w"
   refine ⟨SubAt_items (.lref hA), ?_⟩
   refine Get_nat (.lref hA) (by rw [List.length_map]; exact h3) (by rw [List.length_map]; exact Nat.lt_of_le_of_lt hlen (by decide)) ?_
   rw [slc_one h3] at q
   exact cast_v ((List.getElem_map _).trans (congrArg (fun z : Nat => PV.int z) (show ds[L] = valD n [ds[L]] by rw [valD, valD, Nat.mul_zero, Nat.add_zero]))) q
 intro k
 induction k with
 | zero =>
   intro L R Q h1 h2 h3 h5 q
   obtain rfl : R = L + 1 := Nat.le_antisymm (Nat.sub_le_iff_le_add'.mp h2) h1
   exact one 0 L Q h3 q
 | succ k ih =>
   intro L R Q h1 h2 h3 h5 q
   by_cases hc : R = L + 1
   . subst hc
     exact one (k + 1) L Q h3 q
   . refine NF.call' (d := k + 1) (fun clos doc pm cv ctv => BindV_q2 fun S v w => on_bind) rfl on_chk (on_ini rfl rfl) ?_
     refine' Xs_cons' ?_
     walk_at "w"
     refine' ifn (fun e => hc (Int.ofNat.inj (eq_of_beq e)).symm) ?_
     walk_at "w"
     have hM1 := half_lo h1 hc
     have hM2 := half_hi h1
     have hM3 := half_le h2 h1
     have hM4 := half_ge h2 h1
     refine Bin_shr (by decide) ?_
     refine cast_v (congrArg PV.int (mid_int L R)) ?_
     generalize (L + R) / 2 = M at *
     have hLM := Nat.le_of_lt hM1
     have hMR := Nat.le_of_lt hM2
     have hMx : M < 2 ^ 62 := nlt hM2 (ntr h3 (ntr hlen (by decide)))
     walk_at "w"
     refine V2_castL (congrArg PV.int (Int.ofNat_sub hLM).symm) ?_
     refine Bin_mulN (Nat.lt_of_le_of_lt (Nat.sub_le _ _) hMx) ?_
     refine cast_v (w := .int ((n * (M - L) : Nat) : Int)) (congrArg (fun z : Nat => PV.int z) (Nat.mul_comm _ _)) ?_
     have hs3 : n * (R - L) = n * (M - L) + n * (R - M) := by rw [<- Nat.mul_add, <- sum_mid hLM hMR]
     have hs1 : n * (M - L) <= n * (R - L) := hs3 ▸ Nat.le_add_right _ _
     have hs2 : n * (R - M) <= n * (R - L) := hs3 ▸ Nat.le_add_left _ _
     walk_at "w"
     refine ⟨KeepsV_Nest NF, ?_⟩
     walk_at "w"
     refine ih M R _ hM2 hM4 h3 (ntr hs2 h5) ?_
     walk_at "w"
     have hlt := valD_lt (n := n) (l := slc ds M R) fun x hx => hd x (slc_mem hx)
     rw [slc_len h3] at hlt
     refine Bin_shlN hlt (ntr (Nat.le_of_eq ((Nat.add_comm _ _).trans hs3.symm)) (ntr h5 (by decide))) ?_
     walk_at "w"
     refine ⟨KeepsV_Nest NF, ?_⟩
     walk_at "w"
     refine ih L M _ hM1 hM3 (ntr hMR h3) (ntr hs1 h5) ?_
     walk_at "w"
     rw [slc_split hLM hMR, valD_append, slc_len (ntr hMR h3)] at q
     refine cast_v (congrArg (fun z : Nat => PV.int z) (show valD n (slc ds M R) * 2 ^ (n * (M - L)) + valD n (slc ds L M) = _ by rw [Nat.mul_comm, Nat.add_comm])) q
theorem d2i_bind {S : Setting} {doc pm cdv ct : Value} {an : Option Addr} {v w : Value} : feed S [] (bindArgs (fdOf "_digits2int" kDigitsInt .none .none doc pm an cdv ct) ⟨[v, w], []⟩) = some ([], [(Str.ofString "digits", v), (Str.ofString "n", w)]) := by kernel_rfl
theorem d2i_chk : chkF [Str.ofString "digits", Str.ofString "n"] (stScope (topSt kDigitsInt)) = true := by decide +kernel
theorem d2i_ini {a n : PV} (gl : GlobIs B "len" (.raw (.builtin "len"))) : Ini B [(Str.ofString "digits", a), (Str.ofString "n", n)] (stScope (topSt kDigitsInt)).names [(Str.ofString "digits", .cell, some a), (Str.ofString "n", .cell, some n), (Str.ofString "inner", .cell, none), (Str.ofString "len", .globalImplicit, some (.raw (.builtin "len")))] := by
 refine .arg (by walk_at "mm") (.inr rfl) (.arg (by walk_at "mm") (.inr rfl) (.unset (.glob gl .nil)))
theorem d2i_call {f c P A : Addr} {n : Nat} {ds : List Nat} {Q : PQ} (h : FnIs B f "_digits2int" kDigitsInt .none .none (.ref c)) (N : NestOk B c P (stPos nO) "_digits2int.<locals>.inner") (gl : GlobIs B "len" (.raw (.builtin "len")))
   (hn : 1 <= n) (hn2 : n <= 2097152) (hA : (A, ds.map fun x : Nat => PV.int x) ∈ H) (hd : ∀ x ∈ ds, x < 2 ^ n) (hlen : ds.length <= 2 ^ 23) (hz : n * ds.length <= 2 ^ 26) (q : Q (.int (valD n ds : Nat)) H) : CallV B (d + 26) NoE (.raw (.ref f)) [.lref A, .int n] [] H Q := by
 refine h.callC (d := d + 25) (P := P) (fun doc pm an ct => BindV_q2 fun S v w => d2i_bind) rfl d2i_chk (d2i_ini gl) ?_
 refine' Xs_FD ?_
 unfold Stop
 refine Xs_Def (c := c) (P := P) (qual := Str.ofString "_digits2int.<locals>.inner") (k := .cell) (σ' := fun f => stO (.lref A) (.int n) (.raw (.ref f))) ?hN ?hfi ?hq ?hd ?hkd ?han ?hfr ?hrep ?hst ?_
 case hN => exact N
 case hfi => rfl
 case hq => kernel_rfl
 case hd => rfl
 case hkd => rfl
 case han => exact fun env => rfl
 case hfr => exact freeOk_ok (by kernel_rfl)
 case hrep => exact fun f => .tail (.tail .head)
 case hst => exact .inr ⟨rfl, rfl⟩
 intro g hk ht fi NF
 have nf : NestFn (B.up g hk ht) fi "inner" "_digits2int.<locals>.inner" (stArgs nO) (stBody nO) (stScope nO) (stO (.lref A) (.int n) (.raw (.ref fi))) := NF
 walk_at "w"
 refine Ev_IfExp ?_
 walk_at "w"
 refine Tru_items (.lref hA) (by rw [List.length_map]; exact Nat.lt_of_le_of_lt hlen (by decide)) ?_
 cases hds : ds with
 | nil =>
   subst hds
   simp only [List.map_nil, List.isEmpty_nil, Bool.not_true, Bool.false_eq_true, if_false]
   walk_at "w"
   exact q
 | cons x r =>
   rw [<- hds]
   refine' ifp (by rw [hds]; rfl) ?_
   have hpos : 0 < ds.length := by rw [hds]; simp
   walk_at "w"
   refine ⟨KeepsV_Nest nf, ?_⟩
   walk_at "w"
   refine ⟨KeepsV_builtin, ?_⟩
   walk_at "w"
   refine Call_len_list (.lref hA) (by rw [List.length_map]; exact Nat.lt_of_le_of_lt hlen (by decide)) ?_
   walk_at "w"
   rw [List.length_map]
   refine CallV.le (d' := 24) (dk rfl) ?_
   refine on_call hn hn2 nf hA hd (ntr hlen (by decide)) 23 0 ds.length _ hpos hlen (Nat.le_refl _) (by rw [Nat.sub_zero]; exact hz) ?_
   rw [slc_all]
   exact q
end
theorem valD_digs (n a m : Nat) : valD n ((List.range m).map (dig n a)) = a % 2 ^ (n * m) := by
 induction m with
 | zero => rw [Nat.mul_zero, Nat.pow_zero, Nat.mod_one]; rfl
 | succ m ih =>
   rw [List.range_succ, List.map_append, valD_append, ih, List.length_map, List.length_range, List.map_cons, List.map_nil]
   show a % 2 ^ (n * m) + 2 ^ (n * m) * (dig n a m + 2 ^ n * 0) = _
   rw [Nat.mul_zero, Nat.add_zero, Nat.mul_succ, Nat.pow_add, Nat.mod_mul]
   rfl
theorem two_stepV (T b n x : Nat) (hb : 0 < b) : (T % b * 2 ^ n + x) / b + 2 ^ n * (T / b) = (x + 2 ^ n * T) / b /\ (x + 2 ^ n * T) % b = (T % b * 2 ^ n + x) % b := by
 have e : x + 2 ^ n * T = (T % b * 2 ^ n + x) + (2 ^ n * (T / b)) * b := by
   have h1 := Nat.div_add_mod T b
   have h2 : 2 ^ n * T = 2 ^ n * (T / b) * b + T % b * 2 ^ n := by
     rw [Nat.mul_assoc, Nat.mul_comm (T % b), <- Nat.mul_add, Nat.mul_comm (T / b), h1]
   rw [h2, Nat.add_comm, Nat.add_right_comm, Nat.add_assoc, Nat.add_comm (2 ^ n * (T / b) * b), Nat.add_comm x]
 rw [e, Nat.add_mul_div_right _ _ hb, Nat.add_mul_mod_self_right]
 exact ⟨rfl, rfl⟩
section
variable {B : Base} {d : Nat} {H : AH}
set_option genInjectivity false in
set_option genSizeOf false in
structure DigFns (B : Base) extends DivFns B where
 fi : Addr
 fo : Addr
 ci : Addr
 co : Addr
 pi : Addr
 po : Addr
 hi : FnIs B fi "_int2digits" kDigits .none .none (.ref ci)
 ho : FnIs B fo "_digits2int" kDigitsInt .none .none (.ref co)
 ni : NestOk B ci pi (stPos nI) "_int2digits.<locals>.inner"
 no : NestOk B co po (stPos nO) "_digits2int.<locals>.inner"
 gi : GlobIs B "_int2digits" (.raw (.ref fi))
 go : GlobIs B "_digits2int" (.raw (.ref fo))
 gln : GlobIs B "len" (.raw (.builtin "len"))
 grv : GlobIs B "reversed" (.raw (.type "reversed"))
theorem dp_bind {S : Setting} {doc pm cdv ct : Value} {an : Option Addr} {v w : Value} : feed S [] (bindArgs (fdOf "_divmod_pos" kDivPos .none .none doc pm an cdv ct) ⟨[v, w], []⟩) = some ([], [(Str.ofString "a", v), (Str.ofString "b", w)]) := by kernel_rfl
theorem dp_chk : chkF [Str.ofString "a", Str.ofString "b"] (stScope (topSt kDivPos)) = true := by decide +kernel
noncomputable abbrev stQ (a b : Nat) (n ad r qd adg qdg q : Option PV) (fi f2 fo : Addr) : St := [(Str.ofString "a", .local, some (.int a)), (Str.ofString "b", .local, some (.int b)), (Str.ofString "n", .local, n), (Str.ofString "a_digits", .local, ad), (Str.ofString "r", .local, r), (Str.ofString "q_digits", .local, qd), (Str.ofString "a_digit", .local, adg), (Str.ofString "q_digit", .local, qdg), (Str.ofString "q", .local, q),
 (Str.ofString "_int2digits", .globalImplicit, some (.raw (.ref fi))), (Str.ofString "reversed", .globalImplicit, some (.raw (.type "reversed"))), (Str.ofString "_div2n1n", .globalImplicit, some (.raw (.ref f2))), (Str.ofString "_digits2int", .globalImplicit, some (.raw (.ref fo)))]
theorem dp_ini (F : DigFns B) {a b : Nat} : Ini B [(Str.ofString "a", .int a), (Str.ofString "b", .int b)] (stScope (topSt kDivPos)).names (stQ a b none none none none none none none F.fi F.f2 F.fo) := by
 refine .arg (by walk_at "mm") (.inl rfl) (.arg (by walk_at "mm") (.inl rfl) (.unset (.unset (.unset (.unset (.unset (.unset (.unset (.glob F.gi (.glob F.grv (.glob F.g2 (.glob F.go .nil))))))))))))
noncomputable abbrev qFor : Stmt := inSt kDivPos 4
theorem dp_for (F : DigFns B) {a b n : Nat} {A C : Addr} {D : List Nat} {Qn : SQ} {Qf : FQ} (hb : b ≠ 0) (hbn : n = bits b) (hn2 : n <= 2097152) (hD : ∀ x ∈ D, x < 2 ^ n) (hlen : D.length <= 2 ^ 23)
   (hq : ∀ (qs : List Nat) (adg qdg : Option PV), (∀ x ∈ qs, x < 2 ^ n) -> valD n qs.reverse = valD n D / b -> qs.length = D.length -> Qn (stQ a b (some (.int n)) (some (.lref A)) (some (.int (valD n D % b : Nat))) (some (.lref C)) adg qdg none F.fi F.f2 F.fo) ((C, qs.map fun x : Nat => PV.int x) :: (A, D.map fun x : Nat => PV.int x) :: H)) :
   ∀ (ds P qs : List Nat) (adg qdg : Option PV), P ++ ds = D.reverse -> (∀ x ∈ qs, x < 2 ^ n) -> valD n qs.reverse = valD n P.reverse / b -> qs.length = P.length ->
   ForL B (fiOf kDivPos "_divmod_pos") (d + 60) (forTgt qFor) (forBody qFor) [(A, D.map fun x : Nat => PV.int x)] (ds.map fun x : Nat => PV.int x) (stQ a b (some (.int n)) (some (.lref A)) (some (.int (valD n P.reverse % b : Nat))) (some (.lref C)) adg qdg none F.fi F.f2 F.fo) ((C, qs.map fun x : Nat => PV.int x) :: (A, D.map fun x : Nat => PV.int x) :: H) Qn Qf := by
 have hb0 : 0 < b := Nat.pos_of_ne_zero hb
 obtain ⟨g1, g2⟩ := bits_ge hb
 rw [<- hbn] at g1 g2
 have g3 : b < 2 ^ n := by rw [hbn]; exact lt_bits b
 intro ds
 induction ds with
 | nil =>
   intro P qs adg qdg e h1 h2 h3
   rw [List.append_nil] at e
   subst e
   rw [List.reverse_reverse] at h2 ⊢
   exact ForL_nil (hq qs adg qdg h1 h2 (h3.trans List.length_reverse))
 | cons x ds ih =>
   intro P qs adg qdg e h1 h2 h3
   have hx : x < 2 ^ n := hD x (List.mem_reverse.mp (by rw [<- e]; exact List.mem_append_right _ (.head _)))
   have hP : P.length <= 2 ^ 23 := ntr (by rw [<- List.length_reverse (as := D), <- e, List.length_append]; exact Nat.le_add_right _ _) hlen
   have hr : valD n P.reverse % b < b := Nat.mod_lt _ hb0
   have hv : valD n (P ++ [x]).reverse = x + 2 ^ n * valD n P.reverse := by rw [List.reverse_append]; rfl
   have hlt := est_hi (a12 := valD n P.reverse % b) (b1 := 0) (b2 := b) (n := n) (by rw [Nat.zero_mul, Nat.zero_add]) hx hr
   have hqq : (valD n P.reverse % b * 2 ^ n + x) / b < 2 ^ n := by rw [Nat.div_lt_iff_lt_mul hb0, Nat.mul_comm (2 ^ n) b]; exact hlt
   have hstep := two_stepV (valD n P.reverse) b n x hb0
   have ih := ih (P ++ [x]) (qs ++ [(valD n P.reverse % b * 2 ^ n + x) / b]) (some (.int x)) (some (.int ((valD n P.reverse % b * 2 ^ n + x) / b : Nat))) (by rw [List.append_assoc]; exact e)
     (fun y hy => (mpp hy).elim (h1 y) fun h => by rw [msp h]; exact hqq)
     (by
       rw [hv, List.reverse_append]
       show _ + 2 ^ n * valD n qs.reverse = _
       rw [h2, hstep.1])
     (by rw [List.length_append, List.length_append, h3]; rfl)
   rw [hv, hstep.2] at ih
   refine ForL_cons ?_
   refine' Asg_N ?_
   walk_at "w"
   refine' Xs_cons' ?_
   walk_at "w"
   refine ⟨KeepsV_FnIs F.h2, ?_⟩
   walk_at "w"
   refine Bin_shlN (Nat.lt_trans hr g3) (ntr (Nat.add_le_add hn2 hn2) (by decide)) ?_
   walk_at "w"
   rw [<- Int.natCast_add]
   refine CallV.le (d' := 2 * 10 + 2) (dk rfl) ?_
   refine d2_ok F.toDivFns 10 _ _ n _ b g2 g3 g1 hlt (ntr hn2 (by decide)) hn2 ?_
   walk_at "w"
   refine ⟨_, Meth_append (.lref mcs), ?_⟩
   walk_at "w"
   refine Call_append .head (by rw [List.length_map, h3]; exact ntr hP (bl rfl)) ?_
   walk_at "w"
   refine ⟨fun p hp => by rw [msp hp]; exact mcm _ mcs, ?_⟩
   rw [List.map_append] at ih
   exact ih
theorem dp_call (F : DigFns B) {f : Addr} {cdv : Value} {a b : Nat} {Q : PQ} (h : FnIs B f "_divmod_pos" kDivPos .none .none cdv) (hb : b ≠ 0) (hbz : bits b <= 2097152) (haz : bits a <= 4194304)
   (q : Q (.tup [.int ((a / b : Nat) : Int), .int ((a % b : Nat) : Int)]) H) : CallV B (d + 61) NoE (.raw (.ref f)) [.int a, .int b] [] H Q := by
 obtain ⟨g1, g2⟩ := bits_ge hb
 refine CallV_drop (CallV_drop ?_)
 refine h.call (d := d + 60) (fun doc pm an ct => BindV_q2 fun S v w => dp_bind) rfl dp_chk (dp_ini F) ?_
 generalize hn : bits b = n at g1 g2 hbz
 refine' Xs_cons' ?_
 walk_at "w"
 refine ⟨_, Meth_bitLen, ?_⟩
 walk_at "w"
 refine Call_bitLen ?_
 rw [show Builtin.Int.intBits (b : Int) = n from hn]
 walk_at "w"
 refine ⟨KeepsV_FnIs F.hi, ?_⟩
 walk_at "w"
 refine CallV.le (d' := 0 + 26) (dk rfl) ?_
 refine i2d_call F.hi F.ni F.gln g1 hbz haz fun A => ?_
 have hm : (List.range (nDig a n)).map (fun i => PV.int (dig n a i : Nat)) = ((List.range (nDig a n)).map (dig n a)).map fun x : Nat => PV.int x := by rw [List.map_map]; rfl
 rw [hm]
 have hval : valD n ((List.range (nDig a n)).map (dig n a)) = a := by rw [valD_digs, Nat.mod_eq_of_lt (nDig_fit g1)]
 have hnd : n * nDig a n <= 4194304 + 2097152 := ntr nDig_le (ntr (Nat.sub_le _ _) (Nat.add_le_add haz hbz))
 have hnl : nDig a n <= n * nDig a n := Nat.le_mul_of_pos_left _ g1
 generalize hDD : (List.range (nDig a n)).map (dig n a) = D at hval
 have hDl : D.length = nDig a n := by rw [<- hDD, List.length_map, List.length_range]
 have hD23 : D.length <= 2 ^ 23 := hDl ▸ ntr hnl (ntr hnd (by decide))
 have hDm : ∀ x ∈ D, x < 2 ^ n := fun x hx => by
   rw [<- hDD] at hx
   obtain ⟨i, O, rfl⟩ := mmp hx
   exact Nat.mod_lt _ (Nat.two_pow_pos _)
 walk_at "w"
 refine Ev_ListT ?_
 refine EvL_nil fun C => ?_
 walk_at "w"
 refine ⟨KeepsV_type, ?_⟩
 walk_at "w"
 refine CallI_rev (.lref (mcm _ mcs)) ?_
 rw [<- List.map_reverse]
 have e0 : ((valD n ([] : List Nat).reverse % b : Nat) : Int) = 0 := congrArg Int.ofNat (Nat.zero_mod b)
 rw [<- e0]
 refine dp_for (d := d) (H := H) F (a := a) (b := b) (n := n) (A := A) (C := C) (D := D) hb hn.symm hbz hDm hD23 ?_ D.reverse [] [] none none rfl (fun O h => nomatch h) (Nat.zero_div b).symm rfl
 intro qs adg qdg h1 h2 h3
 rw [hval] at h2 ⊢
 walk_at "w"
 refine ⟨_, Meth_reverse (.lref mcs), ?_⟩
 walk_at "w"
 refine Call_reverse .head (by rw [List.length_map, h3]; exact ntr hD23 (bl rfl)) ?_
 rw [<- List.map_reverse]
 walk_at "w"
 refine ⟨KeepsV_FnIs F.ho, ?_⟩
 walk_at "w"
 refine CallV.le (d' := 0 + 26) (dk rfl) ?_
 refine d2i_call F.ho F.no F.gln g1 hbz mcs (fun x hx => h1 x (List.mem_reverse.mp hx)) (by rw [List.length_reverse, h3]; exact hD23) (by rw [List.length_reverse, h3, hDl]; exact ntr hnd (by decide)) ?_
 rw [h2]
 walk_at "w"
 exact ⟨_, _, rfl, _, _, rfl, q⟩
end
theorem fdiv_neg_num (a b : Int) (hb : 0 < b) (ha : a < 0) : Builtin.bitNot ((Builtin.bitNot a).fdiv b) = a.fdiv b /\ b + Builtin.bitNot ((Builtin.bitNot a).fmod b) = a.fmod b := by
 unfold Builtin.bitNot
 rw [Int.fdiv_eq_ediv_of_nonneg _ (by lia), Int.fdiv_eq_ediv_of_nonneg _ (by lia), Int.fmod_eq_emod_of_nonneg _ (by lia), Int.fmod_eq_emod_of_nonneg _ (by lia)]
 generalize hc : -a - 1 = c
 have hac : a = -c - 1 := by lia
 subst hac
 have h1 := Int.mul_ediv_add_emod c b
 have h2 := Int.emod_nonneg c (show b ≠ 0 by lia)
 have h3 := Int.emod_lt_of_pos c hb
 have e : -c - 1 = (b - c % b - 1) + b * (-(c / b) - 1) := by
   rw [Int.mul_sub, Int.mul_neg]; lia
 have q1 : (-c - 1) / b = -(c / b) - 1 := by
   rw [e, Int.add_mul_ediv_left _ _ (by lia), Int.ediv_eq_zero_of_lt (by lia) (by lia), Int.zero_add]
 have q2 : (-c - 1) % b = b - c % b - 1 := by
   rw [e, Int.add_mul_emod_self_left, Int.emod_eq_of_lt (by lia) (by lia)]
 rw [q1, q2]
 constructor <;> lia
theorem fdiv_neg_both (a b : Int) (hb : b < 0) : (-a).fdiv (-b) = a.fdiv b /\ -((-a).fmod (-b)) = a.fmod b := by
 refine ⟨Int.neg_fdiv_neg _ _, ?_⟩
 have h1 := Int.mul_fdiv_add_fmod a b
 have h2 := Int.mul_fdiv_add_fmod (-a) (-b)
 rw [Int.neg_fdiv_neg, Int.neg_mul] at h2
 lia
section
variable {B : Base} {d : Nat} {H : AH}
set_option genInjectivity false in
set_option genSizeOf false in
structure ImFns (B : Base) extends DigFns B where
 fp : Addr
 fm : Addr
 cp : Value
 cm : Value
 hp : FnIs B fp "_divmod_pos" kDivPos .none .none cp
 hm : FnIs B fm "int_divmod" kDivmod .none .none cm
 gp : GlobIs B "_divmod_pos" (.raw (.ref fp))
 gm : GlobIs B "int_divmod" (.raw (.ref fm))
 gz : GlobIs B "ZeroDivisionError" (.raw (.type "ZeroDivisionError"))
theorem im_bind {S : Setting} {doc pm cdv ct : Value} {an : Option Addr} {v w : Value} : feed S [] (bindArgs (fdOf "int_divmod" kDivmod .none .none doc pm an cdv ct) ⟨[v, w], []⟩) = some ([], [(Str.ofString "a", v), (Str.ofString "b", w)]) := by kernel_rfl
theorem im_chk : chkF [Str.ofString "a", Str.ofString "b"] (stScope (topSt kDivmod)) = true := by decide +kernel
noncomputable abbrev stIm (a b : Int) (q r : Option PV) (fm fp : Addr) : St := [(Str.ofString "a", .local, some (.int a)), (Str.ofString "b", .local, some (.int b)), (Str.ofString "q", .local, q), (Str.ofString "r", .local, r),
 (Str.ofString "ZeroDivisionError", .globalImplicit, some (.raw (.type "ZeroDivisionError"))), (Str.ofString "int_divmod", .globalImplicit, some (.raw (.ref fm))), (Str.ofString "_divmod_pos", .globalImplicit, some (.raw (.ref fp)))]
theorem im_ini (F : ImFns B) {a b : Int} : Ini B [(Str.ofString "a", .int a), (Str.ofString "b", .int b)] (stScope (topSt kDivmod)).names (stIm a b none none F.fm F.fp) := by
 refine .arg (by walk_at "mm") (.inl rfl) (.arg (by walk_at "mm") (.inl rfl) (.unset (.unset (.glob F.gz (.glob F.gm (.glob F.gp .nil))))))
theorem im_pp (F : ImFns B) {a b : Nat} {Q : PQ} (hb : b ≠ 0) (hbz : bits b <= 2097152) (haz : bits a <= 4194304)
   (q : Q (.tup [.int ((a / b : Nat) : Int), .int ((a % b : Nat) : Int)]) H) : CallV B (d + 62) NoE (.raw (.ref F.fm)) [.int a, .int b] [] H Q := by
 refine F.hm.call (d := d + 61) (fun doc pm an ct => BindV_q2 fun S v w => im_bind) rfl im_chk (im_ini F) ?_
 refine' Xs_cons' ?_
 walk_at "w"
 refine' ifn (fun e => hb (Int.ofNat.inj (eq_of_beq e))) ?_
 walk_at "w"
 refine' ifnd (Int.not_lt.mpr (Int.natCast_nonneg b)) ?_
 walk_at "w"
 refine' ifnd (Int.not_lt.mpr (Int.natCast_nonneg a)) ?_
 walk_at "w"
 refine ⟨KeepsV_FnIs F.hp, ?_⟩
 walk_at "w"
 exact dp_call F.toDigFns F.hp hb hbz haz q
theorem bits_of_not {a : Int} {m N : Nat} (hm : Builtin.bitNot a = m) (h : Builtin.Int.intBits a <= N) : bits m <= N := by
 refine bits_le.mpr ?_
 have := intBits_le_iff.mp h
 unfold Builtin.bitNot at hm
 generalize 2 ^ N = M at *
 lia
theorem bits_of_neg {b : Int} {m N : Nat} (hm : -b = m) (h : Builtin.Int.intBits b <= N) : bits m <= N := by
 refine bits_le.mpr ?_
 have := intBits_le_iff.mp h
 generalize 2 ^ N = M at *
 lia
theorem im_np (F : ImFns B) {a : Int} {b : Nat} {Q : PQ} (hb : b ≠ 0) (hbz : bits b <= 2097152) (haz : Builtin.Int.intBits a <= 4194304)
   (q : Q (.tup [.int (a.fdiv b), .int (a.fmod b)]) H) : CallV B (d + 63) NoE (.raw (.ref F.fm)) [.int a, .int b] [] H Q := by
 by_cases ha : 0 <= a
 . obtain ⟨m, rfl⟩ := Int.eq_ofNat_of_zero_le ha
   rw [fdiv_nat, fmod_nat] at q
   exact im_pp F (d := d + 1) hb hbz haz q
 . refine F.hm.call (d := d + 62) (fun doc pm an ct => BindV_q2 fun S v w => im_bind) rfl im_chk (im_ini F) ?_
   have hb0 : (0 : Int) < b := Int.natCast_pos.mpr (Nat.pos_of_ne_zero hb)
   obtain ⟨e1, e2⟩ := fdiv_neg_num a b hb0 (Int.not_le.mp ha)
   refine' Xs_cons' ?_
   walk_at "w"
   refine' ifn (fun e => hb (Int.ofNat.inj (eq_of_beq e))) ?_
   walk_at "w"
   refine' ifnd (Int.not_lt.mpr (Int.le_of_lt hb0)) ?_
   walk_at "w"
   refine' ifpd (Int.not_le.mp ha) ?_
   walk_at "w"
   refine ⟨KeepsV_FnIs F.hm, ?_⟩
   walk_at "w"
   obtain ⟨m, hm⟩ := Int.eq_ofNat_of_zero_le (show 0 <= Builtin.bitNot a by unfold Builtin.bitNot; omega)
   have hmz : bits m <= 4194304 := bits_of_not hm haz
   rw [hm] at e1 e2 ⊢
   rw [fdiv_nat] at e1
   rw [fmod_nat] at e2
   refine im_pp F hb hbz hmz ?_
   walk_at "w"
   rw [e1, e2]
   exact q
theorem im_call (F : ImFns B) {a b : Int} {Q : PQ} (hb : b ≠ 0) (hbz : Builtin.Int.intBits b <= 2097152) (haz : Builtin.Int.intBits a <= 4194304)
   (q : Q (.tup [.int (a.fdiv b), .int (a.fmod b)]) H) : CallV B (d + 64) NoE (.raw (.ref F.fm)) [.int a, .int b] [] H Q := by
 by_cases hb0 : 0 < b
 . obtain ⟨m, rfl⟩ := Int.eq_ofNat_of_zero_le (Int.le_of_lt hb0)
   exact im_np F (d := d + 1) (Nat.ne_of_gt (Int.natCast_pos.mp hb0)) hbz haz q
 . refine F.hm.call (d := d + 63) (fun doc pm an ct => BindV_q2 fun S v w => im_bind) rfl im_chk (im_ini F) ?_
   have hb1 : b < 0 := Int.lt_iff_le_and_ne.mpr ⟨Int.not_lt.mp hb0, hb⟩
   obtain ⟨e1, e2⟩ := fdiv_neg_both a b hb1
   refine' Xs_cons' ?_
   walk_at "w"
   refine' ifn (fun e => hb (eq_of_beq e)) ?_
   walk_at "w"
   refine' ifpd hb1 ?_
   walk_at "w"
   refine ⟨KeepsV_FnIs F.hm, ?_⟩
   walk_at "w"
   obtain ⟨m, hm⟩ := Int.eq_ofNat_of_zero_le (Int.neg_nonneg_of_nonpos (Int.not_lt.mp hb0))
   have hmz : bits m <= 2097152 := bits_of_neg hm hbz
   rw [hm] at e1 e2 ⊢
   refine im_np F (fun e => hb (Int.neg_eq_zero.mp (hm.trans (congrArg Int.ofNat e)))) hmz (intBits_neg_le haz) ?_
   walk_at "w"
   rw [e1, e2]
   exact q
end
section
variable {M : Model} {A : Around} {E : EP} {s : Shared}
open PySem.Builtin.Re in
theorem drive_ok {r : Option (Nat × Nat)} {Q : Sre.M -> Shared -> Prop} (hq : ∀ m', Rx.Res m' r -> Q m' s) : ∀ (k N : Nat) (m : Sre.M), Rx.Ends N m r -> N < 4 * k -> wpAny M A (reDrive k m) Q E s
 | 0, N, m, h, hN => by lia
 | k + 1, N, m, ⟨n, x, h1, h2, h3⟩, hN => by
   have hx : x.outcome.isSome = true := by
     cases r with
     | none => rw [show x.outcome = _ from h3]; rfl
     | some p => rw [show x.outcome = _ from h3.1]; rfl
   unfold reDrive
   show wpAny M A (if (Sre.M.runFor 4 m).outcome.isSome = true then pure (Sre.M.runFor 4 m) else (do rule "sre.turn"; reDrive k (Sre.M.runFor 4 m))) Q E s
   by_cases hc : (Sre.M.runFor 4 m).outcome.isSome = true
   . rw [if_pos hc]
     refine wpAny_pure (hq _ ?_)
     by_cases hn : n <= 4
     . have : Sre.M.runFor 4 m = x := by
         rw [show 4 = n + (4 - n) by lia, Rx.runFor_add, h2, Rx.runFor_stop hx]
       rw [this]; exact h3
     . have : Sre.M.runFor n m = Sre.M.runFor 4 m := by
         rw [show n = 4 + (n - 4) by lia, Rx.runFor_add, Rx.runFor_stop hc]
       rw [<- this, h2]; exact h3
   . rw [if_neg hc]
     refine wpAny_bind (wpAny_rule ?_)
     have hn : 4 < n := by
       rcases Nat.lt_or_ge 4 n with h | h
       . exact h
       . exfalso; apply hc
         rw [show 4 = n + (4 - n) by lia, Rx.runFor_add, h2, Rx.runFor_stop hx]; exact hx
     exact drive_ok hq k (N - 4) _ ⟨n - 4, x, by lia, by rw [<- Rx.runFor_add, show 4 + (n - 4) = n by lia]; exact h2, h3⟩ (by lia)
open PySem.Builtin.Re in
theorem run_ok {r : Option (Nat × Nat)} {N : Nat} {m : Sre.M} {Q : Option Sre.M -> Shared -> Prop} (h : Rx.Ends N m r) (hN : N <= 2 ^ 60)
   (hq : match r with | some (b, e) => ∀ m', m'.start = b -> m'.handed = e -> Q (some m') s | none => Q none s) : wpAny M A (reRunToEnd m) Q E s := by
 unfold reRunToEnd
 refine wpAny_bind (drive_ok (r := r) (fun m' hm => ?_) (2 ^ 64) N m h (by lia))
 refine wpAny_bind (wpAny_forIn_list _ (fun O O s' => s' = s) (fun O s' => s' = s) (fun x rest b s' hs => ?_) (fun O O h => h) _ _ rfl |> fun h => wpAny_mono h (fun O s' hs => ?_) fun O O x => x)
 . subst hs
   cases r with
   | none =>
     have h1 : m'.outcome = some .failed := hm
     rw [h1]
     exact wpAny_pure hq
   | some p =>
     obtain ⟨b, e⟩ := p
     obtain ⟨h1, h2, h3⟩ := hm
     rw [h1]
     exact wpAny_pure (hq _ h2 h3)
 . subst hs
   by_cases hc : m'.seen.has x = true
   . simp only [hc, if_true]
     exact wpAny_bind (wpAny_rule (wpAny_pure rfl))
   . simp only [hc, if_false]
     exact wpAny_pure rfl
end
noncomputable def PatAt (h : Heap) (p : Addr) (code : Array Nat) (kind : Nat) : Prop :=
 ∃ od fs osl c oc items n, h.get? p = some ⟨.type "re.Pattern", od, .fields fs, osl⟩ /\ od = none /\ reRaw (fs.getD 6 .none) = kind /\ reRaw (fs.getD 2 .none) = 0 /\ fs.getD 5 .none = .ref c /\
   h.get? c = some oc /\ oc.data = .seq items n /\ (items.map Builtin.Re.reRawOf).map (·.toNat) = code
where reRaw := Builtin.Re.reRawNat
section
variable {M : Model} {A : Around} {E : EP} {s : Shared} {p : Addr} {code : Array Nat}
theorem PatAt.keeps {h h' : Heap} {k : Nat} (x : PatAt h p code k) (hk : ∀ a o, h.get? a = some o -> h'.get? a = some o) : PatAt h' p code k := by
 obtain ⟨od, fs, osl, c, oc, items, n, h1, h2, h3, h4, h5, h6, h7⟩ := x
 exact ⟨od, fs, osl, c, oc, items, n, hk _ _ h1, h2, h3, h4, h5, hk _ _ h6, h7⟩
open PySem.Builtin.Re in
theorem whole_str {x : Str} {t : Tok} {Q : ReTarget -> Shared -> Prop} (P : PatAt s.heap p code 0) (h : Q { pattern := .ref p, string := .str x t, code := code, text := x.cps, kind := 0, groups := 0, pos := 0, lim := x.cps.size } s) :
   wpAny M A (reWholeTarget (.ref p) (.str x t)) Q E s := by
 obtain ⟨od, fs, osl, c, oc, items, n, h1, h2, h3, h4, h5, h6, h7, h8⟩ := P
 unfold reWholeTarget
 have e1 : fieldsOf (.ref p) = (do match (<- load p).data with | .fields vs => pure vs | _ => unsupported "internal:no-fields") := rfl
 rw [e1]
 refine wpAny_bind (wpAny_bind (wpAny_load h1 (wpAny_pure ?_)))
 refine wpAny_bind (wpAny_pure (a := (x.cps, 0)) ?_)
 have h3' : reRawNat (fs.getD 6 .none) = 0 := h3
 have h4' : reRawNat (fs.getD 2 .none) = 0 := h4
 simp only [h3', h4', h5]
 show wpAny M A (do
   let items <- reRawItems (.ref c)
   pure { pattern := .ref p, string := .str x t, code := items.map (·.toNat), text := x.cps, kind := 0, groups := 0, pos := 0, lim := x.cps.size }) Q E s
 refine wpAny_bind (wpAny_bind (wpAny_seqItems h6 h7 (wpAny_pure (wpAny_pure ?_))))
 rw [show (((some items).getD #[]).map reRawOf).map (·.toNat) = code from h8]
 exact h
end
noncomputable def subG {π : Type} (pc : Nat -> Nat -> π) (n : Nat) (nx : Nat -> Option (Nat × Nat)) (rep : π) : Nat -> Nat -> List π
 | 0, _ => []
 | k + 1, d => match nx d with
   | some (s, e) => (if d < s then [pc d s] else []) ++ rep :: subG pc n nx rep k e
   | none => if d < n then [pc d n] else []
theorem subG_some {π : Type} {pc : Nat -> Nat -> π} {n : Nat} {nx : Nat -> Option (Nat × Nat)} {rep : π} {k d s e : Nat} (h : nx d = some (s, e)) : subG pc n nx rep (k + 1) d = (if d < s then [pc d s] else []) ++ rep :: subG pc n nx rep k e := by
 show (match nx d with | some (s, e) => _ | none => _) = _
 rw [h]
theorem subG_none {π : Type} {pc : Nat -> Nat -> π} {n : Nat} {nx : Nat -> Option (Nat × Nat)} {rep : π} {k d : Nat} (h : nx d = none) : subG pc n nx rep (k + 1) d = if d < n then [pc d n] else [] := by
 show (match nx d with | some (s, e) => _ | none => _) = _
 rw [h]
noncomputable abbrev subL (T : Array Nat) (nx : Nat -> Option (Nat × Nat)) (rep : Str) : Nat -> Nat -> List Str := subG (fun b e => (⟨T.extract b e⟩ : Str)) T.size nx rep
structure Finds (code : Array Nat) (T : Array Nat) (nx : Nat -> Option (Nat × Nat)) : Prop where
 go : ∃ N, N <= 2 ^ 60 /\ ∀ s, s <= T.size -> Rx.Ends N (Sre.forSearch code T 0 s T.size false) (nx s)
 ok : ∀ d s e, nx d = some (s, e) -> d <= s /\ s < e /\ e <= T.size
theorem nx1_ok {T : Array Nat} : ∀ {k d s e : Nat}, d + k = T.size -> Rx.nx1 T k d = some (s, e) -> d <= s /\ s < e /\ e <= T.size
 | k + 1, d, s, e, h, hn => by
   unfold Rx.nx1 at hn
   split at hn
   . cases hn; lia
   . have := nx1_ok (by lia) hn; lia
theorem nx3_ok {T : Array Nat} : ∀ {k d s e : Nat}, d + k = T.size -> Rx.nx3 T k d = some (s, e) -> d <= s /\ s < e /\ e <= T.size
 | k + 1, d, s, e, h, hn => by
   unfold Rx.nx3 at hn
   split at hn
   . cases hn
     unfold Rx.end3
     split
     . rename_i hc
       unfold Rx.crlfAt at hc
       simp only [Bool.and_eq_true, decide_eq_true_eq] at hc
       lia
     . lia
   . have := nx3_ok (by lia) hn; lia
noncomputable def nxA (T : Array Nat) (d : Nat) : Option (Nat × Nat) := if d <= T.size then Rx.nx1 T (T.size - d) d else none
noncomputable def nxC (T : Array Nat) (d : Nat) : Option (Nat × Nat) := if d <= T.size then Rx.nx3 T (T.size - d) d else none
theorem finds1 (T : Array Nat) (hT : T.size <= 2 ^ 30) : Finds Rx.code1 T (nxA T) := by
 refine ⟨⟨6 * T.size + 6, by lia, fun s hs => by unfold nxA; rw [if_pos hs]; exact Rx.search1 T s hs⟩, fun d s e h => ?_⟩
 unfold nxA at h
 split at h
 . exact nx1_ok (by lia) h
 . cases h
theorem finds3 (T : Array Nat) : Finds Rx.code3 T (nxC T) := by
 refine ⟨⟨20, by lia, fun s hs => by unfold nxC; rw [if_pos hs]; exact Rx.search3 T s hs⟩, fun d s e h => ?_⟩
 unfold nxC at h
 split at h
 . exact nx3_ok (by lia) h
 . cases h
theorem entry_sub : entryFor table "re.Pattern.sub" = some Builtin.«re.Pattern.sub» := entryFor_of_tree (by kernel_rfl)
theorem entry_sub_loop : entryFor table "re.Pattern.sub.loop" = some Builtin.«re.Pattern.sub.loop» := entryFor_of_tree (by kernel_rfl)
theorem slot_sub : Slot "re.Pattern" "sub" "re.Pattern.sub" :=
 .of (owner := "re.Pattern") (n := "sub") (by rw [typeLookup_type, builtinLookup_eq_fast]; kernel_rfl) (by decide +kernel) (by decide +kernel) (by decide +kernel)
   (by first | exact .inl (by decide +kernel) | exact .inr (by decide +kernel)) (by rw [isSubtype_type]; kernel_rfl)
theorem type_sub : typeOf (.builtin "re.Pattern.sub") = pure (.type "method_descriptor") := by show builtinType _ = _; rw [builtinType_eq_fast]; kernel_rfl
theorem plain_pat : PlainAttrs "re.Pattern" := ⟨⟨"object.__getattribute__", by rw [typeLookup_type, builtinLookup_eq_fast]; kernel_rfl, by decide +kernel⟩, by rw [typeLookup_type, builtinLookup_eq_fast]; kernel_rfl⟩
section
variable {B : Base} {d : Nat} {H : AH}
theorem Room.under {A : Around} {d : Nat} {c : Code} (R : Room A (d + 1)) (hw : c.weight = 0) (hu : c.cUnits = 1) : Room (A.under c) d :=
 ⟨R.handled, by have := R.depth; show A.depth + c.weight + d < _; lia, by have := R.units; show A.units + c.cUnits + 8 * d + 100 < _; lia⟩
theorem PatAt.isType {s : Shared} {p : Addr} {code : Array Nat} {k : Nat} (P : PatAt s.heap p code k) : s.TypeIs (.ref p) "re.Pattern" := by
 obtain ⟨od, fs, osl, c, oc, items, n, h1, O⟩ := P
 exact ⟨_, h1, rfl⟩
theorem Meth_sub {p : Addr} {code : Array Nat} {k : Nat} (P : PatAt B.g p code k) : MethAt B H "sub" "re.Pattern.sub" (.raw (.ref p)) := fun A E s va I r pl Q q => by
 obtain ⟨O, rfl⟩ := r.inv
 obtain ⟨od, fs, osl, c, oc, items, n, h1, h2, O⟩ := P.keeps I.keep
 subst h2
 exact getMethod_builtin ⟨_, h1, rfl⟩ plain_pat slot_sub type_sub (fun a e => by cases e; exact ⟨_, h1, rfl⟩) q
noncomputable abbrev subArgs (p : Addr) (x rep : Value) (n : Int) (d : Nat) (a : Addr) : Args := ⟨[.ref p, x, rep, rawInt 0, rawInt 0, rawInt n, rawInt d, rawInt d, .bool false, .ref a, .bool false], []⟩
theorem subArgs_weight {p : Addr} {x rep : Value} {n : Int} {d : Nat} {a : Addr} : (Code.builtin "re.Pattern.sub.loop" (subArgs p x rep n d a)).weight = 0 := by kernel_rfl
theorem subArgs_units {p : Addr} {x rep : Value} {n : Int} {d : Nat} {a : Addr} : (Code.builtin "re.Pattern.sub.loop" (subArgs p x rep n d a)).cUnits = 1 := by kernel_rfl
theorem subArgs_quiet {p : Addr} {x rep : Value} {n : Int} {d : Nat} {a : Addr} : (Code.builtin "re.Pattern.sub.loop" (subArgs p x rep n d a)).quiet = true := by kernel_rfl
noncomputable def subPost (B : Base) (A : Around) (R : Result -> Shared -> Prop) (fin : Fin) (s' : Shared) : Prop := match fin with
 | .done f => R (.ok f) s'
 | .again c' => c'.quiet = true /\ codeAny (model B.prog B.w) A c' R s'
noncomputable def subErr (R : Result -> Shared -> Prop) (e : Value) (s' : Shared) : Prop := R (.error e) s'
open PySem.Builtin.Re in
theorem sub_loop {π : Type} {pc : Nat -> Nat -> π} {pv : π -> PV} {rep : π} {kind : Nat} {T : Array Nat} {sv rv : Value} {J : PV} {p a : Addr} {code : Array Nat} {nx : Nat -> Option (Nat × Nat)} {A : Around} {R : Result -> Shared -> Prop} {s₀ : Shared} {L : List π} (Rm : Room A 2) (P : PatAt B.g p code kind) (F : Finds code T nx)
   (hw : ∀ {s : Shared} {A' : Around} {E' : EP} {Q : ReTarget -> Shared -> Prop}, PatAt s.heap p code kind -> Q { pattern := .ref p, string := sv, code := code, text := T, kind := kind, groups := 0, pos := 0, lim := T.size } s -> wpAny (model B.prog B.w) A' (reWholeTarget (.ref p) sv) Q E' s)
   (hturn : reLiteralCannotBeTurned rv = pure ()) (hnn : (rv != .none) = true) (hr : ∀ T' h, VR T' h rv (pv rep))
   (hs : ∀ {A' : Around} {E' : EP} {s : Shared} {Q : Value -> Shared -> Prop} (b e : Nat), (∀ v t, (∀ T' h, VR T' h v (pv (pc b e))) -> Q v { s with toks := t }) -> wpAny (model B.prog B.w) A' (reSlice T kind b e) Q E' s)
   (hj : ∀ {A' : Around} {E' : EP} {s : Shared} {Q : Value -> Shared -> Prop} {jv : Value}, Room A' 1 -> Inv B ((a, L.map pv) :: H) s -> L ≠ [] -> (∀ T' h, VR T' h jv (pv (pc 0 0))) -> (∀ v s', Tr B noU ((a, L.map pv) :: H) s ((a, L.map pv) :: H) s' -> (∀ T' h, VR T' h v J) -> Q v s') ->
     wpAny (model B.prog B.w) A' (call (.builtin (if (kind == 0) = true then "str.join" else "bytes.join")) [jv, .ref a] []) Q E' s)
   (hj0 : L = [] -> pv (pc 0 0) = J) (hlen : L.length <= sizeLine)
   (hR : ∀ s' v, Tr B noU H s₀ H s' -> (∀ T' h, VR T' h v J) -> R (.ok (.ret v)) s') :
   ∀ (k d n : Nat) (ps : List π) (s : Shared), T.size < k + d -> d <= T.size -> L = ps ++ subG pc T.size nx rep k d -> Tr B noU H s₀ ((a, ps.map pv) :: H) s ->
     codeAny (model B.prog B.w) A (.builtin "re.Pattern.sub.loop" (subArgs p sv rv n d a)) R s := by
 have push : ∀ {A' : Around} {E' : EP} {ps : List π} {s : Shared} {y : π} {v : Value} {Q' : Unit -> Shared -> Prop}, ps.length <= sizeLine -> Tr B noU H s₀ ((a, ps.map pv) :: H) s -> (∀ T' h, VR T' h v (pv y)) -> (∀ s', Tr B noU H s₀ ((a, (ps ++ [y]).map pv) :: H) s' -> Q' () s') ->
     wpAny (model B.prog B.w) A' (updateSeq a fun z => z.push v) Q' E' s := fun {A' E' ps s y v Q'} hp Tt hv hq => by
   refine wpAny_mono (updSeq_ok (xs' := (ps ++ [y]).map pv) .head Tt.inv (by rw [List.length_map]; exact hp) (by rw [List.length_map, List.length_append]; exact Nat.succ_le_succ hp) fun vs n O hvs => ?_) (fun O s' t => hq s' (Tt.trans t)) fun O O x => x
   rw [Array.toList_push, List.map_append]; exact hvs.append (.cons (hv _ _) .nil)
 obtain ⟨⟨N, hN, hgo⟩, hok⟩ := F
 intro k
 induction k with
 | zero => intro d n ps s hk hd hL Tt; exact absurd (Nat.zero_add d ▸ hk) (nlr hd)
 | succ k ih =>
   intro d n ps s hk hd hL Tt
   have hpl : ∀ {ps r : List π}, L = ps ++ r -> ps.length <= sizeLine := fun h => ntr (by rw [h, List.length_append]; exact Nat.le_add_right _ _) hlen
   refine codeAny_builtin entry_sub_loop ?_
   unfold Builtin.«re.Pattern.sub.loop»
   show wpAny _ _ _ (subPost B A R) (subErr R) s
   refine wpAny_bind (hw (P.keeps Tt.inv.keep) ?_)
   refine wpAny_bind (show wpAny _ _ (reLiteralCannotBeTurned rv) _ _ _ from wpAny_of_eq hturn ?_)
   refine wpAny_bind ?_
   show wpAny _ _ (reRunToEnd (Sre.forSearch code T 0 ((d : Int).toNat) T.size false)) _ _ _
   rw [Int.toNat_natCast]
   refine run_ok (hgo d hd) hN ?_
   cases hn : nx d with
   | some be =>
     obtain ⟨b, e⟩ := be
     obtain ⟨o1, o2, o3⟩ := hok d b e hn
     intro m' hm1 hm2
     subst hm1 hm2
     have hmust : (m'.handed == m'.start) = false := beq_false_of_ne (Nat.ne_of_gt o2)
     rw [subG_some hn] at hL
     have tail : ∀ (ps' : List π) (s' : Shared), L = ps' ++ rep :: subG pc T.size nx rep k m'.handed -> Tr B noU H s₀ ((a, ps'.map pv) :: H) s' ->
         wpAny (model B.prog B.w) (A.under (.builtin "re.Pattern.sub.loop" (subArgs p sv rv n d a))) (do
           updateSeq a fun z => z.push rv
           again (.builtin "re.Pattern.sub.loop" (⟨[.ref p, sv, rv, rawInt 0, rawInt 0, rawInt ((n : Int) + 1), rawInt m'.handed, rawInt m'.handed, .bool (m'.handed == m'.start), .ref a, .bool false], []⟩))) (subPost B A R) (subErr R) s' := fun ps' s' hL' T' => by
       refine wpAny_bind (push (hpl hL') T' hr fun s'' T'' => wpAny_pure ?_)
       rw [hmust]
       exact ⟨subArgs_quiet, ih m'.handed (n + 1) (ps' ++ [rep]) s'' (by omega) o3 (by rw [hL', List.append_assoc]; rfl) T''⟩
     show wpAny _ _ (if (d : Int).toNat < m'.start then _ else _) _ _ _
     rw [Int.toNat_natCast]
     refine wpAny_if (fun hdb => ?_) fun hdb => ?_
     . rw [if_pos hdb] at hL
       refine wpAny_bind (show wpAny _ _ (reSlice T kind (d : Int).toNat m'.start) _ _ _ from hs _ _ fun v t hv => ?_)
       refine wpAny_bind (push (hpl hL) (Tt.trans (Tr.tok Tt.inv t)) hv fun s' T' => ?_)
       refine wpAny_ite_true rfl (wpAny_bind (wpAny_pure (wpAny_ite_true (decide_eq_true hnn) ?_)))
       exact tail (ps ++ [pc d m'.start]) s' (by rw [hL, List.append_assoc]) T'
     . rw [if_neg hdb] at hL
       refine wpAny_ite_true rfl (wpAny_bind (wpAny_pure (wpAny_ite_true (decide_eq_true hnn) ?_)))
       exact tail ps s hL Tt
   | none =>
     rw [subG_none hn] at hL
     have fin : ∀ (s' : Shared), Tr B noU H s₀ ((a, L.map pv) :: H) s' -> wpAny (model B.prog B.w) (A.under (.builtin "re.Pattern.sub.loop" (subArgs p sv rv n d a))) (do
         let joiner <- reSlice T kind 0 0
         let items <- seqItems? (.ref a)
         if (items.getD #[]).isEmpty = true then do
           let text <- pure joiner
           ret text
         else do
           let text <- call (.builtin (if (kind == 0) = true then "str.join" else "bytes.join")) [joiner, .ref a]
           ret text) (subPost B A R) (subErr R) s' := fun s' T' => by
       refine wpAny_bind (hs 0 0 fun jv tj hjv => ?_)
       have T2 := T'.trans (Tr.tok T'.inv tj)
       obtain ⟨hg, vs, nn, ho, hv⟩ := T2.inv.objs _ mcs
       refine wpAny_bind (wpAny_seqItems ho rfl ?_)
       have hvl : vs.size = L.length := hv.length.trans (List.length_map ..)
       have isz : vs.isEmpty = true ↔ vs.size = 0 := Array.isEmpty_iff_size_eq_zero
       by_cases he : vs.isEmpty = true
       . refine wpAny_ite_true (decide_eq_true he) ?_
         have hL0 : L = [] := List.eq_nil_of_length_eq_zero (hvl.symm.trans (isz.mp he))
         exact wpAny_pure (hR _ _ T2.drop_key fun T' h => hj0 hL0 ▸ hjv T' h)
       . refine wpAny_ite_false (decide_eq_false he) ?_
         refine wpAny_bind (hj (Rm.under subArgs_weight subArgs_units) T2.inv (fun q => he (isz.mpr (by rw [q] at hvl; exact hvl))) hjv fun v s3 t3 r3 => ?_)
         exact wpAny_pure (hR _ _ (T2.trans t3).drop_key r3)
     show wpAny _ _ (if (d : Int).toNat < T.size then _ else _) _ _ _
     rw [Int.toNat_natCast]
     refine wpAny_if (fun hdb => ?_) fun hdb => ?_
     . rw [if_pos hdb] at hL
       refine wpAny_bind (show wpAny _ _ (reSlice T kind (d : Int).toNat T.size) _ _ _ from hs _ _ fun v t hv => ?_)
       refine wpAny_bind (push (hpl hL) (Tt.trans (Tr.tok Tt.inv t)) hv fun s' T' => ?_)
       exact fin s' (hL ▸ T')
     . rw [if_neg hdb, List.append_nil] at hL
       exact fin s (hL ▸ Tt)
end
theorem owner_pat : Manifest.owners.lookup (String.ofList ['n', 'r', 'e', 't', 't', 'a', 'P', '.', 'e', 'r'].reverse) = some Manifest.sig_re_Pattern := by kernel_rfl
theorem args_sub (a b c : Value) : argsOk "re.Pattern.sub" ⟨[a, b, c], []⟩ := by
 unfold argsOk; rw [signature?_of (id := "re.Pattern.sub") (n := ['b', 'u', 's']) (o := ['n', 'r', 'e', 't', 't', 'a', 'P', '.', 'e', 'r']) (by kernel_rfl) owner_pat]; kernel_rfl
theorem no_call_str : typeLookup (.type "str") "__call__" = pure none := by rw [typeLookup_type, builtinLookup_eq_fast]; kernel_rfl
theorem no_call_bytes : typeLookup (.type "bytes") "__call__" = pure none := by rw [typeLookup_type, builtinLookup_eq_fast]; kernel_rfl
section
variable {B : Base} {d : Nat} {E : EP} {H : AH}
noncomputable def subS (T : Array Nat) (nx : Nat -> Option (Nat × Nat)) (rep : Str) : List Str := subL T nx rep (T.size + 1) 0
open PySem.Builtin.Re in
theorem Call_sub {p : Addr} {code : Array Nat} {x rep : Str} {nx : Nat -> Option (Nat × Nat)} {Q : PQ} (P : PatAt B.g p code 0) (F : Finds code x.cps nx) (hsum : ((subS x.cps nx rep).map (·.length)).sum <= 16777216) (hlen : (subS x.cps nx rep).length <= sizeLine) (hx : x.length <= sizeLine)
   (hr : rep.cps.contains 92 = false) (q : Q (.str (Txt.join ⟨#[]⟩ (subS x.cps nx rep))) H) : CallV B (d + 2) E (.raw (.builtin "re.Pattern.sub")) [.raw (.ref p), .str rep, .str x] [] H Q := CallV.at fun A s R I vs r fv rf => by
 obtain ⟨a, b, c, rfl, r1, r2, r3⟩ := r.three
 obtain ⟨_, rfl⟩ := rf.inv; obtain ⟨_, rfl⟩ := r1.inv; obtain ⟨_, rfl⟩ := r2.inv; obtain ⟨_, rfl⟩ := r3.inv
 rename_i u t
 have P' := P.keeps I.keep
 have hT : s.TypeIs (.ref p) "re.Pattern" := P'.isType
 refine wpAny_call (codeAny_call_builtin slot_sub.plain entry_sub (slot_sub.check _ _ _ _ _ _ _ _ hT (args_sub _ _ _) ?_))
 unfold Builtin.«re.Pattern.sub» reSubstitute
 refine wpAny_bind (wpAny_pure (a := [some (Value.str rep u), some (Value.str x t), none]) ?_)
 refine wpAny_bind (wpAny_pure (a := (0 : Int)) ?_)
 refine wpAny_bind (wpAny_specialOf (T := "str") (typeIs_str _ _ _) no_call_str ?_)
 refine wpAny_bind (wpAny_pure (a := some rep) ?_)
 refine wpAny_bind (wpAny_pure (a := !rep.cps.contains 92) ?_)
 rw [hr]
 refine wpAny_bind (wpAny_pure (a := (Value.str rep u, (0 : Int))) ?_)
 refine wpAny_bind ?_
 show wpAny _ _ (reWholeTarget (.ref p) (.str x t)) _ _ _
 refine whole_str P' ?_
 refine wpAny_bind (wpAny_newList ?_ (Nat.zero_le _))
 refine wpAny_pure ⟨by kernel_rfl, ?_⟩
 have tr := Tr.track (vs := []) (xs := []) I .nil
 have hext : ∀ b e, (x.cps.extract b e).size <= sizeLine := fun b e => by rw [Array.size_extract]; exact ntr (Nat.sub_le _ _) (ntr (Nat.min_le_right _ _) hx)
 have ex : (⟨x.cps.extract 0 0⟩ : Str) = ⟨#[]⟩ := by simp
 refine sub_loop (pc := fun b e => (⟨x.cps.extract b e⟩ : Str)) (pv := PV.str) (J := .str (Txt.join ⟨#[]⟩ (subS x.cps nx rep))) (n := 0) (R.le (Nat.le_add_left 2 d)) P F whole_str rfl rfl (fun _ _ => .str _ _)
   (fun b e q => show wpAny _ _ (mkStr ⟨x.cps.extract b e⟩) _ _ _ from wpAny_mkStr (q _ _ fun _ _ => .str _ _) (hext b e)) (fun {A' E' s2 Q2 jv} Ra I2 hne hjv q2 => ?_) (fun h => ?_) hlen (fun s' v T hv => ⟨_, H, T, hv _ _, q⟩) (x.cps.size + 1) 0 [] _ (Nat.lt_succ_self _) (Nat.zero_le _) rfl tr
 . obtain ⟨_, rfl⟩ := (hjv (fun _ => False) s.heap).inv
   rw [ex]
   have cj : CallV B 1 E' (.raw (.builtin "str.join")) [.str ⟨#[]⟩, .lref s.heap.objs.size] [] ((s.heap.objs.size, (subS x.cps nx rep).map PV.str) :: H) fun v H' => v = .str (Txt.join ⟨#[]⟩ (subS x.cps nx rep)) /\ H' = (s.heap.objs.size, (subS x.cps nx rep).map PV.str) :: H :=
     Call_join (.inr (.lref mcs)) hsum ⟨rfl, rfl⟩
   refine wpAny_mono (cj _ _ Ra I2 _ _ _ (.raw _) (.cons (.str _ _) (.cons (.lref _) .nil)) ⟨.nil, rfl⟩) (fun r s3 hh1 => ?_) fun _ _ y => y
   obtain ⟨v, H3, t3, r3, e1, e2⟩ := hh1
   subst e1 e2
   obtain ⟨_, rfl⟩ := r3.inv
   exact q2 _ _ t3 fun _ _ => .str _ _
 . rw [h, ex]; rfl
end
theorem entry_bjoin : entryFor table "bytes.join" = some Builtin.«bytes.join» := entryFor_of_tree (by kernel_rfl)
theorem slot_bjoin : Slot "bytes" "join" "bytes.join" :=
 .of (owner := "bytes") (n := "join") (by rw [typeLookup_type, builtinLookup_eq_fast]; kernel_rfl) (by decide +kernel) (by decide +kernel) (by decide +kernel)
   (by first | exact .inl (by decide +kernel) | exact .inr (by decide +kernel)) (by rw [isSubtype_type]; kernel_rfl)
theorem owner_bytes' : Manifest.owners.lookup (String.ofList ['s', 'e', 't', 'y', 'b'].reverse) = some Manifest.sig_bytes := by kernel_rfl
theorem args_bjoin (a b : Value) : argsOk "bytes.join" ⟨[a, b], []⟩ := by
 unfold argsOk; rw [signature?_of (id := "bytes.join") (n := ['n', 'i', 'o', 'j']) (o := ['s', 'e', 't', 'y', 'b']) (by kernel_rfl) owner_bytes']; kernel_rfl
theorem take_quiet {b : Array UInt8} {t : Tok} {id : String} : Builtin.Bytes.takeBufferQuiet? id (.bytes b t) 0 = pure (some (b, none)) := by
 unfold Builtin.Bytes.takeBufferQuiet? Builtin.Bytes.takeBuffer?
 have e : ((0 : Int) == Builtin.Bytes.fullReadOnly) = false := by decide +kernel
 rw [KBy.special_eq KBy.look_buffer, KBy.own_buffer, e, KBy.buffer_eq]
 kernel_rfl
theorem joined_nil (l : List (Array UInt8)) : Builtin.Bytes.joined #[] l = l.foldl (· ++ ·) #[] := by
 unfold Builtin.Bytes.joined
 have : ∀ (l : List (Array UInt8)) (n : Nat) (acc : Array UInt8), (l.zipIdx n).foldl (fun out (x : Array UInt8 × Nat) => (if x.2 > 0 then out ++ #[] else out) ++ x.1) acc = l.foldl (· ++ ·) acc := by
   intro l
   induction l with
   | nil => intro n acc; rfl
   | cons b r ih =>
     intro n acc
     rw [List.zipIdx_cons, List.foldl_cons, List.foldl_cons, ih]
     congr 1
     split <;> simp
 exact this l 0 #[]
section
variable {prog : Program} {w : World} {A : Around} {E : EP} {s : Shared}
theorem joinLetGo_ok {M : Model} {Q : Unit -> Shared -> Prop} : ∀ (l : List (Value × Option Value)) (keep : List Value), (∀ p ∈ l, p.2 = none) -> Q () s -> wpAny M A (Builtin.Bytes.joinLetGo l keep) Q E s
 | [], keep, _, h => wpAny_pure h
 | (x, w) :: r, keep, hl, h => by
   have hw : w = none := hl _ mcs
   subst hw
   unfold Builtin.Bytes.joinLetGo
   exact wpAny_bind (wpAny_letGo (joinLetGo_ok r keep (fun p hp => hl p (mcm _ hp)) h))
theorem size_fold (l : List (Array UInt8)) : ∀ (acc : Array UInt8) (k : Nat), acc.size = k -> (l.foldl (· ++ ·) acc).size = l.foldl (fun k b => k + b.size) k := by
 induction l with
 | nil => exact fun O O e => e
 | cons b r ih => exact fun acc k e => ih _ _ (Array.size_append.trans (congrArg (· + b.size) e))
inductive BJ (bs : List (Array UInt8)) (n : Nat) (s : Shared) (rest : List Nat) (b : Array (Array UInt8) × List (Value × Option Value)) (s' : Shared) : Prop
 | mk (i : Nat) (h1 : rest = List.range' i (n - i) 1) (h2 : s' = s) (h3 : b.1.toList = bs.take i) (h4 : ∀ p ∈ b.2, p.2 = none) (h5 : (b.2.any fun x => x.1.onHeap) = false)
theorem BJ.next {bs : List (Array UInt8)} {n x : Nat} {rest : List Nat} {b : Array (Array UInt8) × List (Value × Option Value)} {s' : Shared} (hn : n = bs.length) (j : BJ bs n s (x :: rest) b s') : ∃ (i : Nat) (hi : i < bs.length), x = i /\ s' = s /\ (b.2.any fun x => x.1.onHeap) = false /\ ∀ u, BJ bs n s rest (b.1.push bs[i], b.2 ++ [(.bytes bs[i] u, none)]) s := by
 obtain ⟨i, h1, h2, h3, h4, h5⟩ := j
 have hi : i < n := by
   have := congrArg List.length h1
   rw [List.length_range', List.length_cons] at this
   exact Nat.lt_of_sub_pos (this ▸ Nat.succ_pos _)
 rw [show n - i = (n - (i + 1)) + 1 by lia, List.range'_succ] at h1
 have hi' : i < bs.length := hn ▸ hi
 refine ⟨i, hi', (List.cons.inj h1).1, h2, h5, fun u => ⟨i + 1, (List.cons.inj h1).2, rfl, ?_, fun p hp => (mpp hp).elim (h4 p) fun q => msp q ▸ rfl, ?_⟩⟩
 . rw [Array.toList_push, h3, List.take_succ_eq_append_getElem hi']
 . rw [List.any_append, h5]; rfl
theorem bjoin_ok {a : Addr} {vs : Array Value} {n : Nat} {bs : List (Array UInt8)} {t : Tok} {Q : Value -> Shared -> Prop} (ho : s.heap.get? a = some (lstObj vs n)) (hv : vs.size = bs.length) (hb : ∀ i (h : i < bs.length), ∃ u, vs[i]? = some (.bytes bs[i] u))
   (hne : bs ≠ []) (hsz : (bs.foldl (fun k b => k + b.size) 0) <= sizeLine) (h : ∀ u k, Q (.bytes (bs.foldl (· ++ ·) #[]) u) { s with toks := k }) : wpAny (model prog w) A (call (.builtin "bytes.join") [.bytes #[] t, .ref a]) Q E s := by
 refine wpAny_call (codeAny_call_builtin slot_bjoin.plain entry_bjoin (slot_bjoin.check _ _ _ _ _ _ _ _ rfl (args_bjoin _ _) ?_))
 unfold Builtin.«bytes.join» Builtin.Bytes.joinM
 refine wpAny_bind (wpAny_pure (a := (Value.bytes #[] t, Value.ref a)) ?_)
 refine wpAny_bind (wpAny_bind (wpAny_typeOf ⟨_, ho, rfl⟩ (wpAny_pure ?_)))
 refine wpAny_bind (wpAny_seqItems ho rfl ?_)
 obtain ⟨l⟩ := vs
 rcases l with _ | ⟨x, _ | ⟨y, r⟩⟩
 . exact absurd (List.eq_nil_of_length_eq_zero hv.symm) hne
 . obtain ⟨b, rfl⟩ := List.length_eq_one_iff.mp hv.symm
   obtain ⟨u, hu⟩ := hb 0 Nat.one_pos
   cases (Option.some.inj hu : x = .bytes b u)
   refine wpAny_bind (wpAny_of_eq (a := Value.type "bytes") rfl ?_)
   refine wpAny_bind (wpAny_rule (wpAny_pure ?_))
   have h9 := h u s.toks
   rw [List.foldl_cons, List.foldl_nil, Array.empty_append] at h9
   exact h9
 . refine wpAny_bind ?_
   rw [Std.Legacy.Range.forIn_eq_forIn_range']
   generalize hvs : (⟨x :: y :: r⟩ : Array Value) = vs at *
   refine wpAny_mono (wpAny_forIn_list _ (BJ bs vs.size s) (fun b s' => s' = s /\ b.1.toList = bs /\ ∀ p ∈ b.2, p.2 = none) (fun x rest b s' hs => ?_) (fun b s' hs => ?_) _ _ ?_) (fun b s' hs => ?_) fun O O y => y
   . obtain ⟨i, hi, e1, e2, hnone, nx⟩ := hs.next hv
     subst e1; subst e2
     obtain ⟨u, hu⟩ := hb x hi
     have hget : vs.getD x .none = .bytes bs[x] u := by rw [Array.getD_eq_getD_getElem?, hu]; rfl
     refine wpAny_bind (wpAny_seqItems ho rfl ?_)
     refine wpAny_no (c := (false || b.2.any fun x => x.1.onHeap) = true) (by rw [hnone]; exact Bool.false_ne_true) ?_
     refine wpAny_bind (wpAny_holding (wpAny_of_eq (a := some (bs[x], none)) (hget ▸ take_quiet) ?_))
     refine wpAny_bind (wpAny_seqItems ho rfl ?_)
     refine wpAny_no (c := (vs.size != vs.size) = true) (by rw [bne_self_eq_false]; exact Bool.false_ne_true) ?_
     exact wpAny_pure (hget.symm ▸ nx u)
   . obtain ⟨i, h1, h2, h3, h4, h5⟩ := hs
     have : vs.size - i = 0 := (List.length_range' ▸ congrArg List.length h1).symm
     exact ⟨h2, h3.trans (List.take_of_length_le (hv ▸ Nat.le_of_sub_eq_zero this)), h4⟩
   . exact ⟨0, by simp [Std.Legacy.Range.size], rfl, rfl, (fun O h => nomatch h), rfl⟩
   . obtain ⟨e, h2, h3⟩ := hs
     subst e
     refine wpAny_bind (wpAny_pure (a := #[]) ?_)
     refine wpAny_no (c := Builtin.Bytes.tooLong (Array.foldl (fun x1 (x2 : Array UInt8) => x1 + x2.size) (0 * (b.1.size - 1)) b.1) = true) ?_ ?_
     . rw [Nat.zero_mul, <- Array.foldl_toList, h2]
       unfold Builtin.Bytes.tooLong
       exact fun e => absurd (of_decide_eq_true e) (nlr hsz)
     refine wpAny_bind (wpAny_mkBytes (b := Builtin.Bytes.joined #[] b.1.toList) ?_ ?_)
     . refine wpAny_bind (wpAny_holding (wpAny_point (wpAny_bind (joinLetGo_ok _ _ h3 (wpAny_pure ?_)))))
       rw [joined_nil, h2]
       exact h _ _
     . rw [joined_nil, h2, size_fold bs #[] 0 rfl]
       exact hsz
end
noncomputable abbrev nats (b : Array UInt8) : Array Nat := b.map (·.toNat)
noncomputable abbrev byts (b : Array Nat) : Array UInt8 := b.map (·.toUInt8)
noncomputable abbrev subB (T : Array Nat) (nx : Nat -> Option (Nat × Nat)) (rep : Array UInt8) : Nat -> Nat -> List (Array UInt8) := subG (fun b e => byts (T.extract b e)) T.size nx rep
section
variable {M : Model} {A : Around} {E : EP} {s : Shared} {p : Addr} {code : Array Nat}
open PySem.Builtin.Re in
theorem text_bytes {b : Array UInt8} {t : Tok} : reTextOf (.bytes b t) = pure (nats b, 1) := by
 unfold reTextOf
 have e : asStr? (.bytes b t) = pure none := rfl
 rw [e, KBy.quiet_eq]
 rfl
open PySem.Builtin.Re in
theorem nocoll_bytes {b : Array UInt8} {t : Tok} : reNoCollectionInside (.bytes b t) 1 = pure () := by
 unfold reNoCollectionInside
 rw [KBy.isInstance_eq]
 rfl
open PySem.Builtin.Re in
theorem noturn_bytes {b : Array UInt8} {t : Tok} : reLiteralCannotBeTurned (.bytes b t) = pure () := by
 unfold reLiteralCannotBeTurned
 have e : asStr? (.bytes b t) = pure none := rfl
 rw [e, KBy.isInstance_eq]
 rfl
open PySem.Builtin.Re in
theorem whole_bytes {x : Array UInt8} {t : Tok} {Q : ReTarget -> Shared -> Prop} (P : PatAt s.heap p code 1) (h : Q { pattern := .ref p, string := .bytes x t, code := code, text := nats x, kind := 1, groups := 0, pos := 0, lim := (nats x).size } s) :
   wpAny M A (reWholeTarget (.ref p) (.bytes x t)) Q E s := by
 obtain ⟨od, fs, osl, c, oc, items, n, h1, h2, h3, h4, h5, h6, h7, h8⟩ := P
 unfold reWholeTarget
 have e1 : fieldsOf (.ref p) = (do match (<- load p).data with | .fields vs => pure vs | _ => unsupported "internal:no-fields") := rfl
 rw [e1]
 refine wpAny_bind (wpAny_bind (wpAny_load h1 (wpAny_pure ?_)))
 rw [text_bytes]
 refine wpAny_bind (wpAny_pure ?_)
 have h3' : reRawNat (fs.getD 6 .none) = 1 := h3
 have h4' : reRawNat (fs.getD 2 .none) = 0 := h4
 simp only [h3', h4', h5, nocoll_bytes]
 show wpAny M A (do
   let items <- reRawItems (.ref c)
   pure { pattern := .ref p, string := .bytes x t, code := items.map (·.toNat), text := nats x, kind := 1, groups := 0, pos := 0, lim := (nats x).size }) Q E s
 refine wpAny_bind (wpAny_bind (wpAny_seqItems h6 h7 (wpAny_pure (wpAny_pure ?_))))
 rw [show (((some items).getD #[]).map reRawOf).map (·.toNat) = code from h8]
 exact h
end
section
variable {B : Base} {d : Nat} {H : AH}
noncomputable def subBs (T : Array Nat) (nx : Nat -> Option (Nat × Nat)) (rep : Array UInt8) : List (Array UInt8) := subB T nx rep (T.size + 1) 0
open PySem.Builtin.Re in
theorem Call_subB {E : EP} {p : Addr} {code : Array Nat} {x rep : Array UInt8} {nx : Nat -> Option (Nat × Nat)} {Q : PQ} (P : PatAt B.g p code 1) (F : Finds code (nats x) nx) (hsum : ((subBs (nats x) nx rep).foldl (fun k b => k + b.size) 0) <= sizeLine) (hlen : (subBs (nats x) nx rep).length <= sizeLine) (hx : x.size <= sizeLine)
   (hr : rep.contains 92 = false) (q : Q (.bytes ((subBs (nats x) nx rep).foldl (· ++ ·) #[])) H) : CallV B (d + 2) E (.raw (.builtin "re.Pattern.sub")) [.raw (.ref p), .bytes rep, .bytes x] [] H Q := CallV.at fun A s R I vs r fv rf => by
 obtain ⟨a, b, c, rfl, r1, r2, r3⟩ := r.three
 obtain ⟨_, rfl⟩ := rf.inv; obtain ⟨_, rfl⟩ := r1.inv; obtain ⟨_, rfl⟩ := r2.inv; obtain ⟨_, rfl⟩ := r3.inv
 rename_i u t
 have P' := P.keeps I.keep
 have hT : s.TypeIs (.ref p) "re.Pattern" := P'.isType
 refine wpAny_call (codeAny_call_builtin slot_sub.plain entry_sub (slot_sub.check _ _ _ _ _ _ _ _ hT (args_sub _ _ _) ?_))
 unfold Builtin.«re.Pattern.sub» reSubstitute
 refine wpAny_bind (wpAny_pure (a := [some (Value.bytes rep u), some (Value.bytes x t), none]) ?_)
 refine wpAny_bind (wpAny_pure (a := (0 : Int)) ?_)
 refine wpAny_bind (wpAny_specialOf (T := "bytes") rfl no_call_bytes ?_)
 refine wpAny_bind (wpAny_pure (a := (none : Option Str)) ?_)
 refine wpAny_bind (wpAny_of_eq KBy.quiet_eq ?_)
 refine wpAny_bind (wpAny_pure (a := !rep.contains 92) ?_)
 rw [hr]
 refine wpAny_bind (wpAny_pure (a := (Value.bytes rep u, (0 : Int))) ?_)
 refine wpAny_bind ?_
 show wpAny _ _ (reWholeTarget (.ref p) (.bytes x t)) _ _ _
 refine whole_bytes P' ?_
 refine wpAny_bind (wpAny_newList ?_ (Nat.zero_le _))
 refine wpAny_pure ⟨by kernel_rfl, ?_⟩
 have tr := Tr.track (vs := []) (xs := []) I .nil
 have hxs : (nats x).size = x.size := Array.size_map
 have hext : ∀ b e, (byts ((nats x).extract b e)).size <= sizeLine := fun b e => by rw [Array.size_map, Array.size_extract]; exact ntr (Nat.sub_le _ _) (ntr (Nat.min_le_right _ _) (hxs ▸ hx))
 have ex : byts ((nats x).extract 0 0) = #[] := by simp
 refine sub_loop (pc := fun b e => byts ((nats x).extract b e)) (pv := PV.bytes) (J := .bytes ((subBs (nats x) nx rep).foldl (· ++ ·) #[])) (n := 0) (R.le (Nat.le_add_left 2 d)) P F whole_bytes noturn_bytes rfl (fun _ _ => .bytes _ _)
   (fun b e q => show wpAny _ _ (mkBytes (byts ((nats x).extract b e))) _ _ _ from wpAny_mkBytes (q _ _ fun _ _ => .bytes _ _) (hext b e)) (fun {A' E' s2 Q2 jv} Ra I2 hne hjv q2 => ?_) (fun h => ?_) hlen (fun s' v T hv => ⟨_, H, T, hv _ _, q⟩) ((nats x).size + 1) 0 [] _ (Nat.lt_succ_self _) (Nat.zero_le _) rfl tr
 . obtain ⟨_, rfl⟩ := (hjv (fun _ => False) s.heap).inv
   rw [ex]
   obtain ⟨hg, vs, nn, ho, hv⟩ := I2.objs _ mcs
   have hvl : vs.size = (subBs (nats x) nx rep).length := hv.length.trans (List.length_map ..)
   refine bjoin_ok (bs := subBs (nats x) nx rep) ho hvl (fun i hi => ?_) hne hsum fun u' k' => q2 _ _ (Tr.tok I2 k') fun _ _ => .bytes _ _
   obtain ⟨v, h1, h2⟩ := hv.get (i := i) (p := .bytes (subBs (nats x) nx rep)[i]) (by rw [List.getElem?_map, List.getElem?_eq_getElem hi]; rfl)
   obtain ⟨_, rfl⟩ := h2.inv
   exact ⟨_, by rw [<- Array.getElem?_toList]; exact h1⟩
 . rw [h, ex]; rfl
end
section
open PySem.Builtin PySem.Builtin._codecs
theorem encode_two (x : PySem.Str) (t u : Tok) : Builtin.«str.encode» ⟨[.str x t, .str (Str.ofString "ascii") u], []⟩ = (do ret (<- encodeRoad "str.encode" (.str x t) x (Str.ofString "ascii") none)) := by kernel_rfl
theorem road_ascii (id : String) (self : Value) (x : PySem.Str) : encodeRoad id self x (Str.ofString "ascii") none = (do mkBytes (<- encodeNarrow id asciiCodec none self x)) := by kernel_rfl
theorem droad_ascii {id : String} {b : Array UInt8} : decodeRoad id b (Str.ofString "ascii") none [] = (runDecoder id asciiDecoder none true b 0 [] >>= fun r => mkStr ⟨r.1⟩) := by kernel_rfl
end
section
variable {M : Model} {A : Around} {E : EP} {s : Shared}
open PySem.Builtin._codecs in
theorem narrow_ascii {id : String} {self : Value} {x : Str} {Q : Array UInt8 -> Shared -> Prop} (hx : ∀ c ∈ x.cps.toList, c < 128) (hl : x.length <= sizeLine) (h : Q (byts x.cps) s) : wpAny M A (encodeNarrow id asciiCodec none self x) Q E s := by
 unfold encodeNarrow
 refine wpAny_bind ?_
 rw [Std.Legacy.Range.forIn_eq_forIn_range']
 have hbad : ∀ i c, x.cps[i]? = some c -> asciiCodec.bad c = false := fun i c e => by
   have : c < 128 := hx c (by rw [<- Array.getElem?_toList] at e; exact List.mem_of_getElem? e)
   show decide (c ≥ 128) = false
   exact decide_eq_false (by lia)
 have hfold : ∀ (l : List Nat) (acc : Array UInt8), l.foldl (fun acc y => acc ++ (asciiCodec.bytesOf y).toArray) acc = acc ++ (l.map (·.toUInt8)).toArray := by
   intro l
   induction l with
   | nil => intro acc; simp
   | cons c r ih =>
     intro acc
     rw [List.foldl_cons, ih]
     show (acc ++ #[c.toUInt8]) ++ _ = _
     simp
 have hout : Array.foldl (fun acc y => acc ++ (asciiCodec.bytesOf y).toArray) #[] x.cps = byts x.cps := by
   rw [<- Array.foldl_toList, hfold]
   simp [byts]
   apply Array.ext'
   simp
 refine wpAny_mono (wpAny_forIn_list _ (fun rest (b : Nat × Array UInt8 × Faults) s' => s' = s /\ ((b.1 = 0 /\ b.2.1 = #[] /\ rest.length = x.length) \/ (b.1 = x.length /\ b.2.1 = byts x.cps)))
   (fun b s' => s' = s /\ b.2.1 = byts x.cps) (fun y rest b s' hs => ?_) (fun b s' hs => ?_) _ _ ?_) (fun b s' hs => ?_) fun O O y => y
 . obtain ⟨i, out, st⟩ := b
   obtain ⟨rfl, ⟨h1, h2, h3⟩ | ⟨h1, h2⟩⟩ := hs
   . simp only at h1 h2
     subst h1 h2
     have hp : 0 < x.cps.size := by
       have : x.length = x.cps.size := rfl
       simp at h3; lia
     show wpAny M A (if (#[] : Array UInt8).size > sizeLine then _ else _) _ _ _
     rw [if_neg (by rw [sizeLine_eq]; decide)]
     show wpAny M A (match x.cps[0]? with | some x_2 => _ | x => _) _ _ _
     rw [Array.getElem?_eq_getElem hp]
     show wpAny M A (if (!asciiCodec.bad x.cps[0]) = true then _ else _) _ _ _
     rw [hbad 0 _ (Array.getElem?_eq_getElem hp)]
     rw [if_pos (by rfl)]
     have hfi : Array.findIdx? asciiCodec.bad (x.cps.extract 0) = none := by
       rw [Array.findIdx?_eq_none_iff]
       intro c hc
       rw [Array.extract_size] at hc
       obtain ⟨k, hk⟩ := Array.getElem?_of_mem hc
       exact hbad k c hk
     refine wpAny_pure ⟨rfl, .inr ⟨?_, ?_⟩⟩
     . show 0 + (Array.findIdx? asciiCodec.bad (x.cps.extract 0)).getD (x.cps.extract 0).size = _
       rw [hfi]; simp; rfl
     . show Array.foldl (fun acc y => acc ++ (asciiCodec.bytesOf y).toArray) #[] ((x.cps.extract 0).extract 0 ((Array.findIdx? asciiCodec.bad (x.cps.extract 0)).getD (x.cps.extract 0).size)) = _
       rw [hfi]
       simp only [Option.getD_none, Array.extract_size]
       exact hout
   . simp only at h1 h2
     subst h1 h2
     have hsz : (byts x.cps).size = x.length := by simp; rfl
     show wpAny M A (if (byts x.cps).size > sizeLine then _ else _) _ _ _
     rw [if_neg (by lia)]
     show wpAny M A (match x.cps[x.length]? with | some x_2 => _ | x => _) _ _ _
     rw [show x.cps[x.length]? = none from Array.getElem?_eq_none (Nat.le_refl _)]
     exact wpAny_pure ⟨rfl, rfl⟩
 . obtain ⟨i, out, st⟩ := b
   obtain ⟨rfl, ⟨h1, h2, h3⟩ | ⟨h1, h2⟩⟩ := hs
   . refine ⟨rfl, ?_⟩
     have : x.cps.size = 0 := h3.symm
     simp only at h2 ⊢
     rw [h2]
     have : x.cps = #[] := Array.eq_empty_of_size_eq_zero this
     rw [this]; simp
   . exact ⟨rfl, h2⟩
 . exact ⟨rfl, .inl ⟨rfl, rfl, by simp [Std.Legacy.Range.size]⟩⟩
 . obtain ⟨rfl, h2⟩ := hs
   refine wpAny_pure ?_
   rw [h2]; exact h
open PySem.Builtin.Bytes in
theorem decode_run {id : String} {b : Array UInt8} {Q : Array Nat × Nat -> Shared -> Prop} (hb : ∀ c ∈ b.toList, c.toNat < 128) (hl : b.size <= sizeLine) (h : Q (nats b, b.size) s) : wpAny M A (Builtin._codecs.runDecoder id Builtin._codecs.asciiDecoder none true b 0 []) Q E s := by
 unfold Builtin._codecs.runDecoder
 refine wpAny_bind ?_
 rw [Std.Legacy.Range.forIn_eq_forIn_range']
 refine wpAny_mono (wpAny_forIn_list _ (fun rest (st : Nat × Array Nat × Builtin._codecs.Faults) s' => s' = s /\ st.1 <= b.size /\ rest.length = b.size - st.1 /\ st.2.1.toList = (nats b).toList.take st.1)
   (fun st s' => s' = s /\ st.1 = b.size /\ st.2.1 = nats b) (fun y rest st s' hs => ?_) (fun st s' hs => ?_) _ _ ?_) (fun st s' hs => ?_) fun O O y => y
 . obtain ⟨p, out, st⟩ := st
   obtain ⟨rfl, h1, h2, h3⟩ := hs
   simp only at h1 h2 h3
   have hp : p < b.size := by simp at h2; lia
   have hos : out.size <= sizeLine := by
     have := congrArg List.length h3
     simp at this; lia
   show wpAny M A (if out.size > sizeLine then _ else _) _ _ _
   rw [if_neg (by lia)]
   show wpAny M A (if p ≥ b.size then _ else _) _ _ _
   rw [if_neg (by lia)]
   have hg : b.getD p 0 = b[p] := by simp [Array.getD, hp]
   have hc : (b.getD p 0).toNat < 128 := by rw [hg]; exact hb _ (by simp)
   have hf : Builtin._codecs.asciiDecoder.find true b p = .text [(b.getD p 0).toNat] (p + 1) := by
     show (if (b.getD p 0).toNat < 128 then _ else _) = _
     rw [if_pos hc]; rfl
   rw [hf]
   refine wpAny_pure ⟨rfl, by show p + 1 <= _; lia, by show rest.length = b.size - (p + 1); simp at h2; lia, ?_⟩
   show (out ++ [(b.getD p 0).toNat].toArray).toList = _
   rw [Array.toList_append, h3, hg, List.take_succ_eq_append_getElem (by simpa using hp)]
   simp
 . obtain ⟨p, out, st⟩ := st
   obtain ⟨rfl, h1, h2, h3⟩ := hs
   have hp : p = b.size := by simp at h2; lia
   subst hp
   refine ⟨rfl, rfl, ?_⟩
   apply Array.ext'
   simp only at h3 ⊢
   rw [h3, List.take_of_length_le (by simp)]
 . exact ⟨rfl, Nat.zero_le _, by simp [Std.Legacy.Range.size], rfl⟩
 . obtain ⟨rfl, h1, h2⟩ := hs
   refine wpAny_pure ?_
   rw [h1, h2]; exact h
end
section
variable {B : Base} {d : Nat} {E : EP} {H : AH}
theorem Call_encode {x : Str} {Q : PQ} (hx : ∀ c ∈ x.cps.toList, c < 128) (hl : x.length <= sizeLine) (q : Q (.bytes (byts x.cps)) H) : CallV B d E (.raw (.builtin "str.encode")) [.str x, .str (Str.ofString "ascii")] [] H Q := CallV.at fun A s R I vs r fv rf => by
 obtain ⟨a, b, rfl, r1, r2⟩ := r.two
 obtain ⟨O, rfl⟩ := rf.inv; obtain ⟨O, rfl⟩ := r1.inv; obtain ⟨O, rfl⟩ := r2.inv
 refine wpAny_call_entry PySem.F.slot_str_encode (typeIs_str _ _ _) PySem.F.entry_str_encode ?_ (PySem.F.args_str_encode_2 _ _)
 rw [encode_two, road_ascii]
 refine wpAny_bind (wpAny_bind (narrow_ascii hx hl (wpAny_mkBytes ?_ (by simp; exact hl))))
 exact wpAny_pure ⟨_, rfl, ⟨_, H, Tr.tok I _, .bytes _ _, q⟩⟩
theorem Meth_decode {b : Array UInt8} : MethAt B H "decode" "bytes.decode" (.bytes b) := fun A E s va I r pl Q q => by
 obtain ⟨O, rfl⟩ := r.inv; exact KBd.method q
theorem args_bytes_decode_2 (a b : Value) : argsOk "bytes.decode" ⟨[a, b], []⟩ := by
 unfold argsOk; rw [signature?_of (id := "bytes.decode") (n := ['e', 'd', 'o', 'c', 'e', 'd']) (o := ['s', 'e', 't', 'y', 'b']) (by kernel_rfl) owner_bytes']; kernel_rfl
theorem dentry_eq {c : UInt8} {cs : List UInt8} {t u : Tok} : Builtin.«bytes.decode» ⟨[.bytes (c :: cs).toArray t, .str (Str.ofString "ascii") u], []⟩ = (mkStr (Str.ofString "utf-8") >>= fun O => mkStr (Str.ofString "ascii") >>= fun e => mkStr (Str.ofString "bytes.decode") >>= fun d =>
   call (.builtin "_codecs.decode.text") [.bytes (c :: cs).toArray t, e, .none, d] >>= fun v => ret v) := by kernel_rfl
theorem meets_text_ascii {b : Array UInt8} {t t1 t2 : Tok} {d : Str} (hb : ∀ c ∈ b.toList, c.toNat < 128) :
   Meets (Builtin.«_codecs.decode.text» ⟨[.bytes b t, .str (Str.ofString "ascii") t1, .none, .str d t2], []⟩) (fun O R s => b.size <= sizeLine /\ R (.ok (.ret (.str ⟨nats b⟩ s.toks))) { s with toks := s.toks + 1 }) := by
 refine .of_wp fun prog w A R s hS => ?_
 obtain ⟨hsz, h⟩ := hS
 show wpAny _ _ (Builtin.Bytes.bytesLike _ (.bytes b t) >>= fun r => _) _ _ s
 refine wpAny_bind (wpAny_of_eq KBd.like_eq ?_)
 refine wpAny_bind (wpAny_of_eq KBd.held_eq ?_)
 show wpAny _ _ (Builtin._codecs.decodeRoad _ b (Str.ofString "ascii") none [] >>= fun v => _) _ _ s
 rw [droad_ascii]
 refine wpAny_bind (wpAny_bind (decode_run hb hsz ?_))
 exact wpAny_mkStr (wpAny_pure ⟨_, rfl, h⟩) (by show (nats b).size <= _; simpa using hsz)
theorem Call_decode {b : Array UInt8} {Q : PQ} (hb : ∀ c ∈ b.toList, c.toNat < 128) (hne : b ≠ #[]) (hl : b.size <= sizeLine) (q : Q (.str ⟨nats b⟩) H) : CallV B d E (.raw (.builtin "bytes.decode")) [.bytes b, .str (Str.ofString "ascii")] [] H Q := CallV.at fun A s R I vs r fv rf => by
 obtain ⟨a, e, rfl, r1, r2⟩ := r.two
 obtain ⟨O, rfl⟩ := rf.inv; obtain ⟨O, rfl⟩ := r1.inv; obtain ⟨O, rfl⟩ := r2.inv
 obtain ⟨l⟩ := b
 cases l with
 | nil => exact absurd rfl hne
 | cons c cs =>
   refine wpAny_call_entry FB.slot_bytes_decode (typeIs_bytes _ _ _) FB.entry_bytes_decode ?_ (args_bytes_decode_2 _ _)
   show wpAny _ _ (Builtin.«bytes.decode» ⟨[.bytes (c :: cs).toArray _, .str (Str.ofString "ascii") _], []⟩) _ _ _
   rw [dentry_eq]
   refine wpAny_bind (wpAny_mkStr ?_ (by rw [sizeLine_eq]; decide))
   refine wpAny_bind (wpAny_mkStr ?_ (by rw [sizeLine_eq]; decide))
   refine wpAny_bind (wpAny_mkStr ?_ (by rw [sizeLine_eq]; decide))
   refine wpAny_bind (call_function_meets KBd.kind_text KBd.plain_text KBd.entry_text (KBd.args_text _ _ _ _) (meets_text_ascii hb) ⟨hl, wpAny_pure ⟨_, rfl, ?_⟩⟩)
   exact ⟨_, H, Tr.tok I _, .str _ _, q⟩
end
noncomputable def eols : List Nat -> List Nat
 | [] => []
 | 13 :: 10 :: r => 13 :: 10 :: eols r
 | c :: r => if c = 10 \/ c = 13 then 13 :: 10 :: eols r else c :: eols r
noncomputable def dots : Bool -> List Nat -> List Nat
 | _, [] => []
 | b, c :: r => if b = true /\ c = 46 then 46 :: 46 :: dots false r else c :: dots (c == 10) r
theorem eols_len : ∀ l, (eols l).length <= 2 * l.length
 | [] => by simp [eols]
 | 13 :: 10 :: r => by rw [eols]; have := eols_len r; simp only [List.length_cons]; lia
 | c :: r => by
   rw [eols.eq_def]
   split
   . rename_i h; cases h
   . rename_i r' h; cases h; have := eols_len r'; simp only [List.length_cons]; lia
   . rename_i c' r' _ h; cases h
     have := eols_len r
     split <;> simp only [List.length_cons] <;> lia
theorem dots_len : ∀ b l, (dots b l).length <= 2 * l.length
 | b, [] => by simp [dots]
 | b, c :: r => by
   rw [dots]
   split
   . have := dots_len false r; simp only [List.length_cons]; lia
   . have := dots_len (c == 10) r; simp only [List.length_cons]; lia
section
variable {T : Array Nat}
noncomputable abbrev from_ (T : Array Nat) (d : Nat) : List Nat := T.toList.drop d
theorem from_cons {d : Nat} (h : d < T.size) : from_ T d = T.getD d 0 :: from_ T (d + 1) := by
 show T.toList.drop d = _
 rw [List.drop_eq_getElem_cons (by simpa using h)]
 congr 1
 simp [Array.getD, h]
theorem from_nil {d : Nat} (h : T.size <= d) : from_ T d = [] := List.drop_of_length_le (by simpa using h)
theorem ext_cons {s e : Nat} (h : s < e) (he : e <= T.size) : (T.extract s e).toList = T.getD s 0 :: (T.extract (s + 1) e).toList := by
 rw [Array.toList_extract, Array.toList_extract, List.extract_eq_take_drop, List.extract_eq_take_drop]
 rw [List.drop_eq_getElem_cons (by simp; lia), show e - s = (e - (s + 1)) + 1 by lia, List.take_succ_cons]
 congr 1
 simp [Array.getD, show s < T.size by lia]
theorem ext_nil {s : Nat} : (T.extract s s).toList = [] := by simp
theorem ext_all {s : Nat} : (T.extract s T.size).toList = from_ T s := by
 rw [Array.toList_extract, List.extract_eq_take_drop]
 exact List.take_of_length_le (by simp)
theorem eols_not {c : Nat} {r : List Nat} (h : ¬ (c = 10 \/ c = 13)) : eols (c :: r) = c :: eols r := by
 rw [eols.eq_def]
 split
 . rename_i h'; cases h'
 . rename_i h'; cases h'; exact absurd (.inr rfl) h
 . rename_i c' r' _ h'; cases h'; rw [if_neg h]
theorem eols_ten {r : List Nat} : eols (10 :: r) = 13 :: 10 :: eols r := by
 rw [eols.eq_def]
 split
 . rename_i h'; cases h'
 . rename_i h'; cases h'
 . rename_i c' r' _ h'; cases h'; rw [if_pos (.inl rfl)]
theorem eols_ret {r : List Nat} (h : ∀ r', r ≠ 10 :: r') : eols (13 :: r) = 13 :: 10 :: eols r := by
 rw [eols.eq_def]
 split
 . rename_i h'; cases h'
 . rename_i h'; cases h'; exact absurd rfl (h _)
 . rename_i c' r' _ h'; cases h'; rw [if_pos (.inr rfl)]
theorem eols_hit {s : Nat} (hs : s < T.size) (hh : Rx.hit3 T s = true) : eols (from_ T s) = 13 :: 10 :: eols (from_ T (Rx.end3 T s)) := by
 rw [from_cons hs]
 unfold Rx.end3
 by_cases hc : Rx.crlfAt T s = true
 . rw [if_pos hc]
   unfold Rx.crlfAt at hc
   simp only [Bool.and_eq_true, decide_eq_true_eq, beq_iff_eq] at hc
   obtain ⟨⟨h1, h2⟩, h3⟩ := hc
   rw [from_cons h2, h1, h3]
   rfl
 . rw [if_neg hc]
   unfold Rx.hit3 at hh
   simp only [Bool.or_eq_true, beq_iff_eq] at hh
   rcases hh with h | h
   . rw [h, eols_ten]
   . rw [h, eols_ret]
     intro r' e
     by_cases h2 : s + 1 < T.size
     . rw [from_cons h2] at e
       injection e with e1 e2
       apply hc
       unfold Rx.crlfAt
       rw [h, e1, decide_eq_true h2]; rfl
     . rw [from_nil (by lia)] at e; cases e
theorem nx3_eols : ∀ (k s : Nat), s + k = T.size -> match Rx.nx3 T k s with
   | some (b, e) => s <= b /\ b < e /\ e <= T.size /\ eols (from_ T s) = (T.extract s b).toList ++ 13 :: 10 :: eols (from_ T e)
   | none => eols (from_ T s) = from_ T s
 | 0, s, h => by
   show eols _ = _
   rw [from_nil (by lia)]; rfl
 | k + 1, s, h => by
   have hs : s < T.size := by lia
   unfold Rx.nx3
   by_cases hh : Rx.hit3 T s = true
   . rw [if_pos hh]
     refine ⟨Nat.le_refl _, ?_, ?_, ?_⟩
     . unfold Rx.end3; split <;> lia
     . have := @nx3_ok T (k + 1) s s (Rx.end3 T s) h (by unfold Rx.nx3; rw [if_pos hh])
       lia
     . rw [ext_nil]; exact eols_hit hs hh
   . rw [if_neg hh]
     have ih := nx3_eols k (s + 1) (by lia)
     have hn : eols (from_ T s) = T.getD s 0 :: eols (from_ T (s + 1)) := by
       rw [from_cons hs, eols_not]
       intro q; apply hh
       unfold Rx.hit3
       simpa using q
     cases hx : Rx.nx3 T k (s + 1) with
     | some p =>
       obtain ⟨b, e⟩ := p
       rw [hx] at ih
       obtain ⟨i1, i2, i3, i4⟩ := ih
       exact ⟨by lia, i2, i3, by rw [hn, i4, ext_cons (s := s) (e := b) (by lia) (by lia)]; rfl⟩
     | none =>
       rw [hx] at ih
       show eols _ = _
       have ih' : eols (from_ T (s + 1)) = from_ T (s + 1) := ih
       rw [hn, ih', <- from_cons hs]
noncomputable def begins (T : Array Nat) (s : Nat) : Bool := s == 0 || T.getD (s - 1) 0 == 10
theorem nx1_dots : ∀ (k s : Nat), s + k = T.size -> match Rx.nx1 T k s with
   | some (b, e) => s <= b /\ b < e /\ e <= T.size /\ dots (begins T s) (from_ T s) = (T.extract s b).toList ++ 46 :: 46 :: dots (begins T e) (from_ T e)
   | none => dots (begins T s) (from_ T s) = from_ T s
 | 0, s, h => by
   show dots _ _ = _
   rw [from_nil (by lia)]; rfl
 | k + 1, s, h => by
   have hs : s < T.size := by lia
   have hb1 : begins T (s + 1) = (T.getD s 0 == 10) := by
     unfold begins
     simp
   unfold Rx.nx1
   by_cases hh : Rx.hit1 T s = true
   . rw [if_pos hh]
     unfold Rx.hit1 at hh
     simp only [Bool.and_eq_true, beq_iff_eq] at hh
     obtain ⟨⟨h1, h2⟩, h3⟩ := hh
     refine ⟨Nat.le_refl _, by lia, by lia, ?_⟩
     rw [ext_nil, from_cons hs, hb1, h3, dots, if_pos ⟨h1, rfl⟩]
     rfl
   . rw [if_neg hh]
     have ih := nx1_dots k (s + 1) (by lia)
     have hn : dots (begins T s) (from_ T s) = T.getD s 0 :: dots (begins T (s + 1)) (from_ T (s + 1)) := by
       rw [from_cons hs, dots, if_neg, hb1]
       rintro ⟨q1, q2⟩
       apply hh
       unfold Rx.hit1
       rw [show (s == 0 || T.getD (s - 1) 0 == 10) = true from q1, decide_eq_true hs, q2]; rfl
     cases hx : Rx.nx1 T k (s + 1) with
     | some p =>
       obtain ⟨b, e⟩ := p
       rw [hx] at ih
       obtain ⟨i1, i2, i3, i4⟩ := ih
       exact ⟨by lia, i2, i3, by rw [hn, i4, ext_cons (s := s) (e := b) (by lia) (by lia)]; rfl⟩
     | none =>
       rw [hx] at ih
       have ih' : dots (begins T (s + 1)) (from_ T (s + 1)) = from_ T (s + 1) := ih
       show dots _ _ = _
       rw [hn, ih', <- from_cons hs]
noncomputable def Subst (T : Array Nat) (nx : Nat -> Option (Nat × Nat)) (rl : List Nat) (F : Nat -> List Nat) : Prop :=
 ∀ d, d <= T.size -> match nx d with
   | some (b, e) => d <= b /\ b < e /\ e <= T.size /\ F d = (T.extract d b).toList ++ rl ++ F e
   | none => F d = from_ T d
theorem subst_eols : Subst T (nxC T) [13, 10] fun d => eols (from_ T d) := fun d hd => by
 have := nx3_eols (T := T) (T.size - d) d (by lia)
 unfold nxC
 rw [if_pos hd]
 cases h : Rx.nx3 T (T.size - d) d with
 | some p => rw [h] at this; obtain ⟨a, b, c, e⟩ := this; exact ⟨a, b, c, by simpa using e⟩
 | none => rw [h] at this; exact this
theorem subst_dots : Subst T (nxA T) [46, 46] fun d => dots (begins T d) (from_ T d) := fun d hd => by
 have := nx1_dots (T := T) (T.size - d) d (by lia)
 unfold nxA
 rw [if_pos hd]
 cases h : Rx.nx1 T (T.size - d) d with
 | some p => rw [h] at this; obtain ⟨a, b, c, e⟩ := this; exact ⟨a, b, c, by simpa using e⟩
 | none => rw [h] at this; exact this
theorem subG_flat {π β : Type} {pc : Nat -> Nat -> π} {cod : π -> List β} {g : Nat -> β} {nx : Nat -> Option (Nat × Nat)} {rep : π} {rl : List Nat} {F : Nat -> List Nat} (hpc : ∀ b e, cod (pc b e) = (T.extract b e).toList.map g) (hrep : cod rep = rl.map g) (S : Subst T nx rl F) :
   ∀ (k d : Nat), T.size < k + d -> d <= T.size -> ((subG pc T.size nx rep k d).map cod).flatten = (F d).map g /\ (subG pc T.size nx rep k d).length + 2 * d <= 2 * T.size + 1 := by
 intro k
 induction k with
 | zero => intro d h hd; exact absurd (Nat.zero_add d ▸ h) (nlr hd)
 | succ k ih =>
   intro d h hd
   have := S d hd
   cases hn : nx d with
   | some p =>
     obtain ⟨b, e⟩ := p
     rw [hn] at this
     obtain ⟨h1, h2, h3, h4⟩ := this
     obtain ⟨i1, i2⟩ := ih e (by omega) h3
     have hF : (F d).map g = cod (pc d b) ++ (cod rep ++ ((subG pc T.size nx rep k e).map cod).flatten) := by rw [h4, List.map_append, List.map_append, hpc, hrep, i1, List.append_assoc]
     rw [subG_some hn, hF]
     by_cases hdb : d < b
     . rw [if_pos hdb]
       exact ⟨rfl, by rw [List.length_append, List.length_cons, List.length_cons, List.length_nil]; omega⟩
     . rw [if_neg hdb, hpc, show (T.extract d b).toList = [] by rw [Nat.le_antisymm (Nat.le_of_not_lt hdb) h1]; simp]
       exact ⟨rfl, by rw [List.nil_append, List.length_cons]; omega⟩
   | none =>
     rw [hn] at this
     have this' : F d = from_ T d := this
     rw [subG_none hn, this']
     by_cases hdb : d < T.size
     . rw [if_pos hdb, <- ext_all, <- hpc]
       exact ⟨List.append_nil _, by rw [List.length_singleton]; omega⟩
     . rw [if_neg hdb, from_nil (Nat.le_of_not_lt hdb)]
       exact ⟨rfl, by rw [List.length_nil]; omega⟩
theorem subL_flat {nx : Nat -> Option (Nat × Nat)} {rep : Str} {F : Nat -> List Nat} (S : Subst T nx rep.cps.toList F) (k d : Nat) (h : T.size < k + d) (hd : d <= T.size) : ((subL T nx rep k d).map (·.cps.toList)).flatten = F d /\ (subL T nx rep k d).length + 2 * d <= 2 * T.size + 1 := by
 have := subG_flat (T := T) (pc := fun b e => (⟨T.extract b e⟩ : Str)) (cod := fun x : Str => x.cps.toList) (g := id) (rep := rep) (fun b e => (List.map_id _).symm) (List.map_id _).symm S k d h hd
 rwa [List.map_id] at this
theorem subB_flat {nx : Nat -> Option (Nat × Nat)} {rep : Array UInt8} {F : Nat -> List Nat} (S : Subst T nx (nats rep).toList F) (k d : Nat) (h : T.size < k + d) (hd : d <= T.size) : ((subB T nx rep k d).map (·.toList)).flatten = (F d).map (·.toUInt8) /\ (subB T nx rep k d).length + 2 * d <= 2 * T.size + 1 :=
 subG_flat (T := T) (pc := fun b e => byts (T.extract b e)) (cod := fun x : Array UInt8 => x.toList) (g := fun n : Nat => n.toUInt8) (rep := rep) (fun b e => Array.toList_map) (by simp [List.map_map]; exact (List.map_id'' (fun x => by simp) _).symm) S k d h hd
end
noncomputable def ofL (l : List Nat) : Str := ⟨l.toArray⟩
theorem join_flat : ∀ (L : List Str), Txt.join ⟨#[]⟩ L = ofL (L.map (·.cps.toList)).flatten := by
 intro L
 unfold Txt.join
 rw [StrLaws.glued_eq_join]
 induction L with
 | nil => rfl
 | cons a r ih =>
   cases r with
   | nil => simp [Str.join, ofL]
   | cons b r =>
     show a ++ ⟨#[]⟩ ++ Str.join ⟨#[]⟩ (b :: r) = _
     rw [ih]
     show (⟨(a.cps ++ #[]) ++ _⟩ : Str) = _
     unfold ofL
     congr 1
     apply Array.ext'
     simp
theorem sum_flat : ∀ (L : List Str), (L.map (·.length)).sum = (L.map (·.cps.toList)).flatten.length
 | [] => rfl
 | a :: r => by
   simp only [List.map_cons, List.sum_cons, List.flatten_cons, List.length_append, sum_flat r]
   rfl
theorem sum_flatB : ∀ (L : List (Array UInt8)) (k : Nat), L.foldl (fun k b => k + b.size) k = k + (L.map (·.toList)).flatten.length
 | [], k => rfl
 | a :: r, k => by
   simp only [List.foldl_cons, List.map_cons, List.flatten_cons, List.length_append, sum_flatB r]
   simp; lia
theorem fold_flatB : ∀ (L : List (Array UInt8)) (acc : Array UInt8), L.foldl (· ++ ·) acc = acc ++ ((L.map (·.toList)).flatten).toArray
 | [], acc => by simp
 | a :: r, acc => by
   simp only [List.foldl_cons, List.map_cons, List.flatten_cons, fold_flatB r]
   apply Array.ext'
   simp
noncomputable def joinW (w : List Nat) : List (List Nat) -> List Nat
 | [] => []
 | [r] => r
 | r :: rest => r ++ w ++ joinW w rest
theorem joinW_cons {w r : List Nat} {s : List Nat} {t : List (List Nat)} : joinW w (r :: s :: t) = r ++ w ++ joinW w (s :: t) := rfl
theorem join_ofL {w : List Nat} : ∀ (rows : List (List Nat)), Txt.join (ofL w) (rows.map ofL) = ofL (joinW w rows) := by
 intro rows
 unfold Txt.join
 rw [StrLaws.glued_eq_join]
 induction rows with
 | nil => rfl
 | cons r t ih =>
   cases t with
   | nil => rfl
   | cons s t =>
     show ofL r ++ ofL w ++ Str.join (ofL w) (ofL s :: t.map ofL) = _
     have ih' : Str.join (ofL w) (ofL s :: t.map ofL) = ofL (joinW w (s :: t)) := ih
     rw [ih', joinW_cons]
     show (⟨(ofL r).cps ++ (ofL w).cps ++ (ofL (joinW w (s :: t))).cps⟩ : Str) = _
     unfold ofL
     congr 1
     apply Array.ext'
     simp
noncomputable def Flat (r : List Nat) : Prop := ∀ c ∈ r, c ≠ 10 /\ c ≠ 13
theorem eols_flat : ∀ {r : List Nat} (t : List Nat), Flat r -> eols (r ++ t) = r ++ eols t
 | [], t, _ => rfl
 | c :: r, t, h => by
   have hc := h c mcs
   rw [List.cons_append, eols_not (by rintro (q | q); exact hc.1 q; exact hc.2 q), eols_flat t fun x hx => h x (mcm _ hx)]
   rfl
theorem eols_join {w : List Nat} (hw : w = [10] \/ w = [13] \/ w = [13, 10]) : ∀ (rows : List (List Nat)), (∀ r ∈ rows, Flat r) -> eols (joinW w rows) = joinW [13, 10] rows
 | [], _ => by simp [joinW, eols]
 | [r], h => by
   have := eols_flat [] (h r mcs)
   simpa [joinW, eols] using this
 | r :: s :: t, h => by
   have ih := eols_join hw (s :: t) fun x hx => h x (mcm _ hx)
   rw [joinW_cons, joinW_cons, List.append_assoc, eols_flat _ (h r mcs), List.append_assoc]
   congr 1
   rcases hw with rfl | rfl | rfl
   . show eols (10 :: joinW [10] (s :: t)) = _
     rw [eols_ten, ih]; rfl
   . show eols (13 :: joinW [13] (s :: t)) = _
     rw [eols_ret, ih]; rfl
     intro r' e
     have key : ∀ (l : List (List Nat)), (∀ x ∈ l, Flat x) -> ∀ c ∈ joinW [13] l, c ≠ 10 := by
       intro l
       induction l with
       | nil => intro _ c hc; cases hc
       | cons a b ih =>
         intro hl c hc
         cases b with
         | nil => exact (hl a mcs c hc).1
         | cons b1 b2 =>
           rw [joinW_cons] at hc
           simp only [List.mem_append, List.mem_singleton] at hc
           rcases hc with (hc | hc) | hc
           . exact (hl a mcs c hc).1
           . lia
           . exact ih (fun x hx => hl x (mcm _ hx)) c hc
     exact key (s :: t) (fun x hx => h x (mcm _ hx)) 10 (by rw [e]; exact mcs) rfl
   . show eols (13 :: 10 :: joinW [13, 10] (s :: t)) = _
     rw [eols, ih]; rfl
noncomputable def bump : List Nat -> List Nat
 | 46 :: r => 46 :: 46 :: r
 | r => r
theorem dots_flat : ∀ {r : List Nat} (t : List Nat), Flat r -> dots false (r ++ 13 :: t) = r ++ 13 :: dots false t
 | [], t, _ => by simp [dots]
 | c :: r, t, h => by
   have hc := h c mcs
   rw [List.cons_append, dots, if_neg (by simp), show (c == 10) = false from beq_false_of_ne hc.1, dots_flat t fun x hx => h x (mcm _ hx)]
   rfl
theorem dots_flat' : ∀ {r : List Nat}, Flat r -> dots false r = r
 | [], _ => rfl
 | c :: r, h => by
   have hc := h c mcs
   rw [dots, if_neg (by simp), show (c == 10) = false from beq_false_of_ne hc.1, dots_flat' fun x hx => h x (mcm _ hx)]
theorem dots_row {r : List Nat} (t : List Nat) (h : Flat r) : dots true (r ++ 13 :: t) = bump r ++ 13 :: dots false t := by
 cases r with
 | nil => simp [dots, bump]
 | cons c r =>
   have hc := h c mcs
   have hr := fun x hx => h x (mcm _ hx)
   by_cases h46 : c = 46
   . subst h46
     rw [List.cons_append, dots, if_pos ⟨rfl, rfl⟩, dots_flat t hr]; rfl
   . rw [List.cons_append, dots, if_neg (by simp [h46]), show (c == 10) = false from beq_false_of_ne hc.1, dots_flat t hr]
     have : bump (c :: r) = c :: r := by
       unfold bump; split
       . rename_i h'; cases h'; exact absurd rfl h46
       . rfl
     rw [this]; rfl
theorem dots_row' {r : List Nat} (h : Flat r) : dots true r = bump r := by
 cases r with
 | nil => simp [dots, bump]
 | cons c r =>
   have hc := h c mcs
   have hr := fun x hx => h x (mcm _ hx)
   by_cases h46 : c = 46
   . subst h46
     rw [dots, if_pos ⟨rfl, rfl⟩, dots_flat' hr]; rfl
   . rw [dots, if_neg (by simp [h46]), show (c == 10) = false from beq_false_of_ne hc.1, dots_flat' hr]
     unfold bump; split
     . rename_i h'; cases h'; exact absurd rfl h46
     . rfl
theorem dots_join : ∀ (rows : List (List Nat)), (∀ r ∈ rows, Flat r) -> dots true (joinW [13, 10] rows) = joinW [13, 10] (rows.map bump)
 | [], _ => rfl
 | [r], h => by simpa [joinW] using dots_row' (h r mcs)
 | r :: s :: t, h => by
   have ih := dots_join (s :: t) fun x hx => h x (mcm _ hx)
   rw [joinW_cons, List.append_assoc]
   show dots true (r ++ 13 :: (10 :: joinW [13, 10] (s :: t))) = _
   rw [dots_row _ (h r mcs)]
   have : dots false (10 :: joinW [13, 10] (s :: t)) = 10 :: dots true (joinW [13, 10] (s :: t)) := by simp [dots]
   rw [this, ih]
   show _ = joinW [13, 10] (bump r :: bump s :: t.map bump)
   rw [joinW_cons, List.append_assoc]
   rfl
theorem bump_flat {r : List Nat} (h : Flat r) : Flat (bump r) := by
 unfold bump
 split
 . intro c hc
   rcases mcp hc with rfl | hc
   . exact ⟨by decide, by decide⟩
   . exact h c hc
 . exact h
open StrLaws Builtin.Str in
theorem at_crlf (x : Str) (k : Nat) : At x (ofL [13, 10]) x.length k ↔ (x.cps.toList.drop k).take 2 = [13, 10] := by
 unfold At
 rw [subAt_eq]
 have hl : (ofL [13, 10]).length = 2 := rfl
 have hc : (ofL [13, 10]).cps.toList = [13, 10] := rfl
 rw [hl, hc]
 constructor
 . rintro ⟨_, h⟩; exact eq_of_beq h
 . intro h
   refine ⟨?_, beq_iff_eq.mpr h⟩
   have := congrArg List.length h
   simp at this
   have e : x.cps.size = x.length := rfl
   lia
open StrLaws Builtin.Str in
theorem parts_rows (x : Str) : ∀ (rows : List (List Nat)) (a f : Nat) (cuts : List Nat), rows ≠ [] -> (∀ r ∈ rows, Flat r) -> a <= x.length -> x.cps.toList.drop a = joinW [13, 10] rows -> ChainG x (ofL [13, 10]) x.length a cuts f -> (∀ k, f <= k -> ¬ At x (ofL [13, 10]) x.length k) ->
   partsFrom x 2 a cuts = rows.map ofL
 | [], _, _, _, h, _, _, _, _, _ => absurd rfl h
 | [r], a, f, cuts, _, hr, ha, hx, hG, hn => by
   have hno : ∀ c, a <= c -> ¬ At x (ofL [13, 10]) x.length c := fun c hac hA => by
     rw [at_crlf] at hA
     have e1 : x.cps.toList.drop c = r.drop (c - a) := by
       have : x.cps.toList.drop a = r := hx
       rw [<- this, List.drop_drop]; congr 1; lia
     rw [e1] at hA
     have : 13 ∈ r := List.mem_of_mem_drop (List.mem_of_mem_take (by rw [hA]; exact mcs))
     exact (hr r mcs 13 this).2 rfl
   cases cuts with
   | cons c cr => exact absurd hG.2.1 (hno c hG.1)
   | nil =>
     show [strSub x a x.length] = [ofL r]
     congr 1
     apply Str.ext'
     apply Array.toList_inj.mp
     rw [strSub_toList, hx]
     show List.take _ r = r
     have hl : (x.cps.toList.drop a).length = r.length := by rw [hx]; rfl
     have e : x.cps.toList.length = x.length := rfl
     rw [List.length_drop, e] at hl
     exact List.take_of_length_le (by lia)
 | r :: s :: t, a, f, cuts, _, hr, ha, hx, hG, hn => by
   rw [joinW_cons, List.append_assoc] at hx
   have hlen : (x.cps.toList.drop a).length = r.length + 2 + (joinW [13, 10] (s :: t)).length := by
     rw [hx]; simp only [List.length_append, List.length_cons, List.length_nil]; lia
   have e : x.cps.toList.length = x.length := rfl
   rw [List.length_drop, e] at hlen
   have hat : At x (ofL [13, 10]) x.length (a + r.length) := by
     rw [at_crlf, <- List.drop_drop, hx, List.drop_left]; rfl
   cases cuts with
   | nil =>
     have ef : f = a := hG
     exact absurd hat (hn _ (by lia))
   | cons c cr =>
     obtain ⟨g1, g2, g3, g4⟩ := hG
     have hc : c = a + r.length := by
       rcases Nat.lt_trichotomy c (a + r.length) with h | h | h
       . exfalso
         rw [at_crlf] at g2
         have e1 : x.cps.toList.drop c = r.drop (c - a) ++ ([13, 10] ++ joinW [13, 10] (s :: t)) := by
           rw [show c = a + (c - a) by lia, <- List.drop_drop, hx, List.drop_append_of_le_length (by lia), show a + (c - a) - a = c - a by lia]
         rw [e1] at g2
         have hne : r.drop (c - a) ≠ [] := by
           intro q; have := congrArg List.length q; simp at this; lia
         obtain ⟨y, ys, hy⟩ := List.exists_cons_of_ne_nil hne
         rw [hy] at g2
         have : y = 13 := by
           have := congrArg List.head? g2
           simpa using this
         have hm : y ∈ r := List.mem_of_mem_drop (by rw [hy]; exact mcs)
         exact (hr r mcs y hm).2 this
       . exact h
       . exact absurd hat (g3 _ (by lia) h)
     subst hc
     have hx' : x.cps.toList.drop (a + r.length + 2) = joinW [13, 10] (s :: t) := by
       rw [<- List.drop_drop, <- List.drop_drop, hx, List.drop_left]; rfl
     have ih := parts_rows x (s :: t) (a + r.length + 2) f cr (by simp) (fun y hy => hr y (mcm _ hy)) (by lia) hx' g4 hn
     show strSub x a (a + r.length) :: partsFrom x 2 (a + r.length + 2) cr = _
     rw [ih]
     show _ = ofL r :: _
     congr 1
     apply Str.ext'
     apply Array.toList_inj.mp
     rw [strSub_toList, hx, Nat.add_sub_cancel_left]
     show List.take _ _ = r
     simp
open StrLaws Builtin.Str in
theorem split_rows (rows : List (List Nat)) (hne : rows ≠ []) (hr : ∀ r ∈ rows, Flat r) : Txt.split (ofL (joinW [13, 10] rows)) (ofL [13, 10]) = rows.map ofL := by
 generalize hx : ofL (joinW [13, 10] rows) = x
 have hxl : x.cps.toList = joinW [13, 10] rows := by rw [<- hx]; rfl
 obtain ⟨f, hG, hn⟩ := occ_tight x (ofL [13, 10]) (by decide)
 have key := parts_rows x rows 0 f _ hne hr (Nat.zero_le _) (by rw [List.drop_zero]; exact hxl) hG hn
 unfold Txt.split
 split
 . rename_i hc
   have hk : Builtin.Str.strKind (ofL [13, 10]) = 1 := by decide +kernel
   have hk2 : 1 <= Builtin.Str.strKind x := by unfold Builtin.Str.strKind; split <;> (try split) <;> lia
   rw [Bool.or_eq_true, decide_eq_true_eq, decide_eq_true_eq] at hc
   have hl : x.length < 2 := by
     rcases hc with h | h
     . exact h
     . lia
   match rows, hne, hxl with
   | [r], _, hxl => rw [<- hx]; rfl
   | r :: s :: t, _, hxl =>
     have e : x.cps.toList.length = x.length := rfl
     rw [hxl, joinW_cons] at e
     simp at e
     lia
 . split
   . rename_i he
     have e0 : occurrences x (ofL [13, 10]) 0 x.length (x.length + 1) = [] := List.isEmpty_iff.mp he
     rw [e0] at key
     rw [<- key]
     show [x] = [strSub x 0 x.length]
     rw [sub_whole]
   . rw [partsBetween_eq]
     exact key
noncomputable def eolS (x : Str) : Str := ofL (eols x.cps.toList)
noncomputable def dotS (x : Str) : Str := ofL (dots true x.cps.toList)
noncomputable def dotB (b : Array UInt8) : Array UInt8 := ((dots true (nats b).toList).map (·.toUInt8)).toArray
section
variable {B : Base} {d : Nat} {H : AH}
set_option genInjectivity false in
set_option genSizeOf false in
structure PatFns (B : Base) where
 p1 : Addr
 p2 : Addr
 p3 : Addr
 h1 : PatAt B.g p1 Rx.code1 0
 h2 : PatAt B.g p2 Rx.code1 1
 h3 : PatAt B.g p3 Rx.code3 0
 g1 : GlobIs B "_twin_re_1" (.raw (.ref p1))
 g2 : GlobIs B "_twin_re_2" (.raw (.ref p2))
 g3 : GlobIs B "_twin_re_3" (.raw (.ref p3))
 gc : GlobIs B "CRLF" (.str (ofL [13, 10]))
theorem Call_eol {E : EP} {p : Addr} {x : Str} {Q : PQ} (P : PatAt B.g p Rx.code3 0) (hx : x.length <= 1048576) (q : Q (.str (eolS x)) H) : CallV B (d + 2) E (.raw (.builtin "re.Pattern.sub")) [.raw (.ref p), .str (ofL [13, 10]), .str x] [] H Q := by
 have hs : x.cps.size = x.length := rfl
 obtain ⟨f1, f2⟩ := subL_flat (T := x.cps) (rep := ofL [13, 10]) subst_eols (x.cps.size + 1) 0 (by lia) (Nat.zero_le _)
 have hl := eols_len x.cps.toList
 have e0 : from_ x.cps 0 = x.cps.toList := rfl
 refine Call_sub P (finds3 x.cps) ?_ ?_ (by rw [sizeLine_eq]; lia) (by decide +kernel) ?_
 . rw [sum_flat]
   show ((subL x.cps (nxC x.cps) (ofL [13, 10]) (x.cps.size + 1) 0).map (·.cps.toList)).flatten.length <= _
   rw [f1, e0]
   have : x.cps.toList.length = x.length := rfl
   lia
 . show (subL x.cps (nxC x.cps) (ofL [13, 10]) (x.cps.size + 1) 0).length <= _
   rw [sizeLine_eq]; lia
 . rw [join_flat]
   show Q (.str (ofL ((subL x.cps (nxC x.cps) (ofL [13, 10]) (x.cps.size + 1) 0).map (·.cps.toList)).flatten)) H
   rw [f1, e0]
   exact q
theorem Call_dot {E : EP} {p : Addr} {x : Str} {Q : PQ} (P : PatAt B.g p Rx.code1 0) (hx : x.length <= 4194304) (q : Q (.str (dotS x)) H) : CallV B (d + 2) E (.raw (.builtin "re.Pattern.sub")) [.raw (.ref p), .str (ofL [46, 46]), .str x] [] H Q := by
 have hs : x.cps.size = x.length := rfl
 obtain ⟨f1, f2⟩ := subL_flat (T := x.cps) (rep := ofL [46, 46]) subst_dots (x.cps.size + 1) 0 (by lia) (Nat.zero_le _)
 have hl := dots_len true x.cps.toList
 have e0 : from_ x.cps 0 = x.cps.toList := rfl
 have e1 : begins x.cps 0 = true := rfl
 refine Call_sub P (finds1 x.cps (by lia)) ?_ ?_ (by rw [sizeLine_eq]; lia) (by decide +kernel) ?_
 . rw [sum_flat]
   show ((subL x.cps (nxA x.cps) (ofL [46, 46]) (x.cps.size + 1) 0).map (·.cps.toList)).flatten.length <= _
   rw [f1, e0, e1]
   have : x.cps.toList.length = x.length := rfl
   lia
 . show (subL x.cps (nxA x.cps) (ofL [46, 46]) (x.cps.size + 1) 0).length <= _
   rw [sizeLine_eq]; lia
 . rw [join_flat]
   show Q (.str (ofL ((subL x.cps (nxA x.cps) (ofL [46, 46]) (x.cps.size + 1) 0).map (·.cps.toList)).flatten)) H
   rw [f1, e0, e1]
   exact q
theorem Call_dotB {E : EP} {p : Addr} {x : Array UInt8} {Q : PQ} (P : PatAt B.g p Rx.code1 1) (hx : x.size <= 4194304) (q : Q (.bytes (dotB x)) H) : CallV B (d + 2) E (.raw (.builtin "re.Pattern.sub")) [.raw (.ref p), .bytes #[46, 46], .bytes x] [] H Q := by
 have hs : (nats x).size = x.size := by simp
 obtain ⟨f1, f2⟩ := subB_flat (T := nats x) (rep := #[46, 46]) (by rw [show (nats #[46, 46]).toList = [46, 46] from by decide +kernel]; exact subst_dots) ((nats x).size + 1) 0 (by lia) (Nat.zero_le _)
 have hl := dots_len true (nats x).toList
 have e0 : from_ (nats x) 0 = (nats x).toList := rfl
 have e1 : begins (nats x) 0 = true := rfl
 refine Call_subB P (finds1 (nats x) (by lia)) ?_ ?_ (by rw [sizeLine_eq]; lia) (by decide +kernel) ?_
 . rw [sum_flatB]
   show 0 + ((subB (nats x) (nxA (nats x)) #[46, 46] ((nats x).size + 1) 0).map (·.toList)).flatten.length <= _
   rw [f1, e0, e1, List.length_map, sizeLine_eq]
   have : (nats x).toList.length = x.size := by simp
   lia
 . show (subB (nats x) (nxA (nats x)) #[46, 46] ((nats x).size + 1) 0).length <= _
   rw [sizeLine_eq]; lia
 . rw [fold_flatB]
   show Q (.bytes (#[] ++ (((subB (nats x) (nxA (nats x)) #[46, 46] ((nats x).size + 1) 0).map (·.toList)).flatten).toArray)) H
   rw [f1, e0, e1, Array.empty_append]
   exact q
theorem quote_bind {S : Setting} {doc pm cdv ct : Value} {an : Option Addr} {v : Value} : feed S [] (bindArgs (fdOf "quotedata" kQuote .none .none doc pm an cdv ct) ⟨[v], []⟩) = some ([], [(Str.ofString "data", v)]) := by kernel_rfl
theorem quote_chk : chkF [Str.ofString "data"] (stScope (topSt kQuote)) = true := by decide +kernel
theorem quote_ini (F : PatFns B) {x : PV} : Ini B [(Str.ofString "data", x)] (stScope (topSt kQuote)).names [(Str.ofString "data", .local, some x), (Str.ofString "_twin_re_1", .globalImplicit, some (.raw (.ref F.p1))), (Str.ofString "_twin_re_3", .globalImplicit, some (.raw (.ref F.p3))), (Str.ofString "CRLF", .globalImplicit, some (.str (ofL [13, 10])))] := by
 refine .arg (by walk_at "mm") (.inl rfl) (.glob F.g1 (.glob F.g3 (.glob F.gc .nil)))
theorem fix_bind {S : Setting} {doc pm cdv ct : Value} {an : Option Addr} {v : Value} : feed S [] (bindArgs (fdOf "_fix_eols" kEols .none .none doc pm an cdv ct) ⟨[v], []⟩) = some ([], [(Str.ofString "data", v)]) := by kernel_rfl
theorem fix_chk : chkF [Str.ofString "data"] (stScope (topSt kEols)) = true := by decide +kernel
theorem fix_ini (F : PatFns B) {x : PV} : Ini B [(Str.ofString "data", x)] (stScope (topSt kEols)).names [(Str.ofString "data", .local, some x), (Str.ofString "_twin_re_3", .globalImplicit, some (.raw (.ref F.p3))), (Str.ofString "CRLF", .globalImplicit, some (.str (ofL [13, 10])))] := by
 refine .arg (by walk_at "mm") (.inl rfl) (.glob F.g3 (.glob F.gc .nil))
theorem per_bind {S : Setting} {doc pm cdv ct : Value} {an : Option Addr} {v : Value} : feed S [] (bindArgs (fdOf "_quote_periods" kPeriods .none .none doc pm an cdv ct) ⟨[v], []⟩) = some ([], [(Str.ofString "bindata", v)]) := by kernel_rfl
theorem per_chk : chkF [Str.ofString "bindata"] (stScope (topSt kPeriods)) = true := by decide +kernel
theorem per_ini (F : PatFns B) {x : PV} : Ini B [(Str.ofString "bindata", x)] (stScope (topSt kPeriods)).names [(Str.ofString "bindata", .local, some x), (Str.ofString "_twin_re_2", .globalImplicit, some (.raw (.ref F.p2)))] := by
 refine .arg (by walk_at "mm") (.inl rfl) (.glob F.g2 .nil)
theorem two_dots : Str.ofString ".." = ofL [46, 46] := by decide +kernel
theorem fix_call (F : PatFns B) {f : Addr} {cdv : Value} {x : Str} {Q : PQ} (h : FnIs B f "_fix_eols" kEols .none .none cdv) (hx : x.length <= 1048576) (q : Q (.str (eolS x)) H) : CallV B (d + 3) NoE (.raw (.ref f)) [.str x] [] H Q := by
 refine h.call (d := d + 2) (fun doc pm an ct => BindV_p1 fun S v => fix_bind) rfl fix_chk (fix_ini F) ?_
 refine' Xs_cons' ?_
 walk_at "w"
 refine ⟨_, Meth_sub F.h3, ?_⟩
 walk_at "w"
 exact Call_eol F.h3 hx q
theorem quote_call (F : PatFns B) {f : Addr} {cdv : Value} {x : Str} {Q : PQ} (h : FnIs B f "quotedata" kQuote .none .none cdv) (hx : x.length <= 1048576) (q : Q (.str (dotS (eolS x))) H) : CallV B (d + 3) NoE (.raw (.ref f)) [.str x] [] H Q := by
 refine h.call (d := d + 2) (fun doc pm an ct => BindV_p1 fun S v => quote_bind) rfl quote_chk (quote_ini F) ?_
 refine' Xs_cons' ?_
 walk_at "w"
 refine ⟨_, Meth_sub F.h1, ?_⟩
 walk_at "w"
 refine ⟨_, Meth_sub F.h3, ?_⟩
 walk_at "w"
 refine Call_eol F.h3 hx ?_
 walk_at "w"
 rw [two_dots]
 refine Call_dot F.h1 ?_ q
 have := eols_len x.cps.toList
 have e : x.cps.toList.length = x.length := rfl
 show (eols x.cps.toList).toArray.size <= _
 rw [List.size_toArray]
 lia
theorem per_call (F : PatFns B) {f : Addr} {cdv : Value} {x : Array UInt8} {Q : PQ} (h : FnIs B f "_quote_periods" kPeriods .none .none cdv) (hx : x.size <= 4194304) (q : Q (.bytes (dotB x)) H) : CallV B (d + 3) NoE (.raw (.ref f)) [.bytes x] [] H Q := by
 refine h.call (d := d + 2) (fun doc pm an ct => BindV_p1 fun S v => per_bind) rfl per_chk (per_ini F) ?_
 refine' Xs_cons' ?_
 walk_at "w"
 refine ⟨_, Meth_sub F.h2, ?_⟩
 walk_at "w"
 exact Call_dotB F.h2 hx q
end
section
variable {α : Type}
theorem pick_range (xs : List α) (a b : Nat) (ha : a <= xs.length) (hb : b <= xs.length) : (sliceRange (a : Int) (b : Int) 1).filterMap (xs[·]?) = (xs.drop a).take (b - a) := by
 rw [sliceRange_one]
 by_cases h : a <= b
 . exact StrLaws.picks xs (b - a) a (by lia)
 . rw [show b - a = 0 by lia]; simp
theorem pick_lo (xs : List α) (a : Nat) : pick xs (some (a : Int)) none none = xs.drop a := by
 have e : sliceBounds (some (a : Int)) none none xs.length = (((min a xs.length : Nat) : Int), ((xs.length : Nat) : Int), 1) := by
   unfold sliceBounds
   simp only [Option.getD_none, show ((1 : Int) > 0) from by decide, if_true, show ¬ ((a : Int) < 0) by lia, if_false]
   congr 1; lia
 unfold pick
 rw [e]
 simp only
 rw [pick_range xs _ _ (Nat.min_le_right _ _) (Nat.le_refl _)]
 by_cases h : a <= xs.length
 . rw [Nat.min_eq_left h]; exact List.take_of_length_le (by simp)
 . rw [Nat.min_eq_right (by lia), List.drop_of_length_le (Nat.le_refl _), List.drop_of_length_le (by lia)]; simp
theorem pick_hi (xs : List α) (b : Nat) : pick xs none (some (b : Int)) none = xs.take b := by
 have e : sliceBounds none (some (b : Int)) none xs.length = (((0 : Nat) : Int), ((min b xs.length : Nat) : Int), 1) := by
   unfold sliceBounds
   simp only [Option.getD_none, show ((1 : Int) > 0) from by decide, if_true, show ¬ ((b : Int) < 0) by lia, if_false]
   congr 2; lia
 unfold pick
 rw [e]
 simp only
 rw [pick_range xs _ _ (Nat.zero_le _) (Nat.min_le_right _ _), List.drop_zero, Nat.sub_zero]
 by_cases h : b <= xs.length
 . rw [Nat.min_eq_left h]
 . rw [Nat.min_eq_right (by lia), List.take_of_length_le (Nat.le_refl _), List.take_of_length_le (by lia)]
theorem pick_mid (xs : List α) (a b : Nat) : pick xs (some (a : Int)) (some (b : Int)) none = (xs.drop a).take (b - a) := by
 have e : sliceBounds (some (a : Int)) (some (b : Int)) none xs.length = (((min a xs.length : Nat) : Int), ((min b xs.length : Nat) : Int), 1) := by
   unfold sliceBounds
   simp only [Option.getD_none, show ((1 : Int) > 0) from by decide, if_true, show ¬ ((b : Int) < 0) by lia, show ¬ ((a : Int) < 0) by lia, if_false]
   congr 1
   . lia
   . congr 1; lia
 unfold pick
 rw [e]
 simp only
 rw [pick_range xs _ _ (Nat.min_le_right _ _) (Nat.min_le_right _ _)]
 by_cases h : a <= xs.length
 . rw [Nat.min_eq_left h]
   by_cases h2 : b <= xs.length
   . rw [Nat.min_eq_left h2]
   . rw [Nat.min_eq_right (by lia), List.take_of_length_le (by simp), List.take_of_length_le (by simp; lia)]
 . rw [Nat.min_eq_right (show xs.length <= a by lia), List.drop_of_length_le (Nat.le_refl _), List.drop_of_length_le (show xs.length <= a by lia)]; simp
end
noncomputable abbrev rowsPV (rows : List (List Nat)) : List PV := rows.map fun r => PV.str (ofL r)
theorem rowsPV_eq (rows : List (List Nat)) : rowsPV rows = (rows.map ofL).map PV.str := by simp [rowsPV]
theorem ofL_len (l : List Nat) : (ofL l).length = l.length := by show l.toArray.size = _; simp
theorem joinW_len (w : List Nat) : ∀ rows : List (List Nat), (joinW w rows).length <= (rows.map List.length).sum + rows.length * w.length
 | [] => by simp [joinW]
 | [r] => by simp [joinW]
 | r :: s :: t => by
   have := joinW_len w (s :: t)
   rw [joinW_cons]
   simp only [List.length_append, List.map_cons, List.sum_cons, List.length_cons, Nat.add_mul, Nat.one_mul] at this ⊢
   lia
theorem joinW_mem {w : List Nat} {c : Nat} : ∀ {rows : List (List Nat)}, c ∈ joinW w rows -> c ∈ w \/ ∃ r ∈ rows, c ∈ r
 | [r], h => .inr ⟨r, mcs, h⟩
 | r :: s :: t, h => by
   rw [joinW_cons] at h
   simp only [List.mem_append] at h
   rcases h with (h | h) | h
   . exact .inr ⟨r, mcs, h⟩
   . exact .inl h
   . rcases joinW_mem h with h | ⟨x, hx, h⟩
     . exact .inl h
     . exact .inr ⟨x, mcm _ hx, h⟩
noncomputable def RowOk (r : List Nat) : Prop := Flat r /\ ∀ c ∈ r, c < 128
theorem bump_ok {r : List Nat} (h : RowOk r) : RowOk (bump r) := by
 refine ⟨bump_flat h.1, ?_⟩
 unfold bump
 split
 . intro c hc
   rcases mcp hc with rfl | hc
   . decide
   . exact h.2 c hc
 . exact h.2
theorem strOk_of {r : List Nat} (h : ∀ c ∈ r, c < 128) : PyData.strOk (ofL r) = true := by
 unfold PyData.strOk
 rw [<- Array.all_toList, List.all_eq_true]
 intro c hc
 have := h c hc
 exact decide_eq_true (by lia)
theorem nats_byts {l : List Nat} (h : ∀ c ∈ l, c < 256) : nats (byts l.toArray) = l.toArray := by
 apply Array.ext'
 simp only [Array.toList_map]
 rw [List.map_map]
 have : ∀ c ∈ l, ((fun x : UInt8 => x.toNat) ∘ fun x : Nat => x.toUInt8) c = c := fun c hc => by
   show (c.toUInt8).toNat = c
   have := h c hc
   simp [Nat.toUInt8]
   lia
 conv => rhs; rw [<- List.map_id l]
 exact List.map_congr_left this
theorem len4 {α : Type} {l : List α} (h : l.length = 4) : ∃ a b c e, l = [a, b, c, e] := by
 obtain ⟨a, l, rfl⟩ := List.exists_cons_of_length_eq_add_one h
 obtain ⟨b, l, rfl⟩ := List.exists_cons_of_length_eq_add_one (Nat.succ.inj h)
 obtain ⟨c, l, rfl⟩ := List.exists_cons_of_length_eq_add_one (Nat.succ.inj (Nat.succ.inj h))
 obtain ⟨e, l, rfl⟩ := List.exists_cons_of_length_eq_add_one (Nat.succ.inj (Nat.succ.inj (Nat.succ.inj h)))
 rw [List.eq_nil_of_length_eq_zero (Nat.succ.inj (Nat.succ.inj (Nat.succ.inj (Nat.succ.inj h))))]
 exact ⟨a, b, c, e, rfl⟩
theorem getD_get {α : Type} {z : α} {l : List α} {p : Nat} (h : p < l.length) : l.getD p z = l[p] := by rw [List.getD_eq_getElem?_getD, List.getElem?_eq_getElem h]; rfl
theorem all4 {α : Type} {P : α -> Prop} {a b c e : α} (ha : P a) (hb : P b) (hc : P c) (he : P e) : ∀ x ∈ [a, b, c, e], P x :=
 fmc ⟨ha, fmc ⟨hb, fmc ⟨hc, fmc ⟨he, fun O h => nomatch h⟩⟩⟩⟩
theorem lt4 {P : Nat -> Prop} (a : P 0) (b : P 1) (c : P 2) (e : P 3) {p : Nat} (h : p < 4) : P p := all4 a b c e p (show p ∈ [0, 1, 2, 3] from List.mem_range.mpr h)
theorem lt3 {P : Nat -> Prop} (a : P 0) (b : P 1) (c : P 2) {p : Nat} (h : p < 3) : P p := all4 a b c c p (show p ∈ [0, 1, 2, 2] from List.mem_append_left [2] (List.mem_range.mpr h))
theorem getD_mem {α : Type} {z : α} {l : List α} {p : Nat} (h : p < l.length) : l.getD p z ∈ l := by rw [getD_get h]; exact List.getElem_mem h
theorem arith_mem {x : PV} {n : Nat} : ∀ {k : Nat}, x ∈ arith 1 (k : Int) n -> ∃ p : Nat, p < k + n /\ x = .int (p : Nat) := by
 induction n with
 | zero => intro k h; cases h
 | succ n ih =>
   intro k h
   cases h with
   | head => exact ⟨k, Nat.lt_add_of_pos_right (Nat.succ_pos _), rfl⟩
   | tail _ h =>
     obtain ⟨p, hp, e⟩ := ih (k := k + 1) h
     exact ⟨p, Nat.succ_add_eq_add_succ k n ▸ hp, e⟩
section
variable {B : Base} {d : Nat} {E : EP} {H : AH} {v : PV} {xs : List PV} {Q : PQ}
theorem Sl_lo (a : Nat) (hv : Items H v xs) (hz : xs.length <= sizeLine) (h : NewL Q (xs.drop a) H) : GetSl B d E v (some (a : Int)) none none H Q := Sl_list hv (by decide) hz ((pick_lo xs a).symm ▸ h)
theorem Sl_hi (b : Nat) (hv : Items H v xs) (hz : xs.length <= sizeLine) (h : NewL Q (xs.take b) H) : GetSl B d E v none (some (b : Int)) none H Q := Sl_list hv (by decide) hz ((pick_hi xs b).symm ▸ h)
theorem Get_as {m : Nat} {w : PV} (hv : Items H v xs) (hm : m < xs.length) (hn : xs.length < 2 ^ 60) (e : xs[m] = w) (q : Q w H) : V2 B d E getItem v (.int (m : Nat)) H Q := Get_nat hv hm hn (e ▸ q)
theorem Get_rows {rs : List (List Nat)} {m : Nat} (hm : m < rs.length) (hn : rs.length < 2 ^ 60) (q : Q (.str (ofL (rs.getD m []))) H) : V2 B d E getItem (.list (rowsPV rs)) (.int (m : Nat)) H Q :=
 Get_as .list (by rw [List.length_map]; exact hm) (by rw [List.length_map]; exact hn) ((List.getElem_map _).trans (congrArg (fun r => PV.str (ofL r)) (getD_get hm).symm)) q
theorem CallI_rangeU {tgt : Expr} {n : Nat} {Q : IQ} (hn : n <= 1000000) (h : Q (arith 1 0 n) [] H) : CallI B d E tgt (.raw (.type "range")) [.int (n : Nat)] H Q := CallI_range1 (by omega) (by omega) h
theorem CallI_rangeN {tgt : Expr} {p n : Nat} {Q : IQ} (hn : p + n <= 1000000) (h : Q (arith 1 (p : Int) n) [] H) : CallI B d E tgt (.raw (.type "range")) [.int (p : Nat), .int ((p + n : Nat) : Int)] H Q :=
 CallI_range2 (by omega) (by omega) (by omega) (by omega) (by rw [show (((p + n : Nat) : Int) - (p : Int)).toNat = n by omega]; exact h)
theorem Sl_mid (a b : Nat) (hv : Items H v xs) (hz : xs.length <= sizeLine) (h : NewL Q ((xs.drop a).take (b - a)) H) : GetSl B d E v (some (a : Int)) (some (b : Int)) none H Q := Sl_list hv (by decide) hz ((pick_mid xs a b).symm ▸ h)
end
noncomputable abbrev kSent : Nat := 28
noncomputable abbrev kLaid : Nat := 29
noncomputable abbrev kLaps : Nat := 30
noncomputable abbrev kLaw : Nat := 31
section
variable {B : Base} {d : Nat} {H : AH}
set_option genInjectivity false in
set_option genSizeOf false in
structure SendFns (B : Base) extends PatFns B where
 fq : Addr
 fb : Addr
 fe : Addr
 cq : Value
 cb : Value
 ce : Value
 hq : FnIs B fq "quotedata" kQuote .none .none cq
 hb : FnIs B fb "_quote_periods" kPeriods .none .none cb
 he : FnIs B fe "_fix_eols" kEols .none .none ce
 gq : GlobIs B "quotedata" (.raw (.ref fq))
 gb : GlobIs B "_quote_periods" (.raw (.ref fb))
 ge : GlobIs B "_fix_eols" (.raw (.ref fe))
 gln : GlobIs B "len" (.raw (.builtin "len"))
theorem sent_bind {S : Setting} {doc pm cdv ct : Value} {an : Option Addr} {v w : Value} : feed S [] (bindArgs (fdOf "_law_sent" kSent .none .none doc pm an cdv ct) ⟨[v, w], []⟩) = some ([], [(Str.ofString "rows", v), (Str.ofString "ways", w)]) := by kernel_rfl
theorem sent_chk : chkF [Str.ofString "rows", Str.ofString "ways"] (stScope (topSt kSent)) = true := by decide +kernel
noncomputable abbrev stSent (F : SendFns B) (rows ways : PV) (last mail sent : Option PV) : St := [(Str.ofString "rows", .local, some rows), (Str.ofString "ways", .local, some ways), (Str.ofString "last", .local, last), (Str.ofString "mail", .local, mail), (Str.ofString "sent", .local, sent),
 (Str.ofString "quotedata", .globalImplicit, some (.raw (.ref F.fq))), (Str.ofString "_quote_periods", .globalImplicit, some (.raw (.ref F.fb))), (Str.ofString "_fix_eols", .globalImplicit, some (.raw (.ref F.fe))), (Str.ofString "len", .globalImplicit, some (.raw (.builtin "len")))]
theorem sent_ini (F : SendFns B) {rows ways : PV} : Ini B [(Str.ofString "rows", rows), (Str.ofString "ways", ways)] (stScope (topSt kSent)).names (stSent F rows ways none none none) := by
 refine .arg (by walk_at "mm") (.inl rfl) (.arg (by walk_at "mm") (.inl rfl) (.unset (.unset (.unset (.glob F.gq (.glob F.gb (.glob F.ge (.glob F.gln .nil))))))))
theorem empty_ofL : Str.ofString "" = ofL [] := by decide +kernel
theorem crlf_ofL : Str.ofString "\r\n" = ofL [13, 10] := by decide +kernel
theorem mod_nat (a b : Nat) (hb : 0 < b) : ((a : Int)).fmod (b : Int) = ((a % b : Nat) : Int) := by
 rw [Int.fmod_eq_emod_of_nonneg _ (Int.natCast_nonneg b)]; rfl
theorem div_nat (a b : Nat) : ((a : Int)).fdiv (b : Int) = ((a / b : Nat) : Int) := by
 rw [Int.fdiv_eq_ediv_of_nonneg _ (Int.natCast_nonneg b)]; rfl
theorem div2 (a : Nat) : ((a : Int)).fdiv 2 = ((a / 2 : Nat) : Int) := div_nat a 2
theorem div3 (a : Nat) : ((a : Int)).fdiv 3 = ((a / 3 : Nat) : Int) := div_nat a 3
theorem mod2 (a : Nat) : ((a : Int)).fmod 2 = ((a % 2 : Nat) : Int) := mod_nat a 2 (by decide)
theorem mod3 (a : Nat) : ((a : Int)).fmod 3 = ((a % 3 : Nat) : Int) := mod_nat a 3 (by decide)
theorem mod4 (a : Nat) : ((a : Int)).fmod 4 = ((a % 4 : Nat) : Int) := mod_nat a 4 (by decide)
theorem mod6 (a : Nat) : ((a : Int)).fmod 6 = ((a % 6 : Nat) : Int) := mod_nat a 6 (by decide)
theorem mod9 (a : Nat) : ((a : Int)).fmod 9 = ((a % 9 : Nat) : Int) := mod_nat a 9 (by decide)
noncomputable abbrev seps : List (List Nat) := [[10], [13], [13, 10]]
noncomputable def sepOf (ways : Nat) : List Nat := seps.getD (ways % 3) []
theorem seps_eq : [PV.str (Str.ofString "\n"), PV.str (Str.ofString "\r"), PV.str (Str.ofString "\r\n")] = rowsPV seps := by kernel_rfl
theorem sepOf_ok (ways : Nat) : sepOf ways = [10] \/ sepOf ways = [13] \/ sepOf ways = [13, 10] :=
 lt3 (P := fun m => seps.getD m [] = [10] \/ seps.getD m [] = [13] \/ seps.getD m [] = [13, 10]) (.inl rfl) (.inr (.inl rfl)) (.inr (.inr rfl)) (Nat.mod_lt ways (by decide))
theorem Bin_mulK {E : EP} {x : PV} {k : Nat} {Q : PQ} (hk : k < 2) (q : NewL Q (List.replicate k x) H) : V2 B d E (binaryOp .Mult) (.list [x]) (.int (k : Nat)) H Q :=
 Bin_mulL .list (by omega) (by omega) (by rw [List.length_singleton, Nat.one_mul, Int.toNat_natCast]; exact ntr (Nat.le_of_lt hk) (by decide)) (by rw [flat_rep, Int.toNat_natCast]; exact q)
theorem byts_size (l : List Nat) : (byts l.toArray).size = l.length := Array.size_map
theorem crlf_lt {c : Nat} (h : c ∈ [13, 10]) : c < 128 := (by decide : ∀ c ∈ [13, 10], c < 128) c h
theorem joinW_ne {w r : List Nat} {rows : List (List Nat)} (h : r ∈ rows) (hr : r ≠ []) : joinW w rows ≠ [] := by
 induction rows with
 | nil => cases h
 | cons a t ih =>
   intro e
   cases t with
   | nil => rw [msp h] at hr; exact hr e
   | cons s t =>
     rw [joinW_cons] at e
     obtain ⟨e1, e2⟩ := List.append_eq_nil_iff.mp e
     rcases mcp h with rfl | h
     . exact hr (List.append_eq_nil_iff.mp e1).1
     . exact ih h e2
theorem bump_ne {r : List Nat} (h : r ≠ []) : bump r ≠ [] := by
 unfold bump
 split
 . exact List.cons_ne_nil _ _
 . exact h
theorem sent_call (F : SendFns B) {f : Addr} {cdv : Value} {v : PV} {rows : List (List Nat)} {ways : Nat} {Q : PQ} (h : FnIs B f "_law_sent" kSent .none .none cdv) (hv : Items H v (rowsPV rows)) (hne : rows ≠ []) (hne2 : ∃ r ∈ rows, r ≠ []) (hr : ∀ r ∈ rows, RowOk r)
   (hz : (rows.map List.length).sum + 2 * rows.length <= 400000) (q : Q (.list (rowsPV (rows.map bump))) H) : CallV B (d + 5) NoE (.raw (.ref f)) [v, .int ways] [] H Q := by
 refine h.call (d := d + 4) (fun doc pm an ct => BindV_p2 fun S v w => sent_bind) rfl sent_chk (sent_ini F) ?_
 refine' Xs_cons' ?_
 walk_at "w"
 refine Ev_ListF ?_
 walk_at "w"
 refine Bin_fdiv (by decide) (noPyS (by decide)) ?_
 refine cast_v (congrArg PV.int (div2 ways)) ?_
 walk_at "w"
 refine Bin_fmod (by decide) ?_
 refine cast_v (congrArg PV.int (mod2 _)) ?_
 have hk2 : ways / 2 % 2 < 2 := Nat.mod_lt _ (by decide)
 generalize ways / 2 % 2 = k at *
 refine Bin_mulK hk2 ?_
 rw [empty_ofL]
 refine .inl ?_
 have hlast : List.replicate k (PV.str (ofL [])) = rowsPV (List.replicate k []) := (List.map_replicate (f := fun r : List Nat => PV.str (ofL r))).symm
 rw [hlast]
 walk_at "w"
 refine Ev_ListF ?_
 walk_at "w"
 refine Bin_fmod (by decide) ?_
 refine cast_v (congrArg PV.int (mod3 ways)) ?_
 refine ⟨SubAt_items .list, ?_⟩
 rw [seps_eq]
 refine Get_rows (Nat.mod_lt ways (by decide)) (by decide) ?_
 refine ⟨_, Meth_join, ?_⟩
 walk_at "w"
 have hrl : rows.length <= 200000 := Nat.le_of_mul_le_mul_left (ntr (Nat.le_add_left _ _) hz) (by decide : 0 < 2)
 have hal : rows.length + k <= 200001 := Nat.add_le_add hrl (Nat.le_of_lt_succ hk2)
 refine Bin_addL hv .list (by rw [List.length_map, List.length_map, List.length_replicate]; exact ntr hal (bl rfl)) (.inl ?_)
 generalize hall : rows ++ List.replicate k [] = all
 have hallPV : rowsPV rows ++ rowsPV (List.replicate k []) = (all.map ofL).map PV.str := by rw [<- hall, <- rowsPV_eq]; exact List.map_append.symm
 rw [hallPV]
 have hsepl : (sepOf ways).length <= 2 := (by decide : ∀ s ∈ seps, s.length <= 2) _ (getD_mem (Nat.mod_lt ways (by decide)))
 have halll : all.length = rows.length + k := by rw [<- hall, List.length_append, List.length_replicate]
 have hallF : ∀ r ∈ all, RowOk r := fun r hr' => by
   rw [<- hall] at hr'
   rcases mpp hr' with h | h
   . exact hr r h
   . rw [List.eq_of_mem_replicate h]; exact ⟨(fun O h => nomatch h), (fun O h => nomatch h)⟩
 have hJ : (all.map List.length).sum + all.length * (sepOf ways).length <= 400002 := by
   have hsum : (all.map List.length).sum = (rows.map List.length).sum := by
     rw [<- hall, List.map_append, List.sum_append]; simp
   rw [hsum, halll]
   refine ntr (Nat.add_le_add_left (Nat.mul_le_mul_left _ hsepl) _) ?_
   omega
 refine Call_join (.inr .list) ?_ ?_
 . have e1 : ((all.map ofL).map (·.length)) = all.map List.length := by rw [List.map_map]; exact List.map_congr_left fun r O => ofL_len r
   rw [e1, List.length_map, show (ofL (seps.getD (ways % 3) [])).length = (sepOf ways).length from ofL_len _]
   exact ntr hJ (by decide)
 rw [join_ofL]
 generalize hm : joinW (seps.getD (ways % 3) []) all = m
 have hml : m.length <= 400002 := hm ▸ ntr (joinW_len (sepOf ways) all) hJ
 have hmeol : eols m = joinW [13, 10] all := by rw [<- hm]; exact eols_join (sepOf_ok ways) all fun r h => (hallF r h).1
 have hdot : dots true (eols m) = joinW [13, 10] (all.map bump) := by rw [hmeol]; exact dots_join all fun r h => (hallF r h).1
 have hsplit : Txt.split (ofL (dots true (eols m))) (ofL [13, 10]) = (all.map bump).map ofL := by
   rw [hdot]
   refine split_rows _ ?_ ?_
   . rw [<- hall]; exact fun e => hne (List.append_eq_nil_iff.mp (List.map_eq_nil_iff.mp e)).1
   . intro r h
     obtain ⟨x, hx, rfl⟩ := mmp h
     exact bump_flat (hallF x hx).1
 have hel := ntr (eols_len m) (Nat.mul_le_mul_left 2 hml)
 have hdl := ntr (dots_len true (eols m)) (Nat.mul_le_mul_left 2 hel)
 have hrow : rowsPV (all.map bump) = rowsPV (rows.map bump) ++ rowsPV (List.replicate k []) := by rw [<- hall, List.map_append, List.map_replicate]; exact List.map_append
 have hrn : (rowsPV (rows.map bump)).length = (rowsPV rows).length := by rw [List.length_map, List.length_map, List.length_map]
 have hsz : (rowsPV (all.map bump)).length <= sizeLine := by rw [List.length_map, List.length_map, halll]; exact ntr hal (bl rfl)
 have hrf : (rowsPV rows).length < 2 ^ 60 := by rw [List.length_map]; exact Nat.lt_of_le_of_lt hrl (by decide)
 have hks : ∀ x ∈ (List.replicate k []).map ofL, PyData.strOk x = true := fun x hx => by
   obtain ⟨r, h1, rfl⟩ := mmp hx
   rw [List.eq_of_mem_replicate h1]; decide +kernel
 have fin : ∀ mail : PV, Xs B (fiOf kSent "_law_sent") (d + 4) NoE ((stBody (topSt kSent)).drop 3) (stSent F v (.int ways) (some (.list (rowsPV (List.replicate k [])))) (some mail) (some (.list (rowsPV (all.map bump))))) H (fun O H' => Q .none H') (PX Q) := fun mail => by
   refine' Xs_cons' ?_
   walk_at "w"
   refine Ev_IfExp ?_
   walk_at "w"
   refine ⟨KeepsV_builtin, ?_⟩
   walk_at "w"
   refine Call_len_list hv hrf ?_
   walk_at "w"
   refine ⟨SubAt_items .list, Sl_lo _ .list hsz (.inl ?_)⟩
   rw [hrow, List.drop_left' hrn]
   walk_at "w"
   refine Cmp_eqSs (ns := (List.replicate k []).map ofL) (ms := (List.replicate k []).map ofL) (by rw [<- rowsPV_eq]; exact .list) (by rw [<- rowsPV_eq]; exact .list) hks hks ?_
   rw [decide_eq_true rfl]
   walk_at "w"
   refine' ifp rfl ?_
   walk_at "w"
   refine ⟨KeepsV_builtin, ?_⟩
   walk_at "w"
   refine Call_len_list hv hrf ?_
   walk_at "w"
   refine ⟨SubAt_items .list, Sl_hi _ .list (hrow ▸ hsz) (.inl ?_)⟩
   rw [List.take_left' hrn]
   exact q
 walk_at "w"
 refine Bin_fdiv (by decide) (noPyS (by decide)) ?_
 refine cast_v (congrArg PV.int (div3 ways)) ?_
 walk_at "w"
 refine Bin_fmod (by decide) ?_
 refine cast_v (congrArg PV.int (mod2 _)) ?_
 walk_at "w"
 have hl8 : (ofL m).length <= 1048576 := by rw [ofL_len]; exact ntr hml (by decide)
 have e9 : dotS (eolS (ofL m)) = ofL (dots true (eols m)) := rfl
 by_cases hw : ways / 3 % 2 = 0
 . rw [hw]
   refine' ifn Bool.false_ne_true ?_
   have asc0 : ∀ c ∈ eols m, c < 128 := fun c hc => by
     rw [hmeol] at hc
     rcases joinW_mem hc with h | ⟨r, h1, h2⟩
     . exact crlf_lt h
     . exact (hallF r h1).2 c h2
   have asc1 : ∀ c ∈ dots true (eols m), c < 128 := fun c hc => by
     rw [hdot] at hc
     rcases joinW_mem hc with h | ⟨r, h1, h2⟩
     . exact crlf_lt h
     . obtain ⟨x, hx, rfl⟩ := mmp h1
       exact (bump_ok (hallF x hx)).2 c h2
   have hne1 : dots true (eols m) ≠ [] := by
     obtain ⟨r, hr1, hr2⟩ := hne2
     rw [hdot]
     exact joinW_ne (r := bump r) (by rw [<- hall]; exact List.mem_map_of_mem (List.mem_append_left _ hr1)) (bump_ne hr2)
   walk_at "w"
   refine ⟨KeepsV_FnIs F.hb, ?_⟩
   walk_at "w"
   refine ⟨KeepsV_FnIs F.he, ?_⟩
   walk_at "w"
   refine fix_call (d := d + 1) F.toPatFns F.he hl8 ?_
   refine ⟨_, Meth_encode, ?_⟩
   walk_at "w"
   refine Call_encode (x := eolS (ofL m)) asc0 (by show (ofL (eols m)).length <= _; rw [ofL_len]; exact ntr hel (bl rfl)) ?_
   walk_at "w"
   have hb1 : nats (byts (eolS (ofL m)).cps) = (eols m).toArray := nats_byts fun c hc => Nat.lt_trans (asc0 c hc) (by decide)
   refine per_call (d := d + 1) F.toPatFns F.hb (by rw [byts_size]; exact ntr hel (by decide)) ?_
   refine ⟨_, Meth_decode, ?_⟩
   walk_at "w"
   have hb2 : dotB (byts (eolS (ofL m)).cps) = byts (dots true (eols m)).toArray := by
     unfold dotB
     rw [hb1]
     apply Array.ext'
     simp [byts]
   rw [hb2]
   have hb3 : nats (byts (dots true (eols m)).toArray) = (dots true (eols m)).toArray := nats_byts fun c hc => Nat.lt_trans (asc1 c hc) (by decide)
   refine Call_decode (fun c hc => ?_) ?_ (by rw [byts_size]; exact ntr hdl (bl rfl)) ?_
   . have : c.toNat ∈ (nats (byts (dots true (eols m)).toArray)).toList := by
       rw [Array.toList_map]
       exact mmr ⟨c, hc, rfl⟩
     rw [hb3] at this
     exact asc1 _ this
   . exact fun e => hne1 (List.eq_nil_of_length_eq_zero ((byts_size _).symm.trans (congrArg Array.size e)))
   rw [hb3]
   refine ⟨_, Meth_split, ?_⟩
   walk_at "w"
   rw [crlf_ofL]
   refine Call_split (x := ofL (dots true (eols m))) (by decide +kernel) (by rw [ofL_len]; exact ntr hdl (by decide)) (.inl ?_)
   rw [hsplit, <- rowsPV_eq]
   repeat first | exact fin _ | walk_at "mw"
 . refine' ifp (bne_iff_ne.mpr fun e => hw (Int.ofNat.inj e)) ?_
   walk_at "w"
   refine ⟨KeepsV_FnIs F.hq, ?_⟩
   walk_at "w"
   refine quote_call (d := d + 1) F.toPatFns F.hq hl8 ?_
   refine ⟨_, Meth_split, ?_⟩
   walk_at "w"
   rw [e9, crlf_ofL]
   refine Call_split (by decide +kernel) (by rw [ofL_len]; exact ntr hdl (by decide)) (.inl ?_)
   rw [hsplit, <- rowsPV_eq]
   repeat first | exact fin _ | walk_at "mw"
end
noncomputable def cntLt (xs : List Int) (x : Int) : Nat := xs.countP fun y => decide (y < x)
noncomputable def cntLe (xs : List Int) (x : Int) : Nat := xs.countP fun y => decide (y <= x)
theorem filt_p {p : Int -> Bool} (hp : ∀ a b, a <= b -> p b = true -> p a = true) {xs : List Int} (h : xs.Pairwise (· <= ·)) : ∀ (m : Nat) (y : Int), xs[m]? = some y -> p y = decide (m < xs.countP p) := by
 induction h with
 | nil => exact fun O O e => nomatch e
 | @cons a r ha _ ih =>
   intro m y e
   by_cases hx : p a = true
   . rw [List.countP_cons_of_pos hx]
     cases m with
     | zero => cases e; rw [hx]; exact (decide_eq_true (Nat.succ_pos _)).symm
     | succ m => exact (ih m y e).trans (decide_eq_decide.mpr Nat.succ_lt_succ_iff.symm)
   . have hr : ∀ b ∈ r, ¬ p b = true := fun b hb e => hx (hp a b (ha b hb) e)
     rw [List.countP_cons_of_neg hx, List.countP_eq_zero.mpr hr]
     refine Bool.eq_false_iff.mpr fun e' => ?_
     cases m with
     | zero => cases e; exact hx e'
     | succ m => exact hr y (List.mem_of_getElem? e) e'
theorem filt_lt {xs : List Int} {x : Int} (h : xs.Pairwise (· <= ·)) (m : Nat) (y : Int) (e : xs[m]? = some y) : decide (y < x) = decide (m < cntLt xs x) :=
 filt_p (fun O O h e => decide_eq_true (Int.lt_of_le_of_lt h (of_decide_eq_true e))) h m y e
theorem filt_le {xs : List Int} {x : Int} (h : xs.Pairwise (· <= ·)) (m : Nat) (y : Int) (e : xs[m]? = some y) : decide (y <= x) = decide (m < cntLe xs x) :=
 filt_p (fun O O h e => decide_eq_true (Int.le_trans h (of_decide_eq_true e))) h m y e
theorem cnt_le (li : List Int) (y : Int) : cntLt li y <= cntLe li y := List.countP_mono_left fun O O e => decide_eq_true (Int.le_of_lt (of_decide_eq_true e))
theorem cntLt_le (xs : List Int) (x : Int) : cntLt xs x <= xs.length := List.countP_le_length
theorem cntLe_le (xs : List Int) (x : Int) : cntLe xs x <= xs.length := List.countP_le_length
noncomputable abbrev intsPV (xs : List Int) : List PV := xs.map PV.int
noncomputable def placeOf (left : Bool) (xs : List Int) (x : Int) (lo hi : Nat) : Nat := clp (if left then cntLt xs x else cntLe xs x) lo hi
section
variable {B : Base} {d : Nat} {H : AH}
set_option genInjectivity false in
set_option genSizeOf false in
structure LayFns (B : Base) where
 fl : Addr
 fr : Addr
 bl : Addr
 br : Addr
 cl : Value
 cr : Value
 dl : Value
 dr : Value
 dV1 : Value
 kV1 : Value
 dV2 : Value
 kV2 : Value
 dV3 : Value
 kV3 : Value
 dV4 : Value
 kV4 : Value
 hl : FnIs B fl "insort_left" kInsL dV1 kV1 cl
 hr : FnIs B fr "insort_right" kInsR dV2 kV2 cr
 hbl : FnIs B bl "bisect_left" kBisL dV3 kV3 dl
 hbr : FnIs B br "bisect_right" kBisR dV4 kV4 dr
 D1 : BisDef B dV1 kV1
 D2 : BisDef B dV2 kV2
 D3 : BisDef B dV3 kV3
 D4 : BisDef B dV4 kV4
 gl : GlobIs B "insort_left" (.raw (.ref fl))
 gr : GlobIs B "insort_right" (.raw (.ref fr))
 gbl : GlobIs B "bisect_left" (.raw (.ref bl))
 gbr : GlobIs B "bisect_right" (.raw (.ref br))
 gV : GlobIs B "ValueError" (.raw (.type "ValueError"))
 gln : GlobIs B "len" (.raw (.builtin "len"))
theorem get_ints {xs : List Int} {m : Nat} {y : PV} (h : (intsPV xs)[m]? = some y) : ∃ z, y = .int z /\ xs[m]? = some z := by
 rw [List.getElem?_map] at h
 cases e : xs[m]? with
 | none => rw [e] at h; cases h
 | some z => rw [e] at h; cases h; exact ⟨z, rfl, rfl⟩
theorem bisL_ints {li : List Int} {y : Int} (hs : li.Pairwise (· <= ·)) (d : Nat) (m : Nat) (z : PV) (hz : (intsPV li)[m]? = some z) : P2 B d NoE H (compareOp .Lt) z (.int y) (.bool (decide (m < cntLt li y))) := by
 obtain ⟨w, rfl, hw⟩ := get_ints hz
 rw [<- filt_lt hs m w hw]
 exact P_lt
theorem bisR_ints {li : List Int} {y : Int} (hs : li.Pairwise (· <= ·)) (d : Nat) (m : Nat) (z : PV) (hz : (intsPV li)[m]? = some z) : P2 B d NoE H (compareOp .Lt) (.int y) z (.bool (!decide (m < cntLe li y))) := by
 obtain ⟨w, rfl, hw⟩ := get_ints hz
 rw [<- filt_le hs m w hw, <- decide_not, decide_eq_decide.mpr Int.not_le]
 exact P_lt
theorem laid_bind {S : Setting} {doc pm cdv ct : Value} {an : Option Addr} {v w u v' w' : Value} : feed S [] (bindArgs (fdOf "_law_laid" kLaid .none .none doc pm an cdv ct) ⟨[v, w, u, v', w'], []⟩) = some ([], [(Str.ofString "line", v), (Str.ofString "one", w), (Str.ofString "low", u), (Str.ofString "high", v'), (Str.ofString "left", w')]) := by kernel_rfl
theorem BindV_p5 {fd : FuncData} {n1 n2 n3 n4 n5 : Str} {a b c a' b' : PV} (hf : ∀ (S : Setting) v w u v' w', feed S [] (bindArgs fd ⟨[v, w, u, v', w'], []⟩) = some ([], [(n1, v), (n2, w), (n3, u), (n4, v'), (n5, w')])) :
   BindV B fd [a, b, c, a', b'] [] H [(n1, a), (n2, b), (n3, c), (n4, a'), (n5, b')] := fun A s I vs kvs h1 h2 E Q hQ => by
 cases h1 with | cons r1 h1 =>
 cases h1 with | cons r2 h1 =>
 cases h1 with | cons r3 h1 =>
 cases h1 with | cons r4 h1 =>
 cases h1 with | cons r5 h1 =>
 cases h1
 rw [h2.nil]
 exact wpAny_feed (os := []) (hf _ _ _ _ _ _) (by simp) (hQ _ (.cons r1 (.cons r2 (.cons r3 (.cons r4 (.cons r5 .nl))))))
theorem laid_chk : chkF [Str.ofString "line", Str.ofString "one", Str.ofString "low", Str.ofString "high", Str.ofString "left"] (stScope (topSt kLaid)) = true := by decide +kernel
theorem laid_ini (F : LayFns B) {a b c a' b' : PV} : Ini B [(Str.ofString "line", a), (Str.ofString "one", b), (Str.ofString "low", c), (Str.ofString "high", a'), (Str.ofString "left", b')] (stScope (topSt kLaid)).names
   [(Str.ofString "line", .local, some a), (Str.ofString "one", .local, some b), (Str.ofString "low", .local, some c), (Str.ofString "high", .local, some a'), (Str.ofString "left", .local, some b'), (Str.ofString "insort_left", .globalImplicit, some (.raw (.ref F.fl))), (Str.ofString "insort_right", .globalImplicit, some (.raw (.ref F.fr)))] := by
 refine .arg (by walk_at "mm") (.inl rfl) (.arg (by walk_at "mm") (.inl rfl) (.arg (by walk_at "mm") (.inl rfl) (.arg (by walk_at "mm") (.inl rfl) (.arg (by walk_at "mm") (.inl rfl) (.glob F.gl (.glob F.gr .nil))))))
theorem laid_call (F : LayFns B) {f A : Addr} {cdv : Value} {xs : List Int} {x : Int} {lo hi : Nat} {hv : PV} {left : Int} {H' : AH} {Q : PQ} (h : FnIs B f "_law_laid" kLaid .none .none cdv) (hm : (A, intsPV xs) ∈ H) (hs : xs.Pairwise (· <= ·)) (hh : HiIs hv hi xs.length) (hlo : lo <= hi) (hn : xs.length <= 1000000)
   (u : Upd A (intsPV xs) (insAt (intsPV xs) (placeOf (left != 0) xs x lo hi) (.int x)) H H') (q : Q (.lref A) H') : CallV B (d + 5) NoE (.raw (.ref f)) [.lref A, .int x, .int lo, hv, .int left] [] H Q := by
 refine h.call (d := d + 4) (fun doc pm an ct => BindV_p5 fun S v w u v' w' => laid_bind) rfl laid_chk (laid_ini F) ?_
 have hhl : hi <= xs.length := hh.le
 have hz : (intsPV xs).length <= sizeLine := by rw [List.length_map, sizeLine_eq]; lia
 have hh' : HiIs hv hi (intsPV xs).length := by rw [List.length_map]; exact hh
 have hpl : ∀ {c}, clp c lo hi <= xs.length := clp_le (ntr hlo hhl) hhl
 have hlo' : lo <= 2 ^ 60 := ntr hlo (ntr hhl (ntr hn (by decide)))
 refine' Xs_cons' ?_
 walk_at "w"
 by_cases hl : left = 0
 . subst hl
   refine' ifn Bool.false_ne_true ?_
   walk_at "w"
   refine ⟨KeepsV_FnIs F.hr, ?_⟩
   walk_at "w"
   refine insR_call4 (d := d + 2) F.hr F.D2 F.hbr F.D4 F.gbr F.gV F.gln hm hh' hlo' hz (bisR_ints hs) (H' := H') ?_ ?_
   . rw [List.length_map, Nat.min_eq_left hpl]; exact u
   . walk_at "w"
     exact q
 . have hl' : (left != 0) = true := bne_iff_ne.mpr hl
   refine' ifp hl' ?_
   rw [hl'] at u
   walk_at "w"
   refine ⟨KeepsV_FnIs F.hl, ?_⟩
   walk_at "w"
   refine insL_call4 (d := d + 2) F.hl F.D1 F.hbl F.D3 F.gbl F.gV F.gln hm hh' hlo' hz (bisL_ints hs) (H' := H') ?_ ?_
   . rw [List.length_map, Nat.min_eq_left hpl]; exact u
   . walk_at "w"
     exact q
end
noncomputable abbrev Base.hide (B : Base) (a : Addr) (o : Obj) : Base := B.hids ((a, o) :: B.hid)
noncomputable abbrev pairObj (a b : Value) : Obj := { cls := .type "tuple", data := .seq #[a, b] }
section
variable {B : Base} {fi : FnInfo} {d : Nat} {E : EP} {σ : St} {H : AH} {TO : Addr} {o o' : Obj}
theorem Trk.hide {a : Addr} : Trk (B.hide TO o) H a ↔ a = TO \/ Trk B H a := by
 unfold Trk
 constructor
 . rintro (h | h | h)
   . exact .inr (.inl h)
   . exact .inr (.inr (.inl h))
   . rcases mcp h with e | h
     . exact .inl e
     . exact .inr (.inr (.inr h))
 . rintro (h | h | h | h)
   . exact .inr (.inr (by rw [h]; exact mcs))
   . exact .inl h
   . exact .inr (.inl h)
   . exact .inr (.inr (mcm _ h))
theorem VR.unhide {h : Heap} {v : Value} {p : PV} (r : VR (Trk (B.hide TO o) H) h v p) : VR (Trk B H) h v p := r.mono (fun O O e O O => e) fun O O t => Trk.hide.mpr (.inr t)
theorem VRs.unhide {h : Heap} {v : List Value} {p : List PV} (r : VRs (Trk (B.hide TO o) H) h v p) : VRs (Trk B H) h v p := r.mono (fun O O e O O => e) fun O O t => Trk.hide.mpr (.inr t)
theorem VRs.hide {s : Shared} {v : List Value} {p : List PV} (r : VRs (Trk B H) s.heap v p) {s' : Shared} (hT : s.heap.objs.size <= TO) (hk : ∀ a ob, s.heap.get? a = some ob -> s'.heap.get? a = some ob) : VRs (Trk (B.hide TO o) H) s'.heap v p :=
 r.mono (fun a ob e O O => hk a ob e) fun a ha t => (Trk.hide.mp t).elim (fun e => absurd ha (nlr (by rw [e]; exact hT))) id
theorem Inv.unhide {s : Shared} (I : Inv (B.hide TO o) H s) : Inv B H s :=
 ⟨I.keep, I.size, I.tabs, I.bare, I.os, I.nodup, fun q hq => I.hid q (mcm _ hq), fun p hp => let ⟨a, vs, n, b, c⟩ := I.objs p hp; ⟨a, vs, n, b, c.unhide⟩⟩
theorem FrameOk.unhide {env : Env} {s : Shared} (F : FrameOk (B.hide TO o) env σ H s) : FrameOk B env σ H s := by
 refine ⟨F.fresh, F.apart, F.keys, F.nodup, ?_, fun x ov h => ?_, F.glob⟩
 . obtain ⟨m, h1, h2⟩ := F.ns
   exact ⟨m, h1, fun x p hx => let ⟨v, a, b⟩ := h2 x p hx; ⟨v, a, b.unhide⟩⟩
 . obtain ⟨c, w, h1, h2, h3⟩ := F.cell x ov h
   refine ⟨c, w, h1, h2, ?_⟩
   cases ov with
   | none => trivial
   | some p => obtain ⟨v, a, b⟩ := h3; exact ⟨v, a, b.unhide⟩
theorem Inv.hide {s s' : Shared} (I : Inv B H s) (t : Tr B noU H s H s') (hT : s.heap.objs.size <= TO) (ho : s'.heap.get? TO = some o) (hq : IsSeqO o) (hk : ∀ a ob, s.heap.get? a = some ob -> s'.heap.get? a = some ob) : Inv (B.hide TO o) H s' := by
 have hn : TO ∉ H.map (·.1) := fun q => absurd (Trk_lt I (.inl q)) (nlr hT)
 refine ⟨t.inv.keep, t.inv.size, t.inv.tabs, t.inv.bare, t.inv.os, t.inv.nodup, fun q hq' => ?_, fun p hp => ?_⟩
 . rcases mcp hq' with rfl | hq'
   . exact ⟨ho, hq, Heap.get?_none_of_le (ntr I.size hT), hn⟩
   . exact t.inv.hid q hq'
 . obtain ⟨h1, vs, n, h2, h3⟩ := I.objs p hp
   exact ⟨h1, vs, n, hk _ _ h2, h3.hide hT hk⟩
set_option genInjectivity false in
set_option genSizeOf false in
structure OnlyZ (B : Base) (TO : Addr) (P : Addr -> Prop) (H : AH) (s s' : Shared) : Prop where
 inv : Inv B H s'
 heap : ∀ a ob, s.heap.get? a = some ob -> ¬ P a -> a ≠ TO -> s'.heap.get? a = some ob
 size : s.heap.objs.size <= s'.heap.objs.size
 gens : s'.gens = s.gens
theorem OnlyZ.seq {P : Addr -> Prop} {s s' : Shared} (x : OnlyZ B TO P H s s') (hL : ∀ p, P p -> ∀ ob, s.heap.get? p = some ob -> Loose ob) : ∀ a ob, s.heap.get? a = some ob -> IsSeqO ob -> ¬ Trk (B.hide TO o) H a -> s'.heap.get? a = some ob :=
 fun a ob e q hn => x.heap a ob e (fun p => (hL a p ob e).1 q) fun e' => hn (Trk.hide.mpr (.inl e'))
theorem OnlyZ.make {P : Addr -> Prop} {s s' : Shared} (I : Inv (B.hide TO o) H s) (hk : ∀ a ob, s.heap.get? a = some ob -> ¬ P a -> a ≠ TO -> s'.heap.get? a = some ob) (hz : s.heap.objs.size <= s'.heap.objs.size)
   (hP : ∀ p, P p -> B.g.objs.size <= p /\ ¬ Trk (B.hide TO o) H p) (hL : ∀ p, P p -> ∀ ob, s.heap.get? p = some ob -> Loose ob) (hnd : ∀ q ∈ B.hid, q.1 ≠ TO) (hg : s'.gens = s.gens) (hos : s'.os = s.os) : OnlyZ B TO P H s s' := by
 obtain ⟨hT1, hT2, hT3, hT4⟩ := I.hid _ mcs
 have tT : Trk (B.hide TO o) H TO := Trk.hide.mpr (.inl rfl)
 have ns : ∀ a ob, s.heap.get? a = some ob -> IsSeqO ob -> a ≠ TO -> s'.heap.get? a = some ob := fun a ob e q hne => hk a ob e (fun p => (hL a p ob e).1 q) hne
 have sq : ∀ a ob, s.heap.get? a = some ob -> IsSeqO ob -> ¬ Trk (B.hide TO o) H a -> s'.heap.get? a = some ob := fun a ob e q hn => ns a ob e q fun e' => hn (e' ▸ tT)
 refine ⟨⟨fun a ob e => hk a ob (I.keep a ob e) (fun p => absurd (Heap.lt_size e) (nlr (hP a p).1)) fun q => ?_, ntr I.size hz, fun q hq' => ?_, hg ▸ I.bare, hos.trans I.os, I.nodup, fun q hq' => ?_, fun p hp => ?_⟩, hk, hz, hg⟩
 . rw [q] at e; rw [hT3] at e; cases e
 . obtain ⟨ps, h1, h2, h3⟩ := I.tabs q hq'
   refine ⟨ps, hk _ _ h1 (fun p => (hP _ p).2 (.inr (.inl (mmr ⟨q, hq', rfl⟩)))) (fun e => ?_), h2, fun pos cv hc => ?_⟩
   . rw [e, hT1] at h1; cases h1
     obtain ⟨vs, n, e2⟩ := hT2
     cases e2
   . obtain ⟨qn, a1, c, oc, vs, t, e1, e2, e3, e4⟩ := h3 pos cv hc
     refine ⟨qn, a1, c, oc, vs, t, e1, hk _ _ e2 (fun p => (hL c p oc e2).2 vs _ _ e3 e4) (fun e => ?_), e3, e4⟩
     rw [e, hT1] at e2; cases e2
     obtain ⟨vs', n, e2⟩ := hT2
     rw [e3] at e2; cases e2
 . obtain ⟨h1, h2, h3, h4⟩ := I.hid q (mcm _ hq')
   exact ⟨ns _ _ h1 h2 (hnd q hq'), h2, h3, h4⟩
 . obtain ⟨h1, vs, n, h2, h3⟩ := I.objs p hp
   refine ⟨h1, vs, n, ns _ _ h2 ⟨_, _, rfl⟩ (fun e => hT4 (mmr ⟨p, hp, e⟩)), h3.mono sq fun a ha t => ?_⟩
   exact Trk.hide.mpr (.inr t)
theorem Inv.rehide {P : Addr -> Prop} {s s' : Shared} (I : Inv (B.hide TO o) H s) (x : OnlyZ B TO P H s s') (hL : ∀ p, P p -> ∀ ob, s.heap.get? p = some ob -> Loose ob) (ho : s'.heap.get? TO = some o') (hq : IsSeqO o') : Inv (B.hide TO o') H s' := by
 obtain ⟨hT1, hT2, hT3, hT4⟩ := I.hid _ mcs
 refine ⟨x.inv.keep, x.inv.size, x.inv.tabs, x.inv.bare, x.inv.os, x.inv.nodup, fun q hq' => ?_, fun p hp => ?_⟩
 . rcases mcp hq' with rfl | hq'
   . exact ⟨ho, hq, hT3, hT4⟩
   . exact x.inv.hid q hq'
 . obtain ⟨h1, vs, n, h2, h3⟩ := I.objs p hp
   refine ⟨h1, vs, n, x.heap _ _ h2 (fun q => (hL _ q _ h2).1 ⟨_, _, rfl⟩) (fun e => hT4 (mmr ⟨p, hp, e⟩)), h3.mono (x.seq hL) fun a ha t => ?_⟩
   exact Trk.hide.mpr (Trk.hide.mp t)
set_option genInjectivity false in
set_option genSizeOf false in
structure ZipAt (B : Base) (o : Obj) (z TI TO i1 i2 l1 l2 : Addr) (xs ys : List PV) (deps : AH) (k : Nat) (H : AH) (s : Shared) : Prop where
 inv : Inv (B.hide TO o) H s
 pair : ∃ a b, o = pairObj a b
 zip : IsZip s.heap z TI TO .none
 ti : IsPair s.heap TI (.ref i1) (.ref i2)
 it1 : s.heap.IsListIter i1 l1 k
 it2 : s.heap.IsListIter i2 l2 k
 s1 : Src (B.hide TO o) deps H s l1 xs
 s2 : Src (B.hide TO o) deps H s l2 ys
noncomputable def ZP (z i1 i2 : Addr) (p : Addr) : Prop := p = z \/ p = i1 \/ p = i2
theorem zip_loose {h : Heap} {z TI TO : Addr} {v : Value} (x : IsZip h z TI TO v) : ∀ ob, h.get? z = some ob -> Loose ob := fun ob e => by
 rw [x] at e; cases e
 exact ⟨(fun hh1 => by obtain ⟨vs, n, q⟩ := hh1; exact nomatch q), fun vs q t e => by cases e; simp⟩
theorem ZipAt.loose {z TI i1 i2 l1 l2 : Addr} {xs ys : List PV} {deps : AH} {k : Nat} {s : Shared} (Z : ZipAt B o z TI TO i1 i2 l1 l2 xs ys deps k H s) : ∀ p, ZP z i1 i2 p -> ∀ ob, s.heap.get? p = some ob -> Loose ob := fun p hp ob e => by
 rcases hp with rfl | rfl | rfl
 . exact zip_loose Z.zip ob e
 . exact lit_loose Z.it1 ob e
 . exact lit_loose Z.it2 ob e
theorem ZipAt.stable {z TI i1 i2 l1 l2 : Addr} {xs ys : List PV} {deps : AH} {k : Nat} {s : Shared} (Z : ZipAt B o z TI TO i1 i2 l1 l2 xs ys deps k H s) (hTI : ¬ Trk (B.hide TO o) H TI) {G : Nat -> Prop} {H' : AH} {s' : Shared} (e : Evo (B.hide TO o) (ZP z i1 i2) G deps H s H' s') :
   ZipAt B o z TI TO i1 i2 l1 l2 xs ys deps k H' s' :=
 ⟨e.inv, Z.pair, e.own _ _ Z.zip (.inl rfl), e.seq _ _ Z.ti ⟨_, _, rfl⟩ hTI, lit_at e (.inr (.inl rfl)) Z.it1, lit_at e (.inr (.inr rfl)) Z.it2, Z.s1.stable e, Z.s2.stable e⟩
noncomputable def zipPV (xs ys : List PV) : List PV := (xs.zip ys).map fun p => .tup [p.1, p.2]
theorem zipPV_nil {xs ys : List PV} {k : Nat} (h : xs[k]? = none \/ ys[k]? = none) : zipPV (xs.drop k) (ys.drop k) = [] := by
 unfold zipPV
 rcases h with h | h
 . rw [List.drop_of_length_le (List.getElem?_eq_none_iff.mp h)]; rfl
 . rw [List.drop_of_length_le (List.getElem?_eq_none_iff.mp h), List.zip_nil_right]; rfl
theorem zipPV_cons {xs ys : List PV} {k : Nat} {x y : PV} (h1 : xs[k]? = some x) (h2 : ys[k]? = some y) : zipPV (xs.drop k) (ys.drop k) = .tup [x, y] :: zipPV (xs.drop (k + 1)) (ys.drop (k + 1)) := by
 obtain ⟨a, e1⟩ := List.getElem?_eq_some_iff.mp h1
 obtain ⟨b, e2⟩ := List.getElem?_eq_some_iff.mp h2
 rw [List.drop_eq_getElem_cons a, List.drop_eq_getElem_cons b, e1, e2]
 rfl
theorem zip_step {z TI i1 i2 l1 l2 : Addr} {xs ys : List PV} {deps : AH} {k : Nat} {A : Around} {s : Shared} {elts : List Expr} {kk : Nat} {pos : Pos} (D : ZipApart z TI TO i1 i2 l1 l2) (hnd : ∀ q ∈ B.hid, q.1 ≠ TO) (Z : ZipAt B o z TI TO i1 i2 l1 l2 xs ys deps k H s) (hA : A.handled = none)
   (hP : ∀ p, ZP z i1 i2 p -> B.g.objs.size <= p /\ ¬ Trk (B.hide TO o) H p) :
   wpAny (model B.prog B.w) A (pyNext (.ref z)) (fun r s₁ => (r = none /\ zipPV (xs.drop k) (ys.drop k) = [] /\ OnlyZ B TO (ZP z i1 i2) H s s₁) \/
     ∃ v x y, r = some v /\ zipPV (xs.drop k) (ys.drop k) = .tup [x, y] :: zipPV (xs.drop (k + 1)) (ys.drop (k + 1)) /\
       wpAny (model B.prog B.w) A (letOwnedTupleGo (.Tuple elts kk pos) (.ref z) v) (fun O s₂ => ∃ o', OnlyZ B TO (ZP z i1 i2) H s s₂ /\ VR (Trk (B.hide TO o') H) s₂.heap v (.tup [x, y]) /\ ZipAt B o' z TI TO i1 i2 l1 l2 xs ys deps (k + 1) H s₂) NoE s₁) NoE s := by
 obtain ⟨a, b, rfl⟩ := Z.pair
 obtain ⟨⟨vs, n, hl1, hv1⟩, hd1⟩ := id Z.s1
 obtain ⟨⟨ws, m, hl2, hv2⟩, hd2⟩ := id Z.s2
 have hTO : IsPair s.heap TO a b := (Z.inv.hid _ mcs).1
 have hz0 := Heap.lt_size Z.zip
 have mk : ∀ (h' : Heap), (∀ c ob, c ≠ z -> c ≠ TO -> c ≠ i1 -> c ≠ i2 -> s.heap.get? c = some ob -> h'.get? c = some ob) -> s.heap.objs.size <= h'.objs.size -> OnlyZ B TO (ZP z i1 i2) H s { s with heap := h' } := fun h' hk hz =>
   OnlyZ.make Z.inv (fun c ob e hp hne => hk c ob (fun e' => hp (.inl e')) hne (fun e' => hp (.inr (.inl e'))) (fun e' => hp (.inr (.inr e'))) e) hz hP Z.loose hnd rfl rfl
 have fin : (vs[k]? = none \/ ws[k]? = none) -> zipPV (xs.drop k) (ys.drop k) = [] -> wpAny (model B.prog B.w) A (pyNext (.ref z)) (fun r s₁ => (r = none /\ zipPV (xs.drop k) (ys.drop k) = [] /\ OnlyZ B TO (ZP z i1 i2) H s s₁) \/
     ∃ v x y, r = some v /\ zipPV (xs.drop k) (ys.drop k) = .tup [x, y] :: zipPV (xs.drop (k + 1)) (ys.drop (k + 1)) /\
       wpAny (model B.prog B.w) A (letOwnedTupleGo (.Tuple elts kk pos) (.ref z) v) (fun O s₂ => ∃ o', OnlyZ B TO (ZP z i1 i2) H s s₂ /\ VR (Trk (B.hide TO o') H) s₂.heap v (.tup [x, y]) /\ ZipAt B o' z TI TO i1 i2 l1 l2 xs ys deps (k + 1) H s₂) NoE s₁) NoE s := fun he hn =>
   wpAny_grow (wpAny_pyNext_zip_end hA D Z.zip Z.ti hTO Z.it1 Z.it2 (lst_isList hl1) (lst_isList hl2) he fun h' hk hz => .inl ⟨rfl, hn, mk h' hk hz⟩)
 rcases hv1.at k with ⟨e1, e2⟩ | ⟨v, p, e1, e2, hr1⟩
 . exact fin (.inl (by rw [<- Array.getElem?_toList]; exact e1)) (zipPV_nil (.inl e2))
 rcases hv2.at k with ⟨f1, f2⟩ | ⟨w, q, f1, f2, hr2⟩
 . exact fin (.inr (by rw [<- Array.getElem?_toList]; exact f1)) (zipPV_nil (.inr f2))
 refine wpAny_pyNext_zip_item D Z.zip Z.ti hTO Z.it1 Z.it2 (lst_isList hl1) (lst_isList hl2) (by rw [<- Array.getElem?_toList]; exact e1) (by rw [<- Array.getElem?_toList]; exact f1) fun h' a1 a2 a3 a4 a5 a6 a7 => ?_
 refine .inr ⟨_, p, q, rfl, zipPV_cons e2 f2, ?_⟩
 refine wpAny_letOwnedTupleGo_zip a1 fun h₂ b1 b2 => ?_
 have hz2 : s.heap.objs.size <= h₂.objs.size := by rw [b2.1, a6]; exact Nat.le_succ _
 have ox := mk h₂ (fun c ob c1 c2 c3 c4 e => (b2.2 c c1).trans (a7 c ob c1 c2 c3 c4 e)) hz2
 have hTO2 : h₂.get? TO = some (pairObj v w) := (b2.2 TO D.TOz).trans a2
 have hI2 : Inv (B.hide TO (pairObj v w)) H { s with heap := h₂ } := Z.inv.rehide ox Z.loose hTO2 ⟨_, _, rfl⟩
 have up : ∀ {u : Value} {pp : PV}, VR (Trk (B.hide TO (pairObj a b)) H) s.heap u pp -> VR (Trk (B.hide TO (pairObj v w)) H) h₂ u pp := fun r => r.mono (ox.seq Z.loose) fun a ha t => Trk.hide.mpr (Trk.hide.mp t)
 have ups : ∀ {u : List Value} {pp : List PV}, VRs (Trk (B.hide TO (pairObj a b)) H) s.heap u pp -> VRs (Trk (B.hide TO (pairObj v w)) H) h₂ u pp := fun r => r.mono (ox.seq Z.loose) fun a ha t => Trk.hide.mpr (Trk.hide.mp t)
 have src : ∀ {l : Addr} {zs : List PV} {us : Array Value} {nn : Nat}, s.heap.get? l = some (lstObj us nn) -> l ≠ TO -> VRs (Trk (B.hide TO (pairObj a b)) H) s.heap us.toList zs -> (¬ Trk (B.hide TO (pairObj a b)) H l \/ ((l, zs) ∈ deps /\ (l, zs) ∈ H)) -> Src (B.hide TO (pairObj v w)) deps H { s with heap := h₂ } l zs := fun e hne hv hd =>
   ⟨⟨_, _, ox.heap _ _ e (fun q => (Z.loose _ q _ e).1 ⟨_, _, rfl⟩) hne, ups hv⟩, hd.imp (fun h t => h (Trk.hide.mpr (Trk.hide.mp t))) id⟩
 refine ⟨_, ox, ?_, hI2, ⟨_, _, rfl⟩, b1, (b2.2 TI D.TIz).trans (a7 _ _ D.TIz D.TITO D.TIi1 D.TIi2 Z.ti), ?_, ?_, src hl1 D.l1TO hv1 hd1, src hl2 D.l2TO hv2 hd2⟩
 . refine .tup (vs := #[v, w]) (n := 0) ((b2.2 _ (Nat.ne_of_gt hz0)).trans a5) (fun t => ?_) (.cons (up hr1) (.cons (up hr2) .nil))
   exact absurd (Trk_lt Z.inv (Trk.hide.mpr (Trk.hide.mp t))) (Nat.lt_irrefl _)
 . obtain ⟨oi, x1, x2⟩ := a3; exact ⟨oi, (b2.2 _ D.i1z).trans x1, x2⟩
 . obtain ⟨oi, x1, x2⟩ := a4; exact ⟨oi, (b2.2 _ D.i2z).trans x1, x2⟩
end
section
variable {B : Base} {fi : FnInfo} {d : Nat} {E : EP} {σ : St} {H : AH} {TO : Addr} {o o' : Obj}
noncomputable abbrev CmpZ (B : Base) (TO : Addr) (fi : FnInfo) (d : Nat) (tgt : Expr) (ifs : List Expr) (elt : Expr) (D : Addr) (deps : AH) : List PV -> List PV -> St -> AH -> (LQ) -> Prop := CmpG B (fun o => (TO, o) :: B.hid) fi d tgt ifs elt D deps
theorem OnlyZ.tr {P : Addr -> Prop} {H₀ : AH} {s₀ s s' : Shared} (t : Tr B noU H₀ s₀ H s) (x : OnlyZ B TO P H s s') (hP : ∀ p, P p -> s₀.heap.objs.size <= p) (hT : s₀.heap.objs.size <= TO) : Tr B noU H₀ s₀ H s' :=
 ⟨x.inv, ⟨fun a ob e hn => x.heap a ob (t.step.heap a ob e hn) (fun q => absurd (Heap.lt_size e) (nlr (hP a q))) fun q => absurd (Heap.lt_size e) (nlr (by rw [q]; exact hT)), ntr t.step.size x.size,
   fun i y e => by rw [x.gens]; exact t.step.gens i y e⟩, t.keys⟩
theorem OnlyZ.frame {P : Addr -> Prop} {env : Env} {s s' : Shared} (F : FrameOk (B.hide TO o) env σ H s) (x : OnlyZ B TO P H s s') (hL : ∀ p, P p -> ∀ ob, s.heap.get? p = some ob -> Loose ob) (hT : ∀ ob, s.heap.get? TO = some ob -> IsSeqO ob) (h1 : ¬ P env.locals) (h2 : ∀ y c, env.cells.lookup y = some c -> ¬ P c) : FrameOk (B.hide TO o') env σ H s' := by
 have sq : ∀ a ob, s.heap.get? a = some ob -> IsSeqO ob -> ¬ Trk (B.hide TO o) H a -> s'.heap.get? a = some ob := x.seq hL
 have tt : ∀ a, a < s.heap.objs.size -> Trk (B.hide TO o') H a -> Trk (B.hide TO o) H a := fun a O t => Trk.hide.mpr (Trk.hide.mp t)
 refine ⟨F.fresh, F.apart, F.keys, F.nodup, ?_, fun y ov h => ?_, F.glob⟩
 . obtain ⟨m, ⟨ob, es, ep, ho, hd, r⟩, h2⟩ := F.ns
   refine ⟨m, ⟨ob, es, ep, x.heap _ _ ho h1 (fun e => ?_), hd, r⟩, fun y p hy => (h2 y p hy).mono sq tt⟩
   obtain ⟨vs, n, e2⟩ := hT _ (e ▸ ho)
   rw [hd] at e2; cases e2
 . obtain ⟨c, w, hc, ⟨ob, ho, hd⟩, hv⟩ := F.cell y ov h
   refine ⟨c, w, hc, ⟨ob, x.heap _ _ ho (h2 y c hc) (fun e => ?_), hd⟩, hv.mono sq tt⟩
   obtain ⟨vs, n, e2⟩ := hT _ (e ▸ ho)
   rw [hd] at e2; cases e2
theorem Tr.backZ {env : Env} {H₁ H' : AH} {s s₁ s' : Shared} (t₁ : Tr B noU H s H₁ s₁) (t : Tr (B.hide TO o) (ownU env) H₁ s₁ H' s') (hf : ∀ a, ownU env a -> s.heap.objs.size <= a) (hT : s.heap.objs.size <= TO) : Tr B noU H s H' s' :=
 ⟨t.inv.unhide, ⟨fun a ob e hn => by
     have ha := Heap.lt_size e
     refine t.step.heap a ob (t₁.step.heap a ob e hn) fun q => ?_
     rcases q with q | q
     . rcases Trk.hide.mp q with q | q
       . exact absurd ha (nlr (by rw [q]; exact hT))
       . exact hn (.inl (Trk.new t₁.keys ha q))
     . exact absurd ha (nlr (hf a q)),
   ntr t₁.step.size t.step.size, fun i x e => t.step.gens i x (t₁.step.gens i x e)⟩, fun a ha => by
   rcases t.keys a ha with q | q
   . exact t₁.keys a q
   . exact .inr (ntr t₁.step.size q)⟩
inductive ZJ (B : Base) (TO z TI i1 i2 l1 l2 : Addr) (xs ys : List PV) (deps : AH) (cenv : Env) (s₀ : Shared) (items : List PV) (o : Obj) (H : AH) (s' : Shared) : Prop
 | mk (k : Nat) (e : items = zipPV (xs.drop k) (ys.drop k)) (Z : ZipAt B o z TI TO i1 i2 l1 l2 xs ys deps k H s') (p : ∀ p, (ZP z i1 i2 p \/ p = TI) -> s₀.heap.objs.size <= p /\ p < s'.heap.objs.size /\ ¬ Trk (B.hide TO o) H p /\ p ≠ cenv.locals)
theorem turns_zip {A : Around} {elts : List Expr} {kk : Nat} {tpos : Pos} {cenv : Env} {deps : AH} {z TI i1 i2 l1 l2 : Addr} {xs ys : List PV} {s₀ : Shared} (hA : A.handled = none) (I₀ : Inv B H s₀) (ZD : ZipApart z TI TO i1 i2 l1 l2) (hnd : ∀ q ∈ B.hid, q.1 ≠ TO) (hT : s₀.heap.objs.size <= TO)
   (hCl : ∀ y c, cenv.cells.lookup y = some c -> c < s₀.heap.objs.size) (hU : ∀ a, ownU cenv a -> s₀.heap.objs.size <= a) : Turns B (fun o => (TO, o) :: B.hid) A deps (.Tuple elts kk tpos) (.ref z) cenv H s₀ (ZJ B TO z TI i1 i2 l1 l2 xs ys deps cenv s₀) where
 self := fun items o H s E Q j q => by
   obtain ⟨k, e, Z, O⟩ := j
   exact wpAny_pyIter_zip Z.zip q
 next := fun items o σ H₂ s₂ j T₂ F₂ => by
   obtain ⟨k, e, Z, hP⟩ := j
   subst e
   have hPa : ∀ p, ZP z i1 i2 p -> s₀.heap.objs.size <= p := fun p hp => (hP p (.inl hp)).1
   have hLW : ¬ ZP z i1 i2 cenv.locals := fun hp => (hP _ (.inl hp)).2.2.2 rfl
   have hCW : ∀ y c, cenv.cells.lookup y = some c -> ¬ ZP z i1 i2 c := fun y c hy hp => absurd (hCl y c hy) (nlr (hPa c hp))
   have fr : ∀ {o' s₃}, OnlyZ B TO (ZP z i1 i2) H₂ s₂ s₃ -> FrameOk (B.hide TO o') cenv σ H₂ s₃ := fun ox => ox.frame F₂ Z.loose (fun ob e => by
     have x := Z.inv.hid _ mcs
     exact Option.some.inj (e.symm.trans x.a) ▸ x.b) hLW hCW
   refine wpAny_mono (zip_step (elts := elts) (kk := kk) (pos := tpos) ZD hnd Z hA (fun p hp => ⟨ntr I₀.size (hPa p hp), (hP p (.inl hp)).2.2.1⟩)) (fun r s₃ hr => ?_) fun O O x => x
   rcases hr with ⟨e, hnil, ox⟩ | ⟨v, x, y, e, hcons, hv⟩
   . exact .done hnil e (ox.tr T₂ hPa hT) (fr (o' := o) ox).unhide
   . refine .one v _ _ hcons e (wpAny_mono hv (fun O s₄ hh1 => ?_) fun O O x => x)
     obtain ⟨o', ox, hvr, Z₄⟩ := hh1
     have hP₄ : ∀ p, (ZP z i1 i2 p \/ p = TI) -> p < s₄.heap.objs.size /\ ¬ Trk (B.hide TO o') H₂ p := fun p hp => ⟨nlt (hP p hp).2.1 ox.size, fun t => (hP p hp).2.2.1 (Trk.hide.mpr (Trk.hide.mp t))⟩
     exact ⟨o', Z₄.inv, fr ox, hvr, fun H' s' t hd => ⟨(ox.tr T₂ hPa hT).backZ t hU hT, k + 1, rfl, Z₄.stable (hP₄ _ (.inr rfl)).2 (G := fun O => False) (Evo.of_tr' (fr ox) t (fun p hp => ⟨ownU_not hLW hCW p hp, (hP₄ p (.inl hp)).2⟩) hd),
       fun p hp => ⟨(hP p hp).1, nlt (hP₄ p hp).1 t.step.size, fun q => (hP₄ p hp).2 (Trk.new t.keys (hP₄ p hp).1 q), (hP p hp).2.2.2⟩⟩⟩
end
section
variable {B : Base} {fi : FnInfo} {d : Nat} {E : EP} {σ : St} {H : AH}
inductive MadeZ (B : Base) (H : AH) (s : Shared) (TO : Addr) (H₁ : AH) (q : List PV -> LQ) (itv : Value) (s₂ : Shared) : Prop
 | mk (o : Obj) (z TI i1 i2 l1 l2 : Addr) (xs ys : List PV) (deps : AH) (e : itv = .ref z) (t : Tr B noU H s H₁ s₂) (ZD : ZipApart z TI TO i1 i2 l1 l2) (nd : ∀ q ∈ B.hid, q.1 ≠ TO) (Z : ZipAt B o z TI TO i1 i2 l1 l2 xs ys deps 0 H₁ s₂)
   (p : ∀ p, (ZP z i1 i2 p \/ p = TI) -> s.heap.objs.size <= p /\ p < s₂.heap.objs.size /\ ¬ Trk (B.hide TO o) H₁ p) (hT : s.heap.objs.size <= TO /\ TO < s₂.heap.objs.size) (dp : ∀ p ∈ deps, p ∈ H₁) (hq : q xs ys deps)
theorem MadeZ.toC {A : Around} {s : Shared} {TO : Addr} {H₁ : AH} {elts : List Expr} {kk : Nat} {tpos : Pos} {q : (ι : Type) -> (ι -> List (Addr × Obj)) -> IQ} {itv : Value} {s₂ : Shared} (hA : A.handled = none) (I : Inv B H s)
   (m : MadeZ B H s TO H₁ (fun xs ys deps => q Obj (fun o => (TO, o) :: B.hid) (zipPV xs ys) deps H₁) itv s₂) : MadeC B A (.Tuple elts kk tpos) H s q itv s₂ := by
 obtain ⟨o, z, TI, i1, i2, l1, l2, xs, ys, deps, e, t, ZD, nd, Z, p, hT, dp, hq⟩ := m
 subst e
 exact ⟨_, _, o, _, deps, H₁, t, Z.inv, fun a ha x => (Trk.hide.mp x).elim (fun e => absurd ha (nlr (by rw [e]; exact hT.1))) (Trk.new t.keys ha), fun cenv D s₄ T hL hC hU => ⟨_, turns_zip hA I ZD nd hT.1 hC hU, 0, rfl,
   Z.stable (p TI (.inr rfl)).2.2 (G := fun O => False) (Evo.of_tr0 T (fun a ha => (p a (.inl ha)).2.2) fun x hx => .tail _ (dp x hx)),
   fun a ha => ⟨(p a ha).1, nlt (p a ha).2.1 T.step.size, fun q => (p a ha).2.2 (Trk.new T.keys (p a ha).2.1 q), fun e => absurd (p a ha).2.1 (nlr (e ▸ hL))⟩⟩, hq⟩
theorem MadeZ.back {s₀ s : Shared} {TO : Addr} {H₁ : AH} {q : List PV -> LQ} {itv : Value} {s₂ : Shared} (T : Tr B noU H s₀ H₁ s) (m : MadeZ B H₁ s TO H₁ q itv s₂) : MadeZ B H s₀ TO H₁ q itv s₂ := by
 obtain ⟨o, z, TI, i1, i2, l1, l2, xs, ys, deps, e, t, ZD, nd, Z, p, hT, dp, hq⟩ := m
 exact ⟨o, z, TI, i1, i2, l1, l2, xs, ys, deps, e, T.trans t, ZD, nd, Z, fun a ha => ⟨ntr T.step.size (p a ha).1, (p a ha).2⟩, ⟨ntr T.step.size hT.1, hT.2⟩, dp, hq⟩
theorem zip_made {A : Around} {s : Shared} {v w : PV} {xs ys : List PV} {q : Addr -> List PV -> LQ} {va vb : Value} (I : Inv B H s) (hv : Items H v xs) (hw : Items H w ys) (r1 : VR (Trk B H) s.heap va v) (r2 : VR (Trk B H) s.heap vb w)
   (hq : ∀ TO, q TO xs ys (depsOf v xs ++ depsOf w ys)) :
   wpAny (model B.prog B.w) A (call (.type "zip") [va, vb]) (fun x s₁ => wpAny (model B.prog B.w) A (pyIter x) (fun itv s₂ => ∃ TO, MadeZ B H s TO H (q TO) itv s₂) E s₁) E s := by
 obtain ⟨l1, rfl, hs1, hd1⟩ := Src.of hv I r1
 obtain ⟨l2, rfl, hs2, hd2⟩ := Src.of hw I r2
 obtain ⟨⟨vs, n, hl1, hv1⟩, ht1⟩ := id hs1
 obtain ⟨⟨ws, m, hl2, hv2⟩, ht2⟩ := id hs2
 refine call_zip_2 (lst_isList hl1) (lst_isList hl2) fun h' a1 a2 a3 a4 a5 a6 a7 => ?_
 refine wpAny_pyIter_zip a1 ?_
 have hz : s.heap.objs.size <= h'.objs.size := by rw [a6]; exact Nat.le_add_right _ _
 have t : Tr B noU H s H { s with heap := h' } := Tr.ext I a7 hz rfl rfl
 have lt1 := Heap.lt_size hl1
 have lt2 := Heap.lt_size hl2
 generalize hN : s.heap.objs.size = N at *
 have ne : ∀ {a b : Addr}, @LT.lt Nat _ a b -> a ≠ b := fun h e => absurd h (by rw [e]; exact Nat.lt_irrefl _)
 have hT3 : s.heap.objs.size <= N + 3 := by rw [hN]; exact Nat.le_add_right _ _
 have I3 : Inv (B.hide (N + 3) (pairObj .none .none)) H { s with heap := h' } := I.hide t hT3 a3 ⟨_, _, rfl⟩ a7
 have notT : ∀ {p : Addr}, N <= p -> p ≠ N + 3 -> ¬ Trk (B.hide (N + 3) (pairObj .none .none)) H p := fun {p} h1 h2 t => by
   rcases Trk.hide.mp t with t | t
   . exact h2 t
   . exact absurd (Trk_lt I t) (by rw [hN]; exact nlr h1)
 have ap : ZipApart (N + 4) (N + 2) (N + 3) N (N + 1) l1 l2 := by
   have e1 : @LT.lt Nat _ l1 N := lt1
   have e2 : @LT.lt Nat _ l2 N := lt2
   constructor
   . exact ne (Nat.add_lt_add_left (by decide) N)
   . exact ne (Nat.add_lt_add_left (by decide) N)
   . exact ne (Nat.lt_add_of_pos_right (by decide))
   . exact ne (Nat.add_lt_add_left (by decide) N)
   . exact ne (Nat.add_lt_add_left (by decide) N)
   . exact (ne (Nat.lt_add_of_pos_right (n := N) (by decide : 0 < 2))).symm
   . exact (ne (Nat.add_lt_add_left (by decide : 1 < 2) N)).symm
   . exact (ne (Nat.lt_add_of_pos_right (n := N) (by decide : 0 < 3))).symm
   . exact (ne (Nat.add_lt_add_left (by decide : 1 < 3) N)).symm
   . exact ne (Nat.lt_succ_self N)
   . exact ne (nlt e1 (Nat.le_add_right _ _))
   . exact ne (nlt e1 (Nat.le_add_right _ _))
   . exact ne e1
   . exact ne (nlt e1 (Nat.le_add_right _ _))
   . exact ne (nlt e2 (Nat.le_add_right _ _))
   . exact ne (nlt e2 (Nat.le_add_right _ _))
   . exact ne e2
   . exact ne (nlt e2 (Nat.le_add_right _ _))
 have src : ∀ {l : Addr} {zs : List PV} {us : Array Value} {nn : Nat} {dd : AH}, s.heap.get? l = some (lstObj us nn) -> l ≠ N + 3 -> VRs (Trk B H) s.heap us.toList zs -> (¬ Trk B H l \/ ((l, zs) ∈ dd /\ (l, zs) ∈ H)) -> (∀ x ∈ dd, x ∈ depsOf v xs ++ depsOf w ys) -> Src (B.hide (N + 3) (pairObj .none .none)) (depsOf v xs ++ depsOf w ys) H { s with heap := h' } l zs := fun e hne hvv hd hsub =>
   ⟨⟨_, _, a7 _ _ e, hvv.hide hT3 a7⟩, hd.imp (fun h t => (Trk.hide.mp t).elim hne h) fun h => ⟨hsub _ h.1, h.2⟩⟩
 refine ⟨N + 3, _, N + 4, N + 2, N, N + 1, l1, l2, xs, ys, _, rfl, t, ap, fun q hq' e => ?_, ⟨I3, ⟨_, _, rfl⟩, a1, a2, a4, a5, src hl1 ap.l1TO hv1 ht1 (fun x hx => List.mem_append_left _ hx), src hl2 ap.l2TO hv2 ht2 (fun x hx => List.mem_append_right _ hx)⟩, ?_, ⟨hT3, ?_⟩, fun p hp => ?_, hq _⟩
 . have := Trk_lt I (.inr (.inr (mmr ⟨q, hq', e⟩)))
   exact absurd this (nlr hT3)
 . show ∀ p, (ZP (N + 4) N (N + 1) p \/ p = N + 2) -> s.heap.objs.size <= p /\ p < h'.objs.size /\ _
   rw [hN, a6]
   rintro p ((rfl | rfl | rfl) | rfl)
   . exact ⟨Nat.le_add_right _ _, Nat.add_lt_add_left (by decide) N, notT (Nat.le_add_right _ _) ap.TOz.symm⟩
   . exact ⟨Nat.le_refl _, Nat.lt_add_of_pos_right (by decide), notT (Nat.le_refl _) ap.TOi1.symm⟩
   . exact ⟨Nat.le_add_right _ _, Nat.add_lt_add_left (by decide) N, notT (Nat.le_add_right _ _) ap.TOi2.symm⟩
   . exact ⟨Nat.le_add_right _ _, Nat.add_lt_add_left (by decide) N, notT (Nat.le_add_right _ _) ap.TITO⟩
 . show N + 3 < h'.objs.size
   rw [a6]; exact Nat.lt_succ_of_lt (Nat.lt_succ_self _)
 . rcases mpp hp with hp | hp
   . exact hd1 p hp
   . exact hd2 p hp
inductive ZipL (H₂ : AH) (q : Addr -> List PV -> LQ) (f : PV) (vs : List PV) : Prop
 | mk (v w : PV) (xs ys : List PV) (hf : f = .raw (.type "zip")) (hv : vs = [v, w]) (h1 : Items H₂ v xs) (h2 : Items H₂ w ys) (h : ∀ TO, q TO xs ys (depsOf v xs ++ depsOf w ys))
theorem Ev_ListCompZ {elts : List Expr} {kk : Nat} {tpos : Pos} {func : Expr} {args : List Expr} {ipos : Pos} {elt : Expr} {ifs : List Expr} {scope : Scope} {pos : Pos} {Q : PQ} (σ' : St)
   (hc : CSt B σ scope.names σ')
   (hi : Ev B fi d NoE func σ H fun f H₁ => KeepsV B f /\ EvL B fi d NoE args σ H₁ fun vs H₂ => ZipL H₂ (fun TO xs ys deps => ∀ D, CmpZ B TO (cfi fi scope σ') d (.Tuple elts kk tpos) ifs elt D deps (zipPV xs ys) [] σ' H₂ fun acc H' => Q (.list acc) H') f vs)
   (hp : args.all plainE = true := by rfl) (he : ∀ env, eval (.Call func args [] ipos) env = (do callWith ipos (<- eval func env) [] (backTo ipos (starEach args env)) (backToKw ipos (keywordEach [] env))) := by intro _; rfl)
   (hn : (scope.names.map fun e => e.1).Nodup := by decide +kernel) (hk : scope.kind = .function := by rfl) (hco : scope.isCoroutine = false := by rfl) (hs : ∀ env x, foldedSetIterable (.Call func args [] ipos) env x = pure x := by intro _ _; rfl)
   (hd : 3 <= d := by decide) (hifs : ifs.length <= 1 := by decide) : Ev B fi d E (.ListComp elt [⟨.Tuple elts kk tpos, .Call func args [] ipos, ifs, 0⟩] scope pos) σ H Q := fun A s env e R I F => by
 show wpAny _ A (comprehension (.ListComp elt [⟨.Tuple elts kk tpos, .Call func args [] ipos, ifs, 0⟩] scope pos) scope env (firstIterPos [⟨.Tuple elts kk tpos, .Call func args [] ipos, ifs, 0⟩] pos) (newList []) (firstAsync [⟨.Tuple elts kk tpos, .Call func args [] ipos, ifs, 0⟩]) (firstIter [⟨.Tuple elts kk tpos, .Call func args [] ipos, ifs, 0⟩] env)) _ _ s
 refine wpAny_mono (comp_main (K := EvPost B H s Q) e R I F hifs (Q := fun acc H' => Q (.list acc) H') ?_ hc hn hk hco (hs env) ?_) (fun O O x => x) fun O O x => x.elim
 . refine Call_ (wpAny_mono (hi A s env e R I F) (fun fv s₁ hh => ?_) fun O O x => x) (he env)
   obtain ⟨f, H₁, t₁, q₁, hk₁, h₁⟩ := hh
   refine callWith_any (evalArgs_list hp (wpAny_mono (EvL_spliced h₁ hp A s₁ env e R t₁.inv (F.tr I t₁)) (fun vs s₂ hh => ?_) fun O O x => x))
   obtain ⟨ps, H₂, t₂, l₂, q₂, h₂⟩ := hh
   refine ⟨hk₁ A NoE H₂ s₂ fv t₂.inv (q₁.tr t₂), ?_⟩
   obtain ⟨v, w, xs, ys, hf, hv, h1, h2, hq⟩ := h₂
   subst hf; subst hv
   obtain ⟨va, vb, rfl, r1, r2⟩ := q₂.two
   obtain ⟨O, rfl⟩ := q₁.inv
   exact wpAny_mono (zip_made (q := fun TO xs ys deps => ∀ D, CmpZ B TO (cfi fi scope σ') d (.Tuple elts kk tpos) ifs elt D deps (zipPV xs ys) [] σ' H₂ fun acc H' => Q (.list acc) H') t₂.inv h1 h2 r1 r2 hq) (fun x s₃ h₃ => wpAny_mono h₃ (fun itv s₄ m => by obtain ⟨TO, m⟩ := m; exact (m.back (t₁.trans t₂)).toC R.handled I) fun O O x => x) fun O O x => x
 . rintro D acc H' C s' t ⟨m, hns⟩ hC q
   refine ⟨m, hns, fun h' hsb => ?_⟩
   have t' := t.turnedC I hns hC hsb
   exact ⟨.list acc, H', t'.drop_key, t'.inv.freeze, q⟩
end
section
variable {B : Base} {fi : FnInfo} {d : Nat} {E : EP} {σ : St} {H : AH}
theorem CmpG_filt {ι : Type} {hf : ι -> List (Addr × Obj)} {tgt elt : Expr} {ifs : List Expr} {D : Addr} {deps : AH} {Q : LQ} {σt : Option PV -> St} {f : PV -> PV} {p : PV -> Bool} (hd : ∀ p ∈ deps, p ∈ H) (items : List PV) : ∀ (acc : List PV) (o : Option PV),
   (∀ ob, ∀ x ∈ items, ∀ o H (K : SQ), K (σt (some x)) H -> Asg (B.hids (hf ob)) fi d NoE tgt x (σt o) H K) ->
   (∀ ob, ∀ x ∈ items, ∀ acc (K : BQ), K (p x) ((D, acc) :: H) -> TstI (B.hids (hf ob)) fi d ifs (σt (some x)) ((D, acc) :: H) K) ->
   (∀ ob, ∀ x ∈ items, ∀ acc (K : PQ), K (f x) ((D, acc) :: H) -> Ev (B.hids (hf ob)) fi d NoE elt (σt (some x)) ((D, acc) :: H) K) -> acc.length + items.length <= sizeLine -> Q (acc ++ (items.filter p).map f) H -> CmpG B hf fi d tgt ifs elt D deps items acc (σt o) H Q := by
 induction items with
 | nil => exact fun acc o O O O O q => List.append_nil acc ▸ q
 | cons x xs ih =>
   intro acc o hA hT hE hz q ob
   refine hA ob x (.head _) o _ _ (hT ob x (.head _) acc _ ?_)
   have go := fun acc' => ih acc' (some x) (fun ob y hy => hA ob y (.tail _ hy)) (fun ob y hy => hT ob y (.tail _ hy)) (fun ob y hy => hE ob y (.tail _ hy))
   cases hp : p x with
   | true =>
     rw [List.filter_cons_of_pos hp, List.map_cons, List.append_cons] at q
     exact hE ob x (.head _) acc _ ⟨ntr (Nat.le_add_right _ _) hz, H, rfl, hd, go _ (by rw [List.length_append, Nat.add_assoc, Nat.add_comm [f x].length]; exact hz) q⟩
   | false =>
     rw [List.filter_cons_of_neg (by rw [hp]; exact Bool.false_ne_true)] at q
     exact ⟨H, rfl, hd, go _ (ntr (Nat.le_succ _) hz) q⟩
theorem CmpZ_map {TO : Addr} {tgt elt : Expr} {D : Addr} {deps : AH} {Q : LQ} {σt : Option PV -> St} {f : PV -> PV} (hd : ∀ p ∈ deps, p ∈ H) (items acc : List PV) (o : Option PV)
   (hA : ∀ ob, ∀ x ∈ items, ∀ o H (K : SQ), K (σt (some x)) H -> Asg (B.hide TO ob) fi d NoE tgt x (σt o) H K)
   (hE : ∀ ob, ∀ x ∈ items, ∀ acc (K : PQ), K (f x) ((D, acc) :: H) -> Ev (B.hide TO ob) fi d NoE elt (σt (some x)) ((D, acc) :: H) K) (hz : acc.length + items.length <= sizeLine) (q : Q (acc ++ items.map f) H) : CmpZ B TO fi d tgt [] elt D deps items acc (σt o) H Q :=
 CmpG_filt (p := fun O => true) hd items acc o hA (fun O O O O O k => k) hE hz (by rw [List.filter_eq_self.mpr fun O O => rfl]; exact q)
theorem CmpL_map {tgt elt : Expr} {D : Addr} {deps : AH} {Q : LQ} {σt : Option PV -> St} {f : PV -> PV}
   (hA : ∀ x o H (K : SQ), K (σt (some x)) H -> Asg B fi d NoE tgt x (σt o) H K) (hd : ∀ p ∈ deps, p ∈ H) (items acc : List PV) (o : Option PV)
   (hE : ∀ x ∈ items, ∀ acc (K : PQ), K (f x) ((D, acc) :: H) -> Ev B fi d NoE elt (σt (some x)) ((D, acc) :: H) K) (hz : acc.length + items.length <= sizeLine) (q : Q (acc ++ items.map f) H) : CmpL B fi d tgt [] elt D deps items acc (σt o) H Q :=
 CmpG_filt (p := fun O => true) hd items acc o (fun O x O => hA x) (fun O O O O O k => k) (fun O => hE) hz (by rw [List.filter_eq_self.mpr fun O O => rfl]; exact q)
theorem CmpL_filter {tgt elt c : Expr} {D : Addr} {deps : AH} {Q : LQ} {σt : Option PV -> St} {f : PV -> PV} {p : PV -> Bool}
   (hA : ∀ x o H (K : SQ), K (σt (some x)) H -> Asg B fi d NoE tgt x (σt o) H K) (hd : ∀ p ∈ deps, p ∈ H) (items acc : List PV) (o : Option PV)
   (hT : ∀ x ∈ items, ∀ acc (K : BQ), K (p x) ((D, acc) :: H) -> Tst B fi d NoE c (σt (some x)) ((D, acc) :: H) K)
   (hE : ∀ x ∈ items, ∀ acc (K : PQ), K (f x) ((D, acc) :: H) -> Ev B fi d NoE elt (σt (some x)) ((D, acc) :: H) K) (hz : acc.length + items.length <= sizeLine) (q : Q (acc ++ (items.filter p).map f) H) : CmpL B fi d tgt [c] elt D deps items acc (σt o) H Q :=
 CmpG_filt hd items acc o (fun O x O => hA x) (fun O => hT) (fun O => hE) hz q
theorem X_Assign_NameK {x : Str} {pos' : Pos} {value : Expr} {pos : Pos} {Qn : SQ} {Qf : FQ}
   (h : Ev B fi d E value σ H fun v H₁ => ∃ k σ', Rep x v k σ σ' /\ storable fi k /\ Qn σ' H₁)
   (hs : ∀ env, EnvOk B fi env -> swapsWith value (some (.Name x pos')) pos.line env = pure false) : X B fi d E (.Assign [.Name x pos'] value pos) σ H Qn Qf := fun A s env e R I F => by
 refine wpAny_Assign_Name (wpAny_mono (h A s env e R I F) (fun v s₁ hh1 => ?_) fun O O x => x) (hs env e)
 obtain ⟨p, H₁, t₁, r₁, k, σ', hr, hk, q⟩ := hh1
 exact wpAny_mono (store_ok e t₁.inv (F.tr I t₁) r₁ hr hk) (fun O s₂ hh1 => by obtain ⟨t₂, F₂⟩ := hh1; exact ⟨σ', H₁, t₁.up.trans t₂, F₂, .inl ⟨rfl, q⟩⟩) fun O O x => x
theorem swapsWith_cell {x : Str} {p : Pos} {elt : Expr} {gens : List Comprehension} {scope : Scope} {cp : Pos} {line : Nat} {env : Env} (e : EnvOk B fi env) (hk : fi.scope.names.lookup x = some .cell) : swapsWith (.ListComp elt gens scope cp) (some (.Name x p)) line env = pure false := by
 show (pure (env.blockKind == .function && env.kindOf x == some .local && p.line == cp.line && !(scope.names.any fun (n, k) => n == x && (k == .local || k == .cell))) : Sem Bool) = pure false
 have : env.kindOf x = some .cell := by unfold Env.kindOf; rw [e.scope]; exact hk
 rw [this]
 have h2 : ((some NameKind.cell : Option NameKind) == some .local) = false := rfl
 rw [h2, Bool.and_false, Bool.false_and, Bool.false_and]
theorem Bin_pow {a b : Int} {Q : PQ} (hb : 0 < b) (ha : ¬ (a == 0 || a == 1) = true) (ha' : ¬ (a == -1) = true) (hz : ((Builtin.Int.intBits a : Nat) : Int) * b <= 100000000) (h : Q (.int (a ^ b.toNat)) H) : V2 B d E (binaryOp .Pow) (.int a) (.int b) H Q := fun A s R I va vb r1 r2 => by
 obtain ⟨O, rfl⟩ := r1.inv; obtain ⟨O, rfl⟩ := r2.inv
 refine AutoIntOps.pow_4 (by lia) (by simp; lia) ha ha' (by unfold Builtin.Int.intTooBig bitsLine; simp; lia) ?_
 exact ⟨_, _, Tr.tok I _, .int _ _, h⟩
end
section
theorem ite_f {P Q : Prop} (h : Q) : if false = true then P else Q := by rw [if_neg Bool.false_ne_true]; exact h
theorem ite_t {P Q : Prop} (h : P) : if true = true then P else Q := by rw [if_pos rfl]; exact h
theorem ite_nt {P Q : Prop} (h : Q) : if (!true) = true then P else Q := by rw [if_neg (by decide)]; exact h
theorem ite_oa {P Q : Prop} (h : Q) : if (BoolOp.Or == BoolOp.And) = true then P else Q := by rw [if_neg (by decide)]; exact h
theorem isPV_bool (a b : Bool) : isPV (.bool a) (.bool b) = (a == b) := by cases a <;> cases b <;> rfl
end
theorem pickS_mid {x : Str} {a b : Nat} (hab : a <= b) (hb : b <= x.length) : strPick x (some (a : Int)) (some (b : Int)) none = ofL ((x.cps.toList.drop a).take (b - a)) := StrLaws.sliceText_nat x hab hb
theorem pickS_lo {x : Str} {a : Nat} (ha : a <= x.length) : strPick x (some (a : Int)) none none = ofL (x.cps.toList.drop a) := by
 have := pickS_mid (x := x) ha (Nat.le_refl _)
 unfold strPick at this ⊢
 rw [Option.getD_none, StrLaws.sliceIdx_none_hi]
 rw [Option.getD_none] at this
 rw [this, List.take_of_length_le (by have : x.cps.toList.length = x.length := rfl; rw [List.length_drop]; lia)]
theorem pickS_last {x : Str} (hx : 1 <= x.length) : strPick x none (some (-1)) none = ofL (x.cps.toList.take (x.length - 1)) := by
 have := pickS_mid (x := x) (a := 0) (b := x.length - 1) (Nat.zero_le _) (by lia)
 unfold strPick at this ⊢
 rw [Option.getD_none, StrLaws.sliceIdx_none_lo, StrLaws.sliceIdx_neg_hi _ _ (by decide) (by lia), show (-1 : Int) + (x.length : Int) = ((x.length - 1 : Nat) : Int) by lia]
 rw [Option.getD_none] at this
 rw [show ((0 : Nat) : Int) = 0 from rfl] at this
 rw [this, List.drop_zero, Nat.sub_zero]
theorem mul_ofL (c : Nat) (n : Int) : Txt.mul (ofL [c]) n = ofL (List.replicate n.toNat c) := by
 unfold Txt.mul
 split
 . rename_i h
   have : n.toNat = 0 := by lia
   rw [this]; rfl
 . rename_i h
   split
   . rename_i h2
     simp only [Bool.or_eq_true, beq_iff_eq] at h2
     rcases h2 with rfl | h2
     . rfl
     . cases h2
   . have : ∀ (k : Nat) (acc : Array Nat), (List.replicate k (ofL [c]).cps).foldl (· ++ ·) acc = acc ++ (List.replicate k c).toArray := by
       intro k
       induction k with
       | zero => intro acc; simp
       | succ k ih =>
         intro acc
         rw [List.replicate_succ, List.foldl_cons, ih, List.replicate_succ]
         apply Array.ext'
         simp [ofL]
     rw [this]
     unfold ofL
     congr 1
     simp
theorem add_ofL (a b : List Nat) : ofL a ++ ofL b = ofL (a ++ b) := by
 show (⟨(ofL a).cps ++ (ofL b).cps⟩ : Str) = _
 unfold ofL
 congr 1
 simp
theorem mulOk_ofL {c : Nat} {n : Int} (hn : n <= 16000000) (hn2 : -16000000 <= n) : MulOk (ofL [c]) n := by
 refine ⟨?_, fun O O => ?_, fun O O => ?_⟩
 . simp only [Bool.or_eq_false_iff, decide_eq_false_iff_not]; lia
 . intro h
   have e : ((ofL [c]).length : Int) = 1 := rfl
   rw [e] at h
   have : (2 ^ 63 - 1 : Int) / n ≥ 1 := by
     have hp : 0 < n := by lia
     rw [ge_iff_le, Int.le_ediv_iff_mul_le hp]
     lia
   lia
 . unfold Builtin.Str.tooLong
   have e : (ofL [c]).length = 1 := rfl
   rw [e, Nat.one_mul, sizeLine_eq]
   exact decide_eq_false (by lia)
noncomputable def chkB : List Nat -> Int -> Bool
 | [], o => o == 0
 | c :: r, o => if c = 40 then chkB r (o + 1) else if c = 41 then (if o - 1 < 0 then false else chkB r (o - 1)) else chkB r o
noncomputable def Br (l : List Nat) : Prop := ∀ c ∈ l, c = 40 \/ c = 41
theorem escTok_br : ∀ {l : List Nat} (i : Nat) (o : Int), Br l -> chkGo (escTok i false l) o = chkB l o
 | [], i, o, _ => by simp [escTok, chkGo, chkB]
 | c :: r, i, o, h => by
   have hr : Br r := fun x hx => h x (mcm _ hx)
   have hc := h c mcs
   have e1 : escTok i false (c :: r) = (i, [c]) :: escTok (i + 1) false r := by rw [escTok, if_neg (by lia)]
   rw [e1, chkB]
   rcases hc with rfl | rfl
   . rw [chkGo_open rfl, escTok_br _ _ hr, if_pos rfl]
   . rw [if_neg (by decide), if_pos rfl]
     by_cases hn : o - 1 < 0
     . rw [chkGo_neg rfl hn, if_pos hn]
     . rw [chkGo_close rfl hn, escTok_br _ _ hr, if_neg hn]
theorem contains_quote (l : List Nat) : Txt.contains (ofL l) ⟨#[34]⟩ = decide (34 ∈ l) := StrLaws.found_one (ofL l) 34
noncomputable def pieces : List (List Nat) := [[], [97], [92, 40], [92, 41], [34, 41, 34], [34, 40, 92, 34, 34]]
theorem strip_tail {x : Str} {br : List Nat} (h : Br br) : ∀ (i st : Nat) (o : Option Nat) (acc : List Str), stripGo x (escTok i false br) st o acc = stripGo x [] st o acc := by
 induction br with
 | nil => intro i st o acc; simp [escTok]
 | cons c r ih =>
   intro i st o acc
   have hc := h c mcs
   have e1 : escTok i false (c :: r) = (i, [c]) :: escTok (i + 1) false r := by rw [escTok, if_neg (by lia)]
   rw [e1, stripGo_skip (by intro q; simp at q; lia)]
   exact ih (fun x hx => h x (mcm _ hx)) _ _ _ _
theorem strip_text {pc br : List Nat} (hp : pc ∈ pieces) (h : Br br) (hne : br ≠ []) : ∃ q, stripS (ofL (pc ++ br)) = ofL (q ++ br) /\ ∀ o, chkGo (escTok 0 false (q ++ br)) o = chkB br o := by
 have hno : 34 ∉ br := fun q => by rcases h 34 q with e | e <;> lia
 have plain : ∀ pc, 34 ∉ pc -> stripS (ofL (pc ++ br)) = ofL (pc ++ br) := fun pc hq => by
   unfold stripS
   rw [contains_quote, decide_eq_false (by simp [hq, hno]), if_neg Bool.false_ne_true]
 have hl : 0 < br.length := List.length_pos_iff.mpr hne
 have quoted : ∀ (pc : List Nat) (k : Nat), 34 ∈ pc -> pc.length = k -> (∀ x, stripGo x (escTok 0 false (pc ++ br)) 0 none [] = stripGo x (escTok k false br) k none []) -> stripS (ofL (pc ++ br)) = ofL ([] ++ br) := fun pc k hq hk hg => by
   unfold stripS
   rw [contains_quote, decide_eq_true (by simp [hq]), if_pos rfl]
   have e : (ofL (pc ++ br)).cps.toList = pc ++ br := rfl
   rw [e, hg, strip_tail h]
   have hlen : (ofL (pc ++ br)).length = k + br.length := by rw [ofL_len, List.length_append, hk]
   rw [stripGo, if_pos (by lia), pickS_lo (by lia), e, <- hk, List.drop_left, List.nil_append, List.nil_append]
   exact join_ofL (w := []) [br]
 simp only [pieces, List.mem_cons, List.not_mem_nil, or_false] at hp
 rcases hp with rfl | rfl | rfl | rfl | rfl | rfl
 . exact ⟨[], plain [] (by decide), fun o => escTok_br _ _ h⟩
 . refine ⟨[97], plain [97] (by decide), fun o => ?_⟩
   show chkGo (escTok 0 false (97 :: br)) o = _
   rw [escTok, if_neg (by decide), chkGo_skip (by decide) (by decide)]
   exact escTok_br _ _ h
 . refine ⟨[92, 40], plain _ (by decide), fun o => ?_⟩
   show chkGo (escTok 0 false (92 :: 40 :: br)) o = _
   rw [escTok, if_pos rfl, escTok, chkGo_skip (by decide) (by decide)]
   exact escTok_br _ _ h
 . refine ⟨[92, 41], plain _ (by decide), fun o => ?_⟩
   show chkGo (escTok 0 false (92 :: 41 :: br)) o = _
   rw [escTok, if_pos rfl, escTok, chkGo_skip (by decide) (by decide)]
   exact escTok_br _ _ h
 . refine ⟨[], quoted [34, 41, 34] 3 (by decide) rfl (fun x => ?_), fun o => escTok_br _ _ h⟩
   show stripGo x (escTok 0 false (34 :: 41 :: 34 :: br)) 0 none [] = _
   rw [escTok, if_neg (by decide), escTok, if_neg (by decide), escTok, if_neg (by decide), stripGo_open rfl, stripGo_skip (by decide), stripGo_same rfl rfl]
 . refine ⟨[], quoted [34, 40, 92, 34, 34] 5 (by decide) rfl (fun x => ?_), fun o => escTok_br _ _ h⟩
   show stripGo x (escTok 0 false (34 :: 40 :: 92 :: 34 :: 34 :: br)) 0 none [] = _
   rw [escTok, if_neg (by decide), escTok, if_neg (by decide), escTok, if_pos rfl, escTok, escTok, if_neg (by decide), stripGo_open rfl, stripGo_skip (by decide), stripGo_skip (by decide), stripGo_same rfl rfl]
theorem chk_text {pc br : List Nat} (hp : pc ∈ pieces) (h : Br br) (hne : br ≠ []) : chkS (ofL (pc ++ br)) = chkB br 0 := by
 obtain ⟨q, e1, e2⟩ := strip_text hp h hne
 unfold chkS
 rw [e1]
 exact e2 0
theorem chkB_open : ∀ (k : Nat) (r : List Nat) (o : Int), chkB (List.replicate k 40 ++ r) o = chkB r (o + k)
 | 0, r, o => by simp
 | k + 1, r, o => by
   rw [List.replicate_succ, List.cons_append, chkB, if_pos rfl, chkB_open k]
   congr 1; lia
theorem chkB_close : ∀ (k : Nat) (r : List Nat) (o : Int), 0 <= o -> chkB (List.replicate k 41 ++ r) o = if o < k then false else chkB r (o - k)
 | 0, r, o, h => by rw [if_neg (by lia)]; simp
 | k + 1, r, o, h => by
   rw [List.replicate_succ, List.cons_append, chkB, if_neg (by decide), if_pos rfl]
   by_cases hn : o - 1 < 0
   . rw [if_pos hn, if_pos (by lia)]
   . rw [if_neg hn, chkB_close k r _ (by lia)]
     by_cases hk : o - 1 < k
     . rw [if_pos hk, if_pos (by lia)]
     . rw [if_neg hk, if_neg (by lia)]
       congr 1; lia
noncomputable def stepL (d : Int) : List Nat := List.replicate d.toNat 40 ++ List.replicate (-d).toNat 41
theorem chkB_step (d : Int) (r : List Nat) (o : Int) (h : 0 <= o) : chkB (stepL d ++ r) o = if o + d < 0 then false else chkB r (o + d) := by
 unfold stepL
 rw [List.append_assoc, chkB_open, chkB_close _ _ _ (by lia)]
 by_cases hd : 0 <= d
 . rw [if_neg (by lia), if_neg (by lia)]
   congr 1; lia
 . by_cases hn : o + d < 0
   . rw [if_pos (by lia), if_pos hn]
   . rw [if_neg (by lia), if_neg hn]
     congr 1; lia
theorem step_br (d : Int) : Br (stepL d) := fun c hc => by
 unfold stepL at hc
 rcases mpp hc with h | h
 . exact .inl (List.eq_of_mem_replicate h)
 . exact .inr (List.eq_of_mem_replicate h)
structure TextOk (t : List Nat) (g : Bool) : Prop where
 chk : chkS (ofL t) = g
 cut : chkS (ofL t.dropLast) = false
 asc : ∀ c ∈ t, c < 128
 len : t.length <= 2500
 ne : t ≠ []
theorem chkB_st {a x y : Nat} {r : List Nat} {p : Prop} [Decidable p] (h : a <= x) (k : a <= y -> chkB r ((y : Int) - a) = decide p) : chkB (stepL ((y : Int) - x) ++ r) ((x : Int) - a) = decide (a <= y /\ p) := by
 have e : (x : Int) - a + ((y : Int) - x) = (y : Int) - a := by omega
 rw [chkB_step _ _ _ (Int.sub_nonneg_of_le (Int.ofNat_le.mpr h)), e]
 by_cases hy : a <= y
 . rw [if_neg (Int.not_lt.mpr (Int.sub_nonneg_of_le (Int.ofNat_le.mpr hy))), k hy]
   exact decide_eq_decide.mpr ⟨fun q => ⟨hy, q⟩, And.right⟩
 . rw [if_pos (Int.sub_neg_of_lt (Int.ofNat_lt.mpr (Nat.lt_of_not_le hy)))]
   exact (decide_eq_false fun e => hy e.1).symm
theorem chkB_fin {a x k : Nat} (h : a <= x) : chkB (List.replicate k 41) ((x : Int) - a) = decide (x = a + k) := by
 have e := chkB_close k [] ((x : Int) - a) (Int.sub_nonneg_of_le (Int.ofNat_le.mpr h))
 rw [List.append_nil] at e
 rw [e]
 by_cases hk : (x : Int) - a < k
 . rw [if_pos hk]; exact (decide_eq_false (by omega)).symm
 . rw [if_neg hk]; exact decide_eq_decide.mpr (by omega)
noncomputable def brL (x0 x1 x2 x3 x4 k : Nat) : List Nat := stepL ((x1 : Int) - x0) ++ (stepL ((x2 : Int) - x1) ++ (stepL ((x3 : Int) - x2) ++ (stepL ((x4 : Int) - x3) ++ List.replicate k 41)))
theorem brL_br (x0 x1 x2 x3 x4 k : Nat) : Br (brL x0 x1 x2 x3 x4 k) := fun c hc => by
 unfold brL at hc
 simp only [List.mem_append] at hc
 rcases hc with h | h | h | h | h
 . exact step_br _ c h
 . exact step_br _ c h
 . exact step_br _ c h
 . exact step_br _ c h
 . exact .inr (List.eq_of_mem_replicate h)
theorem stepL_len (d : Int) : (stepL d).length = d.natAbs := by unfold stepL; simp
theorem brL_len (x0 x1 x2 x3 x4 k : Nat) : (brL x0 x1 x2 x3 x4 k).length = ((x1 : Int) - x0).natAbs + (((x2 : Int) - x1).natAbs + (((x3 : Int) - x2).natAbs + (((x4 : Int) - x3).natAbs + k))) := by
 unfold brL; simp only [List.length_append, stepL_len, List.length_replicate]
theorem brL_ne (x0 x1 x2 x3 x4 k : Nat) (h : 0 < k) : brL x0 x1 x2 x3 x4 k ≠ [] := fun e => by
 have := brL_len x0 x1 x2 x3 x4 k
 rw [e] at this; simp at this; lia
theorem brL_succ (x0 x1 x2 x3 x4 k : Nat) : brL x0 x1 x2 x3 x4 (k + 1) = brL x0 x1 x2 x3 x4 k ++ [41] := by
 unfold brL; rw [List.replicate_succ']; try simp only [List.append_assoc]
theorem brL_chk (x0 x1 x2 x3 x4 k : Nat) : chkB (brL x0 x1 x2 x3 x4 k) 0 = decide (x0 <= x1 /\ x0 <= x2 /\ x0 <= x3 /\ x0 <= x4 /\ x4 = x0 + k) := by
 rw [<- Int.sub_self (x0 : Int)]
 exact chkB_st (Nat.le_refl _) fun h => chkB_st h fun h => chkB_st h fun h => chkB_st h fun h => chkB_fin h
theorem dist_le {a b n : Nat} (ha : a <= n) (hb : b <= n) : ((a : Int) - b).natAbs <= n := by omega
theorem lap_ok {pc : List Nat} (hp : pc ∈ pieces) {x0 x1 x2 x3 x4 k : Nat} (h0 : x0 <= 100) (h1 : x1 <= 100) (h2 : x2 <= 100) (h3 : x3 <= 100) (h4 : x4 = x0 + k) (hk : 3 <= k) (hk6 : k <= 6) :
   TextOk (pc ++ brL x0 x1 x2 x3 x4 k) (decide (x0 <= x1 /\ x0 <= x2 /\ x0 <= x3)) /\ chkS (ofL (pc ++ brL x0 x1 x2 x3 x4 k ++ [41])) = false := by
 obtain ⟨j, rfl⟩ : ∃ j, k = j + 1 := Nat.exists_eq_add_one_of_ne_zero (Nat.ne_of_gt (nlt (by decide) hk))
 subst h4
 have hpc : (∀ c ∈ pc, c < 128) /\ pc.length <= 10 := by
   simp only [pieces, List.mem_cons, List.not_mem_nil, or_false] at hp
   rcases hp with rfl | rfl | rfl | rfl | rfl | rfl <;> decide
 have hne : ∀ {n}, brL x0 x1 x2 x3 (x0 + (j + 1)) (n + 1) ≠ [] := brL_ne _ _ _ _ _ _ (Nat.succ_pos _)
 have h5 : x0 + (j + 1) <= 106 := Nat.add_le_add h0 hk6
 have up : ∀ {n}, n <= 100 -> n <= 106 := fun h => ntr h (by decide)
 refine ⟨⟨?_, ?_, ?_, ?_, fun e => hne (List.append_eq_nil_iff.mp e).2⟩, ?_⟩
 . rw [chk_text hp (brL_br _ _ _ _ _ _) hne, brL_chk]
   exact decide_eq_decide.mpr ⟨fun q => ⟨q.1, q.2.1, q.2.2.1⟩, fun q => ⟨q.1, q.2.1, q.2.2, Nat.le_add_right _ _, rfl⟩⟩
 . obtain ⟨i, rfl⟩ : ∃ i, j = i + 1 := Nat.exists_eq_add_one_of_ne_zero (Nat.ne_of_gt (nlt (by decide) (Nat.le_of_succ_le_succ hk)))
   rw [brL_succ, <- List.append_assoc, List.dropLast_concat, chk_text hp (brL_br _ _ _ _ _ _) hne, brL_chk]
   exact decide_eq_false fun q => Nat.succ_ne_self _ (Nat.add_left_cancel q.2.2.2.2)
 . intro c hc
   rcases mpp hc with h | h
   . exact hpc.1 c h
   . rcases brL_br _ _ _ _ _ _ c h with rfl | rfl <;> decide
 . rw [List.length_append, brL_len]
   exact ntr (Nat.add_le_add hpc.2 (Nat.add_le_add (dist_le (up h1) (up h0)) (Nat.add_le_add (dist_le (up h2) (up h1)) (Nat.add_le_add (dist_le (up h3) (up h2)) (Nat.add_le_add (dist_le h5 (up h3)) hk6))))) (by decide)
 . rw [List.append_assoc, <- brL_succ, chk_text hp (brL_br _ _ _ _ _ _) hne, brL_chk]
   exact decide_eq_false fun q => Nat.succ_ne_self _ (Nat.add_left_cancel q.2.2.2.2).symm
noncomputable abbrev rowsL (l : List Nat) : List (List Nat) := l.map fun n => List.replicate n 46
noncomputable abbrev rowsV (l : List Nat) : PV := .list (rowsPV (rowsL l))
noncomputable abbrev natsPV (xs : List Nat) : List PV := xs.map fun n : Nat => PV.int n
noncomputable abbrev boolsPV (xs : List Bool) : List PV := xs.map PV.bool
section
variable {B : Base} {d : Nat} {H : AH}
set_option genInjectivity false in
set_option genSizeOf false in
structure LapsFns (B : Base) where
 S : SendFns B
 M : MailFns B
 fs : Addr
 cs : Value
 hs : FnIs B fs "_law_sent" kSent .none .none cs
 fp : Addr
 cp : Value
 hp : FnIs B fp "_pre_parse_validation" kPre .none .none cp
 gs : GlobIs B "_law_sent" (.raw (.ref fs))
 gp : GlobIs B "_pre_parse_validation" (.raw (.ref fp))
 gr : GlobIs B "range" (.raw (.type "range"))
 gz : GlobIs B "zip" (.raw (.type "zip"))
 gli : GlobIs B "list" (.raw (.type "list"))
 gmi : GlobIs B "min" (.raw (.builtin "min"))
 gle : GlobIs B "len" (.raw (.builtin "len"))
noncomputable abbrev stL (F : LapsFns B) (rows ring ways : PV) (later more line pieces texts place text spot step good kept hand : Option PV) : St := [(Str.ofString "rows", .local, some rows), (Str.ofString "ring", .cell, some ring), (Str.ofString "ways", .local, some ways),
 (Str.ofString "later", .local, later), (Str.ofString "more", .local, more), (Str.ofString "line", .cell, line), (Str.ofString "pieces", .local, pieces), (Str.ofString "texts", .local, texts), (Str.ofString "place", .local, place), (Str.ofString "text", .local, text), (Str.ofString "spot", .local, spot), (Str.ofString "step", .local, step),
 (Str.ofString "good", .local, good), (Str.ofString "kept", .local, kept), (Str.ofString "hand", .local, hand), (Str.ofString "range", .globalImplicit, some (.raw (.type "range"))), (Str.ofString "_law_sent", .globalImplicit, some (.raw (.ref F.fs))), (Str.ofString "zip", .globalImplicit, some (.raw (.type "zip"))),
 (Str.ofString "list", .globalImplicit, some (.raw (.type "list"))), (Str.ofString "_pre_parse_validation", .globalImplicit, some (.raw (.ref F.fp))), (Str.ofString "_check_parenthesis", .globalImplicit, some (.raw (.ref F.M.c)))]
theorem laps_bind {S : Setting} {doc pm cdv ct : Value} {an : Option Addr} {v w u : Value} : feed S [] (bindArgs (fdOf "_law_laps" kLaps .none .none doc pm an cdv ct) ⟨[v, w, u], []⟩) = some ([], [(Str.ofString "rows", v), (Str.ofString "ring", w), (Str.ofString "ways", u)]) := by kernel_rfl
theorem laps_chk : chkF [Str.ofString "rows", Str.ofString "ring", Str.ofString "ways"] (stScope (topSt kLaps)) = true := by decide +kernel
theorem laps_ini (F : LapsFns B) {a b c : PV} : Ini B [(Str.ofString "rows", a), (Str.ofString "ring", b), (Str.ofString "ways", c)] (stScope (topSt kLaps)).names (stL F a b c none none none none none none none none none none none none) := by
 refine .arg (by walk_at "mm") (.inl rfl) (.arg (by walk_at "mm") (.inr rfl) (.arg (by walk_at "mm") (.inl rfl) (.unset (.unset (.unset (.unset (.unset (.unset (.unset (.unset (.unset (.unset (.unset (.unset (.glob F.gr (.glob F.gs (.glob F.gz (.glob F.gli (.glob F.gp (.glob F.M.gc .nil))))))))))))))))))))
noncomputable abbrev goodP (line : List Nat) (p : Nat) : Bool := decide (∀ y ∈ (line.drop p).take 5, line.getD p 0 <= y)
theorem win_mem {line : List Nat} {p : Nat} (hp : p < line.length) : line.getD p 0 ∈ (line.drop p).take 5 := by
 rw [List.drop_eq_getElem_cons hp, List.take_succ_cons, List.getD_eq_getElem?_getD, List.getElem?_eq_getElem hp]
 exact mcs
theorem goodP_min {line : List Nat} {p : Nat} (hp : p < line.length) {M : Int} (hM : M ∈ ((line.drop p).take 5).map Int.ofNat) (hle : ∀ a ∈ ((line.drop p).take 5).map Int.ofNat, M <= a) : (M == ((line.getD p 0 : Nat) : Int)) = goodP line p := by
 obtain ⟨m, hm, rfl⟩ := mmp hM
 have h1 := Int.ofNat_le.mp (hle _ (mmr ⟨_, win_mem hp, rfl⟩))
 refine decide_eq_decide.mpr ⟨fun e y hy => ?_, fun h => congrArg Int.ofNat (Nat.le_antisymm h1 (h m hm))⟩
 exact Int.ofNat_le.mp (e ▸ hle _ (mmr ⟨y, hy, rfl⟩))
theorem nats_win {line : List Nat} {p k : Nat} : ((natsPV line).drop p).take k = (((line.drop p).take k).map Int.ofNat).map PV.int := by rw [natsPV, <- List.map_drop, <- List.map_take, List.map_map]; rfl
noncomputable def goodF (line : List Nat) : PV -> PV
 | .int i => .bool (goodP line i.toNat)
 | v => v
theorem goodF_map {line : List Nat} {gs : List Bool} (hg : gs = [goodP line 0, goodP line 1, goodP line 2, goodP line 3]) : ([] : List PV) ++ (arith 1 0 (Int.toNat 4)).map (goodF line) = boolsPV gs := by subst hg; rfl
noncomputable def keptF : PV -> PV
 | .tup [.str t, .bool b] => if b then .str t else .str (Str.ofString "('', '')")
 | v => v
noncomputable def lastF : PV -> PV
 | .str x => .str (strPick x none (some (-1)) none)
 | v => v
theorem pick_last {t : List Nat} (h : t ≠ []) : strPick (ofL t) none (some (-1)) none = ofL t.dropLast := by
 have h1 : 1 <= t.length := List.length_pos_iff.mpr h
 rw [pickS_last (by rw [ofL_len]; exact h1), ofL_len]
 show ofL (t.toArray.toList.take _) = _
 rw [List.dropLast_eq_take]
theorem lastF_map {ts : List (List Nat)} (h : ∀ t ∈ ts, t ≠ []) : ([] : List PV) ++ (rowsPV ts).map lastF = rowsPV (ts.map List.dropLast) := by
 rw [List.nil_append, rowsPV, List.map_map, rowsPV, List.map_map]
 refine List.map_congr_left fun t ht => ?_
 show PV.str _ = PV.str _
 rw [pick_last (h t ht)]
theorem TextOk.len2 {t : List Nat} {g : Bool} (h : TextOk t g) : t.dropLast.length <= 2500 := ntr (List.length_dropLast ▸ Nat.sub_le _ _) h.len
theorem lenS {t : List Nat} {n m : Nat} (h : t.length <= n) (k : n <= m) : (ofL t).length <= m := ntr ((ofL_len t).symm ▸ h) k
theorem TextOk.asc2 {t : List Nat} {g : Bool} (h : TextOk t g) : ∀ c ∈ t.dropLast, c < 128 := fun c hc => h.asc c (List.dropLast_subset t hc)
theorem asc_ofL {t : List Nat} (h : ∀ c ∈ t, c < 128) : Asc (ofL t) := h
theorem keepS_ok {t : List Nat} {g : Bool} (h : TextOk t g) : PV.str (keepS (ofL t)) = if g = true then PV.str (ofL t) else PV.str (Str.ofString "('', '')") := by
 unfold keepS
 rw [h.chk]
 cases g <;> rfl
theorem keepS_cut {t : List Nat} {g : Bool} (h : TextOk t g) : PV.str (keepS (ofL t.dropLast)) = PV.str (Str.ofString "('', '')") := by
 unfold keepS
 rw [h.cut]
 rfl
theorem kept_eq {t0 t1 t2 t3 : List Nat} {g0 g1 g2 g3 : Bool} (k0 : TextOk t0 g0) (k1 : TextOk t1 g1) (k2 : TextOk t2 g2) (k3 : TextOk t3 g3) :
   ([] : List PV) ++ List.map keptF (zipPV (rowsPV [t0, t1, t2, t3]) (boolsPV [g0, g1, g2, g3])) ++ (List.replicate (Int.toNat 4) [PV.str (Str.ofString "('', '')")]).flatten
     = (([t0, t1, t2, t3, t0.dropLast, t1.dropLast, t2.dropLast, t3.dropLast].map ofL).map keepS).map PV.str := by
 simp only [List.map_cons, List.map_nil, keepS_ok k0, keepS_ok k1, keepS_ok k2, keepS_ok k3, keepS_cut k0, keepS_cut k1, keepS_cut k2, keepS_cut k3]
 rfl
theorem zip_tb {ts : List (List Nat)} {gs : List Bool} {x : PV} (hx : x ∈ zipPV (rowsPV ts) (boolsPV gs)) : ∃ (a : Str) (b : Bool), x = .tup [.str a, .bool b] := by
 obtain ⟨⟨p, q⟩, hp, rfl⟩ := mmp hx
 obtain ⟨h1, h2⟩ := List.of_mem_zip hp
 obtain ⟨O, O, rfl⟩ := mmp h1
 obtain ⟨O, O, rfl⟩ := mmp h2
 exact ⟨_, _, rfl⟩
theorem strOk_keep {t : List Nat} (h : ∀ c ∈ t, c < 128) : PyData.strOk (keepS (ofL t)) = true := by
 unfold keepS
 split
 . exact strOk_of h
 . decide +kernel
noncomputable abbrev stTF (a b : Option PV) : St := [(Str.ofString ".0", .local, none), (Str.ofString "text", .local, a), (Str.ofString "fine", .local, b)]
noncomputable def fstP : PV -> Option PV
 | .tup (a :: _) => some a
 | _ => none
noncomputable def sndP : PV -> Option PV
 | .tup (_ :: b :: _) => some b
 | _ => none
theorem laps_end (F : LapsFns B) {A : Addr} {rows ring ways : PV} {later more pieces place text spot step : Option PV} {line : List Nat} {t0 t1 t2 t3 : List Nat} {g0 g1 g2 g3 : Bool} {Q : PQ}
   (hl : line.length = 8) (k0 : TextOk t0 g0) (k1 : TextOk t1 g1) (k2 : TextOk t2 g2) (k3 : TextOk t3 g3) (k4 : chkS (ofL (t0 ++ [41])) = false) (hg : [g0, g1, g2, g3] = [goodP line 0, goodP line 1, goodP line 2, goodP line 3])
   (q : ∀ e1 e2 e3, Q (.list (boolsPV [g0, g1, g2, g3])) (e1 :: e2 :: e3 :: H)) :
   Xs B (fiOf kLaps "_law_laps") (d + 20) NoE ((stBody (topSt kLaps)).drop 7) (stL F rows ring ways later more (some (.list (natsPV line))) pieces (some (.lref A)) place text spot step none none none) ((A, rowsPV [t0, t1, t2, t3]) :: H) (fun O H' => Q .none H') (PX Q) := by
 have hz : sizeLine = 16777216 := by decide
 have hnl : (natsPV line).length = 8 := (List.length_map ..).trans hl
 have ok : ∀ t ∈ [t0, t1, t2, t3], ∃ g, TextOk t g := all4 ⟨_, k0⟩ ⟨_, k1⟩ ⟨_, k2⟩ ⟨_, k3⟩
 refine' Xs_cons' ?_
 refine X_Assign_CompF [(Str.ofString ".0", .local, none), (Str.ofString "place", .local, none), (Str.ofString "min", .globalImplicit, some (.raw (.builtin "min"))), (Str.ofString "line", .cell, some (.list (natsPV line)))] (.loc (.loc (.glob F.gmi (.capC (by walk_at "mm") .nil)))) ?_ ⟨none, by walk_at "mm"⟩ (by rfl) (by decide +kernel) (by decide +kernel) (by rfl) (by rfl) (by intro _ _; rfl) (dk rfl)
 . walk_at "w"
   refine ⟨KeepsV_type, ?_⟩
   walk_at "w"
   refine CallI_range1 (by decide) (by decide) ?_
   intro D
   refine CmpL_map (σt := fun o => [(Str.ofString ".0", .local, none), (Str.ofString "place", .local, o), (Str.ofString "min", .globalImplicit, some (.raw (.builtin "min"))), (Str.ofString "line", .cell, some (.list (natsPV line)))]) (f := goodF line) ?_ ?_ _ _ _ ?_ ?_ ?_
   . intro x o H K k
     walk_at "w"
     exact k
   . intro p hp; cases hp
   . intro x hx acc K k
     obtain ⟨p, hp, rfl⟩ := arith_mem (k := 0) (n := 4) hx
     have hp8 : p < line.length := Nat.lt_trans hp (hl ▸ by decide)
     walk_at "w"
     refine ⟨KeepsV_builtin, ?_⟩
     walk_at "w"
     refine ⟨SubAt_items .list, ?_⟩
     walk_at "w"
     refine Sl_mid p (p + 5) .list (hnl ▸ bl rfl) (.inl ?_)
     walk_at "w"
     refine Call_min (ns := ((line.drop p).take 5).map Int.ofNat) (.inl (by rw [Nat.add_sub_cancel_left, nats_win])) (List.ne_nil_of_mem (List.mem_map_of_mem (win_mem hp8))) fun M hM hle => ?_
     walk_at "w"
     refine ⟨SubAt_items .list, ?_⟩
     walk_at "w"
     refine Get_nat .list (by rw [hnl]; exact Nat.lt_trans hp (by decide)) (hnl ▸ by decide) ?_
     refine cast_v ((List.getElem_map _).trans (congrArg (fun n : Nat => PV.int n) (getD_get (z := 0) hp8).symm)) ?_
     walk_at "w"
     exact goodP_min hp8 hM hle ▸ k
   . exact bl rfl
   . rw [goodF_map hg]
     refine ⟨_, by walk_at "m_rep", ?_⟩
     walk_at "w"
     refine Ev_ListCompZ [(Str.ofString ".0", .local, none), (Str.ofString "text", .local, none), (Str.ofString "fine", .local, none)] (.loc (.loc (.loc .nil))) ?_ (by rfl) (by intro _; rfl) (by decide +kernel) (by rfl) (by rfl) (by intro _ _; rfl) (dk rfl)
     walk_at "w"
     refine ⟨KeepsV_type, ?_⟩
     walk_at "w"
     refine ⟨_, _, _, _, rfl, rfl, .lref mcs, .list, fun TO D => ?_⟩
     refine CmpZ_map (σt := fun o => stTF (o.bind fstP) (o.bind sndP)) (f := keptF) ?_ _ _ none ?_ ?_ ?_ ?_
     . intro p hp
       cases hp with
       | head => exact mcs
       | tail _ hp => cases hp
     . intro ob x hx o H K k
       obtain ⟨⟨a, b⟩, O, rfl⟩ := mmp hx
       walk_at "w"
       exact k
     . intro ob x hx acc K k
       obtain ⟨a, b, rfl⟩ := zip_tb hx
       show Ev _ _ _ _ _ (stTF (some (.str a)) (some (.bool b))) _ _
       refine Ev_IfExp ?_
       walk_at "w"
       cases b with
       | true => refine' ifp rfl ?_; walk_at "w"
                 exact k
       | false => refine' ifn Bool.false_ne_true ?_; walk_at "w"
                  exact k
     . exact bl rfl
     . walk_at "w"
       refine Ev_ListF ?_
       walk_at "w"
       refine Bin_mulL .list (by decide) (by decide) (by decide) (.inl ?_)
       refine Bin_addL .list .list (bl rfl) (.inl ?_)
       walk_at "w"
       refine ⟨_, Meth_extend (.lref mcs), ?_⟩
       walk_at "w"
       refine Ev_ListCompF [(Str.ofString ".0", .local, none), (Str.ofString "text", .local, none)] (.loc (.loc .nil)) ?_ (by decide +kernel) (by rfl) (by rfl) (by intro _ _; rfl) (dk rfl)
       refine EvI_of ?_
       walk_at "w"
       refine IterV_lref mcs fun D => ?_
       refine CmpL_map (σt := fun o => [(Str.ofString ".0", .local, none), (Str.ofString "text", .local, o)]) (f := lastF) ?_ ?_ _ _ none ?_ ?_ ?_
       . intro x o H K k
         walk_at "w"
         exact k
       . intro p hp; rw [msp hp]; exact mcs
       . intro x hx acc K k
         obtain ⟨t, ht, rfl⟩ := mmp hx
         obtain ⟨O, kt⟩ := ok t ht
         walk_at "w"
         refine ⟨SubAt_of SubOk_str, ?_⟩
         walk_at "w"
         exact Sl_str (by decide) (lenS kt.len (bl rfl)) k
       . exact bl rfl
       . rw [lastF_map fun t ht => (ok t ht).elim fun O k => k.ne]
         walk_at "w"
         refine Call_extend (.inr .list) .head (bl rfl) ?_
         rw [show rowsPV [t0, t1, t2, t3] ++ rowsPV ([t0, t1, t2, t3].map List.dropLast) = rowsPV [t0, t1, t2, t3, t0.dropLast, t1.dropLast, t2.dropLast, t3.dropLast] from rfl]
         rw [kept_eq k0 k1 k2 k3]
         generalize hall : [t0, t1, t2, t3, t0.dropLast, t1.dropLast, t2.dropLast, t3.dropLast] = all
         have hasc : ∀ t ∈ all, (∀ c ∈ t, c < 128) /\ t.length <= 2500 := by
           subst hall
           intro t ht
           rcases mpp (show t ∈ [t0, t1, t2, t3] ++ [t0, t1, t2, t3].map List.dropLast from ht) with h | h
           . exact (ok t h).elim fun O k => ⟨k.asc, k.len⟩
           . obtain ⟨u, hu, rfl⟩ := mmp h
             exact (ok u hu).elim fun O k => ⟨k.asc2, k.len2⟩
         have hl8 : all.length = 8 := by subst hall; rfl
         walk_at "w"
         refine ⟨KeepsV_type, ?_⟩
         walk_at "w"
         refine Call_list (.inr (.lref mcs)) (by rw [List.length_map, hl8]; exact bl rfl) (.inr fun b => ?_)
         walk_at "w"
         refine ⟨KeepsV_FnIs F.hp, ?_⟩
         walk_at "w"
         refine pre_call F.M (d := d + 5) (all := all.map ofL) F.hp (by rw [<- rowsPV_eq]; exact mcs) ?_ (by rw [List.length_map, hl8]; decide) fun b2 => ?_
         . intro x hx
           obtain ⟨t, ht, rfl⟩ := mmp hx
           exact ⟨(hasc t ht).1, lenS (hasc t ht).2 (by decide)⟩
         walk_at "w"
         have hok1 : ∀ x ∈ all.map ofL, PyData.strOk x = true := fun x hx => by
           obtain ⟨t, ht, rfl⟩ := mmp hx; exact strOk_of (hasc t ht).1
         have hok2 : ∀ x ∈ (all.map ofL).map keepS, PyData.strOk x = true := fun x hx => by
           obtain ⟨y, hy, rfl⟩ := mmp hx
           obtain ⟨t, ht, rfl⟩ := mmp hy; exact strOk_keep (hasc t ht).1
         refine Cmp_neSs (.lref mcs) .list hok2 hok2 ?_
         rw [decide_eq_true rfl]
         walk_at "w"
         refine Cmp_neSs (ns := all.map ofL) (ms := all.map ofL) (.lref ?_) (.lref ?_) hok1 hok1 ?_
         . rw [<- rowsPV_eq]; exact .tail _ (.head _)
         . rw [<- rowsPV_eq]; exact .tail _ (.tail _ (.head _))
         rw [decide_eq_true rfl]
         walk_at "w"
         have hall0 : (rowsPV all)[0]? = some (.str (ofL t0)) := by subst hall; rfl
         have hall4 : (rowsPV all)[4]? = some (.str (ofL t0.dropLast)) := by subst hall; rfl
         refine ⟨KeepsV_FnIs F.M.hc, ?_⟩
         walk_at "w"
         refine ⟨SubAt_items (.lref (.tail _ (.tail _ (.head _)))), ?_⟩
         walk_at "w"
         refine Get_list (.lref (.tail _ (.tail _ (.head _)))) (by decide) (by decide) hall0 ?_
         walk_at "w"
         refine check_call F.M (d := d + 7) (asc_ofL k0.asc) (lenS k0.len (by decide)) ?_
         refine cast_v (congrArg PV.bool k0.chk) ?_
         walk_at "w"
         refine ⟨SubAt_items .list, ?_⟩
         refine Get_list (p := .bool g0) .list (by decide) (by decide) rfl ?_
         walk_at "w"
         rw [isPV_bool, beq_self_eq_true]
         walk_at "w"
         refine ⟨KeepsV_FnIs F.M.hc, ?_⟩
         walk_at "w"
         refine ⟨SubAt_items (.lref (.tail _ (.tail _ (.head _)))), ?_⟩
         walk_at "w"
         refine Get_list (.lref (.tail _ (.tail _ (.head _)))) (by decide) (by decide) hall4 ?_
         walk_at "w"
         refine check_call F.M (d := d + 7) (asc_ofL k0.asc2) (lenS k0.len2 (by decide)) ?_
         refine cast_v (congrArg PV.bool k0.cut) ?_
         walk_at "w"
         rw [isPV_bool, beq_self_eq_true]
         walk_at "w"
         refine ⟨KeepsV_FnIs F.M.hc, ?_⟩
         walk_at "w"
         refine ⟨SubAt_items (.lref (.tail _ (.tail _ (.head _)))), ?_⟩
         walk_at "w"
         refine Get_list (.lref (.tail _ (.tail _ (.head _)))) (by decide) (by decide) hall0 ?_
         walk_at "w"
         have hcl : Str.ofString ")" = ofL [41] := by decide +kernel
         rw [hcl]
         refine Bin_addS (ntr (Nat.add_le_add (lenS k0.len (Nat.le_refl _)) (Nat.le_of_eq (ofL_len _))) (bl rfl)) ?_
         refine cast_v (congrArg PV.str (add_ofL _ _)) ?_
         walk_at "w"
         refine check_call F.M (d := d + 7) (asc_ofL fun c hc => ?_) (lenS (n := 2501) (by rw [List.length_append]; exact Nat.succ_le_succ k0.len) (by decide)) ?_
         . rcases mpp hc with h | h
           . exact k0.asc c h
           . rw [msp h]; decide
         refine cast_v (congrArg PV.bool k4) ?_
         walk_at "w"
         rw [isPV_bool, beq_self_eq_true]
         walk_at "w"
         exact q _ _ _
end
section
variable {B : Base} {d : Nat} {H : AH}
theorem strip_dots {t : List Nat} (h : ∀ c ∈ t, c = 46) : Txt.stripChars (ofL t) (ofL [46]) = ofL [] := by
 have hlen : (ofL t).length = t.length := ofL_len t
 have hg : ∀ k, k < t.length -> ((ofL [46]).cps.contains ((ofL t).cps.getD k 0)) = true := fun k hk => by
   rw [<- getD_list, show (ofL t).cps.toList.getD k 0 = 46 from h _ (getD_mem (z := 0) hk)]
   decide +kernel
 unfold Txt.stripChars
 rw [PyProof.Rows.stripBy_eq]
 obtain ⟨a1, a2, a3⟩ := lo_facts (ofL [46]).cps.contains (ofL t)
 generalize stripLo (ofL [46]).cps.contains true (ofL t) = lo at *
 have hlo : lo = t.length := by
   rcases a3 with e | e
   . exact e.trans hlen
   . by_cases hl : lo < t.length
     . rw [hg lo hl] at e; cases e
     . exact Nat.le_antisymm (hlen ▸ a1) (Nat.le_of_not_lt hl)
 obtain ⟨b1, b2, b3⟩ := hi_facts (ofL [46]).cps.contains (ofL t) lo a1
 have hhi : stripHi (ofL [46]).cps.contains true (ofL t) lo = t.length := by omega
 rw [hhi, hlo]
 show (⟨t.toArray.extract t.length t.length⟩ : Str) = ⟨#[]⟩
 congr 1
 apply Array.eq_empty_of_size_eq_zero
 simp
noncomputable abbrev plusL (k : Nat) (l : List Nat) : List Nat := l.map (· + k)
theorem bump_rows {l : List Nat} (h : ∀ n ∈ l, 1 <= n) : (rowsL l).map bump = rowsL (plusL 1 l) := by
 unfold rowsL plusL
 rw [List.map_map, List.map_map]
 refine List.map_congr_left fun n hn => ?_
 obtain ⟨m, rfl⟩ := Nat.exists_eq_add_one_of_ne_zero (Nat.ne_of_gt (h n hn))
 rfl
theorem rowsL_ok {l : List Nat} : ∀ r ∈ rowsL l, RowOk r := fun r hr => by
 obtain ⟨n, O, rfl⟩ := mmp hr
 exact ⟨fun c hc => by rw [List.eq_of_mem_replicate hc]; decide, fun c hc => by rw [List.eq_of_mem_replicate hc]; decide⟩
theorem rowsL_lens {l : List Nat} : (rowsL l).map List.length = l := by
 rw [List.map_map]; exact (List.map_congr_left fun n O => List.length_replicate).trans (List.map_id l)
theorem sum_bd {l : List Nat} {N : Nat} (h : ∀ n ∈ l, n <= N) : l.sum <= N * l.length := by
 induction l with
 | nil => exact Nat.zero_le _
 | cons a r ih =>
   rw [List.sum_cons, List.length_cons, Nat.mul_succ, Nat.add_comm]
   exact Nat.add_le_add (ih fun n hn => h n (.tail _ hn)) (h a (.head _))
noncomputable abbrev lFor : Stmt := ((stBody (topSt kLaps))[1]?).getD (.Pass default)
theorem laps_for (F : LapsFns B) {rows : PV} {ring ways : Nat} {l : List Nat} (hl : l.length = 4) (hb : ∀ n ∈ l, 1 <= n /\ n <= 100) {Qn : SQ} {Qf : FQ} : ∀ (n k : Nat) (mv : Option PV), k + n <= 100 ->
   (∀ mv', Qn (stL F rows (.int ring) (.int ways) (some (rowsV (plusL (k + n) l))) mv' none none none none none none none none none none) H) ->
   ForL B (fiOf kLaps "_law_laps") (d + 20) (forTgt lFor) (forBody lFor) [] (arith 1 (k : Nat) n) (stL F rows (.int ring) (.int ways) (some (rowsV (plusL k l))) mv none none none none none none none none none none) H Qn Qf := by
 intro n
 induction n with
 | zero => intro k mv hk q; exact ForL_nil (q mv)
 | succ n ih =>
   intro k mv hk q
   have hk1 : k <= 100 := ntr (Nat.le_add_right _ _) hk
   have e3 := Nat.succ_add_eq_add_succ k n
   have ih := ih (k + 1) (some (.int (k : Nat))) (e3 ▸ hk) (by rw [e3]; exact q)
   have hb' : ∀ m ∈ plusL k l, 1 <= m /\ m <= 200 := fun m hm => by
     obtain ⟨x, hx, rfl⟩ := mmp hm
     exact ⟨ntr (hb x hx).1 (Nat.le_add_right _ _), Nat.add_le_add (hb x hx).2 hk1⟩
   have hpl : (plusL k l).length = 4 := (List.length_map ..).trans hl
   refine ForL_cons ?_
   show Asg B _ (d + 20) NoE (forTgt lFor) (.int (k : Nat)) _ _ _
   refine' Asg_N ?_
   walk_at "w"
   refine' Xs_cons' ?_
   walk_at "w"
   refine ⟨KeepsV_FnIs F.hs, ?_⟩
   walk_at "w"
   obtain ⟨m, hm⟩ := List.exists_mem_of_length_pos (l := plusL k l) (hpl ▸ by decide)
   have hmr : List.replicate m 46 ∈ rowsL (plusL k l) := List.mem_map_of_mem hm
   refine sent_call F.S (d := d + 15) (rows := rowsL (plusL k l)) (ways := ways + k) F.hs .list (List.ne_nil_of_mem hmr) ⟨_, hmr, fun e => Nat.ne_of_gt (hb' m hm).1 (List.length_replicate.symm.trans (congrArg List.length e))⟩ rowsL_ok ?_ ?_
   . rw [rowsL_lens, List.length_map, hpl]
     exact ntr (Nat.add_le_add_right (sum_bd fun n hn => (hb' n hn).2) _) (by rw [hpl]; decide)
   rw [bump_rows fun n hn => (hb' n hn).1, show plusL 1 (plusL k l) = plusL (k + 1) l from List.map_map]
   walk_at "w"
   exact ⟨(fun p hp => nomatch hp), ih⟩
theorem laps_for0 (F : LapsFns B) {rows : PV} {ring ways : Nat} {l : List Nat} (hl : l.length = 4) (hb : ∀ n ∈ l, 1 <= n /\ n <= 100) {Qn : SQ} {Qf : FQ} (hk : ring <= 100)
   (q : ∀ mv', Qn (stL F rows (.int ring) (.int ways) (some (rowsV (plusL ring l))) mv' none none none none none none none none none none) H) :
   ForL B (fiOf kLaps "_law_laps") (d + 20) (forTgt lFor) (forBody lFor) [] (arith 1 0 ring) (stL F rows (.int ring) (.int ways) (some (rowsV l)) none none none none none none none none none none none) H Qn Qf := by
 have := laps_for F (d := d) (H := H) (rows := rows) (ring := ring) (ways := ways) hl hb (Qn := Qn) (Qf := Qf) ring 0 none (by rw [Nat.zero_add]; exact hk) (by rw [Nat.zero_add]; exact q)
 rw [show plusL 0 l = l from List.map_id l] at this
 exact this
end
section
variable {B : Base} {d : Nat} {H : AH}
noncomputable def stepsFrom (line : List Nat) : Nat -> Nat -> List Nat
 | _, 0 => []
 | j, n + 1 => stepL ((line.getD (j + 1) 0 : Nat) - (line.getD j 0 : Nat) : Int) ++ stepsFrom line (j + 1) n
noncomputable def lapT (line : List Nat) (ways ring p : Nat) : List Nat := pieces.getD ((ways + p) % 6) [] ++ stepsFrom line p 4 ++ List.replicate ring 41
theorem lapT_eq (line : List Nat) (ways ring p : Nat) : lapT line ways ring p = pieces.getD ((ways + p) % 6) [] ++ brL (line.getD p 0) (line.getD (p + 1) 0) (line.getD (p + 1 + 1) 0) (line.getD (p + 1 + 1 + 1) 0) (line.getD (p + 1 + 1 + 1 + 1) 0) ring := by
 simp [lapT, stepsFrom, brL]
theorem getD_bound {line : List Nat} {N : Nat} (h : ∀ n ∈ line, n <= N) (j : Nat) : line.getD j 0 <= N := by
 rw [List.getD_eq_getElem?_getD]
 cases e : line[j]? with
 | none => exact Nat.zero_le _
 | some x => exact h x (List.mem_of_getElem? e)
theorem op_ofL : Str.ofString "(" = ofL [40] := by decide +kernel
theorem cl_ofL : Str.ofString ")" = ofL [41] := by decide +kernel
theorem pieces_eq : [PV.str (Str.ofString ""), PV.str (Str.ofString "a"), PV.str (Str.ofString "\\("), PV.str (Str.ofString "\\)"), PV.str (Str.ofString "\")\""), PV.str (Str.ofString "\"(\\\"\"")] = rowsPV pieces := by kernel_rfl
theorem Get_nats {E : EP} {v : PV} {line : List Nat} {j : Nat} {Q : PQ} (hv : Items H v (natsPV line)) (h : j < line.length) (hn : line.length < 2 ^ 60) (q : Q (.int (line.getD j 0 : Nat)) H) : V2 B d E getItem v (.int (j : Nat)) H Q :=
 Get_as hv (by rw [List.length_map]; exact h) (by rw [List.length_map]; exact hn) ((List.getElem_map _).trans (congrArg (fun n : Nat => PV.int n) (getD_get h).symm)) q
theorem Bin_mulO {E : EP} {x : Str} {c : Nat} {n : Int} {Q : PQ} (hx : x = ofL [c]) (h : n.natAbs <= 200) (q : Q (.str (ofL (List.replicate n.toNat c))) H) : V2 B d E (binaryOp .Mult) (.str x) (.int n) H Q := by
 subst hx
 exact Bin_mulS (mulOk_ofL (by omega) (by omega)) (cast_v (congrArg PV.str (mul_ofL c n)) q)
theorem Bin_addO {E : EP} {a b : List Nat} {Q : PQ} (h : a.length + b.length <= 16777216) (q : Q (.str (ofL (a ++ b))) H) : V2 B d E (binaryOp .Add) (.str (ofL a)) (.str (ofL b)) H Q :=
 Bin_addS (by rw [ofL_len, ofL_len]; exact h) (cast_v (congrArg PV.str (add_ofL a b)) q)
theorem In_addO {E : EP} {a b : List Nat} {Q : PQ} (h : a.length + b.length <= 16777216) (q : Q (.str (ofL (a ++ b))) H) : V2 B d E (inplaceOp .Add) (.str (ofL a)) (.str (ofL b)) H Q :=
 In_addS (by rw [ofL_len, ofL_len]; exact h) (cast_v (congrArg PV.str (add_ofL a b)) q)
theorem steps_len {line : List Nat} (hb : ∀ n ∈ line, n <= 200) : ∀ n j : Nat, (stepsFrom line j n).length <= 200 * n := by
 intro n
 induction n with
 | zero => exact fun O => Nat.zero_le _
 | succ n ih =>
   intro j
   rw [stepsFrom, List.length_append, stepL_len, Nat.mul_succ, Nat.add_comm]
   exact Nat.add_le_add (ih _) (dist_le (getD_bound hb _) (getD_bound hb _))
noncomputable abbrev lpT : Stmt := ((stBody (topSt kLaps))[6]?).getD (.Pass default)
noncomputable abbrev lpS : Stmt := ((forBody lpT)[1]?).getD (.Pass default)
theorem spot_for (F : LapsFns B) {rows ring ways : PV} {later more pcs texts place : Option PV} {line : List Nat} (hl : line.length = 8) (hb : ∀ n ∈ line, n <= 200) {Qn : SQ} {Qf : FQ} : ∀ (n j : Nat) (sp st : Option PV) (tx : List Nat), j + n <= 7 -> tx.length + 200 * n <= 2000 ->
   (∀ sp' st', Qn (stL F rows ring ways later more (some (.list (natsPV line))) pcs texts place (some (.str (ofL (tx ++ stepsFrom line j n)))) sp' st' none none none) H) ->
   ForL B (fiOf kLaps "_law_laps") (d + 20) (forTgt lpS) (forBody lpS) [] (arith 1 (j : Nat) n) (stL F rows ring ways later more (some (.list (natsPV line))) pcs texts place (some (.str (ofL tx))) sp st none none none) H Qn Qf := by
 intro n
 induction n with
 | zero =>
   intro j sp st tx hj ht q
   refine ForL_nil ?_
   rw [<- List.append_nil tx]
   exact q sp st
 | succ n ih =>
   intro j sp st tx hj ht q
   have hj1 : j + 1 < line.length := hl ▸ Nat.lt_succ_of_le (ntr (Nat.add_le_add_left (Nat.succ_le_succ (Nat.zero_le n)) j) hj)
   have hD := dist_le (getD_bound hb (j + 1)) (getD_bound hb j)
   have hs := ntr (Nat.le_of_eq (stepL_len _)) hD
   have htx : tx.length + 200 <= 2000 := ntr (Nat.add_le_add_left (Nat.le_mul_of_pos_right 200 (Nat.succ_pos n)) _) ht
   have ih := fun sp st => ih (j + 1) sp st (tx ++ stepL ((line.getD (j + 1) 0 : Nat) - (line.getD j 0 : Nat) : Int)) (Nat.succ_add_eq_add_succ j n ▸ hj)
     (by rw [List.length_append]; exact ntr (Nat.add_le_add_right (Nat.add_le_add_left hs _) _) (by rw [Nat.mul_succ, Nat.add_comm _ 200, <- Nat.add_assoc] at ht; exact ht))
     (by rw [List.append_assoc]; exact q)
   refine ForL_cons ?_
   show Asg B _ (d + 20) NoE (forTgt lpS) (.int (j : Nat)) _ _ _
   refine' Asg_N ?_
   walk_at "w"
   refine' Xs_cons' ?_
   walk_at "w"
   refine ⟨SubAt_items .list, ?_⟩
   walk_at "w"
   refine Get_nats (j := j + 1) .list hj1 (hl ▸ by decide) ?_
   walk_at "w"
   refine ⟨SubAt_items .list, ?_⟩
   walk_at "w"
   refine Get_nats .list (Nat.lt_of_succ_lt hj1) (hl ▸ by decide) ?_
   walk_at "w"
   generalize ((line.getD (j + 1) 0 : Nat) - (line.getD j 0 : Nat) : Int) = D at *
   refine Bin_mulO op_ofL hD ?_
   walk_at "w"
   refine Bin_mulO cl_ofL (ntr (Nat.le_of_eq (Int.natAbs_neg D)) hD) ?_
   refine Bin_addO (ntr (Nat.le_of_eq List.length_append.symm) (ntr hs (bl rfl))) ?_
   walk_at "w"
   refine In_addO (ntr (Nat.add_le_add_left hs _) (ntr htx (bl rfl))) ?_
   walk_at "w"
   exact ⟨(fun p hp => nomatch hp), ih _ _⟩
theorem text_for (F : LapsFns B) {A : Addr} {rows : PV} {ring ways : Nat} (hring : ring <= 100) {later more : Option PV} {line : List Nat} (hl : line.length = 8) (hb : ∀ n ∈ line, n <= 200) {Qn : SQ} {Qf : FQ} : ∀ (n p : Nat) (pl tx sp st : Option PV) (ts : List (List Nat)), p + n <= 4 -> ts.length + n <= 10 ->
   (∀ pl tx sp' st', Qn (stL F rows (.int ring) (.int ways) later more (some (.list (natsPV line))) (some (.list (rowsPV pieces))) (some (.lref A)) pl tx sp' st' none none none) ((A, rowsPV (ts ++ (List.range' p n).map (lapT line ways ring))) :: H)) ->
   ForL B (fiOf kLaps "_law_laps") (d + 20) (forTgt lpT) (forBody lpT) [] (arith 1 (p : Nat) n) (stL F rows (.int ring) (.int ways) later more (some (.list (natsPV line))) (some (.list (rowsPV pieces))) (some (.lref A)) pl tx sp st none none none) ((A, rowsPV ts) :: H) Qn Qf := by
 intro n
 induction n with
 | zero =>
   intro p pl tx sp st ts hp ht q
   refine ForL_nil ?_
   rw [<- List.append_nil ts]
   exact q pl tx sp st
 | succ n ih =>
   intro p pl tx sp st ts hp ht q
   have hm : (ways + p) % 6 < pieces.length := Nat.mod_lt _ (by decide)
   have e5 : rowsPV (ts ++ [lapT line ways ring p]) = rowsPV ts ++ [PV.str (ofL (lapT line ways ring p))] := List.map_append
   have ih := fun pl tx sp st => ih (p + 1) pl tx sp st (ts ++ [lapT line ways ring p]) (Nat.succ_add_eq_add_succ p n ▸ hp) (by rw [List.length_append]; exact Nat.succ_add_eq_add_succ _ n ▸ ht) (by rw [List.append_assoc]; exact q)
   rw [e5] at ih
   refine ForL_cons ?_
   show Asg B _ (d + 20) NoE (forTgt lpT) (.int (p : Nat)) _ _ _
   refine' Asg_N ?_
   walk_at "w"
   refine' Xs_cons' ?_
   walk_at "w"
   refine Bin_fmod (by decide) ?_
   refine cast_v (congrArg PV.int (mod6 (ways + p))) ?_
   have hpn : (pieces.getD ((ways + p) % 6) []).length <= 10 := (by decide : ∀ t ∈ pieces, t.length <= 10) _ (getD_mem hm)
   unfold lapT at ih
   have hp2 : (rowsPV pieces)[(ways + p) % 6]'(hm) = .str (ofL (pieces.getD ((ways + p) % 6) [])) := (List.getElem_map _).trans (congrArg (fun r => PV.str (ofL r)) (getD_get hm).symm)
   refine ⟨SubAt_items .list, ?_⟩
   refine Get_as .list hm (bl rfl) hp2 ?_
   generalize pieces.getD ((ways + p) % 6) [] = pc at *
   walk_at "w"
   refine ⟨KeepsV_type, ?_⟩
   walk_at "w"
   refine CallI_rangeN (n := 4) (ntr (Nat.add_le_add_right (ntr (Nat.le_add_right _ _) hp) 4) (by decide)) ?_
   have hlen := Nat.add_le_add hpn (steps_len hb 4 p)
   refine spot_for F hl hb 4 p _ _ pc (Nat.add_le_add_right (Nat.le_of_succ_le_succ (ntr (Nat.add_le_add_left (Nat.succ_le_succ (Nat.zero_le n)) p) hp)) 4) (ntr (Nat.add_le_add_right hpn _) (by decide)) fun sp' st' => ?_
   walk_at "w"
   refine ⟨_, Meth_append (.lref mcs), ?_⟩
   walk_at "w"
   refine Bin_mulO cl_ofL (ntr hring (by decide)) ?_
   refine Bin_addO (by rw [List.length_append, List.length_replicate]; exact ntr (Nat.add_le_add hlen hring) (bl rfl)) ?_
   walk_at "w"
   refine Call_append .head (by rw [List.length_map]; exact ntr (ntr (Nat.le_add_right _ _) ht) (bl rfl)) ?_
   walk_at "w"
   exact ⟨(fun p hp => nomatch hp), ih _ _ _ _⟩
end
section
variable {B : Base} {d : Nat} {H : AH}
noncomputable def goods (ring : Nat) (l : List Nat) : List Bool := let line := l ++ plusL ring l; [goodP line 0, goodP line 1, goodP line 2, goodP line 3]
noncomputable def lenF : PV -> PV
 | .str x => .int x.length
 | v => v
theorem lenF_map (l : List Nat) : ([] : List PV) ++ (rowsPV (rowsL l)).map lenF = natsPV l := by
 rw [List.nil_append, rowsPV, List.map_map, rowsL, List.map_map, natsPV]
 refine List.map_congr_left fun n O => ?_
 show PV.int ((ofL (List.replicate n 46)).length : Nat) = _
 rw [ofL_len, List.length_replicate]
noncomputable def addF (ring : Nat) : PV -> PV
 | .int i => .int (i + ring)
 | v => v
theorem addF_map (ring : Nat) (l : List Nat) : ([] : List PV) ++ (natsPV l).map (addF ring) = natsPV (plusL ring l) := by
 rw [List.nil_append, natsPV, List.map_map, natsPV, plusL, List.map_map]
 refine List.map_congr_left fun n O => ?_
 show PV.int ((n : Int) + ring) = PV.int ((n + ring : Nat) : Int)
 congr 1
theorem natsPV_ints (l : List Nat) : natsPV l = (l.map Int.ofNat).map PV.int := by rw [List.map_map]; rfl
theorem joinE : ∀ rs : List (List Nat), joinW [] rs = rs.flatten
 | [] => rfl
 | [r] => by simp [joinW]
 | r :: s :: t => by rw [joinW_cons, joinE (s :: t)]; simp
theorem goodP_is {line : List Nat} {p ring x0 x1 x2 x3 x4 : Nat} (hw : (line.drop p).take 5 = [x0, x1, x2, x3, x4]) (h0 : line.getD p 0 = x0) (h4 : x4 = x0 + ring) : decide (x0 <= x1 /\ x0 <= x2 /\ x0 <= x3) = goodP line p := by
 unfold goodP
 rw [hw, h0]
 exact decide_eq_decide.mpr ⟨fun h => fmc ⟨Nat.le_refl _, all4 h.1 h.2.1 h.2.2 (h4 ▸ Nat.le_add_right _ _)⟩, fun h => ⟨h _ (.tail _ (.head _)), h _ (.tail _ (.tail _ (.head _))), h _ (.tail _ (.tail _ (.tail _ (.head _))))⟩⟩
theorem flat_len {l : List Nat} {N : Nat} (h : ∀ n ∈ l, n <= N) : (rowsL l).flatten.length <= N * l.length := by rw [List.length_flatten, rowsL_lens]; exact sum_bd h
noncomputable abbrev stLen : Option PV -> St := fun o => [(Str.ofString ".0", .local, none), (Str.ofString "row", .local, o), (Str.ofString "len", .globalImplicit, some (.raw (.builtin "len")))]
theorem CmpL_lens {fi : FnInfo} {D : Addr} {l : List Nat} {p1 p2 p3 cpos : Pos} {Q : LQ} (hl : ∀ n ∈ l, n <= 100000) (hlen : l.length <= 1000) (q : Q (natsPV l) H) :
   CmpL B fi d (.Name (Str.ofString "row") p1) [] (.Call (.Name (Str.ofString "len") p2) [.Name (Str.ofString "row") p3] [] cpos) D [] (rowsPV (rowsL l)) [] (stLen none) H Q := by
 refine CmpL_map (σt := stLen) (f := lenF) ?_ ?_ _ _ none ?_ ?_ ?_
 . intro x o H K k
   walk_at "w"
   exact k
 . intro p hp; cases hp
 . intro x hx acc K k
   obtain ⟨r, hr, rfl⟩ := mmp hx
   obtain ⟨n, hn, rfl⟩ := mmp hr
   walk_at "w"
   refine ⟨KeepsV_builtin, ?_⟩
   walk_at "w"
   exact Call_len_str (Nat.lt_of_le_of_lt (lenS (n := 100000) (by rw [List.length_replicate]; exact hl n hn) (Nat.le_refl _)) (by decide)) k
 . rw [List.length_map, List.length_map, List.length_nil, Nat.zero_add]; exact ntr hlen (bl rfl)
 rw [lenF_map]
 exact q
theorem laps_call (F : LapsFns B) {f : Addr} {cdv : Value} (h : FnIs B f "_law_laps" kLaps .none .none cdv) {l : List Nat} {ring ways : Nat} (hl : l.length = 4) (hb : ∀ n ∈ l, 1 <= n /\ n <= 90) (hr3 : 3 <= ring) (hr6 : ring <= 6) {Q : PQ}
   (q : ∀ e1 e2 e3, Q (.list (boolsPV (goods ring l))) (e1 :: e2 :: e3 :: H)) : CallV B (d + 21) NoE (.raw (.ref f)) [rowsV l, .int ring, .int ways] [] H Q := by
 have hz : sizeLine = 16777216 := by decide
 refine h.call (d := d + 20) (fun doc pm an ct => BindV_p3 fun S v w u => laps_bind) rfl laps_chk (laps_ini F) ?_
 refine' Xs_cons' ?_
 walk_at "w"
 refine ⟨KeepsV_type, ?_⟩
 walk_at "w"
 have up : ∀ {n}, n <= 90 -> n <= 100 := fun h => ntr h (by decide)
 have hr : ring <= 100 := ntr hr6 (by decide)
 refine CallI_rangeU (ntr hr (by decide)) ?_
 refine laps_for0 F hl (fun n hn => ⟨(hb n hn).1, up (hb n hn).2⟩) hr fun mv' => ?_
 refine' Xs_cons' ?_
 refine X_Assign_NameK ?_ ?_
 . refine Ev_ListCompF [(Str.ofString ".0", .local, none), (Str.ofString "row", .local, none), (Str.ofString "len", .globalImplicit, some (.raw (.builtin "len")))] (.loc (.loc (.glob F.gle .nil))) ?_ (by decide +kernel) (by rfl) (by rfl) (by intro _ _; rfl) (dk rfl)
   refine EvI_of ?_
   walk_at "w"
   have hl8 : (rowsPV (rowsL l)).length + (rowsPV (rowsL (plusL ring l))).length <= sizeLine := by
     simp only [List.length_map, plusL, hl]
     exact bl rfl
   refine Bin_addL .list .list hl8 (.inl ?_)
   have hlb : ∀ n ∈ l ++ plusL ring l, n <= 100 := fun n hn => by
     rcases mpp hn with h | h
     . exact up (hb n h).2
     . obtain ⟨x, hx, rfl⟩ := mmp h
       exact ntr (Nat.add_le_add (hb x hx).2 hr6) (by decide)
   have e0 : rowsPV (rowsL l) ++ rowsPV (rowsL (plusL ring l)) = rowsPV (rowsL (l ++ plusL ring l)) := by rw [<- List.map_append, <- List.map_append]
   rw [e0]
   obtain ⟨l0, l1, l2, l3, rfl⟩ := len4 hl
   refine IterV_list fun D => ?_
   generalize hline : [l0, l1, l2, l3] ++ plusL ring [l0, l1, l2, l3] = line at *
   have hll : line.length = 8 := hline ▸ rfl
   refine CmpL_lens (fun n hn => ntr (hlb n hn) (by decide)) (hll ▸ by decide) ?_
   walk_at "w"
   have hls : (natsPV line).length <= sizeLine := by subst hline; exact bl rfl
   have hd4 : (natsPV line).drop 4 = natsPV (plusL ring [l0, l1, l2, l3]) := by subst hline; rfl
   have ht4 : (natsPV line).take 4 = natsPV [l0, l1, l2, l3] := by subst hline; rfl
   refine ⟨SubAt_items .list, ?_⟩
   refine Sl_lo 4 .list hls (.inl ?_)
   rw [hd4]
   walk_at "w"
   refine Ev_ListCompF [(Str.ofString ".0", .local, none), (Str.ofString "many", .local, none), (Str.ofString "ring", .cell, some (.int ring))] (.loc (.loc (.capC (by walk_at "mm") .nil))) ?_ (by decide +kernel) (by rfl) (by rfl) (by intro _ _; rfl) (dk rfl)
   refine EvI_of ?_
   walk_at "w"
   refine ⟨SubAt_items .list, ?_⟩
   refine Sl_hi 4 .list hls (.inl ?_)
   rw [ht4]
   refine IterV_list fun D => ?_
   refine CmpL_map (σt := fun o => [(Str.ofString ".0", .local, none), (Str.ofString "many", .local, o), (Str.ofString "ring", .cell, some (.int ring))]) (f := addF ring) ?_ ?_ _ _ none ?_ ?_ ?_
   . intro x o H K k
     walk_at "w"
     exact k
   . intro p hp; cases hp
   . intro x hx acc K k
     obtain ⟨n, hn, rfl⟩ := mmp hx
     walk_at "w"
     exact k
   . exact bl rfl
   rw [addF_map]
   generalize hpl : plusL ring [l0, l1, l2, l3] = pls at *
   have hp4 : pls.length = 4 := hpl ▸ rfl
   refine Cmp_neI (ns := pls.map Int.ofNat) (ms := pls.map Int.ofNat) (by rw [<- natsPV_ints]; exact .list) (by rw [<- natsPV_ints]; exact .list) ?_
   rw [decide_eq_true rfl]
   walk_at "w"
   refine ⟨_, Meth_join, ?_⟩
   walk_at "w"
   have hfl : (rowsL pls).flatten.length <= 400 := ntr (flat_len fun n hn => hlb n (by rw [<- hline]; exact List.mem_append_right _ hn)) (by rw [hp4]; decide)
   refine Call_join (ys := (rowsL pls).map ofL) (.inr (by rw [<- rowsPV_eq]; exact .list)) ?_ ?_
   . rw [List.map_map, show (Str.length ∘ ofL) = List.length from funext fun x => ofL_len x, <- List.length_flatten]
     exact ntr (Nat.add_le_add_right hfl _) (bl rfl)
   rw [show Txt.join (Str.ofString "") ((rowsL pls).map ofL) = ofL (rowsL pls).flatten by rw [empty_ofL, join_ofL, joinE]]
   refine ⟨_, Meth_strip, ?_⟩
   walk_at "w"
   refine Call_stripS (lenS hfl (bl rfl)) ?_
   rw [show Txt.stripChars (ofL (rowsL pls).flatten) (Str.ofString ".") = Str.ofString "" by
     rw [show Str.ofString "." = ofL [46] by decide +kernel, empty_ofL]
     refine strip_dots fun c hc => ?_
     obtain ⟨r, hr, hc⟩ := List.mem_flatten.mp hc
     obtain ⟨n, O, rfl⟩ := mmp hr
     exact List.eq_of_mem_replicate hc]
   walk_at "w"
   rw [decide_eq_true rfl]
   walk_at "w"
   refine Ev_ListF ?_
   walk_at "w"
   rw [pieces_eq]
   refine Ev_ListT ?_
   refine EvL_nil fun b => ?_
   walk_at "w"
   refine ⟨KeepsV_type, ?_⟩
   walk_at "w"
   refine CallI_range1 (by decide) (by decide) ?_
   refine text_for F (A := b) hr hll (fun n hn => ntr (hlb n hn) (by decide)) 4 0 none none none none [] (by decide) (by decide) fun pl tx sp st => ?_
   have hLT : ∀ p < 4, TextOk (lapT line ways ring p) (goodP line p) /\ chkS (ofL (lapT line ways ring p ++ [41])) = false := fun p hp => by
     have hx : line.getD (p + 1 + 1 + 1 + 1) 0 = line.getD p 0 + ring /\ (line.drop p).take 5 = [line.getD p 0, line.getD (p + 1) 0, line.getD (p + 1 + 1) 0, line.getD (p + 1 + 1 + 1) 0, line.getD (p + 1 + 1 + 1 + 1) 0] := by
       subst hline hpl
       revert p
       exact fun p hp => lt4 (P := fun p => (_ : List Nat).getD (p + 1 + 1 + 1 + 1) 0 = (_ : List Nat).getD p 0 + ring /\ (List.drop p (_ : List Nat)).take 5 = [List.getD _ p 0, List.getD _ (p + 1) 0, List.getD _ (p + 1 + 1) 0, List.getD _ (p + 1 + 1 + 1) 0, List.getD _ (p + 1 + 1 + 1 + 1) 0]) ⟨rfl, rfl⟩ ⟨rfl, rfl⟩ ⟨rfl, rfl⟩ ⟨rfl, rfl⟩ hp
     rw [<- goodP_is hx.2 rfl hx.1, lapT_eq]
     exact lap_ok (getD_mem (Nat.mod_lt _ (by decide))) (getD_bound hlb _) (getD_bound hlb _) (getD_bound hlb _) (getD_bound hlb _) hx.1 hr3 hr6
   refine laps_end F hll (hLT 0 (by decide)).1 (hLT 1 (by decide)).1 (hLT 2 (by decide)).1 (hLT 3 (by decide)).1 (hLT 0 (by decide)).2 rfl fun e1 e2 e3 => ?_
   subst hpl hline
   exact q e1 e2 e3
 . intro env e
   exact swapsWith_cell e (by decide +kernel)
end
noncomputable def Base.flat (B : Base) (g : Heap) (hk : ∀ a o, B.g.get? a = some o -> g.get? a = some o) : Base :=
 { B with g := g, inK := B.inK.keeps hk, nsg := B.nsg.keeps hk, nsb := B.nsb.keeps hk, nolimit := B.nolimit.keeps hk, tabs := [], tabsHidden := (fun O h => nomatch h), low := (fun O h => nomatch h), hid := [] }
structure FlatB (B : Base) : Prop where
 tabs : B.tabs = []
 hid : B.hid = []
theorem FlatB.trk {B : Base} (h : FlatB B) {a : Addr} : ¬ Trk B [] a := fun t => by
 rcases t with t | t | t
 . cases t
 . rw [h.tabs] at t; cases t
 . rw [h.hid] at t; cases t
theorem Tr.keeps {B : Base} (h : FlatB B) {s s' : Shared} (t : Tr B noU [] s [] s') : ∀ a o, s.heap.get? a = some o -> s'.heap.get? a = some o := fun a o e => t.step.heap a o e fun q => q.elim h.trk False.elim
noncomputable def MsgIs : Option Str -> List Value -> Prop
 | .none, ws => ws = []
 | some x, ws => ∃ tk, ws = [.str x tk]
structure Raised (B : Base) (outer : List Env) (cls : String) (msg : Option Str) (s : Shared) (e : Value) (s' : Shared) : Prop where
 ex : ∃ ea t ws, e = .ref ea /\ Heap.FlyingW B.g outer ea (.type cls) (.ref t) s'.heap /\ s'.heap.TupAt t ws /\ MsgIs msg ws /\ B.g.get? t = Option.none
 slots : s.heap.UpToSlots s'.heap
 size : s.heap.objs.size <= s'.heap.objs.size
 bare : AllBare s'.gens
 gens : ∀ (i : Nat) (x : GenState), s.gens[i]? = some x -> s'.gens[i]? = some x
 os : s'.os = s.os
noncomputable def CallX (B : Base) (d : Nat) (f : PV) (args : List PV) (cls : String) (msg : Option Str) : Prop :=
 ∀ (E : EP) A s, Room A d -> Inv B [] s -> ∀ fv vs, VR (Trk B []) s.heap fv f -> VRs (Trk B []) s.heap vs args -> ∀ outer, A.frames = some outer -> s.heap.FunFrames B.g outer ->
   (∀ e s', Raised B outer cls msg s e s' -> E e s') -> wpAny (model B.prog B.w) A (call fv vs []) (fun O O => False) E s
inductive MadeIn (msg : Option Str) (cls : String) (s : Shared) (e : Value) (s' : Shared) : Prop
 | mk (h : Heap) (ws : List Value) (ea : Addr) (k : ∀ b o, s.heap.get? b = some o -> h.get? b = some o) (he : e = .ref ea) (m : Heap.MadeExcOf h s'.heap ea (.type cls) ws) (mi : MsgIs msg ws) (sz : s.heap.objs.size <= s'.heap.objs.size) (ba : AllBare s'.gens) (gn : ∀ (i : Nat) (x : GenState), s.gens[i]? = some x -> s'.gens[i]? = some x) (ho : s'.os = s.os)
noncomputable def RaisedIn (B : Base) (env : Env) (outer : List Env) (cls : String) (msg : Option Str) (s : Shared) (e : Value) (s' : Shared) : Prop := Raised B (env :: outer) cls msg s e s' \/ MadeIn msg cls s e s'
noncomputable def XsX (B : Base) (fi : FnInfo) (d : Nat) (b : List Stmt) (σ : St) (cls : String) (msg : Option Str) : Prop :=
 ∀ (E : EP) A s env, EnvOk B fi env -> Room A d -> Inv B [] s -> FrameOk B env σ [] s -> ∀ outer, A.frames = some (env :: outer) -> s.heap.FunFrames B.g (env :: outer) ->
   (∀ e s', RaisedIn B env outer cls msg s e s' -> E e s') -> wpAny (model B.prog B.w) A (execs b env) (fun O O => False) E s
noncomputable def XsF (B : Base) (fi : FnInfo) (d : Nat) (b : List Stmt) (σ : St) (H : AH) (Qn : SQ) (Qf : FQ) : Prop :=
 ∀ A s env, EnvOk B fi env -> Room A d -> Inv B H s -> FrameOk B env σ H s -> A.frames = some [env] -> env.frame = some env.locals ->
   wpAny (model B.prog B.w) A (execs b env) (XsPost B env H s Qn Qf) NoE s
section
variable {B : Base} {d : Nat} {H : AH}
theorem CallV_fdF {f : Addr} {oc : Value} {od : Option Addr} {osl : Array (Option Value)} {fd : FuncData} {body : List Stmt} {cp : Option (Addr × Addr)} {args : List PV} {kw : List (Str × PV)} {bs : List (Str × PV)} {σ₀ : St} {Q : PQ}
   (ho : ∀ s, Inv B H s -> s.heap.get? f = some ⟨oc, od, .func fd, osl⟩) (hbody : fd.body = .stmts body) (hcl : fd.closure = []) (hcr : ∀ s, Inv B H s -> s.heap.CodeRec fd.code fd.qualname)
   (hk : fd.scope.kind = .function) (hco : fd.scope.isCoroutine = false) (hge : fd.scope.isGenerator = false) (hgl : fd.globals = mainGlobals) (hbu : fd.builtins = builtinsNs)
   (hcp : ∀ c P, cp = some (c, P) -> fd.code = .ref c)
   (hb : BindV B fd args kw H bs) (hbn : (bs.map (fun e => e.1)).Nodup) (hbk : ∀ e ∈ bs, ∃ k, (e.1, k) ∈ fd.scope.names /\ argKind k) (hsn : (fd.scope.names.map (fun e => e.1)).Nodup) (hfree : ∀ e ∈ fd.scope.names, e.2 ≠ .free)
   (hi : Ini B bs fd.scope.names σ₀)
   (h : XsF B ⟨fd.scope, cp, fd.qualname ++ ".<locals>.", false⟩ d body σ₀ H (fun O H' => Q .none H') (PX Q)) :
   ∀ A s, Room A (d + 1) -> A.frames = some [] -> Inv B H s -> ∀ fv vs kvs, VR (Trk B H) s.heap fv (.raw (.ref f)) -> VRs (Trk B H) s.heap vs args -> KwRel (Trk B H) s.heap kvs kw ->
   wpAny (model B.prog B.w) A (call fv vs kvs) (EvPost B H s Q) NoE s := fun A s R hfr I fv vs kvs h1 h2 h3 => by
 cases h1
 exact fd_enter ho hbody hcl hcr hk hco hge hgl hbu hcp hb hbn hbk hsn hfree hi R I h2 h3 fun env s₁ x =>
   wpAny_mono (h (A.deeper env) s₁ env x.eok (R.deeper env) x.tr.inv x.frm (Around.frames_deeper hfr) x.fr) (fun O O p => fd_post I x p) fun O O x => x.elim
theorem CallX_fd {f : Addr} {oc : Value} {od : Option Addr} {osl : Array (Option Value)} {fd : FuncData} {body : List Stmt} {cp : Option (Addr × Addr)} {args : List PV} {bs : List (Str × PV)} {σ₀ : St} {cls : String} {msg : Option Str} (FL : FlatB B)
   (ho : ∀ s, Inv B [] s -> s.heap.get? f = some ⟨oc, od, .func fd, osl⟩) (hbody : fd.body = .stmts body) (hcl : fd.closure = []) (hcr : ∀ s, Inv B [] s -> s.heap.CodeRec fd.code fd.qualname)
   (hk : fd.scope.kind = .function) (hco : fd.scope.isCoroutine = false) (hge : fd.scope.isGenerator = false) (hgl : fd.globals = mainGlobals) (hbu : fd.builtins = builtinsNs)
   (hcp : ∀ c P, cp = some (c, P) -> fd.code = .ref c)
   (hb : BindV B fd args [] [] bs) (hbn : (bs.map (fun e => e.1)).Nodup) (hbk : ∀ e ∈ bs, ∃ k, (e.1, k) ∈ fd.scope.names /\ argKind k) (hsn : (fd.scope.names.map (fun e => e.1)).Nodup) (hfree : ∀ e ∈ fd.scope.names, e.2 ≠ .free)
   (hi : Ini B bs fd.scope.names σ₀)
   (h : XsX B ⟨fd.scope, cp, fd.qualname ++ ".<locals>.", false⟩ d body σ₀ cls msg) :
   CallX B (d + 1) (.raw (.ref f)) args cls msg := fun E A s R I fv vs h1 h2 outer hfr hfun hE => by
 cases h1
 refine fd_enter ho hbody hcl hcr hk hco hge hgl hbu hcp hb hbn hbk hsn hfree hi R I h2 ⟨.nil, rfl⟩ fun env s₁ x => ?_
 obtain ⟨m, hns, O⟩ := x.frm.ns
 have hff : s₁.heap.FunFrames B.g (env :: outer) := Heap.FunFrames.cons (L := env.locals) (by rw [x.eok.kindF]; nofun) x.fr hns x.frm.fresh (hfun.of_keeps fun b o hb O => ⟨o, x.keep b o hb, rfl⟩)
 refine wpAny_mono (h _ (A.deeper env) s₁ env x.eok (R.deeper env) x.tr.inv x.frm outer (Around.frames_deeper hfr) hff (fun e s' r => r)) (fun O O x => x.elim) fun e s' r => ?_
 have fin : ∀ (ea t : Addr) (ws : List Value) (h' : Heap), e = .ref ea -> Heap.FlyingW B.g outer ea (.type cls) (.ref t) h' -> h'.TupAt t ws -> MsgIs msg ws -> B.g.get? t = Option.none -> s'.heap.UpToSlots h' -> s₁.heap.UpToSlots s'.heap -> s₁.heap.objs.size <= s'.heap.objs.size -> s'.heap.objs.size <= h'.objs.size ->
     AllBare s'.gens -> (∀ (i : Nat) (x : GenState), s₁.gens[i]? = some x -> s'.gens[i]? = some x) -> s'.os = s₁.os -> E e { s' with heap := h' } := fun ea t ws h' q1 q2 q3 q4 q5 q6 q7 q8 q9 q10 q11 q12 =>
   hE _ _ ⟨⟨ea, t, ws, q1, q2, q3, q4, q5⟩, ((Heap.UpToSlots.of_keeps x.keep).trans q7).trans q6, ntr x.tr.step.size (ntr q8 q9), q10, fun i y q => q11 i y (x.tr.step.gens i y q), q12.trans (x.tr.inv.os.trans I.os.symm)⟩
 rcases r with ⟨⟨ea, t, ws, rfl, hfl, htup, hmsg, hnt⟩, hsl, hsz2, hb2, hg2, ho2⟩ | ⟨h₂, ws, ea, hk₂, rfl, hx, hmsg, hsz2, hb2, hg2, ho2⟩
 . exact wpAny_grow (wpAny_leaves_onW (Around.frames_deeper hfr) x.fr hfl fun h' x1 x2 hz => fin ea t ws h' rfl x1 (htup.of_slots x2) hmsg hnt x2 hsl hsz2 hz hb2 hg2 ho2)
 . exact wpAny_grow (wpAny_leaves_madeW (Around.frames_deeper hfr) x.fr (fun b o q => hk₂ b o (x.tr.inv.keep b o q)) (hff.of_keeps fun b o hb O => ⟨o, hk₂ b o hb, rfl⟩) hx fun h' t x1 x2 x3 x4 hz => fin ea t ws h' rfl x1 x2 hmsg x3 x4 ((Heap.UpToSlots.of_keeps hk₂).trans (Heap.UpToSlots.of_keeps hx.keeps)) hsz2 hz hb2 hg2 ho2)
end
section
variable {B : Base} {fi : FnInfo} {d : Nat} {σ : St} {cls : String} {msg : Option Str}
theorem RaisedIn.back {env : Env} {outer : List Env} {s s₁ s' : Shared} {e : Value} (FL : FlatB B) (I : Inv B [] s) (t : Tr B noU [] s [] s₁) (r : RaisedIn B env outer cls msg s₁ e s') : RaisedIn B env outer cls msg s e s' := by
 have hk := t.keeps FL
 rcases r with r | ⟨h, ws, ea, hk₂, rfl, hx, hmsg, hsz, hb, hg, ho⟩
 . exact .inl ⟨r.ex, (Heap.UpToSlots.of_keeps hk).trans r.slots, ntr t.step.size r.size, r.bare, fun i x q => r.gens i x (t.step.gens i x q), r.os.trans (t.inv.os.trans I.os.symm)⟩
 . exact .inr ⟨h, ws, ea, fun b o q => hk₂ b o (hk b o q), rfl, hx, hmsg, ntr t.step.size hsz, hb, fun i x q => hg i x (t.step.gens i x q), ho.trans (t.inv.os.trans I.os.symm)⟩
theorem XsX_If (FL : FlatB B) {t : Expr} {b o rest : List Stmt} {pos : Pos} (h : Tst B fi d NoE t σ [] fun c H' => H' = [] /\ (if c then XsX B fi d b σ cls msg else XsX B fi d o σ cls msg)) : XsX B fi d (.If t b o pos :: rest) σ cls msg := fun E A s env e R I F outer hfr hff hE => by
 refine wpAny_execs_cons (wpAny_mono (Q := fun O O => False) (E := E) (wpAny_If (wpAny_mono (h A s env e R I F) (fun c s₁ hh1 => ?_) fun O O x => x.elim)) (fun O O x => x.elim) fun O O x => x)
 obtain ⟨H₁, t₁, hH, q⟩ := hh1
 subst hH
 have go : ∀ body, XsX B fi d body σ cls msg -> wpAny (model B.prog B.w) A (execs body env) (fun O O => False) E s₁ := fun body hb =>
   hb E A s₁ env e R t₁.inv (F.tr I t₁) outer hfr (hff.of_keeps fun b o q O => ⟨o, t₁.keeps FL b o q, rfl⟩) fun e s' r => hE e s' (r.back FL I t₁)
 cases c with
 | true => exact go b q
 | false => exact go o q
theorem eval_CallX (FL : FlatB B) {func : Expr} {args : List Expr} {pos : Pos}
   (h : Ev B fi d NoE func σ [] fun f H₁ => H₁ = [] /\ KeepsV B f /\ EvL B fi d NoE args σ [] fun vs H₂ => H₂ = [] /\ CallX B d f vs cls msg) (hp : args.all plainE = true)
   (he : ∀ env, eval (.Call func args [] pos) env = (do callWith pos (<- eval func env) [] (backTo pos (starEach args env)) (backToKw pos (keywordEach [] env)))) {E : EP} {A : Around} {s : Shared} {env : Env} (e : EnvOk B fi env) (R : Room A d) (I : Inv B [] s) (F : FrameOk B env σ [] s)
   {outer : List Env} (hfr : A.frames = some outer) (hff : s.heap.FunFrames B.g outer) (hE : ∀ e s', Raised B outer cls msg s e s' -> E e s') : wpAny (model B.prog B.w) A (eval (.Call func args [] pos) env) (fun O O => False) E s := by
 refine Call_ (wpAny_mono (h A s env e R I F) (fun fv s₁ hh1 => ?_) fun O O x => x.elim) (he env)
 obtain ⟨f, H₁, t₁, q₁, hH, hk, h₁⟩ := hh1
 subst hH
 refine callWith_any (evalArgs_list hp (wpAny_mono (EvL_spliced h₁ hp A s₁ env e R t₁.inv (F.tr I t₁)) (fun vs s₂ hh1 => ?_) fun O O x => x.elim))
 obtain ⟨ps, H₂, t₂, l₂, q₂, hH, h₂⟩ := hh1
 subst hH
 refine ⟨hk A E [] s₂ fv t₂.inv (q₁.tr t₂), ?_⟩
 have t := t₁.trans t₂
 refine wpAny_mono (h₂ E A s₂ R t₂.inv fv vs (q₁.tr t₂) q₂ outer hfr (hff.of_keeps fun b o q O => ⟨o, t.keeps FL b o q, rfl⟩) fun e s' r => hE e s' ?_) (fun O O x => x.elim) fun O O x => x
 exact ⟨r.ex, (Heap.UpToSlots.of_keeps (t.keeps FL)).trans r.slots, ntr t.step.size r.size, r.bare, fun i x q => r.gens i x (t.step.gens i x q), r.os.trans (t.inv.os.trans I.os.symm)⟩
theorem XsX_Expr_Call (FL : FlatB B) {func : Expr} {args : List Expr} {cpos pos : Pos} {rest : List Stmt}
   (h : Ev B fi d NoE func σ [] fun f H₁ => H₁ = [] /\ KeepsV B f /\ EvL B fi d NoE args σ [] fun vs H₂ => H₂ = [] /\ CallX B d f vs cls msg) (hp : args.all plainE = true := by rfl)
   (he : ∀ env, eval (.Call func args [] cpos) env = (do callWith cpos (<- eval func env) [] (backTo cpos (starEach args env)) (backToKw cpos (keywordEach [] env))) := by intro _; rfl)
   (hs : ∀ env, swapsWith (.Call func args [] cpos) none pos.line env = pure false := by intro _; rfl) : XsX B fi d (.Expr (.Call func args [] cpos) pos :: rest) σ cls msg := fun E A s env e R I F outer hfr hff hE => by
 have hi : interactive env = false := by unfold interactive; rw [e.kindF]; rfl
 refine wpAny_execs_cons ?_
 rw [exec_Expr env _ pos hi (hs env)]
 exact wpAny_bind (wpAny_standAt (wpAny_bind (wpAny_mono (eval_CallX FL h hp he e R I F hfr hff fun e s' r => hE e s' (.inl r)) (fun O O x => x.elim) fun O O x => x)))
theorem XsX_Assign_Call (FL : FlatB B) {x : Str} {npos : Pos} {func : Expr} {args : List Expr} {cpos pos : Pos} {rest : List Stmt}
   (h : Ev B fi d NoE func σ [] fun f H₁ => H₁ = [] /\ KeepsV B f /\ EvL B fi d NoE args σ [] fun vs H₂ => H₂ = [] /\ CallX B d f vs cls msg) (hp : args.all plainE = true := by rfl)
   (he : ∀ env, eval (.Call func args [] cpos) env = (do callWith cpos (<- eval func env) [] (backTo cpos (starEach args env)) (backToKw cpos (keywordEach [] env))) := by intro _; rfl)
   (hs : ∀ env, swapsWith (.Call func args [] cpos) (some (.Name x npos)) pos.line env = pure false := by intro _; rfl) : XsX B fi d (.Assign [.Name x npos] (.Call func args [] cpos) pos :: rest) σ cls msg := fun E A s env e R I F outer hfr hff hE => by
 refine wpAny_execs_cons (wpAny_mono (Q := fun O O => False) (E := E) (wpAny_Assign_Name (wpAny_mono (eval_CallX FL h hp he e R I F hfr hff fun e s' r => hE e s' (.inl r)) (fun O O x => x.elim) fun O O x => x) (hs env)) (fun O O x => x.elim) fun O O x => x)
theorem XsX_Raise1 (FL : FlatB B) {newId initId : String} (FC : ExcCallFacts cls newId initId) (FR : ExcRaiseFacts cls) {x m : Str} {np cpos pos kp : Pos} {k : Nat} {rest : List Stmt} (hm : msg = some m)
   (h : Ev B fi d NoE (.Name x np) σ [] fun f H₁ => H₁ = [] /\ f = .raw (.type cls)) :
   XsX B fi d (.Raise (some (.Call (.Name x np) [.Constant (.str m) k kp] [] cpos)) none pos :: rest) σ cls msg := fun E A s env e R I F outer hfr hff hE => by
 subst hm
 refine wpAny_grow (wpAny_mono (Q := fun O O => False) (E := fun e s' => s.heap.objs.size <= s'.heap.objs.size -> E e s') ?_ (fun O O x => x.elim) fun O O x => x)
 refine wpAny_execs_cons (wpAny_mono (Q := fun O O => False) (E := fun e s' => s.heap.objs.size <= s'.heap.objs.size -> E e s') (Raise_madeB FC FR R.handled (wpAny_mono (h A s env e R I F) (fun fv s₁ hh1 => ?_) fun O O x => x.elim)) (fun O O x => x.elim) fun O O x => x)
 obtain ⟨f, H₁, t₁, q₁, hH, hf⟩ := hh1
 subst hH; subst hf
 obtain ⟨O, rfl⟩ := q₁.inv
 refine ⟨rfl, ?_⟩
 have hl : EvL B fi d NoE [.Constant (.str m) k kp] σ [] fun vs H₂ => H₂ = [] /\ vs = [.str m] := Ev_str ⟨rfl, rfl⟩
 refine wpAny_mono (EvL_spliced hl rfl A s₁ env e R t₁.inv (F.tr I t₁)) (fun vs s₂ hh1 => ?_) fun O O x => x.elim
 obtain ⟨ps, H₂, t₂, l₂, q₂, hH, hps⟩ := hh1
 subst hH; subst hps
 obtain ⟨v, rfl, r⟩ := q₂.one
 obtain ⟨O, rfl⟩ := r.inv
 refine ⟨by show 1 <= sizeLine; decide, fun h' ea hx hz => hE _ _ (.inr ?_)⟩
 have t := t₁.trans t₂
 refine ⟨s₂.heap, _, ea, t.keeps FL, rfl, hx.of, ⟨_, rfl⟩, hz, t.inv.bare, t.step.gens, t.inv.os.trans I.os.symm⟩
theorem name_glob {H : AH} {E : EP} {A : Around} {s : Shared} {env : Env} {x : Str} {v : Value} {np : Pos} {Q : Value -> Shared -> Prop} (e : EnvOk B fi env) (I : Inv B H s) (F : FrameOk B env σ H s) (hx : (x, NameKind.globalImplicit, some (PV.raw v)) ∈ σ) (h : Q v s)
   (hd : (x == ("__debug__" : Str)) = false := by decide) : wpAny (model B.prog B.w) A (eval (.Name x np) env) Q E s := by
 obtain ⟨w, hv, hr⟩ := F.glob x _ hx
 have hgn : s.heap.Ns env.globals B.mg := by rw [e.globals]; exact B.nsg.keeps I.keep
 have hvv := hr (fun O => True) s.heap
 cases hvv
 have hk := F.kindOf hx
 have hb : wpAny (model B.prog B.w) A (loadGlobal env x) Q E s := by
   rcases hv with hv | ⟨h1, h2, h3⟩
   . exact Calls.loadGlobal_global hgn hv h
   . exact Calls.loadGlobal_builtin hgn h1 (by rw [e.builtins]; exact B.nsb.keeps I.keep) ((B.boot x h3).trans h2) h
 refine wpAny_Name ?_ hd
 unfold loadName
 simp only [Env.blockKind, e.kindF, hk, ScopeKind.isAnnotationScope, Bool.false_and, Bool.false_eq_true, if_false]
 exact hb
theorem raise_class {X N I : String} (FC : ExcCallFacts X N I) (FR : ExcRaiseFacts X) (hc : ExcClass X N I) {prog : Program} {w : World} {A : Around} {E : EP} {s : Shared} {env : Env} {x : Str} {np pos : Pos} {Q : Flow -> Shared -> Prop} (hh : A.handled = none)
   (hx : wpAny (model prog w) A (eval (.Name x np) env) (fun v s₁ => v = .type X /\ s₁ = s) E s)
   (h : ∀ h' e, Heap.MadeExc s.heap h' e X [] -> E (.ref e) { s with heap := h' }) :
   wpAny (model prog w) A (exec (.Raise (some (.Name x np)) none pos) env) Q E s := by
 show wpAny (model prog w) A (do standAt pos; raiseStmt env (some (do let v <- eval (.Name x np) env; standAt pos; pure v)) none) Q E s
 refine wpAny_bind (wpAny_standAt ?_)
 unfold raiseStmt
 dsimp only
 refine wpAny_bind (wpAny_bind (wpAny_mono hx (fun v s₁ h₁ => wpAny_bind (wpAny_standAt (wpAny_pure ?_))) fun O O e => e))
 obtain ⟨rfl, hs₁⟩ := h₁
 subst s₁
 refine wpAny_bind (wpAny_pure ?_)
 dsimp only
 refine wpAny_bind (wpAny_holding ?_)
 unfold excFromValue isExcClass
 refine wpAny_bind (wpAny_bind (wpAny_pure ?_))
 simp only [if_true]
 rw [FR.isExc]
 refine wpAny_pure ?_
 simp only [if_true]
 obtain ⟨hp, g, dd, tk, os⟩ := s
 refine wpAny_bind (wpAny_call_exc FC (rest := []) (hrest := Nat.zero_le _) fun h' e hn => ?_)
 obtain ⟨t, he, O⟩ := hn.there
 have hT : (⟨h', g, dd, tk, os⟩ : Shared).TypeIs (.ref e) X := (show ∃ o, h'.get? e = some o /\ o.cls = .type X from ⟨_, he, rfl⟩)
 refine wpAny_bind (wpAny_isInstance hT FR.isExc ?_)
 simp only [Bool.not_true, Bool.false_eq_true, if_false]
 refine wpAny_pure ?_
 first | (refine wpAny_bind (m := isType (.type X)) (wpAny_pure ?_)) | (refine wpAny_bind (wpAny_pure ?_))
 first | (rw [if_pos rfl]) | (simp only [if_true]) | dsimp only
 refine wpAny_bind (wpAny_holding ?_)
 unfold raisedFor
 first | (simp only [Bool.false_eq_true, if_false]) | (rw [if_neg (by decide)]) | skip
 first | (refine wpAny_bind (wpAny_typeOf hT ?_)) | (refine wpAny_bind ?_; refine wpAny_bind (wpAny_typeOf hT ?_))
 refine wpAny_bind (call_issubclass (issubclass_self hc FC.sub) ?_)
 first | (refine wpAny_bind (wpAny_truthy_bool ?_)) | (refine wpAny_truthy_bool ?_) | (dsimp only [wants]; first | (refine wpAny_bind (wpAny_truthy_bool ?_)) | (refine wpAny_truthy_bool ?_))
 first | (rw [if_pos rfl]) | (simp only [if_true]) | skip
 refine wpAny_pure ?_
 unfold setFlight raiseNew
 refine wpAny_bind (wpAny_bind (wpAny_field (i := 1) (x := Value.none) he rfl rfl ?_))
 rw [if_neg (by decide)]
 refine wpAny_pure (wpAny_bind (wpAny_handled ?_))
 rw [hh]
 first
   | exact wpAny_throw (h h' e hn)
   | exact wpAny_bind (wpAny_pure (wpAny_throw (h h' e hn)))
theorem XsX_RaiseC (FL : FlatB B) {newId initId : String} (FC : ExcCallFacts cls newId initId) (FR : ExcRaiseFacts cls) (hc : ExcClass cls newId initId) {x : Str} {np pos : Pos} {rest : List Stmt} (hm : msg = none) (hx : (x, NameKind.globalImplicit, some (PV.raw (.type cls))) ∈ σ) (hd : (x == ("__debug__" : Str)) = false := by decide) :
   XsX B fi d (.Raise (some (.Name x np)) none pos :: rest) σ cls msg := fun E A s env e R I F outer hfr hff hE => by
 subst hm
 refine wpAny_grow (wpAny_mono (Q := fun O O => False) (E := fun e s' => s.heap.objs.size <= s'.heap.objs.size -> E e s') ?_ (fun O O x => x.elim) fun O O x => x)
 refine wpAny_execs_cons (wpAny_mono (Q := fun O O => False) (E := fun e s' => s.heap.objs.size <= s'.heap.objs.size -> E e s') (raise_class FC FR hc R.handled ?_ fun h' ea hn => ?_) (fun O O x => x.elim) fun O O x => x)
 . exact name_glob e I F hx ⟨rfl, rfl⟩ hd
 . exact fun hz => hE _ _ (.inr ⟨s.heap, _, ea, fun O O q => q, rfl, hn.of, rfl, hz, I.bare, fun O O q => q, rfl⟩)
theorem FnIs.callX (FL : FlatB B) {f : Addr} {name : Str} {k : Nat} {dV kV cdv : Value} (h : FnIs B f name k dV kV cdv) {args : List PV} {bs : List (Str × PV)} {nm : List Str} {σ₀ : St}
   (hb : ∀ doc pm an ct, BindV B (fdOf name k dV kV doc pm an cdv ct) args [] [] bs) (hnm : bs.map (fun e => e.1) = nm) (hc : chkF nm (stScope (topSt k)) = true)
   (hi : Ini B bs (stScope (topSt k)).names σ₀) (hx : XsX B (fiOf k name) d (stBody (topSt k)) σ₀ cls msg) : CallX B (d + 1) (.raw (.ref f)) args cls msg := by
 obtain ⟨oc, od, osl, doc, pm, an, ct, ho⟩ := h.at_
 exact CallX_fd FL (fd := fdOf name k dV kV doc pm an cdv ct) (cp := none) (fun s I => I.keep _ _ ho) rfl rfl (fun s I => h.code.keeps I.keep) (chkF_kind hc) (chkF_co hc) (chkF_gen hc) rfl rfl (fun O O h => nomatch h) (hb doc pm an ct)
   (by rw [hnm]; exact chkF_nodup hc) (fun e he => chkF_mem hc _ (by rw [<- hnm]; exact mmr ⟨e, he, rfl⟩)) (chkF_names hc) (chkF_free hc) hi hx
theorem callF_of {H : AH} {f : Addr} {name : Str} {k : Nat} {dV kV cdv : Value} (h : FnIs B f name k dV kV cdv) {args : List PV} {kw bs : List (Str × PV)} {nm : List Str} {σ₀ : St} {Q : PQ}
   (hb : ∀ doc pm an ct, BindV B (fdOf name k dV kV doc pm an cdv ct) args kw H bs) (hnm : bs.map (fun e => e.1) = nm) (hc : chkF nm (stScope (topSt k)) = true)
   (hi : Ini B bs (stScope (topSt k)).names σ₀) (hx : XsF B (fiOf k name) d (stBody (topSt k)) σ₀ H (fun O H' => Q .none H') (PX Q)) :
   ∀ A s, Room A (d + 1) -> A.frames = some [] -> Inv B H s -> ∀ fv vs kvs, VR (Trk B H) s.heap fv (.raw (.ref f)) -> VRs (Trk B H) s.heap vs args -> KwRel (Trk B H) s.heap kvs kw ->
   wpAny (model B.prog B.w) A (call fv vs kvs) (EvPost B H s Q) NoE s := by
 obtain ⟨oc, od, osl, doc, pm, an, ct, ho⟩ := h.at_
 exact CallV_fdF (fd := fdOf name k dV kV doc pm an cdv ct) (cp := none) (fun s I => I.keep _ _ ho) rfl rfl (fun s I => h.code.keeps I.keep) (chkF_kind hc) (chkF_co hc) (chkF_gen hc) rfl rfl (fun O O h => nomatch h) (hb doc pm an ct)
   (by rw [hnm]; exact chkF_nodup hc) (fun e he => chkF_mem hc _ (by rw [<- hnm]; exact mmr ⟨e, he, rfl⟩)) (chkF_names hc) (chkF_free hc) hi hx
theorem FnIs.flat {f : Addr} {name : Str} {k : Nat} {dV kV cdv : Value} (h : FnIs B f name k dV kV cdv) {g : Heap} {hk : ∀ a o, B.g.get? a = some o -> g.get? a = some o} : FnIs (B.flat g hk) f name k dV kV cdv := by
 obtain ⟨oc, od, osl, doc, pm, an, ct, ho⟩ := h.at_
 exact ⟨⟨oc, od, osl, doc, pm, an, ct, hk _ _ ho⟩, h.code.keeps hk⟩
theorem BisDef.flat {dV kV : Value} (h : BisDef B dV kV) {g : Heap} {hk : ∀ a o, B.g.get? a = some o -> g.get? a = some o} : BisDef (B.flat g hk) dV kV := by
 obtain ⟨⟨T, n, t, h1, h2⟩, D, hs, tk, m, h3, h4⟩ := h
 exact ⟨⟨T, n, t, h1, hk _ _ h2⟩, D, hs, tk, m, h3, hk _ _ h4⟩
theorem flat_flat {g : Heap} {hk : ∀ a o, B.g.get? a = some o -> g.get? a = some o} : FlatB (B.flat g hk) := ⟨rfl, rfl⟩
end
section
variable {B : Base} {fi : FnInfo} {d : Nat} {E : EP} {σ : St} {H : AH}
theorem XsF_cons {st : Stmt} {rest : List Stmt} {Qn : SQ} {Qf : FQ} (h : X B fi d NoE st σ H (fun σ' H' => XsF B fi d rest σ' H' Qn Qf) Qf) :
   XsF B fi d (st :: rest) σ H Qn Qf := fun A s env e R I F hfr hf => by
 refine wpAny_execs_cons (wpAny_mono (h A s env e R I F) (fun fl s₁ hh1 => ?_) fun O O x => x)
 obtain ⟨σ₁, H₁, t₁, F₁, q⟩ := hh1
 rcases q with ⟨rfl, q⟩ | ⟨pf, hf', q⟩
 . exact wpAny_mono (q A s₁ env e R t₁.inv F₁ hfr hf) (fun fl' s₂ hh1 => by obtain ⟨σ₂, H₂, t₂, F₂, q₂⟩ := hh1; exact ⟨σ₂, H₂, t₁.trans t₂, F₂, q₂⟩) fun O O x => x
 . cases fl with
   | next => cases pf <;> exact hf'.elim
   | brk => exact ⟨σ₁, H₁, t₁, F₁, .inr ⟨pf, hf', q⟩⟩
   | cont => exact ⟨σ₁, H₁, t₁, F₁, .inr ⟨pf, hf', q⟩⟩
   | ret v => exact ⟨σ₁, H₁, t₁, F₁, .inr ⟨pf, hf', q⟩⟩
theorem XsF.of {b : List Stmt} {Qn : SQ} {Qf : FQ} (h : Xs B fi d NoE b σ H Qn Qf) : XsF B fi d b σ H Qn Qf := fun A s env e R I F O O => h A s env e R I F
theorem all_keep {s : Shared} {env : Env} (I : Inv B H s) (F : FrameOk B env σ H s) : ∀ a o, B.g.get? a = some o -> (pinH B.g s.heap fun a => a ≠ env.locals).get? a = some o := fun a o e => by
 by_cases hp : a ≠ env.locals
 . rw [pinH_in (P := fun a => a ≠ env.locals) hp]; exact I.keep a o e
 . rw [pinH_out (P := fun a => a ≠ env.locals) hp I.size]; exact e
section
variable {s : Shared} {env : Env} (I : Inv B H s) (F : FrameOk B env σ H s)
theorem all_get {a : Addr} {o : Obj} (ha : a ≠ env.locals) (h : s.heap.get? a = some o) : (pinH B.g s.heap fun a => a ≠ env.locals).get? a = some o := by rw [pinH_in (P := fun a => a ≠ env.locals) ha]; exact h
include I F in
theorem all_locals : (pinH B.g s.heap fun a => a ≠ env.locals).get? env.locals = Option.none := by
 rw [pinH_out (P := fun a => a ≠ env.locals) (fun q => q rfl) I.size]; exact F.fresh
include I F in
theorem Inv.flat : Inv (B.flat _ (all_keep I F)) [] s := by
 refine ⟨fun a o e => ?_, Nat.le_of_eq pinH_size, (fun O h => nomatch h), I.bare, I.os, List.nodup_nil, (fun O h => nomatch h), (fun O h => nomatch h)⟩
 change (pinH B.g s.heap fun a => a ≠ env.locals).get? a = some o at e
 by_cases hp : a ≠ env.locals
 . rwa [pinH_in (P := fun a => a ≠ env.locals) hp] at e
 . rw [pinH_out (P := fun a => a ≠ env.locals) hp I.size] at e; exact I.keep a o e
inductive Fz (H : AH) : List PV -> List PV -> Prop
 | nil : Fz H [] []
 | lref {a : Addr} {xs : List PV} {r r' : List PV} : (a, xs) ∈ H -> Fz H r r' -> Fz H (.lref a :: r) (.list xs :: r')
 | other {p : PV} {r r' : List PV} : Fz H r r' -> Fz H (p :: r) (p :: r')
theorem VR.loose {T T' : Addr -> Prop} {h : Heap} (ht : ∀ a, ¬ T' a) {v : Value} {p : PV} (r : VR T h v p) : VR T' h v p := r.mono (fun O O e O O => e) fun a O t => (ht a t).elim
theorem VRs.loose {T T' : Addr -> Prop} {h : Heap} (ht : ∀ a, ¬ T' a) {v : List Value} {p : List PV} (r : VRs T h v p) : VRs T' h v p := r.mono (fun O O e O O => e) fun a O t => (ht a t).elim
include I in
theorem Fz.rel {T' : Addr -> Prop} (ht : ∀ a, ¬ T' a) {ps ps' : List PV} (z : Fz H ps ps') : ∀ {vs : List Value}, VRs (Trk B H) s.heap vs ps -> VRs T' s.heap vs ps' := by
 induction z with
 | nil => intro vs r; cases r; exact .nil
 | lref hm _ ih =>
   intro vs r
   cases r with | cons r1 r2 =>
   obtain ⟨O, rfl⟩ := r1.inv
   obtain ⟨O, ws, n, ho, hr⟩ := I.objs _ hm
   exact .cons (.list ho (ht _) (hr.loose ht)) (ih r2)
 | other _ ih =>
   intro vs r
   cases r with | cons r1 r2 => exact .cons (r1.loose ht) (ih r2)
include I F in
theorem lands {s' : Shared} (hst : Heap.StaysIn (pinH B.g s.heap fun a => a ≠ env.locals) s'.heap) (hsl : s.heap.UpToSlots s'.heap) (hz : s.heap.objs.size <= s'.heap.objs.size) (hb : AllBare s'.gens) (hg : ∀ (i : Nat) (x : GenState), s.gens[i]? = some x -> s'.gens[i]? = some x) (ho : s'.os = s.os) :
   Tr B (ownU env) H s H s' /\ FrameOk B env σ H s' := by
 have keep : ∀ a o, s.heap.get? a = some o -> a ≠ env.locals -> s'.heap.get? a = some o := fun a o e ne => hst a o (all_get ne e)
 obtain ⟨m, hns, hm⟩ := F.ns
 obtain ⟨oL, es, ep, hoL, hdL, hrest⟩ := id hns
 have hlt := Heap.lt_size hoL
 let hm' : Heap := pinH s.heap s'.heap fun a => a ≠ env.locals
 have hin : ∀ a, a ≠ env.locals -> hm'.get? a = s'.heap.get? a := fun a ne => pinH_in (P := fun a => a ≠ env.locals) ne
 have hout : hm'.get? env.locals = s.heap.get? env.locals := pinH_out (P := fun a => a ≠ env.locals) (fun q => q rfl) hz
 have hk1 : ∀ a o, s.heap.get? a = some o -> hm'.get? a = some o := fun a o e => by
   by_cases ne : a = env.locals
   . subst ne; rw [hout]; exact e
   . rw [hin a ne]; exact keep a o e ne
 have hz1 : s.heap.objs.size <= hm'.objs.size := by show _ <= (pinH _ _ _).objs.size; rw [pinH_size]; exact hz
 have I1 : Inv B H ⟨hm', s'.gens, s'.drawn, s'.toks, s'.os⟩ := I.ext hk1 hz1 hb ho
 have hsb : Heap.SameBut env.locals hm' s'.heap := ⟨by show _ = (pinH _ _ _).objs.size; rw [pinH_size], fun b ne => (hin b ne).symm⟩
 have I2 : Inv B H s' := I1.change (t := s'.toks) (hk1 _ _ hoL) (by rw [hdL]; nofun) (by rw [hdL]; nofun) F.fresh hsb
 have hkq : ∀ a o, s.heap.get? a = some o -> IsSeqO o -> ¬ Trk B H a -> s'.heap.get? a = some o := fun a o e ⟨vs, n, q⟩ _ => keep a o e fun ne => by
   rw [ne, hoL] at e; cases e; rw [hdL] at q; cases q
 refine ⟨⟨I2, ⟨fun a o e hn => keep a o e fun ne => hn (.inr (.inl ne)), hz, hg⟩, fun O h => .inl h⟩, F.fresh, F.apart, F.keys, F.nodup, ⟨m, hsl.ns hns, fun x p hx => (hm x p hx).mono hkq fun O O t => t⟩, fun x ov hx => ?_, F.glob⟩
 obtain ⟨c, w, hc, ⟨oc, hoc, hdc⟩, hv⟩ := F.cell x ov hx
 exact ⟨c, w, hc, ⟨oc, keep c oc hoc (fun ne => by rw [ne, hoL] at hoc; cases hoc; rw [hdL] at hdc; cases hdc), hdc⟩, hv.mono hkq fun O O t => t⟩
end
noncomputable def msgStr : Option Str -> Str
 | .none => Str.ofString ""
 | some x => x
noncomputable abbrev sayStmt (w n : Str) (wp ap sp np scp acp aep : Pos) : Stmt := .Expr (.Call (.Attribute (.Name w wp) (Str.ofString "append") ap) [.Call (.Name (Str.ofString "str") sp) [.Name n np] [] scp] [] acp) aep
theorem say_ok {X nn : String} (FX : ExcStrFacts X nn) {w n : Str} {wp ap sp np scp acp aep : Pos} {A : Around} {s : Shared} {env : Env} {ea t W : Addr} {ws : List Value} {xs : List PV} {H' : AH} {msg : Option Str} (e : EnvOk B fi env) (hu : A.units + 60 < cLine) (I : Inv B H s) (F : FrameOk B env σ H s)
   (hw : (w, NameKind.local, some (PV.lref W)) ∈ σ) (hn : (n, NameKind.local, some (PV.raw (.ref ea))) ∈ σ) (hs : (Str.ofString "str", NameKind.globalImplicit, some (PV.raw (.type "str"))) ∈ σ) (hx : s.heap.ExcAt ea X (.ref t)) (ht : s.heap.TupAt t ws) (hm : MsgIs msg ws)
   (u : Upd W xs (xs ++ [.str (msgStr msg)]) H H') (hz : xs.length <= sizeLine) (hdw : (w == ("__debug__" : Str)) = false) (hdn : (n == ("__debug__" : Str)) = false)
   (he : ∀ env, eval (.Call (.Attribute (.Name w wp) (Str.ofString "append") ap) [.Call (.Name (Str.ofString "str") sp) [.Name n np] [] scp] [] acp) env = (do
     let ov <- eval (.Name w wp) env
     standAt ap.atName
     let (f, first) <- holding [ov] (getMethod ov (Str.ofString "append") (do return (<- importBound (.Name w wp) env).getD true))
     callWith acp f first (backTo acp (starEach [.Call (.Name (Str.ofString "str") sp) [.Name n np] [] scp] env)) [])) :
   wpAny (model B.prog B.w) A (execs [sayStmt w n wp ap sp np scp acp aep] env) (fun fl s' => fl = .next /\ Tr B noU H s H' s') E s := by
 have hi : interactive env = false := by unfold interactive; rw [e.kindF]; rfl
 refine wpAny_execs_cons ?_
 rw [exec_Expr env _ aep hi rfl]
 refine wpAny_bind (wpAny_standAt (wpAny_bind ?_))
 refine wpAny_mono (Q := fun r s' => r = .none /\ Tr B noU H s H' s') ?_ (fun r s' ⟨hr, t⟩ => ?_) fun O O x => x
 . obtain ⟨m, hns, hmm⟩ := F.ns
   have hW : m w = some (.ref W) := by obtain ⟨v, hv, hr⟩ := hmm w _ hw; obtain ⟨O, rfl⟩ := hr.inv; exact hv
   have hN : m n = some (.ref ea) := by obtain ⟨v, hv, hr⟩ := hmm n _ hn; obtain ⟨O, rfl⟩ := hr.inv; exact hv
   refine MethodCall_ (wpAny_Name (wpAny_loadName_local e.kindF (F.kindOf hw) hns hW ?_) hdw) (he env)
   refine Meth_append (.lref u.has) A E s (.ref W) I (.lref _) _ _ ?_
   refine callWith_any (evalArgs_list rfl ?_)
   refine args_cons ?_ rfl
   refine Call_ (name_glob e I F hs ?_ (by decide)) rfl
   refine callWith_any (evalArgs_list rfl ?_)
   refine args_cons ?_ rfl
   refine wpAny_Name (wpAny_loadName_local e.kindF (F.kindOf hn) hns hN ?_) hdn
   refine Calls.spliced_nil ⟨KeepsV_type A E H s _ I (.raw _), ?_⟩
   have key : ∀ (tk : Tok) (s' : Shared), Tr B noU H s H s' -> wpAny (model B.prog B.w) A (spliced (backTo acp (starEach [] env))) (fun vs s₂ => (∀ Q' : Keeper -> Shared -> Prop, (∀ k, Q' k s₂) -> wpAny (model B.prog B.w) A (keeperOf (.builtin "list.append")) Q' E s₂) /\ wpAny (model B.prog B.w) A (call (.builtin "list.append") ([.ref W] ++ (.str (msgStr msg) tk :: vs)) []) (fun r s' => r = .none /\ Tr B noU H s H' s') E s₂) E s' := fun tk s' t => by
     refine Calls.spliced_nil ⟨KeepsV_builtin A E H s' _ t.inv (.raw _), ?_⟩
     exact wpAny_mono (append_ok u t.inv (.str _ _) hz) (fun r s'' hh1 => by obtain ⟨a, b⟩ := hh1; exact ⟨a, t.trans b⟩) fun O O x => x
   cases msg with
   | none =>
     obtain rfl : ws = [] := hm
     exact P.str_of_exc_none FX (by lia) hx ht (key _ _ (Tr.tok I _))
   | some x =>
     obtain ⟨tk, rfl⟩ := hm
     exact P.str_of_exc_one FX (by lia) hx ht (key _ _ (.refl I))
 . subst hr
   exact wpAny_dropValue (wpAny_execs_nil ⟨rfl, t⟩)
theorem mem_unique {x : Str} {k k' : NameKind} {ov ov' : Option PV} : ∀ {σ : St}, (σ.map (fun e => e.1)).Nodup -> (x, k, ov) ∈ σ -> (x, k', ov') ∈ σ -> ov = ov'
 | e :: r, hn, h1, h2 => by
   rw [List.map_cons, List.nodup_cons] at hn
   rcases mcp h1 with p1 | p1 <;> rcases mcp h2 with p2 | p2
   . rw [<- p1] at p2; cases p2; rfl
   . exact (hn.1 (mmr ⟨_, p2, by rw [<- p1]⟩)).elim
   . exact (hn.1 (mmr ⟨_, p1, by rw [<- p2]⟩)).elim
   . exact mem_unique hn.2 p1 p2
theorem rep_of {x : Str} {k : NameKind} {ov : Option PV} {p : PV} : ∀ {σ : St}, (x, k, ov) ∈ σ -> ∃ σ', Rep x p k σ σ' /\ (x, k, some p) ∈ σ' /\ ∀ y k' ov', (y, k', ov') ∈ σ -> y ≠ x -> (y, k', ov') ∈ σ'
 | e :: r, hm => by
   by_cases he : e = (x, k, ov)
   . subst he
     refine ⟨_, .head, .head _, fun y k' ov' h hne => ?_⟩
     rcases mcp h with h | h
     . cases h; exact absurd rfl hne
     . exact .tail _ h
   . rcases mcp hm with h | h
     . exact absurd h.symm he
     obtain ⟨σ', h1, h2, h3⟩ := rep_of h
     refine ⟨_, .tail h1, .tail _ h2, fun y k' ov' h hne => ?_⟩
     rcases mcp h with h | h
     . subst h; exact .head _
     . exact .tail _ (h3 y k' ov' h hne)
theorem gone_ok {A : Around} {s : Shared} {env : Env} {σ' : St} {x : Str} {p : PV} {pos : Pos} (e : EnvOk B fi env) (I : Inv B H s) (F : FrameOk B env σ' H s) (hx : (x, NameKind.local, some p) ∈ σ') (hk : σ.map (fun e => (e.1, e.2.1)) = σ'.map (fun e => (e.1, e.2.1)))
   (hs : ∀ y k ov, (y, k, ov) ∈ σ -> (y = x /\ ov = Option.none) \/ (y ≠ x /\ (y, k, ov) ∈ σ')) :
   wpAny (model B.prog B.w) A (do bindName env x .none; unbindBehindTheSuite env x pos) (fun O s' => Tr B (ownU env) H s H s' /\ FrameOk B env σ H s') E s := by
 have hkx := F.kindOf hx
 obtain ⟨m, hns, hm⟩ := F.ns
 refine wpAny_nameGoes_keeps hkx hns (by rw [e.kindF]; rfl) fun h' v hn' hs' => ⟨Tr.own1 F I hs', F.upd hs' (hk.trans F.keys) hn' (fun y q hy => ?_) fun e he hk' => (hs _ _ _ he).elim (fun q => ?_) fun q => q.2⟩
 . rcases hs y _ _ hy with q | q
   . exact nomatch q.2
   . rw [if_neg q.1]
     exact (hm y _ q.2).mono (F.loc_but hs') fun O O t => t
 . have h1 : (e.1, e.2.1) ∈ env.scope.names := F.keys ▸ hk ▸ List.mem_map_of_mem (f := fun e : Str × NameKind × Option PV => (e.1, e.2.1)) he
   exact (hk' (Option.some.inj ((lookup_of_nodup F.nodup h1).symm.trans (q.1 ▸ hkx)))).elim
set_option genInjectivity false in
set_option genSizeOf false in
structure Caught (B : Base) (env : Env) (σ : St) (H : AH) (s : Shared) (ea t : Addr) (cls : String) (ws : List Value) (s' : Shared) : Prop where
 tr : Tr B (ownU env) H s H s'
 frm : FrameOk B env σ H s'
 fly : Heap.FlyingW (pinH B.g s.heap fun a => a ≠ env.locals) [env] ea (.type cls) (.ref t) s'.heap
 tup : s'.heap.TupAt t ws
 nt : (pinH B.g s.heap fun a => a ≠ env.locals).get? t = none
 sl : s.heap.UpToSlots s'.heap
section
variable {s : Shared} {env : Env} {ea t : Addr} {cls : String} {ws : List Value} {s' : Shared} (I : Inv B H s) (F : FrameOk B env σ H s)
include I F in
theorem Caught.on (hfl : Heap.FlyingW (pinH B.g s.heap fun a => a ≠ env.locals) [env] ea (.type cls) (.ref t) s'.heap) (tup : s'.heap.TupAt t ws) (nt : (pinH B.g s.heap fun a => a ≠ env.locals).get? t = none) (sl : s.heap.UpToSlots s'.heap) (hz : s.heap.objs.size <= s'.heap.objs.size) (hb : AllBare s'.gens)
   (hg : ∀ (i : Nat) (x : GenState), s.gens[i]? = some x -> s'.gens[i]? = some x) (ho : s'.os = s.os) : Caught B env σ H s ea t cls ws s' :=
 have x := lands I F hfl.1 sl hz hb hg ho
 ⟨x.1, x.2, hfl, tup, nt, sl⟩
include I F in
theorem Caught.again (c : Caught B env σ H s ea t cls ws s') {A : Around} {P : Shared -> Prop} (k : ∀ s₃, Caught B env σ H s ea t cls ws s₃ -> P s₃) : wpAny (model B.prog B.w) A (setFlight (.ref ea) none) (fun O s₃ => P s₃) E s' :=
 wpAny_grow (lands_againW c.fly fun h₄ hfl₄ hsl₄ hz₄ => k _ (.on I F hfl₄ (c.tup.of_slots hsl₄) c.nt (c.sl.trans hsl₄) (ntr c.tr.step.size hz₄) c.tr.inv.bare c.tr.step.gens (c.tr.inv.os.trans I.os.symm)))
include I F in
theorem Raised.caught {hk : ∀ a o, B.g.get? a = some o -> (pinH B.g s.heap fun a => a ≠ env.locals).get? a = some o} {msg : Option Str} {A : Around} (hfr : A.frames = some [env]) (hf : env.frame = some env.locals) {e' : Value} {s₁ : Shared} (r : Raised (B.flat _ hk) [env] cls msg s e' s₁) {P : Value -> Shared -> Prop}
   (k : ∀ ea t ws s₃, MsgIs msg ws -> Caught B env σ H s ea t cls ws s₃ -> P (.ref ea) s₃) : wpAny (model B.prog B.w) A (noteFrame e' env) (fun O s₂ => wpAny (model B.prog B.w) A (setFlight e' none) (fun O s₃ => P e' s₃) E s₂) E s₁ := by
 obtain ⟨ea, t, ws, rfl, hfl, htup, hmsg, hnt'⟩ := r.ex
 exact wpAny_grow (wpAny_looks_onW hfr hf hfl fun h₂ hheld hsl₂ hz₂ => wpAny_grow (wpAny_landsW hheld fun h₃ hfl₃ hsl₃ hz₃ =>
   k _ _ _ _ hmsg (.on I F hfl₃ (htup.of_slots (hsl₂.trans hsl₃)) hnt' (r.slots.trans (hsl₂.trans hsl₃)) (ntr r.size (ntr hz₂ hz₃)) r.bare r.gens r.os)))
theorem pin_fresh {s : Shared} {env : Env} {a : Addr} {o : Obj} (h1 : (pinH B.g s.heap fun a => a ≠ env.locals).get? a = none) (h2 : s.heap.get? a = some o) : a = env.locals :=
 Classical.byContradiction fun ne => nomatch h1.symm.trans (all_get ne h2)
include I F in
theorem pin_stay {s₄ s₅ : Shared} (T : Tr B (ownU env) H s₄ H s₅) {a : Addr} {o : Obj} (h1 : (pinH B.g s.heap fun a => a ≠ env.locals).get? a = none) (h2 : s₄.heap.get? a = some o) (h3 : a ≠ env.locals) : s₅.heap.get? a = some o := by
 refine T.step.heap a o h2 ?_
 have no : ∀ {o}, ¬ s.heap.get? a = some o := fun e => h3 (pin_fresh h1 e)
 rintro ((q | q | q) | q | ⟨x, q1, q2, _⟩)
 . obtain ⟨p, hp, rfl⟩ := mmp q
   obtain ⟨O, O, O, e1, O⟩ := I.objs p hp
   exact no e1
 . obtain ⟨p, hp, rfl⟩ := mmp q
   obtain ⟨O, e1, O⟩ := I.tabs p hp
   exact no e1
 . obtain ⟨p, hp, rfl⟩ := mmp q
   exact no (I.hid p hp).a
 . exact h3 q
 . obtain ⟨⟨y, k, ov⟩, hy, heq⟩ := mmp (F.keys ▸ mem_of_lookup q1 : (x, NameKind.cell) ∈ σ.map _)
   cases heq
   obtain ⟨c, O, hc', ⟨oc, hoc, O⟩, O⟩ := F.cell _ ov (.inl hy)
   rw [q2] at hc'; cases hc'
   exact no hoc
theorem no_loc (F : FrameOk B env σ H s') {a : Addr} {o : Obj} {d : Array Value} (h : s'.heap.get? a = some o) (hd : o.data = .fields d \/ ∃ v n, o.data = .seq v n) : a ≠ env.locals := fun ne => by
 obtain ⟨O, ⟨oL, O, O, hoL, hdL, O⟩, O⟩ := F.ns
 cases hoL.symm.trans (ne ▸ h)
 rcases hd with q | ⟨_, _, q⟩ <;> cases hdL.symm.trans q
include I F in
theorem Caught.exc (c : Caught B env σ H s ea t cls ws s') {s₅ : Shared} (T : Tr B (ownU env) H s' H s₅) : s₅.heap.ExcAt ea cls (.ref t) /\ s₅.heap.TupAt t ws := by
 obtain ⟨oe, fs, hoe, hoec, hoed, hoe0⟩ := c.fly.first
 obtain ⟨ot, kt, hot, hotc, hotd⟩ := c.tup
 exact ⟨⟨oe, fs, pin_stay I F T c.fly.2.1 hoe (no_loc c.frm hoe (.inl hoed)), hoec, hoed, hoe0⟩, ot, kt, pin_stay I F T c.nt hot (no_loc (d := #[]) c.frm hot (.inr ⟨_, _, hotd⟩)), hotc, hotd⟩
end
theorem FrameOk.ne {s : Shared} {env : Env} (F : FrameOk B env σ H s) {x y : Str} {k k' : NameKind} {o o' : Option PV} (h1 : (x, k, o) ∈ σ) (h2 : (y, k', o') ∈ σ) (hk : k ≠ k') : x ≠ y := fun q =>
 hk (Option.some.inj ((F.kindOf h1).symm.trans (q ▸ F.kindOf h2)))
inductive Nx (B : Base) (env : Env) (σ : St) (H : AH) (s : Shared) (H' : AH) (fl : Flow) (s' : Shared) : Prop
 | mk (a : fl = .next) (t : Tr B (ownU env) H s H' s') (f : FrameOk B env σ H' s')
theorem Nx.up {s s₀ : Shared} {env : Env} {H' : AH} {fl : Flow} {s' : Shared} (t : Tr B noU H s H s₀) (x : Nx B env σ H s₀ H' fl s') : Nx B env σ H s H' fl s' := by
 obtain ⟨a, b, c⟩ := x
 exact ⟨a, t.up.trans b, c⟩
theorem say_all {cls nn : String} (FX : ExcStrFacts cls nn) {msg : Option Str} {w n : Str} {wp ap sp np scp acp aep hp : Pos} {A : Around} {s s₄ : Shared} {env : Env} {ea t W : Addr} {ws : List Value} {xs : List PV} {H' : AH} (e : EnvOk B fi env) (hu : A.units + 60 < cLine) (I : Inv B H s) (F : FrameOk B env σ H s)
   (c : Caught B env σ H s ea t cls ws s₄) (hm : MsgIs msg ws)
   (hw : (w, NameKind.local, some (PV.lref W)) ∈ σ) (hn : (n, NameKind.local, Option.none) ∈ σ) (hs : (Str.ofString "str", NameKind.globalImplicit, some (PV.raw (.type "str"))) ∈ σ)
   (u : Upd W xs (xs ++ [.str (msgStr msg)]) H H') (hz : xs.length <= sizeLine) (hwn : w ≠ n) (hdw : (w == ("__debug__" : Str)) = false) (hdn : (n == ("__debug__" : Str)) = false)
   (he : ∀ env, eval (.Call (.Attribute (.Name w wp) (Str.ofString "append") ap) [.Call (.Name (Str.ofString "str") sp) [.Name n np] [] scp] [] acp) env = (do
     let ov <- eval (.Name w wp) env
     standAt ap.atName
     let (f, first) <- holding [ov] (getMethod ov (Str.ofString "append") (do return (<- importBound (.Name w wp) env).getD true))
     callWith acp f first (backTo acp (starEach [.Call (.Name (Str.ofString "str") sp) [.Name n np] [] scp] env)) [])) {E₁ E₂ : EP} :
   wpAny (model B.prog B.w) (A.mark (some (.ref ea))) (storeName env n (.ref ea)) (fun O s₃ => wpAny (model B.prog B.w) (A.mark (some (.ref ea))) (execs [sayStmt w n wp ap sp np scp acp aep] env) (fun f s₄ => wpAny (model B.prog B.w) A (do bindName env n .none; unbindBehindTheSuite env n hp) (fun O s₅ => Nx B env σ H s H' f s₅) E s₄) E₁ s₃) E₂ s₄ := by
 obtain ⟨σ', hrep, hrn, hro⟩ := rep_of (p := PV.raw (.ref ea)) hn
 refine wpAny_mono (store_ok e c.tr.inv c.frm (.raw (.ref ea)) hrep (.inl rfl)) (fun O s₅ x => ?_) fun O O x => x
 have y := c.exc I F x.1
 refine wpAny_mono (say_ok FX e hu x.1.inv x.2 (hro _ _ _ hw hwn) hrn (hro _ _ _ hs (F.ne hs hn nofun)) y.1 y.2 hm u hz hdw hdn he) (fun fl s₆ z => ?_) fun O O x => x
 refine wpAny_mono (gone_ok (σ := σ) e z.2.inv (x.2.tr x.1.inv z.2) hrn hrep.keys.symm fun y k ov hy => ?_) (fun O s₇ v => ⟨z.1, (c.tr.trans x.1).trans (z.2.up.trans v.1), v.2⟩) fun O O x => x
 by_cases hyn : y = n
 . subst hyn
   cases (F.kindOf hn).symm.trans (F.kindOf hy)
   exact .inl ⟨rfl, (mem_unique F.nodupS hn hy).symm⟩
 . exact .inr ⟨hyn, hro _ _ _ hy hyn⟩
inductive TryL (B : Base) (d : Nat) (cls : String) (msg : Option Str) (H : AH) (f : PV) (vs : List PV) (H₂ : AH) : Prop
 | mk (a : H₂ = H) (vs' : List PV) (z : Fz H vs vs') (c : ∀ g hk, CallX (B.flat g hk) d f vs' cls msg)
inductive TryF (B : Base) (fi : FnInfo) (d : Nat) (σ : St) (cls : String) (msg : Option Str) (args : List Expr) (H : AH) (f : PV) (H₁ : AH) : Prop
 | mk (a : H₁ = H) (fa : ∃ fa, f = .raw (.ref fa)) (k : KeepsV B f) (h : EvL B fi d NoE args σ H (TryL B d cls msg H f))
theorem try_call {cls : String} {msg : Option Str} {func : Expr} {args : List Expr} {cpos : Pos} (h : Ev B fi d NoE func σ H (TryF B fi d σ cls msg args H)) (hpl : args.all plainE = true)
   (hec : ∀ env, eval (.Call func args [] cpos) env = (do callWith cpos (<- eval func env) [] (backTo cpos (starEach args env)) (backToKw cpos (keywordEach [] env)))) {A : Around} {s : Shared} {env : Env} (e : EnvOk B fi env) (R : Room A d) (I : Inv B H s) (F : FrameOk B env σ H s) (hfr : A.frames = some [env]) (hf : env.frame = some env.locals) {Q : Value -> Shared -> Prop} {E' : EP}
   (k : ∀ s₀ (I₀ : Inv B H s₀) (F₀ : FrameOk B env σ H s₀), Tr B noU H s H s₀ -> ∀ e' s₁, Raised (B.flat _ (all_keep I₀ F₀)) [env] cls msg s₀ e' s₁ -> E' e' s₁) :
   wpAny (model B.prog B.w) A (eval (.Call func args [] cpos) env) Q E' s := by
 refine Call_ (wpAny_mono (h A s env e R I F) (fun fv s₁ hh1 => ?_) fun O O x => x.elim) (hec env)
 obtain ⟨f, H₁, t₁, q₁, hH, ⟨fa, hfa⟩, hk, h₁⟩ := hh1
 subst hH; subst hfa
 refine callWith_any (evalArgs_list hpl (wpAny_mono (EvL_spliced h₁ hpl A s₁ env e R t₁.inv (F.tr I t₁)) (fun vs s₀ hh1 => ?_) fun O O x => x.elim))
 obtain ⟨ps, H₂, t₂, l₂, q₂, hH, vs', hz', hX⟩ := hh1
 subst hH
 refine ⟨hk A _ H₂ s₀ fv t₂.inv (q₁.tr t₂), ?_⟩
 have t₀ := t₁.trans t₂
 have F₀ := F.tr I t₀
 obtain ⟨m, hns, O⟩ := F₀.ns
 obtain ⟨O, rfl⟩ := q₁.inv
 exact wpAny_mono (hX _ (all_keep t₀.inv F₀) E' A s₀ R (Inv.flat t₀.inv F₀) (.ref fa) vs (.raw _) (hz'.rel t₀.inv (fun a => (flat_flat : FlatB (B.flat _ (all_keep t₀.inv F₀))).trk) q₂) [env] hfr (Heap.FunFrames.cons (L := env.locals) (by rw [e.kindF]; nofun) hf hns (all_locals t₀.inv F₀) trivial) (k s₀ t₀.inv F₀ t₀)) (fun O O x => x.elim) fun O O x => x
theorem XsF_TryAppend {nn : String} {cls : String} {msg : Option Str} (FX : ExcStrFacts cls nn) {func : Expr} {args : List Expr} {cpos epos tpos cp hp : Pos} {cx w n : Str} {wp ap sp np scp acp aep : Pos} {rest : List Stmt} {Qn : SQ} {Qf : FQ} {W : Addr} {xs : List PV} {H' : AH}
   (hexc : isSubtype (.type cls) (.type "BaseException") = pure true) (hnt : isSubtype (.type ((Manifest.find? cls).elim "type" fun x => x.metatype)) (.type "tuple") = pure false) (hsub : isSubtype (.type cls) (.type cls) = pure true)
   (h : Ev B fi d NoE func σ H (TryF B fi d σ cls msg args H))
   (hw : (w, NameKind.local, some (PV.lref W)) ∈ σ) (hn : (n, NameKind.local, Option.none) ∈ σ) (hs : (Str.ofString "str", NameKind.globalImplicit, some (PV.raw (.type "str"))) ∈ σ) (hc : (cx, NameKind.globalImplicit, some (PV.raw (.type cls))) ∈ σ)
   (u : Upd W xs (xs ++ [.str (msgStr msg)]) H H') (hz : xs.length <= sizeLine) (hwn : w ≠ n) (q : XsF B fi d rest σ H' Qn Qf)
   (he : ∀ env, eval (.Call (.Attribute (.Name w wp) (Str.ofString "append") ap) [.Call (.Name (Str.ofString "str") sp) [.Name n np] [] scp] [] acp) env = (do
     let ov <- eval (.Name w wp) env
     standAt ap.atName
     let (f, first) <- holding [ov] (getMethod ov (Str.ofString "append") (do return (<- importBound (.Name w wp) env).getD true))
     callWith acp f first (backTo acp (starEach [.Call (.Name (Str.ofString "str") sp) [.Name n np] [] scp] env)) []) := by intro _; rfl)
   (hpl : args.all plainE = true := by rfl)
   (hec : ∀ env, eval (.Call func args [] cpos) env = (do callWith cpos (<- eval func env) [] (backTo cpos (starEach args env)) (backToKw cpos (keywordEach [] env))) := by intro _; rfl)
   (hsw : ∀ env, swapsWith (.Call func args [] cpos) none epos.line env = pure false := by intro _; rfl)
   (hdw : (w == ("__debug__" : Str)) = false := by decide) (hdn : (n == ("__debug__" : Str)) = false := by decide) (hdc : (cx == ("__debug__" : Str)) = false := by decide) :
   XsF B fi d (.Try [.Expr (.Call func args [] cpos) epos] [.ExceptHandler (some (.Name cx cp)) (some n) [sayStmt w n wp ap sp np scp acp aep] hp] [] [] tpos :: rest) σ H Qn Qf := fun A s env e R I F hfr hf => by
 refine wpAny_execs_cons (wpAny_mono (Q := Nx B env σ H s H') ?_ (fun fl s' x => ?_) fun O O x => x)
 . refine wpAny_Try_except (wpAny_execs_cons ?_)
   rw [exec_Expr env _ epos (by unfold interactive; rw [e.kindF]; rfl) (hsw env)]
   refine wpAny_bind (wpAny_standAt (wpAny_bind (try_call h hpl hec e R I F hfr hf fun s₀ I₀ F₀ t₀ e' s₁ r => ?_)))
   refine Raised.caught (P := fun e' s₃ => wpAny (model B.prog B.w) A (handleBy e' env _) _ _ s₃) I₀ F₀ hfr hf r fun ea t ws s₃ hmsg c => ?_
   obtain ⟨ob, hob, hobc⟩ := c.fly.there
   refine wpAny_handleBy_builtin_as (X := cls) (T := cls) (b := true) hexc hnt hsub (name_glob e c.tr.inv c.frm hc ⟨rfl, ⟨ob, hob, hobc⟩, ?_⟩ hdc)
   rw [if_pos rfl]
   refine c.again I₀ F₀ fun s₄ c => ?_
   exact wpAny_mono (say_all FX e (by have := R.units; lia) I₀ F₀ c hmsg hw hn hs u hz hwn hdw hdn he) (fun O O x => wpAny_mono x (fun O O x => wpAny_mono x (fun O O x => x.up t₀) fun O O x => x) fun O O x => x) fun O O x => x
 . obtain ⟨hfl, t, F'⟩ := x
   subst hfl
   exact wpAny_mono (q A s' env e R t.inv F' hfr hf) (fun fl' s₂ hh1 => by obtain ⟨σ₂, H₂, t₂, F₂, q₂⟩ := hh1; exact ⟨σ₂, H₂, t.trans t₂, F₂, q₂⟩) fun O O x => x
end
inductive Wk : St -> St -> Prop
 | nil : Wk [] []
 | same {e : Str × NameKind × Option PV} {r r' : St} : Wk r r' -> Wk (e :: r) (e :: r')
 | drop {x : Str} {k : NameKind} {ov : Option PV} {r r' : St} : Wk r r' -> Wk ((x, k, ov) :: r) ((x, k, Option.none) :: r')
section
variable {B : Base} {fi : FnInfo} {d : Nat} {E : EP} {σ σ' : St} {H : AH}
theorem Wk.keys (h : Wk σ σ') : σ'.map (fun e => (e.1, e.2.1)) = σ.map (fun e => (e.1, e.2.1)) := by
 induction h with
 | nil => rfl
 | same _ ih => simp only [List.map_cons, ih]
 | drop _ ih => simp only [List.map_cons, ih]
theorem Wk.mem (h : Wk σ σ') {x : Str} {k : NameKind} {ov : Option PV} (hm : (x, k, ov) ∈ σ') : (x, k, ov) ∈ σ \/ (ov = Option.none /\ ∃ ov', (x, k, ov') ∈ σ) := by
 induction h with
 | nil => cases hm
 | same _ ih =>
   rcases mcp hm with e | hm
   . exact .inl (by rw [e]; exact mcs)
   . exact (ih hm).imp (fun q => mcm _ q) fun ⟨a, o, b⟩ => ⟨a, o, mcm _ b⟩
 | drop _ ih =>
   rcases mcp hm with e | hm
   . cases e; exact .inr ⟨rfl, _, mcs⟩
   . exact (ih hm).imp (fun q => mcm _ q) fun ⟨a, o, b⟩ => ⟨a, o, mcm _ b⟩
theorem FrameOk.wk {env : Env} {s : Shared} (F : FrameOk B env σ H s) (h : Wk σ σ') : FrameOk B env σ' H s := by
 refine ⟨F.fresh, F.apart, h.keys.trans F.keys, F.nodup, ?_, fun x ov hx => ?_, fun x p hx => ?_⟩
 . obtain ⟨m, hns, hm⟩ := F.ns
   refine ⟨m, hns, fun x p hx => ?_⟩
   rcases h.mem hx with q | ⟨q, _⟩
   . exact hm x p q
   . cases q
 . have : (∃ ov', ((x, NameKind.cell, ov') ∈ σ \/ (x, NameKind.free, ov') ∈ σ) /\ (ov = ov' \/ ov = Option.none)) := by
     rcases hx with hx | hx
     . rcases h.mem hx with q | ⟨q, o, q'⟩
       . exact ⟨ov, .inl q, .inl rfl⟩
       . exact ⟨o, .inl q', .inr q⟩
     . rcases h.mem hx with q | ⟨q, o, q'⟩
       . exact ⟨ov, .inr q, .inl rfl⟩
       . exact ⟨o, .inr q', .inr q⟩
   obtain ⟨ov', hm, ho⟩ := this
   obtain ⟨c, w, hc, hcell, hv⟩ := F.cell x ov' hm
   refine ⟨c, w, hc, hcell, ?_⟩
   rcases ho with rfl | rfl
   . exact hv
   . trivial
 . rcases h.mem hx with q | ⟨q, _⟩
   . exact F.glob x p q
   . cases q
theorem XsF.wk {b : List Stmt} {Qn : SQ} {Qf : FQ} (h : XsF B fi d b σ' H Qn Qf) (w : Wk σ σ') : XsF B fi d b σ H Qn Qf := fun A s env e R I F hfr hf => h A s env e R I (F.wk w) hfr hf
end
section
variable {B : Base} {d : Nat}
noncomputable abbrev loMsg : Option Str := some (Str.ofString "lo must be non-negative")
theorem bisX_L (FL : FlatB B) {f : Addr} {a x hv : PV} {lo : Int} {dV kV cdv : Value} (hlo : lo < 0) (h : FnIs B f "bisect_left" kBisL dV kV cdv) (D : BisDef B dV kV) (gV : GlobIs B "ValueError" (.raw (.type "ValueError"))) (gl : GlobIs B "len" (.raw (.builtin "len"))) :
   CallX B (d + 1) (.raw (.ref f)) [a, x, .int lo, hv] "ValueError" loMsg := by
 refine h.callX FL (fun doc pm an ct => BindV_4 (fd := fun dV kV => fdOf "bisect_left" kBisL dV kV doc pm an cdv ct) D fun S T D n m t tk hs v w u z => bis4L) rfl bisL_chk (bisL_ini gV gl) ?_
 refine XsX_If FL ?_
 walk_at "w"
 refine ⟨rfl, ?_⟩
 rw [decide_eq_true (by lia), if_pos rfl]
 refine XsX_Raise1 FL F.excCall_ValueError F.excRaise_ValueError rfl ?_
 walk_at "w"
 exact ⟨rfl, rfl⟩
theorem bisX_R (FL : FlatB B) {f : Addr} {a x hv : PV} {lo : Int} {dV kV cdv : Value} (hlo : lo < 0) (h : FnIs B f "bisect_right" kBisR dV kV cdv) (D : BisDef B dV kV) (gV : GlobIs B "ValueError" (.raw (.type "ValueError"))) (gl : GlobIs B "len" (.raw (.builtin "len"))) :
   CallX B (d + 1) (.raw (.ref f)) [a, x, .int lo, hv] "ValueError" loMsg := by
 refine h.callX FL (fun doc pm an ct => BindV_4 (fd := fun dV kV => fdOf "bisect_right" kBisR dV kV doc pm an cdv ct) D fun S T D n m t tk hs v w u z => bis4R) rfl bisR_chk (bisR_ini gV gl) ?_
 refine XsX_If FL ?_
 walk_at "w"
 refine ⟨rfl, ?_⟩
 rw [decide_eq_true (by lia), if_pos rfl]
 refine XsX_Raise1 FL F.excCall_ValueError F.excRaise_ValueError rfl ?_
 walk_at "w"
 exact ⟨rfl, rfl⟩
theorem insX_L (FL : FlatB B) {f g : Addr} {a x hv : PV} {lo : Int} {dV kV cdv dV' kV' cdv' : Value} (hlo : lo < 0) (h : FnIs B f "insort_left" kInsL dV kV cdv) (D : BisDef B dV kV) (h' : FnIs B g "bisect_left" kBisL dV' kV' cdv') (D' : BisDef B dV' kV')
   (gb : GlobIs B "bisect_left" (.raw (.ref g))) (gV : GlobIs B "ValueError" (.raw (.type "ValueError"))) (gl : GlobIs B "len" (.raw (.builtin "len"))) : CallX B (d + 2) (.raw (.ref f)) [a, x, .int lo, hv] "ValueError" loMsg := by
 refine h.callX FL (fun doc pm an ct => BindV_4 (fd := fun dV kV => fdOf "insort_left" kInsL dV kV doc pm an cdv ct) D fun S T D n m t tk hs v w u z => ins4L) rfl insL_chk (insL_ini gb) ?_
 refine XsX_If FL ?_
 walk_at "w"
 refine ⟨rfl, ?_⟩
 refine' ifp (show isPV .none .none = true from rfl) ?_
 refine XsX_Assign_Call FL ?_
 walk_at "w"
 refine ⟨rfl, KeepsV_FnIs h', ?_⟩
 walk_at "w"
 exact ⟨rfl, bisX_L FL hlo h' D' gV gl⟩
theorem insX_R (FL : FlatB B) {f g : Addr} {a x hv : PV} {lo : Int} {dV kV cdv dV' kV' cdv' : Value} (hlo : lo < 0) (h : FnIs B f "insort_right" kInsR dV kV cdv) (D : BisDef B dV kV) (h' : FnIs B g "bisect_right" kBisR dV' kV' cdv') (D' : BisDef B dV' kV')
   (gb : GlobIs B "bisect_right" (.raw (.ref g))) (gV : GlobIs B "ValueError" (.raw (.type "ValueError"))) (gl : GlobIs B "len" (.raw (.builtin "len"))) : CallX B (d + 2) (.raw (.ref f)) [a, x, .int lo, hv] "ValueError" loMsg := by
 refine h.callX FL (fun doc pm an ct => BindV_4 (fd := fun dV kV => fdOf "insort_right" kInsR dV kV doc pm an cdv ct) D fun S T D n m t tk hs v w u z => ins4R) rfl insR_chk (insR_ini gb) ?_
 refine XsX_If FL ?_
 walk_at "w"
 refine ⟨rfl, ?_⟩
 refine' ifp (show isPV .none .none = true from rfl) ?_
 refine XsX_Assign_Call FL ?_
 walk_at "w"
 refine ⟨rfl, KeepsV_FnIs h', ?_⟩
 walk_at "w"
 exact ⟨rfl, bisX_R FL hlo h' D' gV gl⟩
theorem laidX (FL : FlatB B) (F : LayFns B) {f : Addr} {a x hv : PV} {lo : Int} {left : Int} {cdv : Value} (hlo : lo < 0) (h : FnIs B f "_law_laid" kLaid .none .none cdv) : CallX B (d + 3) (.raw (.ref f)) [a, x, .int lo, hv, .int left] "ValueError" loMsg := by
 refine h.callX FL (fun doc pm an ct => BindV_p5 fun S v w u v' w' => laid_bind) rfl laid_chk (laid_ini F) ?_
 refine XsX_If FL ?_
 walk_at "w"
 refine ⟨rfl, ?_⟩
 cases hl : (left != 0) with
 | true =>
   refine' ifp rfl ?_
   refine XsX_Expr_Call FL ?_
   walk_at "w"
   refine ⟨rfl, KeepsV_FnIs F.hl, ?_⟩
   walk_at "w"
   exact ⟨rfl, insX_L FL hlo F.hl F.D1 F.hbl F.D3 F.gbl F.gV F.gln⟩
 | false =>
   refine' ifn Bool.false_ne_true ?_
   refine XsX_Expr_Call FL ?_
   walk_at "w"
   refine ⟨rfl, KeepsV_FnIs F.hr, ?_⟩
   walk_at "w"
   exact ⟨rfl, insX_R FL hlo F.hr F.D2 F.hbr F.D4 F.gbr F.gV F.gln⟩
theorem imX (FL : FlatB B) {fm fp : Addr} {cm : Value} (hm : FnIs B fm "int_divmod" kDivmod .none .none cm) (gz : GlobIs B "ZeroDivisionError" (.raw (.type "ZeroDivisionError"))) (gm : GlobIs B "int_divmod" (.raw (.ref fm))) (gp : GlobIs B "_divmod_pos" (.raw (.ref fp))) {a : Int} : CallX B (d + 1) (.raw (.ref fm)) [.int a, .int 0] "ZeroDivisionError" none := by
 refine hm.callX FL (fun doc pm an ct => BindV_q2 fun S v w => im_bind) rfl im_chk (σ₀ := stIm a 0 none none fm fp) (.arg (by walk_at "mm") (.inl rfl) (.arg (by walk_at "mm") (.inl rfl) (.unset (.unset (.glob gz (.glob gm (.glob gp .nil))))))) ?_
 refine XsX_If FL ?_
 walk_at "w"
 refine ⟨rfl, ?_⟩
 refine' ifp (by decide) ?_
 exact XsX_RaiseC FL PySem.F.excCall_ZeroDivisionError PySem.F.excRaise_ZeroDivisionError excClass_ZeroDivisionError rfl (by simp)
end
theorem fdiv_scale (a r s : Int) (hs : s ≠ 0) : (a * s).fdiv (r * s) = a.fdiv r := by
 by_cases h : 0 < s
 . exact Int.mul_fdiv_mul_of_pos_left a r h
 . have h' : 0 < -s := by lia
   have := Int.mul_fdiv_mul_of_pos_left a r h'
   rw [<- this, Int.mul_neg, Int.mul_neg, Int.neg_fdiv_neg]
theorem fmod_scale (a r s : Int) (hs : s ≠ 0) : (a * s).fmod (r * s) = a.fmod r * s := by
 rw [Int.fmod_def, Int.fmod_def, fdiv_scale a r s hs, Int.sub_mul, Int.mul_right_comm]
theorem ins_perm {α : Type} (xs : List α) (k : Nat) (x : α) : List.Perm (insAt xs k x) (x :: xs) := by
 unfold insAt
 refine List.perm_middle.trans ?_
 rw [List.take_append_drop]
theorem ins_sorted {xs : List Int} {k : Nat} {x : Int} (hs : xs.Pairwise (· <= ·)) (h1 : ∀ m y, m < k -> xs[m]? = some y -> y <= x) (h2 : ∀ m y, k <= m -> xs[m]? = some y -> x <= y) : (insAt xs k x).Pairwise (· <= ·) := by
 have hsp : (xs.take k ++ xs.drop k).Pairwise (· <= ·) := by rw [List.take_append_drop]; exact hs
 obtain ⟨p1, p2, p3⟩ := List.pairwise_append.mp hsp
 unfold insAt
 refine List.pairwise_append.mpr ⟨p1, List.pairwise_cons.mpr ⟨fun y hy => ?_, p2⟩, fun y hy z hz => ?_⟩
 . obtain ⟨m, hm⟩ := List.mem_iff_getElem?.mp hy
   rw [List.getElem?_drop] at hm
   exact h2 _ y (by lia) hm
 . have hyx : y <= x := by
     obtain ⟨m, hm⟩ := List.mem_iff_getElem?.mp hy
     rw [List.getElem?_take] at hm
     split at hm
     . rename_i hlt; exact h1 m y hlt hm
     . cases hm
   rcases mcp hz with rfl | hz
   . exact hyx
   . exact p3 y hy z hz
theorem place_sorted {xs : List Int} (hs : xs.Pairwise (· <= ·)) (left : Bool) (x : Int) : (insAt xs (placeOf left xs x 0 xs.length) x).Pairwise (· <= ·) := by
 cases left with
 | true =>
   rw [show placeOf true xs x 0 xs.length = cntLt xs x from clp_all (cntLt_le xs x)]
   refine ins_sorted hs (fun m y hm hy => ?_) fun m y hm hy => ?_
   . exact Int.le_of_lt (of_decide_eq_true ((filt_lt hs m y hy).trans (decide_eq_true hm)))
   . exact Int.not_lt.mp (of_decide_eq_false ((filt_lt hs m y hy).trans (decide_eq_false (nlr hm))))
 | false =>
   rw [show placeOf false xs x 0 xs.length = cntLe xs x from clp_all (cntLe_le xs x)]
   refine ins_sorted hs (fun m y hm hy => ?_) fun m y hm hy => ?_
   . exact of_decide_eq_true ((filt_le hs m y hy).trans (decide_eq_true hm))
   . exact Int.le_of_lt (Int.not_le.mp (of_decide_eq_false ((filt_le hs m y hy).trans (decide_eq_false (nlr hm)))))
noncomputable def fT (ring many early : Nat) : Nat := ((if early < many then (many : Int) - early - 1 else (many : Int) - early).fdiv ring).natAbs
noncomputable def innerT (ring many tn : Nat) (pre : List Nat) : Nat := pre.foldl (fun t x => t + fT ring many x) tn
noncomputable def turnsA (ring tn : Nat) (pre l : List Nat) : Nat := (l.foldl (fun (p : Nat × List Nat) m => (innerT ring m p.1 p.2, p.2 ++ [m])) (tn, pre)).1
noncomputable abbrev turnsL (ring : Nat) (pre l : List Nat) : Nat := turnsA ring 0 pre l
noncomputable def lapsA (ring lp : Nat) (l : List Nat) : Nat := l.foldl (fun t n => t + n / ring) lp
noncomputable abbrev lapsL (ring : Nat) (l : List Nat) : Nat := lapsA ring 0 l
noncomputable abbrev restsL (ring : Nat) (l : List Nat) : List Int := l.map fun n => ((n % ring : Nat) : Int)
section
variable {B : Base} {d : Nat} {H : AH}
set_option genInjectivity false in
set_option genSizeOf false in
structure LawFns (B : Base) where
 L : LapsFns B
 Y : LayFns B
 I : ImFns B
 fL : Addr
 cL : Value
 hL : FnIs B fL "_law_laps" kLaps .none .none cL
 fd : Addr
 cd : Value
 hd : FnIs B fd "_law_laid" kLaid .none .none cd
 gL : GlobIs B "_law_laps" (.raw (.ref fL))
 gd : GlobIs B "_law_laid" (.raw (.ref fd))
 gE : GlobIs B "enumerate" (.raw (.type "enumerate"))
 gSum : GlobIs B "sum" (.raw (.builtin "sum"))
 gAbs : GlobIs B "abs" (.raw (.builtin "abs"))
 gMax : GlobIs B "max" (.raw (.builtin "max"))
 gStr : GlobIs B "str" (.raw (.type "str"))
noncomputable abbrev stW (refusal_ : Option PV := none) (x_ : Option PV := none) (spot_ : Option PV := none) (many_ : Option PV := none) (rest_ : Option PV := none) (early_ : Option PV := none) (apart_ : Option PV := none) (told_ : Option PV := none) (lap_ : Option PV := none) (sought_ : Option PV := none) (less_ : Option PV := none) (upto_ : Option PV := none) (low_ : Option PV := none) (high_ : Option PV := none) (behind_ : Option PV := none) (words_ : Option PV := none) (before_ : Option PV := none) (left_ : Option PV := none) (turn_ : Option PV := none) (falls_ : Option PV := none) (last_ : Option PV := none) (more_ : Option PV := none) (sent_ : Option PV := none) (first_ : Option PV := none) (place_ : Option PV := none) (turns_ : Option PV := none) (line_ : Option PV := none) (laps_ : Option PV := none) (ring_ : Option PV := none) (rows_ : Option PV := none) (lengths_ : Option PV := none) (cells_ : Option PV := none) (rests_ : Option PV := none) (scale_ : Option PV := none) (ways_ : Option PV := none) (script_ : Option PV := none) (F : LawFns B) : St := [(Str.ofString "script", .local, script_),
 (Str.ofString "cells", .local, cells_),
 (Str.ofString "place", .local, place_),
 (Str.ofString "x", .local, x_),
 (Str.ofString "ring", .local, ring_),
 (Str.ofString "rows", .local, rows_),
 (Str.ofString "scale", .local, scale_),
 (Str.ofString "ways", .local, ways_),
 (Str.ofString "lengths", .local, lengths_),
 (Str.ofString "laps", .local, laps_),
 (Str.ofString "rests", .local, rests_),
 (Str.ofString "turns", .local, turns_),
 (Str.ofString "many", .local, many_),
 (Str.ofString "lap", .local, lap_),
 (Str.ofString "rest", .local, rest_),
 (Str.ofString "left", .local, left_),
 (Str.ofString "early", .local, early_),
 (Str.ofString "apart", .local, apart_),
 (Str.ofString "told", .local, told_),
 (Str.ofString "turn", .local, turn_),
 (Str.ofString "line", .cell, line_),
 (Str.ofString "falls", .local, falls_),
 (Str.ofString "first", .local, first_),
 (Str.ofString "last", .local, last_),
 (Str.ofString "more", .local, more_),
 (Str.ofString "sent", .local, sent_),
 (Str.ofString "spot", .local, spot_),
 (Str.ofString "sought", .cell, sought_),
 (Str.ofString "less", .local, less_),
 (Str.ofString "upto", .local, upto_),
 (Str.ofString "low", .local, low_),
 (Str.ofString "high", .local, high_),
 (Str.ofString "behind", .local, behind_),
 (Str.ofString "words", .local, words_),
 (Str.ofString "before", .local, before_),
 (Str.ofString "refusal", .local, refusal_),
 (Str.ofString "enumerate", .globalImplicit, some (.raw (.type "enumerate"))),
 (Str.ofString "sum", .globalImplicit, some (.raw (.builtin "sum"))),
 (Str.ofString "_law_laps", .globalImplicit, some (.raw (.ref F.fL))),
 (Str.ofString "int_divmod", .globalImplicit, some (.raw (.ref F.I.fm))),
 (Str.ofString "_law_laid", .globalImplicit, some (.raw (.ref F.fd))),
 (Str.ofString "abs", .globalImplicit, some (.raw (.builtin "abs"))),
 (Str.ofString "range", .globalImplicit, some (.raw (.type "range"))),
 (Str.ofString "len", .globalImplicit, some (.raw (.builtin "len"))),
 (Str.ofString "_law_sent", .globalImplicit, some (.raw (.ref F.L.fs))),
 (Str.ofString "bisect_left", .globalImplicit, some (.raw (.ref F.Y.bl))),
 (Str.ofString "bisect_right", .globalImplicit, some (.raw (.ref F.Y.br))),
 (Str.ofString "min", .globalImplicit, some (.raw (.builtin "min"))),
 (Str.ofString "max", .globalImplicit, some (.raw (.builtin "max"))),
 (Str.ofString "list", .globalImplicit, some (.raw (.type "list"))),
 (Str.ofString "ValueError", .globalImplicit, some (.raw (.type "ValueError"))),
 (Str.ofString "str", .globalImplicit, some (.raw (.type "str"))),
 (Str.ofString "ZeroDivisionError", .globalImplicit, some (.raw (.type "ZeroDivisionError")))]
theorem law_bind {S : Setting} {doc pm cdv ct : Value} {an : Option Addr} {v : Value} : feed S [] (bindArgs (fdOf "law" kLaw .none .none doc pm an cdv ct) ⟨[v], []⟩) = some ([], [(Str.ofString "script", v)]) := by kernel_rfl
theorem law_chk : chkF [Str.ofString "script"] (stScope (topSt kLaw)) = true := by decide +kernel
theorem law_ini (F : LawFns B) {a : PV} : Ini B [(Str.ofString "script", a)] (stScope (topSt kLaw)).names (stW (F := F) (script_ := some a)) := by
 exact .arg (by walk_at "mm") (.inl rfl) (.unset (.unset (.unset (.unset (.unset (.unset (.unset (.unset (.unset (.unset (.unset (.unset (.unset (.unset (.unset (.unset (.unset (.unset (.unset (.unset (.unset (.unset (.unset (.unset (.unset (.unset (.unset (.unset (.unset (.unset (.unset (.unset (.unset (.unset (.unset (.glob F.gE (.glob F.gSum (.glob F.gL (.glob F.I.gm (.glob F.gd (.glob F.gAbs (.glob F.L.gr (.glob F.L.gle (.glob F.L.gs (.glob F.Y.gbl (.glob F.Y.gbr (.glob F.L.gmi (.glob F.gMax (.glob F.L.gli (.glob F.Y.gV (.glob F.gStr (.glob F.I.gz (.nil)))))))))))))))))))))))))))))))))))))))))))))))))))))
noncomputable abbrev fiW : FnInfo := fiOf kLaw "law"
noncomputable abbrev bodyW (k : Nat) : List Stmt := (stBody (topSt kLaw)).drop k
theorem law_s0 (F : LawFns B) {script : PV} {Q : PQ}
   (h : ∀ C, XsF B fiW (d + 64) (bodyW 1) (stW (F := F) (script_ := some script) (cells_ := some (.lref C))) ((C, intsPV [4, 0, 3, 1, 0, 21]) :: H) (fun O H' => Q .none H') (PX Q)) :
   XsF B fiW (d + 64) (bodyW 0) (stW (F := F) (script_ := some script)) H (fun O H' => Q .none H') (PX Q) := by
 refine XsF_cons ?_
 walk_at "w"
 refine Ev_ListT ?_
 walk_at "w"
 intro C
 walk_at "w"
 exact h C
end
local macro_rules | `(tactic| walk_at "k") => `(tactic| repeat first | with_reducible exact Wk.nil | with_reducible refine Wk.same ?_ | with_reducible refine Wk.drop ?_)
section
variable {B : Base} {d : Nat} {H : AH}
noncomputable abbrev f1 : Stmt := ((stBody (topSt kLaw))[1]?).getD (.Pass default)
theorem cells_for (F : LawFns B) {script : Option PV} {C : Addr} {Qn : SQ} {Qf : FQ} : ∀ (ns : List Int) (k : Nat) (pl xx : Option PV) (cs : List Nat), cs.length = 6 ->
   (∀ pl xx cs', cs'.length = 6 -> Qn (stW (F := F) (script_ := script) (cells_ := some (.lref C)) (place_ := pl) (x_ := xx)) ((C, natsPV cs') :: H)) ->
   ForL B fiW (d + 64) (forTgt f1) (forBody f1) [] (enumPV (k : Nat) (intsPV ns)) (stW (F := F) (script_ := script) (cells_ := some (.lref C)) (place_ := pl) (x_ := xx)) ((C, natsPV cs) :: H) Qn Qf := by
 intro ns
 induction ns with
 | nil => intro k pl xx cs hc q; exact ForL_nil (q pl xx cs hc)
 | cons x ns ih =>
   intro k pl xx cs hc q
   have ih := fun cs' hc' => ih (k + 1) (some (.int (k : Nat))) (some (.int x)) cs' hc' q
   have hj : k % 6 < cs.length := by rw [hc]; exact Nat.mod_lt _ (by decide)
   have hc60 : cs.length < 2 ^ 60 := by rw [hc]; decide
   refine ForL_cons ?_
   show Asg B _ (d + 64) NoE (forTgt f1) (.tup [.int (k : Nat), .int x]) _ _ _
   refine Asg_T rfl rfl ?_
   walk_at "w"
   refine' Xs_cons' ?_
   refine X_AugAssign_Sub ?_
   walk_at "w"
   refine Bin_fmod (by decide) ?_
   rw [mod6]
   generalize k % 6 = j at *
   refine Get_nats (.lref (.head _)) hj hc60 ?_
   walk_at "w"
   refine Bin_pow (by decide) (by decide) (by decide) (by decide) ?_
   refine cast_v (w := .int 1000000) (congrArg PV.int (by decide)) ?_
   refine Bin_fmod (by decide) ?_
   walk_at "w"
   have e : ((cs.getD j 0 : Nat) : Int) + x.fmod 1000000 = ((cs.getD j 0 + (x.fmod 1000000).toNat : Nat) : Int) := by rw [Int.natCast_add, Int.toNat_of_nonneg (Int.fmod_nonneg_of_pos x (by decide))]
   refine Set_list (xs := natsPV cs) (H' := (C, natsPV (cs.set j (cs.getD j 0 + (x.fmod 1000000).toNat))) :: H) ?_ (Int.natCast_nonneg _) (lt63 hj hc60) (by rw [List.length_map]; exact Int.ofNat_lt.mpr hj) ?_
   . rw [Int.toNat_natCast, natsPV, natsPV, List.map_set, e]; exact .head
   walk_at "w"
   exact ⟨(fun p hp => nomatch hp), ih _ (by rw [List.length_set, hc])⟩
theorem law_s1 (F : LawFns B) {sl : List Int} (hsl : sl.length <= 63) {C : Addr} {Q : PQ}
   (h : ∀ cs, cs.length = 6 -> XsF B fiW (d + 64) (bodyW 2) (stW (F := F) (script_ := some (.list (intsPV sl))) (cells_ := some (.lref C))) ((C, natsPV cs) :: H) (fun O H' => Q .none H') (PX Q)) :
   XsF B fiW (d + 64) (bodyW 1) (stW (F := F) (script_ := some (.list (intsPV sl))) (cells_ := some (.lref C))) ((C, intsPV [4, 0, 3, 1, 0, 21]) :: H) (fun O H' => Q .none H') (PX Q) := by
 refine XsF_cons ?_
 walk_at "w"
 refine ⟨KeepsV_type, ?_⟩
 walk_at "w"
 refine ⟨SubAt_items .list, ?_⟩
 refine Sl_hi 60 .list (by rw [List.length_map]; exact ntr hsl (bl rfl)) (.inl ?_)
 rw [<- List.map_take]
 walk_at "w"
 refine CallI_enum .list ?_
 refine cells_for F (sl.take 60) 0 none none [4, 0, 3, 1, 0, 21] rfl fun pl xx cs' hc => ?_
 exact (h cs' hc).wk (by walk_at "k")
end
section
variable {B : Base} {d : Nat} {H : AH}
noncomputable def dotF : PV -> PV
 | .int i => .str (ofL (List.replicate (1 + i.toNat % 9) 46))
 | v => v
theorem dot_ofL : Str.ofString "." = ofL [46] := by decide +kernel
theorem law_s2 (F : LawFns B) {script : PV} {C : Addr} {c0 c1 c2 c3 c4 c5 : Nat} {Q : PQ}
   (h : XsF B fiW (d + 64) (bodyW 3) (stW (F := F) (script_ := some script) (cells_ := some (.lref C)) (ring_ := some (.int ((3 + c4 % 4 : Nat) : Int))) (rows_ := some (rowsV [1 + c0 % 9, 1 + c1 % 9, 1 + c2 % 9, 1 + c3 % 9]))) ((C, natsPV [c0, c1, c2, c3, c4, c5]) :: H) (fun O H' => Q .none H') (PX Q)) :
   XsF B fiW (d + 64) (bodyW 2) (stW (F := F) (script_ := some script) (cells_ := some (.lref C))) ((C, natsPV [c0, c1, c2, c3, c4, c5]) :: H) (fun O H' => Q .none H') (PX Q) := by
 refine XsF_cons ?_
 refine X_Swap2 (Str.ofString "ring") (Str.ofString "rows") (by kernel_rfl) ?_
 walk_at "w"
 refine ⟨SubAt_items (.lref (.head _)), ?_⟩
 refine Get_nats (line := [c0, c1, c2, c3, c4, c5]) (j := 4) (.lref (.head _)) (bl rfl) (bl rfl) ?_
 walk_at "w"
 refine Bin_fmod (by decide) ?_
 refine cast_v (congrArg PV.int (mod4 _)) ?_
 refine Bin_add ?_
 refine cast_v (w := .int ((3 + c4 % 4 : Nat) : Int)) rfl ?_
 walk_at "w"
 refine Ev_ListCompF [(Str.ofString ".0", .local, none), (Str.ofString "cell", .local, none)] (.loc (.loc .nil)) ?_ (by decide +kernel) (by rfl) (by rfl) (by intro _ _; rfl) (dk rfl)
 refine EvI_of ?_
 walk_at "w"
 refine ⟨SubAt_items (.lref (.head _)), ?_⟩
 refine Sl_hi 4 (.lref (.head _)) (bl rfl) (.inl ?_)
 refine IterV_list (xs := natsPV [c0, c1, c2, c3]) fun D => ?_
 refine CmpL_map (σt := fun o => [(Str.ofString ".0", .local, none), (Str.ofString "cell", .local, o)]) (f := dotF) ?_ ?_ _ _ none ?_ ?_ ?_
 . intro x o H K k
   walk_at "w"
   exact k
 . intro p hp; cases hp
 . intro x hx acc K k
   obtain ⟨n, hn, rfl⟩ := mmp hx
   walk_at "w"
   refine Bin_fmod (by decide) ?_
   refine cast_v (congrArg PV.int (mod9 n)) ?_
   walk_at "w"
   refine cast_v (w := .int ((1 + n % 9 : Nat) : Int)) rfl ?_
   exact Bin_mulO dot_ofL (ntr (Nat.add_le_add_left (Nat.le_of_lt (Nat.mod_lt n (by decide))) 1) (by decide)) k
 . exact bl rfl
 walk_at "w"
 walk_at "w"
 exact h
theorem law_s3 (F : LawFns B) {sl : List Int} (hsl : sl.length <= 63) {C : Addr} {c0 c1 c2 c3 c4 c5 : Nat} {ring rows : PV} {Q : PQ} {S : Int} (hS : S = (sl.take 60).sum) (hSb : Builtin.Int.intBits S <= 1100000)
   (h : XsF B fiW (d + 64) (bodyW 4) (stW (F := F) (script_ := some (.list (intsPV sl))) (cells_ := some (.lref C)) (ring_ := some ring) (rows_ := some rows) (scale_ := some (.int (2 * S + 1))) (ways_ := some (.int ((c4 + c5 : Nat) : Int)))) ((C, natsPV [c0, c1, c2, c3, c4, c5]) :: H) (fun O H' => Q .none H') (PX Q)) :
   XsF B fiW (d + 64) (bodyW 3) (stW (F := F) (script_ := some (.list (intsPV sl))) (cells_ := some (.lref C)) (ring_ := some ring) (rows_ := some rows)) ((C, natsPV [c0, c1, c2, c3, c4, c5]) :: H) (fun O H' => Q .none H') (PX Q) := by
 refine XsF_cons ?_
 refine X_Swap2 (Str.ofString "scale") (Str.ofString "ways") (by kernel_rfl) ?_
 walk_at "w"
 refine ⟨KeepsV_builtin, ?_⟩
 walk_at "w"
 refine ⟨SubAt_items .list, ?_⟩
 refine Sl_hi 60 .list (by rw [List.length_map]; exact ntr hsl (bl rfl)) (.inl ?_)
 rw [<- List.map_take]
 refine Call_sum (ns := sl.take 60) .list ?_
 rw [<- hS]
 refine Bin_mul (IntMulOk.of_left (by decide)) ?_
 walk_at "w"
 refine ⟨SubAt_items (.lref (.head _)), ?_⟩
 refine Get_nats (line := [c0, c1, c2, c3, c4, c5]) (j := 4) (.lref (.head _)) (bl rfl) (bl rfl) ?_
 walk_at "w"
 refine ⟨SubAt_items (.lref (.head _)), ?_⟩
 refine Get_nats (line := [c0, c1, c2, c3, c4, c5]) (j := 5) (.lref (.head _)) (bl rfl) (bl rfl) ?_
 refine Bin_add ?_
 refine cast_v (w := .int ((c4 + c5 : Nat) : Int)) rfl ?_
 walk_at "w"
 walk_at "w"
 exact h
end
section
variable {B : Base} {d : Nat} {H : AH}
theorem laps_call' (F : LapsFns B) {f : Addr} {cdv : Value} (h : FnIs B f "_law_laps" kLaps .none .none cdv) {l : List Nat} {ring ways : Nat} (hl : l.length = 4) (hb : ∀ n ∈ l, 1 <= n /\ n <= 90) (hr3 : 3 <= ring) (hr6 : ring <= 6) {Q : PQ}
   (q : Q (.list (boolsPV (goods ring l))) H) : CallV B (d + 21) NoE (.raw (.ref f)) [rowsV l, .int ring, .int ways] [] H Q := by
 refine CallV_drop (CallV_drop (CallV_drop ?_))
 exact laps_call F h hl hb hr3 hr6 fun e1 e2 e3 => ⟨e1, _, rfl, e2, _, rfl, e3, _, rfl, q⟩
theorem law_s4 (F : LawFns B) {script scale : PV} {C : Addr} {cs : List PV} {l : List Nat} {ring ways : Nat} (hl : l.length = 4) (hb : ∀ n ∈ l, 1 <= n /\ n <= 90) (hr3 : 3 <= ring) (hr6 : ring <= 6) {Q : PQ}
   (h : XsF B fiW (d + 64) (bodyW 5) (stW (F := F) (script_ := some script) (cells_ := some (.lref C)) (ring_ := some (.int ring)) (rows_ := some (rowsV l)) (scale_ := some scale) (ways_ := some (.int ways))) ((C, cs) :: H) (fun O H' => Q .none H') (PX Q)) :
   XsF B fiW (d + 64) (bodyW 4) (stW (F := F) (script_ := some script) (cells_ := some (.lref C)) (ring_ := some (.int ring)) (rows_ := some (rowsV l)) (scale_ := some scale) (ways_ := some (.int ways))) ((C, cs) :: H) (fun O H' => Q .none H') (PX Q) := by
 refine XsF_cons ?_
 walk_at "w"
 refine ⟨KeepsV_FnIs F.hL, ?_⟩
 walk_at "w"
 refine laps_call' F.L (d := d + 43) F.hL hl hb hr3 hr6 ?_
 walk_at "w"
 rw [show isPV (.list (boolsPV (goods ring l))) .none = false from rfl]
 walk_at "w"
 exact h
theorem law_s5 (F : LawFns B) {script scale : PV} {C : Addr} {cs : List PV} {l : List Nat} {ring ways : PV} (hl : l.length = 4) (hb : ∀ n ∈ l, n <= 90) {Q : PQ}
   (h : ∀ R, XsF B fiW (d + 64) (bodyW 6) (stW (F := F) (script_ := some script) (cells_ := some (.lref C)) (ring_ := some ring) (rows_ := some (rowsV l)) (scale_ := some scale) (ways_ := some ways) (lengths_ := some (.list (natsPV l))) (laps_ := some (.int ((0 : Nat) : Int))) (rests_ := some (.lref R)) (turns_ := some (.int ((0 : Nat) : Int)))) ((R, intsPV []) :: (C, cs) :: H) (fun O H' => Q .none H') (PX Q)) :
   XsF B fiW (d + 64) (bodyW 5) (stW (F := F) (script_ := some script) (cells_ := some (.lref C)) (ring_ := some ring) (rows_ := some (rowsV l)) (scale_ := some scale) (ways_ := some ways)) ((C, cs) :: H) (fun O H' => Q .none H') (PX Q) := by
 refine XsF_cons ?_
 walk_at "w"
 refine Ev_ListCompF (stLen none) (.loc (.loc (.glob F.L.gle .nil))) ?_ (by decide +kernel) (by rfl) (by rfl) (by intro _ _; rfl) (dk rfl)
 refine EvI_of ?_
 walk_at "w"
 refine IterV_list fun D => ?_
 refine CmpL_lens (fun n hn => ntr (hb n hn) (by decide)) (hl ▸ by decide) ?_
 walk_at "w"
 refine Ev_ListT ?_
 refine EvL_nil fun R => ?_
 walk_at "w"
 exact h R
theorem law_s8 (F : LawFns B) {script scale lengths laps rests turns : PV} {C : Addr} {cs : List PV} {l : List Nat} {ring ways : Nat} (hl : l.length = 4) (hb : ∀ n ∈ l, 1 <= n /\ n <= 90) (hr3 : 3 <= ring) (hr6 : ring <= 6) (hg : goods ring l = [true, true, true, true]) {Q : PQ}
   (h : XsF B fiW (d + 64) (bodyW 9) (stW (F := F) (script_ := some script) (cells_ := some (.lref C)) (ring_ := some (.int ring)) (rows_ := some (rowsV l)) (scale_ := some scale) (ways_ := some (.int ways)) (lengths_ := some lengths) (laps_ := some laps) (rests_ := some rests)) H (fun O H' => Q .none H') (PX Q)) :
   XsF B fiW (d + 64) (bodyW 8) (stW (F := F) (script_ := some script) (cells_ := some (.lref C)) (ring_ := some (.int ring)) (rows_ := some (rowsV l)) (scale_ := some scale) (ways_ := some (.int ways)) (lengths_ := some lengths) (laps_ := some laps) (rests_ := some rests)) H (fun O H' => Q .none H') (PX Q) := by
 refine XsF_cons ?_
 walk_at "w"
 refine ⟨KeepsV_FnIs F.hL, ?_⟩
 walk_at "w"
 refine laps_call' F.L (d := d + 43) (ways := ways + 1) F.hL hl hb hr3 hr6 ?_
 rw [hg]
 walk_at "w"
 refine Ev_ListF ?_
 walk_at "w"
 refine Bin_mulL .list (by decide) (by decide) (by decide) (.inl ?_)
 refine Cmp_neBs (ns := [true, true, true, true]) (ms := [true, true, true, true]) .list .list ?_
 rw [decide_eq_true rfl]
 walk_at "w"
 exact h
theorem law_s9 (F : LawFns B) {script scale lengths laps rests rows ring ways cells : PV} {l : List Nat} (hl : l.length = 4) (hb : ∀ n ∈ l, n <= 90) {Q : PQ}
   (h : XsF B fiW (d + 64) (bodyW 10) (stW (F := F) (script_ := some script) (cells_ := some cells) (ring_ := some ring) (rows_ := some (rowsV l)) (scale_ := some scale) (ways_ := some ways) (lengths_ := some lengths) (laps_ := some laps) (rests_ := some rests) (line_ := some (.list (natsPV l)))) H (fun O H' => Q .none H') (PX Q)) :
   XsF B fiW (d + 64) (bodyW 9) (stW (F := F) (script_ := some script) (cells_ := some cells) (ring_ := some ring) (rows_ := some (rowsV l)) (scale_ := some scale) (ways_ := some ways) (lengths_ := some lengths) (laps_ := some laps) (rests_ := some rests)) H (fun O H' => Q .none H') (PX Q) := by
 refine XsF_cons ?_
 refine X_Assign_NameK ?_ ?_
 . refine Ev_ListCompF (stLen none) (.loc (.loc (.glob F.L.gle .nil))) ?_ (by decide +kernel) (by rfl) (by rfl) (by intro _ _; rfl) (dk rfl)
   refine EvI_of ?_
   walk_at "w"
   refine IterV_list fun D => ?_
   refine CmpL_lens (fun n hn => ntr (hb n hn) (by decide)) (hl ▸ by decide) ?_
   walk_at "w"
   exact h
 . intro env e
   exact swapsWith_cell e (by decide +kernel)
end
set_option maxHeartbeats 2000000
section
section
variable {B : Base} {d : Nat} {H : AH}
noncomputable abbrev f6 : Stmt := ((stBody (topSt kLaw))[6]?).getD (.Pass default)
noncomputable abbrev f6i : Stmt := ((forBody f6)[5]?).getD (.Pass default)
theorem bits_mul {s x : Int} {n : Nat} (hs : Builtin.Int.intBits s <= n) (hx : x.natAbs < 128) : Builtin.Int.intBits (x * s) <= n + 7 := by
 rw [intBits_le_iff] at hs ⊢
 rw [Int.natAbs_mul, Nat.pow_add, Nat.mul_comm]
 exact Nat.mul_lt_mul'' hs (by simpa using hx)
theorem eqv_pair (a b c e : Int) : PyData.eqv (pd (.tup [.int a, .int b])) (pd (.tup [.int c, .int e])) = (decide (a = c) && decide (b = e)) := by
 simp only [pd, pds, PyData.eqv, PyData.eqvAll]
 by_cases h : a = c <;> by_cases h' : b = e <;> simp [h, h']
theorem okD_pair (a b : Int) : okD (.tup [.int a, .int b]) = true := rfl
theorem im_scaled (F : ImFns B) {a r s : Int} {n : Nat} {Q : PQ} (hs : s ≠ 0) (hr : r ≠ 0) (hsb : Builtin.Int.intBits s <= n) (hn : n <= 2000000) (ha : a.natAbs < 128) (hr2 : r.natAbs < 128) (q : Q (.tup [.int (a.fdiv r), .int (a.fmod r * s)]) H) :
   CallV B (d + 64) NoE (.raw (.ref F.fm)) [.int (a * s), .int (r * s)] [] H Q := by
 refine im_call F (fun h => (Int.mul_eq_zero.mp h).elim hr hs) (ntr (bits_mul hsb hr2) (by lia)) (ntr (bits_mul hsb ha) (by lia)) ?_
 rw [fdiv_scale _ _ _ hs, fmod_scale _ _ _ hs]
 exact q
theorem mul_sm {a b : Int} (h : a.natAbs < 128) : IntMulOk a b := .of_left (intBits_le_64 (by omega) (by omega))
theorem fmod_sm {a : Int} {ring : Nat} (h3 : 3 <= ring) (h6 : ring <= 6) : (a.fmod ring).natAbs < 128 := by
 have h0 : (0 : Int) < ring := Int.natCast_pos.mpr (nlt (by decide) h3)
 rw [Int.fmod_eq_emod_of_nonneg _ (Int.le_of_lt h0)]
 have h1 := Int.emod_nonneg a (Int.ne_of_gt h0)
 have h2 := Int.emod_lt_of_pos a h0
 omega
theorem Cmp_neT {E : EP} {a b : Int} {Q : PQ} (q : Q (.bool false) H) : V2 B d E (compareOp .NotEq) (.tup [.int a, .int b]) (.tup [.int a, .int b]) H Q :=
 Cmp_neD IsD.self IsD.self (okD_pair _ _) (okD_pair _ _) (by rw [eqv_pair, decide_eq_true rfl, decide_eq_true rfl]; exact q)
theorem Ev_to {fi : FnInfo} {E : EP} {e : Expr} {σ : St} {w : PV} {Q : PQ} (h : Ev B fi d E e σ H fun v H' => v = w /\ H' = H) (q : Q w H) : Ev B fi d E e σ H Q := h.mono fun O O e => by rw [e.1, e.2]; exact q
theorem apart_for (F : LawFns B) {scr cel rws wys lens lps rsts plc lp rst lft : Option PV} {ring : Nat} {s : Int} (hs : s ≠ 0) {n : Nat} (hsb : Builtin.Int.intBits s <= n) (hn : n <= 2000000) (hr3 : 3 <= ring) (hr6 : ring <= 6) {m : Nat} (hm : m <= 90) {Qn : SQ} {Qf : FQ} : ∀ (pre : List Nat) (tn : Nat) (er ap tl : Option PV), (∀ x ∈ pre, x <= 90) ->
   (∀ er ap tl, Qn (stW (F := F) (script_ := scr) (cells_ := cel) (ring_ := some (.int ring)) (rows_ := rws) (scale_ := some (.int s)) (ways_ := wys) (lengths_ := lens) (laps_ := lps) (rests_ := rsts) (turns_ := some (.int ((innerT ring m tn pre : Nat) : Int))) (place_ := plc) (many_ := some (.int (m : Nat))) (lap_ := lp) (rest_ := rst) (left_ := lft) (early_ := er) (apart_ := ap) (told_ := tl)) H) ->
   ForL B fiW (d + 64) (forTgt f6i) (forBody f6i) [] (natsPV pre) (stW (F := F) (script_ := scr) (cells_ := cel) (ring_ := some (.int ring)) (rows_ := rws) (scale_ := some (.int s)) (ways_ := wys) (lengths_ := lens) (laps_ := lps) (rests_ := rsts) (turns_ := some (.int (tn : Nat))) (place_ := plc) (many_ := some (.int (m : Nat))) (lap_ := lp) (rest_ := rst) (left_ := lft) (early_ := er) (apart_ := ap) (told_ := tl)) H Qn Qf := by
 intro pre
 have hr0 : (ring : Int) ≠ 0 := Int.natCast_ne_zero.mpr (Nat.ne_of_gt (nlt (by decide) hr3))
 have hr128 : (ring : Int).natAbs < 128 := Nat.lt_of_le_of_lt hr6 (by decide)
 induction pre with
 | nil => intro tn er ap tl hb q; exact ForL_nil (q er ap tl)
 | cons x pre ih =>
   intro tn er ap tl hb q
   have ih := fun er ap tl => ih (tn + fT ring m x) er ap tl (fun y hy => hb y (mcm _ hy)) q
   have hA : (if x < m then (m : Int) - x - 1 else (m : Int) - x).natAbs < 128 := by have hx := hb x mcs; split <;> omega
   unfold fT at ih
   refine ForL_cons ?_
   show Asg B _ (d + 64) NoE (forTgt f6i) (.int (x : Nat)) _ _ _
   refine' Asg_N ?_
   walk_at "w"
   refine' Xs_cons' ?_
   walk_at "w"
   refine Ev_to (w := .int (if x < m then (m : Int) - x - 1 else (m : Int) - x)) ?_ ?_
   . refine Ev_IfExp ?_
     walk_at "w"
     by_cases hlt : x < m
     . refine' ifpd (Int.ofNat_lt.mpr hlt) ?_
       walk_at "w"
       exact ⟨congrArg PV.int (if_pos hlt).symm, rfl⟩
     . refine' ifnd (fun h => hlt (Int.ofNat_lt.mp h)) ?_
       walk_at "w"
       exact ⟨congrArg PV.int (if_neg hlt).symm, rfl⟩
   generalize (if x < m then (m : Int) - x - 1 else (m : Int) - x) = A at *
   walk_at "w"
   refine ⟨KeepsV_FnIs F.I.hm, ?_⟩
   walk_at "w"
   refine Bin_mul (mul_sm hA) ?_
   walk_at "w"
   refine Bin_mul (mul_sm hr128) ?_
   refine im_scaled F.I hs hr0 hsb hn hA hr128 ?_
   walk_at "w"
   refine Bin_fdiv hr0 (noPyS (Nat.lt_trans hr128 (by decide))) ?_
   walk_at "w"
   refine Bin_fmod hr0 ?_
   walk_at "w"
   refine Bin_mul (mul_sm (fmod_sm hr3 hr6)) ?_
   walk_at "w"
   refine Cmp_neT ?_
   walk_at "w"
   refine ⟨KeepsV_builtin, ?_⟩
   walk_at "w"
   refine ⟨SubAt_of SubOk_tup, Get_tup (j := 0) (by decide) (by decide) rfl rfl ?_⟩
   walk_at "w"
   refine Call_abs ?_
   walk_at "w"
   exact ⟨(fun p hp => nomatch hp), ih _ _ _⟩
end
end
set_option maxHeartbeats 2000000
section
section
variable {B : Base} {d : Nat} {H : AH}
theorem ins_map (xs : List Int) (k : Nat) (x : Int) : intsPV (insAt xs k x) = insAt (intsPV xs) k (.int x) := by
 unfold insAt; rw [intsPV, List.map_append, List.map_cons, List.map_take, List.map_drop]
theorem quot_for (F : LawFns B) {scr cel rws : Option PV} {ring ways : Nat} {s : Int} (hs : s ≠ 0) {n : Nat} (hsb : Builtin.Int.intBits s <= n) (hn : n <= 2000000) (hr3 : 3 <= ring) (hr6 : ring <= 6) {l : List Nat} (hl4 : l.length <= 10) (hlb : ∀ x ∈ l, x <= 90) {R : Addr} {Qn : SQ} {Qf : FQ} :
   ∀ (rest pre : List Nat) (k lp tn : Nat) (rs : List Int) (pl mn la re lf er ap tl : Option PV), pre.length = k -> l = pre ++ rest -> rs.length <= k -> rs.Pairwise (· <= ·) ->
   (∀ rs' pl mn la re lf er ap tl, rs'.Pairwise (· <= ·) -> List.Perm rs' (rs ++ restsL ring rest) -> Qn (stW (F := F) (script_ := scr) (cells_ := cel) (ring_ := some (.int ring)) (rows_ := rws) (scale_ := some (.int s)) (ways_ := some (.int ways)) (lengths_ := some (.list (natsPV l))) (laps_ := some (.int ((lapsA ring lp rest : Nat) : Int))) (rests_ := some (.lref R)) (turns_ := some (.int ((turnsA ring tn pre rest : Nat) : Int))) (place_ := pl) (many_ := mn) (lap_ := la) (rest_ := re) (left_ := lf) (early_ := er) (apart_ := ap) (told_ := tl)) ((R, intsPV rs') :: H)) ->
   ForL B fiW (d + 64) (forTgt f6) (forBody f6) [] (enumPV (k : Nat) (natsPV rest)) (stW (F := F) (script_ := scr) (cells_ := cel) (ring_ := some (.int ring)) (rows_ := rws) (scale_ := some (.int s)) (ways_ := some (.int ways)) (lengths_ := some (.list (natsPV l))) (laps_ := some (.int (lp : Nat))) (rests_ := some (.lref R)) (turns_ := some (.int (tn : Nat))) (place_ := pl) (many_ := mn) (lap_ := la) (rest_ := re) (left_ := lf) (early_ := er) (apart_ := ap) (told_ := tl)) ((R, intsPV rs) :: H) Qn Qf := by
 intro rest
 have hr0 : (ring : Int) ≠ 0 := Int.natCast_ne_zero.mpr (Nat.ne_of_gt (nlt (by decide) hr3))
 have hr128 : (ring : Int).natAbs < 128 := Nat.lt_of_le_of_lt hr6 (by decide)
 induction rest with
 | nil => intro pre k lp tn rs pl mn la re lf er ap tl hk hl hrl hrs q; exact ForL_nil (q rs pl mn la re lf er ap tl hrs (by rw [restsL, List.map_nil, List.append_nil]))
 | cons m rest ih =>
   intro pre k lp tn rs pl mn la re lf er ap tl hk hl hrl hrs q
   have hm := hlb m (by rw [hl]; exact List.mem_append_right _ (.head _))
   have hm128 : ((m : Nat) : Int).natAbs < 128 := Nat.lt_of_le_of_lt hm (by decide)
   have hmr : m % ring < ring := Nat.mod_lt _ (nlt (by decide) hr3)
   have hkl : k <= 10 := hk ▸ ntr (by rw [hl, List.length_append]; exact Nat.le_add_right _ _) hl4
   refine ForL_cons ?_
   show Asg B _ (d + 64) NoE (forTgt f6) (.tup [.int (k : Nat), .int (m : Nat)]) _ _ _
   refine Asg_T rfl rfl ?_
   walk_at "w"
   refine' Xs_cons' ?_
   walk_at "w"
   refine ⟨KeepsV_FnIs F.I.hm, ?_⟩
   walk_at "w"
   refine Bin_mul (mul_sm hm128) ?_
   walk_at "w"
   refine Bin_mul (mul_sm hr128) ?_
   refine im_scaled F.I hs hr0 hsb hn hm128 hr128 ?_
   rw [div_nat, mod_nat _ _ (nlt (by decide) hr3)]
   walk_at "w"
   refine ⟨KeepsV_FnIs F.I.hm, ?_⟩
   walk_at "w"
   refine im_call F.I hs (ntr hsb (ntr hn (by decide))) (ntr (bits_mul hsb (x := ((m % ring : Nat) : Int)) (nlt hmr (ntr hr6 (by decide)))) (ntr (Nat.add_le_add_right hn 7) (by decide))) ?_
   rw [Int.mul_fdiv_cancel _ hs, Int.mul_fmod_left]
   walk_at "w"
   refine' ifn (by decide) ?_
   walk_at "w"
   refine ⟨KeepsV_FnIs F.hd, ?_⟩
   walk_at "w"
   refine Bin_shr (Int.natCast_nonneg k) ?_
   walk_at "w"
   refine Bin_fmod (by decide) ?_
   walk_at "w"
   generalize (((ways : Int).fdiv (2 ^ ((k : Nat) : Int).toNat)).fmod 2) = left
   have hsrt := place_sorted hrs (left != 0) ((m % ring : Nat) : Int)
   have hprm := ins_perm rs (placeOf (left != 0) rs ((m % ring : Nat) : Int) 0 rs.length) ((m % ring : Nat) : Int)
   have hins := ins_map rs (placeOf (left != 0) rs ((m % ring : Nat) : Int) 0 rs.length) ((m % ring : Nat) : Int)
   refine laid_call F.Y (d := d + 59) (lo := 0) (hi := rs.length) (H' := (R, intsPV (insAt rs (placeOf (left != 0) rs ((m % ring : Nat) : Int) 0 rs.length) ((m % ring : Nat) : Int))) :: H) F.hd (.head _) hrs (.inl ⟨rfl, rfl⟩) (Nat.zero_le _) (ntr hrl (ntr hkl (by decide))) (hins ▸ .head) ?_
   generalize insAt rs (placeOf (left != 0) rs ((m % ring : Nat) : Int) 0 rs.length) ((m % ring : Nat) : Int) = rs' at *
   walk_at "w"
   refine EvI_of ?_
   walk_at "w"
   refine ⟨SubAt_items .list, ?_⟩
   refine Sl_hi k .list (by rw [List.length_map]; exact ntr hl4 (bl rfl)) (.inl ?_)
   have htk : (natsPV l).take k = natsPV pre := by rw [hl, natsPV, List.map_append, List.take_left' ((List.length_map ..).trans hk)]
   rw [htk]
   walk_at "w"
   refine IterV_list ?_
   refine apart_for F hs hsb hn hr3 hr6 hm pre tn er ap tl (fun x hx => hlb x (by rw [hl]; exact List.mem_append_left _ hx)) fun er ap tl => ?_
   refine Xs_nil ?_
   refine ⟨(fun p hp => nomatch hp), ?_⟩
   exact ih (pre ++ [m]) (k + 1) (lp + m / ring) (innerT ring m tn pre) rs' _ _ _ _ _ er ap tl (by rw [List.length_append, hk]; rfl) (by rw [hl, List.append_assoc]; rfl) (hprm.length_eq ▸ Nat.succ_le_succ hrl) hsrt fun rs'' pl mn la re lf er ap tl h1 h2 =>
     q rs'' pl mn la re lf er ap tl h1 (h2.trans ((List.Perm.append_right _ hprm).trans List.perm_middle.symm))
theorem law_s6 (F : LawFns B) {scr cel rws : PV} {ring ways : Nat} {s : Int} (hs : s ≠ 0) {n : Nat} (hsb : Builtin.Int.intBits s <= n) (hn : n <= 2000000) (hr3 : 3 <= ring) (hr6 : ring <= 6) {l : List Nat} (hl4 : l.length <= 10) (hlb : ∀ x ∈ l, x <= 90) {R : Addr} {Q : PQ}
   (h : ∀ rs, rs.Pairwise (· <= ·) -> List.Perm rs (restsL ring l) -> XsF B fiW (d + 64) (bodyW 7) (stW (F := F) (script_ := some scr) (cells_ := some cel) (ring_ := some (.int ring)) (rows_ := some rws) (scale_ := some (.int s)) (ways_ := some (.int ways)) (lengths_ := some (.list (natsPV l))) (laps_ := some (.int ((lapsL ring l : Nat) : Int))) (rests_ := some (.lref R)) (turns_ := some (.int ((turnsL ring [] l : Nat) : Int)))) ((R, intsPV rs) :: H) (fun O H' => Q .none H') (PX Q)) :
   XsF B fiW (d + 64) (bodyW 6) (stW (F := F) (script_ := some scr) (cells_ := some cel) (ring_ := some (.int ring)) (rows_ := some rws) (scale_ := some (.int s)) (ways_ := some (.int ways)) (lengths_ := some (.list (natsPV l))) (laps_ := some (.int ((0 : Nat) : Int))) (rests_ := some (.lref R)) (turns_ := some (.int ((0 : Nat) : Int)))) ((R, intsPV []) :: H) (fun O H' => Q .none H') (PX Q) := by
 refine XsF_cons ?_
 walk_at "w"
 refine ⟨KeepsV_type, ?_⟩
 walk_at "w"
 refine CallI_enum .list ?_
 refine quot_for F hs hsb hn hr3 hr6 hl4 hlb l [] 0 0 0 [] none none none none none none none none rfl rfl (Nat.le_refl _) .nil fun rs' pl mn la re lf er ap tl h1 h2 => ?_
 exact (h rs' h1 h2).wk (by walk_at "k")
end
end
noncomputable def fN (ring m x : Nat) : Nat := if x < m then (m - x - 1) / ring else (x - m + (ring - 1)) / ring
theorem fN_lo {ring x k : Nat} : fN ring (x + k + 1) x = k / ring := by
 unfold fN; rw [if_pos (Nat.lt_succ_of_le (Nat.le_add_right x k)), Nat.add_assoc, Nat.add_sub_cancel_left]; rfl
theorem fN_hi {ring m k : Nat} : fN ring m (m + k) = (k + (ring - 1)) / ring := by
 unfold fN; rw [if_neg (nlr (Nat.le_add_right m k)), Nat.add_sub_cancel_left]
theorem up1 {ring k : Nat} (hr : 0 < ring) : (k + 1 + (ring - 1)) / ring = k / ring + 1 := by
 rw [Nat.add_assoc, Nat.add_sub_cancel' hr, Nat.add_div_right _ hr]
theorem neg_div {ring : Nat} (hr : 0 < ring) (z : Nat) : (-(z : Int)).fdiv ring = -((z + (ring - 1)) / ring : Nat) := by
 have h1 := Nat.div_add_mod (z + (ring - 1)) ring
 have h2 := Nat.mod_lt (z + (ring - 1)) hr
 have h4 := Int.natCast_mul ring ((z + (ring - 1)) / ring)
 rw [Int.fdiv_eq_ediv_of_nonneg _ (Int.natCast_nonneg ring)]
 refine ((Int.ediv_emod_unique (r := (ring : Int) - 1 - ((z + (ring - 1)) % ring : Nat)) (Int.natCast_pos.mpr hr)).mpr ⟨?_, ?_, ?_⟩).1
 . rw [Int.mul_neg, <- h4]; omega
 . omega
 . omega
theorem fT_eq {ring : Nat} (h3 : 3 <= ring) (m x : Nat) : fT ring m x = fN ring m x := by
 have hr : 0 < ring := nlt (by decide) h3
 unfold fT
 by_cases h : x < m
 . obtain ⟨k, rfl⟩ := Nat.exists_eq_add_of_lt h
   rw [if_pos h, fN_lo, show ((x + k + 1 : Nat) : Int) - x - 1 = (k : Nat) by omega, Int.fdiv_eq_ediv_of_nonneg _ (Int.natCast_nonneg ring), <- Int.natCast_ediv, Int.natAbs_natCast]
 . obtain ⟨k, rfl⟩ := Nat.exists_eq_add_of_le (Nat.le_of_not_lt h)
   rw [if_neg h, fN_hi, show (m : Int) - ((m + k : Nat) : Int) = -(k : Nat) by omega, neg_div hr, Int.natAbs_neg, Int.natAbs_natCast]
theorem turnsL4 {ring : Nat} (h3 : 3 <= ring) (h6 : ring <= 6) (a b c e : Nat) : turnsL ring [] [a, b, c, e] = fN ring b a + (fN ring c a + fN ring c b) + (fN ring e a + (fN ring e b + fN ring e c)) := by
 have h : ∀ m x, fT ring m x = fN ring m x := fT_eq h3
 show 0 + fT ring b a + fT ring c a + fT ring c b + fT ring e a + fT ring e b + fT ring e c = _
 rw [h, h, h, h, h, h, Nat.zero_add]
 ac_rfl
noncomputable def lineL (ring : Nat) (l : List Nat) : List Nat := l ++ [l.getD 0 0 + ring]
noncomputable def fallsL (ring : Nat) (l : List Nat) : List Nat := (List.range 4).filter fun p => decide ((lineL ring l).getD (p + 1) 0 < (lineL ring l).getD p 0)
noncomputable def turnAt (ring : Nat) (l : List Nat) (p : Nat) : List Nat :=
 if p = 0 then [l.getD 1 0, l.getD 0 0, l.getD 2 0, l.getD 3 0] else if p = 1 then [l.getD 0 0, l.getD 2 0, l.getD 1 0, l.getD 3 0]
 else if p = 2 then [l.getD 0 0, l.getD 1 0, l.getD 3 0, l.getD 2 0] else [l.getD 3 0 - ring, l.getD 1 0, l.getD 2 0, l.getD 0 0 + ring]
theorem tA0 {ring a b c e : Nat} : turnAt ring [a, b, c, e] 0 = [b, a, c, e] := rfl
theorem tA1 {ring a b c e : Nat} : turnAt ring [a, b, c, e] 1 = [a, c, b, e] := rfl
theorem tA2 {ring a b c e : Nat} : turnAt ring [a, b, c, e] 2 = [a, b, e, c] := rfl
theorem tA3 {ring a b c e : Nat} : turnAt ring [a, b, c, e] 3 = [e - ring, b, c, a + ring] := rfl
theorem falls_mem {ring a b c e p : Nat} (h : p ∈ fallsL ring [a, b, c, e]) : (p = 0 /\ b < a) \/ (p = 1 /\ c < b) \/ (p = 2 /\ e < c) \/ (p = 3 /\ a + ring < e) := by
 obtain ⟨h1, h2⟩ := List.mem_filter.mp h
 exact lt4 (P := fun p => (lineL ring [a, b, c, e]).getD (p + 1) 0 < (lineL ring [a, b, c, e]).getD p 0 -> (p = 0 /\ b < a) \/ (p = 1 /\ c < b) \/ (p = 2 /\ e < c) \/ (p = 3 /\ a + ring < e))
   (fun h => .inl ⟨rfl, h⟩) (fun h => .inr (.inl ⟨rfl, h⟩)) (fun h => .inr (.inr (.inl ⟨rfl, h⟩))) (fun h => .inr (.inr (.inr ⟨rfl, h⟩))) (List.mem_range.mp h1) (of_decide_eq_true h2)
theorem fN_turn {ring : Nat} (h3 : 3 <= ring) (h6 : ring <= 6) {m x : Nat} (h : m < x) : fN ring m x = fN ring x m + 1 := by
 obtain ⟨k, rfl⟩ := Nat.exists_eq_add_of_lt h
 rw [fN_lo, Nat.add_assoc, fN_hi, up1 (nlt (by decide) h3)]
theorem fN_flip {ring : Nat} (h3 : 3 <= ring) {x y : Nat} : fN ring x y = fN ring (y + ring) x := by
 by_cases h1 : y < x
 . obtain ⟨k, rfl⟩ := Nat.exists_eq_add_of_lt h1
   rw [fN_lo]
   by_cases h2 : k + 1 < ring
   . obtain ⟨j, rfl⟩ := Nat.exists_eq_add_of_lt h2
     rw [show y + (k + 1 + j + 1) = y + k + 1 + j + 1 by ac_rfl, fN_lo, Nat.div_eq_of_lt (by omega), Nat.div_eq_of_lt (by omega)]
   . obtain ⟨j, hj⟩ := Nat.exists_eq_add_of_le (Nat.le_of_not_lt h2)
     rw [Nat.add_assoc, hj, <- Nat.add_assoc, fN_hi, show k = j + (ring - 1) by omega]
 . obtain ⟨k, rfl⟩ := Nat.exists_eq_add_of_le (Nat.le_of_not_lt h1)
   rw [fN_hi, show x + k + ring = x + (k + (ring - 1)) + 1 by omega, fN_lo]
theorem fN_end {ring : Nat} (h3 : 3 <= ring) (h6 : ring <= 6) {a e : Nat} (h : a + ring < e) : fN ring e a = fN ring (a + ring) (e - ring) + 1 := by
 obtain ⟨k, rfl⟩ := Nat.exists_eq_add_of_lt h
 rw [<- fN_flip h3, show a + ring + k + 1 - ring = a + k + 1 by omega, fN_lo, show a + ring + k + 1 = a + (k + ring) + 1 by omega, fN_lo, Nat.add_div_right _ (nlt (by decide) h3)]
theorem turn_D {ring a b c e p : Nat} (h3 : 3 <= ring) (h6 : ring <= 6) (h : p ∈ fallsL ring [a, b, c, e]) : turnsL ring [] [a, b, c, e] = turnsL ring [] (turnAt ring [a, b, c, e] p) + 1 := by
 rcases falls_mem h with ⟨rfl, hh⟩ | ⟨rfl, hh⟩ | ⟨rfl, hh⟩ | ⟨rfl, hh⟩
 . rw [tA0, turnsL4 h3 h6, turnsL4 h3 h6, fN_turn h3 h6 hh]; ac_rfl
 . rw [tA1, turnsL4 h3 h6, turnsL4 h3 h6, fN_turn h3 h6 hh]; ac_rfl
 . rw [tA2, turnsL4 h3 h6, turnsL4 h3 h6, fN_turn h3 h6 hh]; ac_rfl
 . obtain ⟨y, rfl⟩ := Nat.exists_eq_add_of_le (ntr (Nat.le_add_left ring a) (Nat.le_of_lt hh))
   rw [tA3, turnsL4 h3 h6, turnsL4 h3 h6, fN_end h3 h6 hh, Nat.add_sub_cancel_left, Nat.add_comm ring y, <- fN_flip (y := y) h3, <- fN_flip (y := y) h3, <- fN_flip (x := b) (y := a) h3, <- fN_flip (x := c) (y := a) h3]; ac_rfl
theorem turn_laps {ring a b c e p : Nat} (h3 : 3 <= ring) (h6 : ring <= 6) (h : p ∈ fallsL ring [a, b, c, e]) : lapsL ring (turnAt ring [a, b, c, e] p) = lapsL ring [a, b, c, e] := by
 have hs : ∀ x y z w : Nat, lapsL ring [x, y, z, w] = 0 + x / ring + y / ring + z / ring + w / ring := fun O O O O => rfl
 rcases falls_mem h with ⟨rfl, hh⟩ | ⟨rfl, hh⟩ | ⟨rfl, hh⟩ | ⟨rfl, hh⟩
 . rw [tA0, hs, hs]; ac_rfl
 . rw [tA1, hs, hs]; ac_rfl
 . rw [tA2, hs, hs]; ac_rfl
 . have hr : 0 < ring := nlt (by decide) h3
   have e1 := Nat.div_eq_sub_div hr (ntr (Nat.le_add_left ring a) (Nat.le_of_lt hh))
   rw [tA3, hs, hs, e1, Nat.add_div_right _ hr]; ac_rfl
theorem turn_rests {ring a b c e p : Nat} (h3 : 3 <= ring) (h6 : ring <= 6) (h : p ∈ fallsL ring [a, b, c, e]) : List.Perm (restsL ring (turnAt ring [a, b, c, e] p)) (restsL ring [a, b, c, e]) := by
 rcases falls_mem h with ⟨rfl, hh⟩ | ⟨rfl, hh⟩ | ⟨rfl, hh⟩ | ⟨rfl, hh⟩
 . exact .swap _ _ _
 . exact .cons _ (.swap _ _ _)
 . exact .cons _ (.cons _ (.swap _ _ _))
 . have e1 : (e - ring) % ring = e % ring := (Nat.mod_eq_sub_mod (ntr (Nat.le_add_left ring a) (Nat.le_of_lt hh))).symm
   have e2 : (a + ring) % ring = a % ring := Nat.add_mod_right a ring
   rw [tA3]
   simp only [restsL, List.map_cons, List.map_nil, e1, e2]
   generalize ((e % ring : Nat) : Int) = x
   generalize ((a % ring : Nat) : Int) = y
   generalize ((b % ring : Nat) : Int) = z
   generalize ((c % ring : Nat) : Int) = w
   exact (List.perm_append_comm (l₁ := [x]) (l₂ := [z, w, y])).trans ((List.Perm.append_right [x] (List.perm_append_comm (l₁ := [z, w]) (l₂ := [y]))))
theorem turn_bound {ring a b c e p : Nat} (h3 : 3 <= ring) (h6 : ring <= 6) (h : p ∈ fallsL ring [a, b, c, e]) (hb : ∀ n ∈ [a, b, c, e], 1 <= n /\ n <= 90) : ∀ n ∈ turnAt ring [a, b, c, e] p, 1 <= n /\ n <= 90 := by
 have ha := hb a (.head _)
 have hb' := hb b (.tail _ (.head _))
 have hc := hb c (.tail _ (.tail _ (.head _)))
 have he := hb e (.tail _ (.tail _ (.tail _ (.head _))))
 rcases falls_mem h with ⟨rfl, hh⟩ | ⟨rfl, hh⟩ | ⟨rfl, hh⟩ | ⟨rfl, hh⟩
 . exact all4 hb' ha hc he
 . exact all4 ha hc hb' he
 . exact all4 ha hb' he hc
 . exact all4 ⟨Nat.le_sub_of_add_le (ntr (Nat.add_le_add_right ha.1 ring) (Nat.le_of_lt hh)), ntr (Nat.sub_le _ _) he.2⟩ hb' hc ⟨ntr ha.1 (Nat.le_add_right _ _), ntr (Nat.le_of_lt hh) he.2⟩
theorem turn_len {ring a b c e p : Nat} : ∃ a' b' c' e', turnAt ring [a, b, c, e] p = [a', b', c', e'] := by
 unfold turnAt
 split
 . exact ⟨_, _, _, _, rfl⟩
 . split
   . exact ⟨_, _, _, _, rfl⟩
   . split
     . exact ⟨_, _, _, _, rfl⟩
     . exact ⟨_, _, _, _, rfl⟩
theorem falls_ok {ring a b c e : Nat} (h : fallsL ring [a, b, c, e] = []) : a <= b /\ b <= c /\ c <= e /\ e <= a + ring := by
 have key : ∀ p < 4, (lineL ring [a, b, c, e]).getD p 0 <= (lineL ring [a, b, c, e]).getD (p + 1) 0 := fun p hp => Nat.le_of_not_lt fun hq => by
   have hm : p ∈ fallsL ring [a, b, c, e] := List.mem_filter.mpr ⟨List.mem_range.mpr hp, decide_eq_true hq⟩
   rw [h] at hm
   cases hm
 exact ⟨key 0 (by decide), key 1 (by decide), key 2 (by decide), key 3 (by decide)⟩
theorem fN_zero {ring m x : Nat} (h3 : 3 <= ring) (g1 : x <= m) (g2 : m <= x + ring) : fN ring m x = 0 := by
 obtain ⟨k, rfl⟩ := Nat.exists_eq_add_of_le g1
 cases k with
 | zero => exact fN_hi (k := 0) ▸ Nat.div_eq_of_lt (by omega)
 | succ k => exact fN_lo.trans (Nat.div_eq_of_lt (Nat.le_of_add_le_add_left g2))
theorem falls_zero {ring a b c e : Nat} (h3 : 3 <= ring) (h6 : ring <= 6) (h : fallsL ring [a, b, c, e] = []) : turnsL ring [] [a, b, c, e] = 0 := by
 obtain ⟨h1, h2, h3', h4⟩ := falls_ok h
 have k1 := ntr h1 h2
 have k2 := ntr h2 h3'
 have k3 := ntr h1 k2
 have l1 := ntr h4 (Nat.add_le_add_right h1 ring)
 have l2 := ntr h4 (Nat.add_le_add_right k1 ring)
 rw [turnsL4 h3 h6, fN_zero h3 h1 (ntr k2 h4), fN_zero h3 k1 (ntr h3' h4), fN_zero h3 h2 (ntr h3' l1), fN_zero h3 k3 h4, fN_zero h3 k2 l1, fN_zero h3 h3' l2]
theorem zero_fN {ring m x : Nat} (h3 : 3 <= ring) (g : fN ring m x = 0) : x <= m /\ m <= x + ring := by
 have hr : 0 < ring := nlt (by decide) h3
 by_cases h : x < m
 . obtain ⟨k, rfl⟩ := Nat.exists_eq_add_of_lt h
   rw [fN_lo, Nat.div_eq_zero_iff_lt hr] at g
   exact ⟨Nat.le_of_lt h, Nat.add_le_add_left g x⟩
 . obtain ⟨k, rfl⟩ := Nat.exists_eq_add_of_le (Nat.le_of_not_lt h)
   rw [fN_hi, Nat.div_eq_zero_iff_lt hr] at g
   omega
theorem zero_falls {ring a b c e : Nat} (h3 : 3 <= ring) (h6 : ring <= 6) (h : turnsL ring [] [a, b, c, e] = 0) : a <= b /\ b <= c /\ c <= e /\ e <= a + ring := by
 rw [turnsL4 h3 h6] at h
 obtain ⟨h, h'⟩ := Nat.add_eq_zero_iff.mp h
 obtain ⟨k1, h⟩ := Nat.add_eq_zero_iff.mp h
 obtain ⟨k4, h'⟩ := Nat.add_eq_zero_iff.mp h'
 exact ⟨(zero_fN h3 k1).1, (zero_fN h3 (Nat.add_eq_zero_iff.mp h).2).1, (zero_fN h3 (Nat.add_eq_zero_iff.mp h').2).1, (zero_fN h3 k4).2⟩
theorem goodP_sorted {line : List Nat} {p : Nat} (hp : p < line.length) (hs : line.Pairwise (· <= ·)) : goodP line p = true := decide_eq_true fun y hy => by
 have h := List.mem_of_mem_take hy
 have hs' := List.Pairwise.sublist (List.drop_sublist p line) hs
 rw [List.drop_eq_getElem_cons hp] at h hs'
 rw [getD_get hp]
 rcases mcp h with rfl | h
 . exact Nat.le_refl _
 . exact (List.pairwise_cons.mp hs').1 _ h
theorem chainR {α : Type} {R : α -> α -> Prop} (ht : ∀ {a b c}, R a b -> R b c -> R a c) {a b : α} {r : List α} (h : R a b) (hs : (b :: r).Pairwise R) : (a :: b :: r).Pairwise R := by
 refine List.pairwise_cons.mpr ⟨fun y hy => ?_, hs⟩
 rcases mcp hy with rfl | hy
 . exact h
 . exact ht h ((List.pairwise_cons.mp hs).1 y hy)
theorem chainL {a b : Nat} {r : List Nat} (h : a <= b) (hs : (b :: r).Pairwise (· <= ·)) : (a :: b :: r).Pairwise (· <= ·) := chainR (R := (· <= ·)) (fun h k => ntr h k) h hs
theorem goods_sorted {ring a b c e : Nat} (h : a <= b /\ b <= c /\ c <= e /\ e <= a + ring) : goods ring [a, b, c, e] = [true, true, true, true] := by
 have g := fun p hp => goodP_sorted (line := [a, b, c, e, a + ring, b + ring, c + ring, e + ring]) (p := p) hp (chainL h.1 (chainL h.2.1 (chainL h.2.2.1 (chainL h.2.2.2 (chainL (Nat.add_le_add_right h.1 ring) (chainL (Nat.add_le_add_right h.2.1 ring) (chainL (Nat.add_le_add_right h.2.2.1 ring) (List.pairwise_singleton _ _))))))))
 show [goodP [a, b, c, e, a + ring, b + ring, c + ring, e + ring] 0, goodP [a, b, c, e, a + ring, b + ring, c + ring, e + ring] 1, goodP [a, b, c, e, a + ring, b + ring, c + ring, e + ring] 2, goodP [a, b, c, e, a + ring, b + ring, c + ring, e + ring] 3] = _
 rw [g 0 (bl rfl), g 1 (bl rfl), g 2 (bl rfl), g 3 (bl rfl)]
set_option maxHeartbeats 2000000
section
section
variable {B : Base} {d : Nat} {H : AH}
noncomputable abbrev f7 : Stmt := ((stBody (topSt kLaw))[7]?).getD (.Pass default)
noncomputable def fallP (line : List Nat) : PV -> Bool
 | .int i => decide (line.getD (i.toNat + 1) 0 < line.getD i.toNat 0)
 | _ => false
theorem falls_map (ring : Nat) (l : List Nat) : ([] : List PV) ++ ((arith 1 0 (Int.toNat 4)).filter (fallP (lineL ring l))).map id = natsPV (fallsL ring l) := by
 have e : arith 1 0 (Int.toNat 4) = natsPV (List.range 4) := by kernel_rfl
 rw [e, List.nil_append, List.map_id, fallsL, natsPV, natsPV, List.filter_map]
 congr 1
noncomputable abbrev stF (line : PV) : Option PV -> St := fun o => [(Str.ofString ".0", .local, none), (Str.ofString "place", .local, o), (Str.ofString "line", .cell, some line)]
theorem turn_head (F : LawFns B) {scr scale lens lps rsts trs plc fls fst lst mor snt lin : Option PV} {C : Addr} {c0 c1 c2 c3 c4 c5 : Nat} {ring turn : Nat} {wys : PV} (hC : (C, natsPV [c0, c1, c2, c3, c4, c5]) ∈ H) (hr3 : 3 <= ring) (hr6 : ring <= 6) {a b c e : Nat} (hb : ∀ n ∈ [a, b, c, e], 1 <= n /\ n <= 90) (hf : fallsL ring [a, b, c, e] ≠ []) {Qn : SQ} {Qf : FQ}
   (q : ∀ p ∈ fallsL ring [a, b, c, e], ∀ lin fls, Xs B fiW (d + 64) NoE ((forBody f7).drop 4) (stW (F := F) (script_ := scr) (cells_ := some (.lref C)) (ring_ := some (.int ring)) (rows_ := some (rowsV [a, b, c, e])) (scale_ := scale) (ways_ := some wys) (lengths_ := lens) (laps_ := lps) (rests_ := rsts) (turns_ := trs) (turn_ := some (.int (turn : Nat))) (line_ := lin) (falls_ := fls) (place_ := some (.int (p : Nat))) (first_ := fst) (last_ := lst) (more_ := mor) (sent_ := snt)) H Qn Qf) :
   Xs B fiW (d + 64) NoE (forBody f7) (stW (F := F) (script_ := scr) (cells_ := some (.lref C)) (ring_ := some (.int ring)) (rows_ := some (rowsV [a, b, c, e])) (scale_ := scale) (ways_ := some wys) (lengths_ := lens) (laps_ := lps) (rests_ := rsts) (turns_ := trs) (turn_ := some (.int (turn : Nat))) (line_ := lin) (falls_ := fls) (place_ := plc) (first_ := fst) (last_ := lst) (more_ := mor) (sent_ := snt)) H Qn Qf := by
 have ha := hb a (.head _)
 refine' Xs_cons' ?_
 walk_at "w"
 refine Ev_ListCompF (stLen none) (.loc (.loc (.glob F.L.gle .nil))) ?_ (by decide +kernel) (by rfl) (by rfl) (by intro _ _; rfl) (dk rfl)
 refine EvI_of ?_
 walk_at "w"
 refine IterV_list fun D => ?_
 refine CmpL_lens (fun n hn => ntr (hb n hn).2 (by decide)) (bl rfl) ?_
 walk_at "w"
 refine Ev_ListF ?_
 walk_at "w"
 refine ⟨KeepsV_builtin, ?_⟩
 walk_at "w"
 refine ⟨SubAt_items .list, ?_⟩
 refine Get_as (m := 0) .list (bl rfl) (bl rfl) rfl ?_
 walk_at "w"
 refine Call_len_str (Nat.lt_of_le_of_lt (lenS (n := 90) (by rw [List.length_replicate]; exact ha.2) (Nat.le_refl _)) (by decide)) ?_
 refine cast_v (w := .int (a : Nat)) (congrArg (fun n : Nat => PV.int n) ((ofL_len _).trans List.length_replicate)) ?_
 walk_at "w"
 refine Bin_addL (ys := [.int ((a + ring : Nat) : Int)]) .list .list (bl rfl) (.inl ?_)
 refine cast_v (w := .list (natsPV (lineL ring [a, b, c, e]))) rfl ?_
 walk_at "w"
 refine X_Assign_CompF (stF (.list (natsPV (lineL ring [a, b, c, e]))) none) (.loc (.loc (.capC (by walk_at "mm") .nil))) ?_ ⟨fls, by walk_at "mm"⟩ (by rfl) (by decide +kernel) (by decide +kernel) (by rfl) (by rfl) (by intro _ _; rfl) (dk rfl)
 walk_at "w"
 refine ⟨KeepsV_type, ?_⟩
 walk_at "w"
 refine CallI_range1 (by decide) (by decide) ?_
 intro D
 refine CmpL_filter (σt := stF (.list (natsPV (lineL ring [a, b, c, e])))) (f := id) (p := fallP (lineL ring [a, b, c, e])) ?_ ?_ _ _ none ?_ ?_ ?_ ?_
 . intro x o H K k
   walk_at "w"
   exact k
 . intro p hp; cases hp
 . intro x hx acc K k
   obtain ⟨p, hp, rfl⟩ := arith_mem (k := 0) (n := 4) hx
   generalize hll : lineL ring [a, b, c, e] = ll at *
   have hl5 : ll.length = 5 := hll ▸ rfl
   walk_at "w"
   refine ⟨SubAt_items .list, ?_⟩
   walk_at "w"
   refine Get_nats .list (by rw [hl5]; exact Nat.lt_succ_of_lt hp) (by rw [hl5]; decide) ?_
   walk_at "w"
   refine ⟨SubAt_items .list, ?_⟩
   walk_at "w"
   refine Get_nats (j := p + 1) .list (by rw [hl5]; exact Nat.succ_lt_succ hp) (by rw [hl5]; decide) ?_
   walk_at "w"
   exact (show fallP ll (.int p) = decide (((ll.getD p 0 : Nat) : Int) > (ll.getD (p + 1) 0 : Nat)) from decide_eq_decide.mpr Int.ofNat_lt.symm) ▸ k
 . intro x hx acc K k
   walk_at "w"
   exact k
 . exact bl rfl
 . rw [falls_map]
   refine ⟨_, by walk_at "m_rep", ?_⟩
   walk_at "w"
   refine Ev_ListF ?_
   walk_at "w"
   refine Cmp_eqI (ns := (fallsL ring [a, b, c, e]).map Int.ofNat) (ms := []) (by rw [<- natsPV_ints]; exact .list) .list ?_
   refine cast_v (congrArg PV.bool (decide_eq_false fun e => hf (List.map_eq_nil_iff.mp e))) ?_
   walk_at "w"
   refine ⟨SubAt_items (.lref hC), ?_⟩
   refine Get_nats (line := [c0, c1, c2, c3, c4, c5]) (j := 5) (.lref hC) (bl rfl) (bl rfl) ?_
   walk_at "w"
   refine Bin_shr (Int.natCast_nonneg turn) ?_
   have hfl : (fallsL ring [a, b, c, e]).length < 2 ^ 60 := Nat.lt_of_le_of_lt (List.length_filter_le _ _) (by decide)
   have hf0 : 0 < (fallsL ring [a, b, c, e]).length := List.length_pos_iff.mpr hf
   generalize fallsL ring [a, b, c, e] = ff at *
   walk_at "w"
   refine ⟨KeepsV_builtin, ?_⟩
   walk_at "w"
   refine Call_len_list .list (by rw [List.length_map]; exact hfl) ?_
   refine cast_v (congrArg (fun n : Nat => PV.int n) (List.length_map ..)) ?_
   refine Bin_fmod (Int.natCast_ne_zero.mpr (Nat.ne_of_gt hf0)) ?_
   have e7 : ((c5 : Int).fdiv (2 ^ ((turn : Nat) : Int).toNat)).fmod (ff.length : Nat) = ((c5 / 2 ^ turn % ff.length : Nat) : Int) := by
     rw [Int.toNat_natCast, show (2 : Int) ^ turn = ((2 ^ turn : Nat) : Int) from (Int.natCast_pow 2 turn).symm, div_nat, mod_nat _ _ hf0]
   refine cast_v (congrArg PV.int e7) ?_
   have hix : c5 / 2 ^ turn % ff.length < ff.length := Nat.mod_lt _ hf0
   refine ⟨SubAt_items .list, ?_⟩
   refine Get_nats .list hix hfl ?_
   have hmem : ff.getD (c5 / 2 ^ turn % ff.length) 0 ∈ ff := getD_mem hix
   generalize ff.getD (c5 / 2 ^ turn % ff.length) 0 = p at *
   have fin := fun lin fls => q p hmem lin fls
   repeat first | exact fin _ _ | walk_at "mw"
end
end
set_option maxHeartbeats 2000000
section
section
variable {B : Base} {d : Nat} {H : AH}
noncomputable abbrev f7if : Stmt := ((forBody f7)[4]?).getD (.Pass default)
noncomputable def ifElse : Stmt -> List Stmt
 | .If _ _ b _ => b
 | _ => []
noncomputable abbrev f7m : Stmt := ((ifElse f7if)[1]?).getD (.Pass default)
theorem dash_ofL : Str.ofString "-" = ofL [45] := by decide +kernel
theorem dashRow (e : Nat) : RowOk ([45] ++ List.replicate e 46) := by
 have h : ∀ c ∈ [45] ++ List.replicate e 46, c = 45 \/ c = 46 := fun c hc => (mpp hc).imp msp List.eq_of_mem_replicate
 exact ⟨fun c hc => by rcases h c hc with rfl | rfl <;> decide, fun c hc => by rcases h c hc with rfl | rfl <;> decide⟩
theorem Get_dots {E : EP} {l : List Nat} {m : Nat} {Q : PQ} (hm : m < l.length) (hn : l.length < 2 ^ 60) (q : Q (.str (ofL (List.replicate (l.getD m 0) 46))) H) : V2 B d E getItem (rowsV l) (.int (m : Nat)) H Q :=
 Get_as .list (by rw [List.length_map, List.length_map]; exact hm) (by rw [List.length_map, List.length_map]; exact hn) (by rw [List.getElem_map, List.getElem_map, getD_get hm]) q
theorem sends_for (F : LawFns B) {scr cel scale lens lps rsts trs plc fls lin rws : Option PV} {ring turn ways a e : Nat} (ha : 1 <= a) (ha2 : a <= 200) (he : e <= 200) {Qn : SQ} {Qf : FQ} : ∀ (n k : Nat) (mor snt : Option PV), k + n <= 100 ->
   (∀ mor snt, Qn (stW (F := F) (script_ := scr) (cells_ := cel) (ring_ := some (.int ring)) (rows_ := rws) (scale_ := scale) (ways_ := some (.int ways)) (lengths_ := lens) (laps_ := lps) (rests_ := rsts) (turns_ := trs) (turn_ := some (.int (turn : Nat))) (line_ := lin) (falls_ := fls) (place_ := plc) (first_ := some (.str (ofL (List.replicate (a + (k + n)) 46)))) (last_ := some (.str (ofL (List.replicate e 46)))) (more_ := mor) (sent_ := snt)) H) ->
   ForL B fiW (d + 64) (forTgt f7m) (forBody f7m) [] (arith 1 (k : Nat) n) (stW (F := F) (script_ := scr) (cells_ := cel) (ring_ := some (.int ring)) (rows_ := rws) (scale_ := scale) (ways_ := some (.int ways)) (lengths_ := lens) (laps_ := lps) (rests_ := rsts) (turns_ := trs) (turn_ := some (.int (turn : Nat))) (line_ := lin) (falls_ := fls) (place_ := plc) (first_ := some (.str (ofL (List.replicate (a + k) 46)))) (last_ := some (.str (ofL (List.replicate e 46)))) (more_ := mor) (sent_ := snt)) H Qn Qf := by
 intro n
 induction n with
 | zero => intro k mor snt hk q; exact ForL_nil (q mor snt)
 | succ n ih =>
   intro k mor snt hk q
   have e3 := Nat.succ_add_eq_add_succ k n
   have ih := fun mor snt => ih (k + 1) mor snt (e3 ▸ hk) (by rw [e3]; exact q)
   have hak : a + k <= 300 := Nat.add_le_add ha2 (ntr (Nat.le_add_right _ _) hk)
   have hak1 : a + k ≠ 0 := Nat.ne_of_gt (ntr ha (Nat.le_add_right _ _))
   have hb2 : bump (List.replicate (a + k) 46) = List.replicate (a + (k + 1)) 46 := by
     obtain ⟨m, e⟩ := Nat.exists_eq_add_one_of_ne_zero hak1
     rw [<- Nat.add_assoc, e]; rfl
   have h1e : [45].length + (List.replicate e 46).length <= 16777216 := by rw [List.length_replicate]; exact ntr (Nat.add_le_add_left he 1) (bl rfl)
   refine ForL_cons ?_
   show Asg B _ (d + 64) NoE (forTgt f7m) (.int (k : Nat)) _ _ _
   refine' Asg_N ?_
   walk_at "w"
   refine' Xs_cons' ?_
   walk_at "w"
   refine ⟨KeepsV_FnIs F.L.hs, ?_⟩
   walk_at "w"
   refine Ev_ListF ?_
   walk_at "w"
   rw [dash_ofL]
   refine Bin_addO h1e ?_
   walk_at "w"
   refine sent_call F.L.S (d := d + 59) (rows := [[45] ++ List.replicate e 46, List.replicate (a + k) 46]) (ways := ways + turn + k) F.L.hs .list (List.cons_ne_nil _ _) ⟨_, .head _, List.cons_ne_nil _ _⟩ ?_ ?_ ?_
   . exact fmc ⟨dashRow e, fmc ⟨rowsL_ok (l := [a + k]) _ (.head _), fun O h => nomatch h⟩⟩
   . show (List.length ([45] ++ List.replicate e 46) + ((List.replicate (a + k) 46).length + 0)) + 2 * 2 <= 400000
     rw [List.length_append, List.length_replicate (n := a + k)]
     exact ntr (Nat.add_le_add_right (Nat.add_le_add_left hak _) _) (by rw [List.length_replicate]; exact ntr (Nat.add_le_add_right (Nat.add_le_add_right (Nat.add_le_add_left he 1) 300) 4) (by decide))
   refine cast_v (w := .list (rowsPV [[45] ++ List.replicate e 46, List.replicate (a + (k + 1)) 46])) (congrArg PV.list (show rowsPV ([[45] ++ List.replicate e 46, List.replicate (a + k) 46].map bump) = _ by rw [List.map_cons, List.map_cons, hb2]; rfl)) ?_
   walk_at "w"
   refine Ev_ListF ?_
   walk_at "w"
   refine Bin_addO h1e ?_
   walk_at "w"
   rw [dot_ofL]
   refine Bin_addO (by rw [List.length_replicate]; exact ntr (Nat.add_le_add_left hak 1) (bl rfl)) ?_
   refine cast_v (w := .str (ofL (List.replicate (a + (k + 1)) 46))) rfl ?_
   walk_at "w"
   have hsk : ∀ x ∈ ([ofL ([45] ++ List.replicate e 46), ofL (List.replicate (a + (k + 1)) 46)] : List Str), PyData.strOk x = true :=
     fmc ⟨strOk_of (dashRow e).2, fmc ⟨strOk_of (rowsL_ok (l := [a + (k + 1)]) _ (.head _)).2, fun O h => nomatch h⟩⟩
   refine Cmp_neSs (ns := [ofL ([45] ++ List.replicate e 46), ofL (List.replicate (a + (k + 1)) 46)]) (ms := [ofL ([45] ++ List.replicate e 46), ofL (List.replicate (a + (k + 1)) 46)]) .list .list hsk hsk ?_
   rw [decide_eq_true rfl]
   walk_at "w"
   refine ⟨SubAt_items .list, ?_⟩
   refine Get_as (m := 1) .list (bl rfl) (bl rfl) rfl ?_
   walk_at "w"
   exact ⟨(fun p hp => nomatch hp), ih _ _⟩
theorem turn_tail (F : LawFns B) {scr cel scale lens lps rsts trs fls lin fst lst mor snt : Option PV} {ring turn ways : Nat} {a b c e p : Nat} (hr3 : 3 <= ring) (hr6 : ring <= 6) (hb : ∀ n ∈ [a, b, c, e], 1 <= n /\ n <= 90) (hp : p ∈ fallsL ring [a, b, c, e]) {Qn : SQ} {Qf : FQ}
   (q : ∀ fst lst mor snt, Qn (stW (F := F) (script_ := scr) (cells_ := cel) (ring_ := some (.int ring)) (rows_ := some (rowsV (turnAt ring [a, b, c, e] p))) (scale_ := scale) (ways_ := some (.int ways)) (lengths_ := lens) (laps_ := lps) (rests_ := rsts) (turns_ := trs) (turn_ := some (.int (turn : Nat))) (line_ := lin) (falls_ := fls) (place_ := some (.int (p : Nat))) (first_ := fst) (last_ := lst) (more_ := mor) (sent_ := snt)) H) :
   Xs B fiW (d + 64) NoE ((forBody f7).drop 4) (stW (F := F) (script_ := scr) (cells_ := cel) (ring_ := some (.int ring)) (rows_ := some (rowsV [a, b, c, e])) (scale_ := scale) (ways_ := some (.int ways)) (lengths_ := lens) (laps_ := lps) (rests_ := rsts) (turns_ := trs) (turn_ := some (.int (turn : Nat))) (line_ := lin) (falls_ := fls) (place_ := some (.int (p : Nat))) (first_ := fst) (last_ := lst) (more_ := mor) (sent_ := snt)) H Qn Qf := by
 have ha := hb a (.head _)
 have he := hb e (.tail _ (.tail _ (.tail _ (.head _))))
 have mid : ∀ (p : Nat), p < 3 -> (∀ fst lst mor snt, Qn (stW (F := F) (script_ := scr) (cells_ := cel) (ring_ := some (.int ring)) (rows_ := some (rowsV (turnAt ring [a, b, c, e] p))) (scale_ := scale) (ways_ := some (.int ways)) (lengths_ := lens) (laps_ := lps) (rests_ := rsts) (turns_ := trs) (turn_ := some (.int (turn : Nat))) (line_ := lin) (falls_ := fls) (place_ := some (.int (p : Nat))) (first_ := fst) (last_ := lst) (more_ := mor) (sent_ := snt)) H) ->
     Xs B fiW (d + 64) NoE ((forBody f7).drop 4) (stW (F := F) (script_ := scr) (cells_ := cel) (ring_ := some (.int ring)) (rows_ := some (rowsV [a, b, c, e])) (scale_ := scale) (ways_ := some (.int ways)) (lengths_ := lens) (laps_ := lps) (rests_ := rsts) (turns_ := trs) (turn_ := some (.int (turn : Nat))) (line_ := lin) (falls_ := fls) (place_ := some (.int (p : Nat))) (first_ := fst) (last_ := lst) (more_ := mor) (sent_ := snt)) H Qn Qf := by
   intro p hp3 q
   refine' Xs_cons' ?_
   walk_at "w"
   refine' ifpd (Int.ofNat_lt.mpr hp3) ?_
   walk_at "w"
   refine ⟨SubAt_items .list, ?_⟩
   refine Sl_hi p .list (bl rfl) (.inl ?_)
   walk_at "w"
   refine Ev_ListF ?_
   walk_at "w"
   refine ⟨SubAt_items .list, ?_⟩
   refine Get_dots (m := p + 1) (l := [a, b, c, e]) (Nat.succ_lt_succ hp3) (bl rfl) ?_
   walk_at "w"
   refine ⟨SubAt_items .list, ?_⟩
   refine Get_dots (l := [a, b, c, e]) (Nat.lt_succ_of_lt hp3) (bl rfl) ?_
   walk_at "w"
   have h4 : (List.take p (rowsPV (rowsL [a, b, c, e]))).length <= 4 := List.length_take_le' ..
   refine Bin_addL .list .list (ntr (Nat.add_le_add_right h4 2) (bl rfl)) (.inl ?_)
   walk_at "w"
   refine ⟨SubAt_items .list, ?_⟩
   refine Sl_lo (p + 2) .list (bl rfl) (.inl ?_)
   refine Bin_addL .list .list (by rw [List.length_append, List.length_drop]; exact ntr (Nat.add_le_add (Nat.add_le_add_right h4 2) (Nat.sub_le _ _)) (bl rfl)) (.inl ?_)
   refine cast_v (w := rowsV (turnAt ring [a, b, c, e] p)) (congrArg PV.list (lt3 (P := fun p => (List.take p (rowsPV (rowsL [a, b, c, e])) ++ [PV.str (ofL (List.replicate ([a, b, c, e].getD (p + 1) 0) 46)), PV.str (ofL (List.replicate ([a, b, c, e].getD p 0) 46))]) ++ List.drop (p + 2) (rowsPV (rowsL [a, b, c, e])) = rowsPV (rowsL (turnAt ring [a, b, c, e] p))) rfl rfl rfl hp3)) ?_
   walk_at "w"
   exact q _ _ _ _
 rcases falls_mem hp with ⟨rfl, hh⟩ | ⟨rfl, hh⟩ | ⟨rfl, hh⟩ | ⟨rfl, hh⟩
 . exact mid 0 (by decide) q
 . exact mid 1 (by decide) q
 . exact mid 2 (by decide) q
 . refine' Xs_cons' ?_
   walk_at "w"
   refine' ifn (by decide) ?_
   walk_at "w"
   refine X_Swap2 (Str.ofString "first") (Str.ofString "last") (by kernel_rfl) ?_
   walk_at "w"
   refine ⟨SubAt_items .list, ?_⟩
   refine Get_as (m := 0) .list (bl rfl) (bl rfl) rfl ?_
   walk_at "w"
   refine ⟨SubAt_items .list, ?_⟩
   refine Get_dots (m := 3) (l := [a, b, c, e]) (bl rfl) (bl rfl) ?_
   walk_at "w"
   walk_at "w"
   refine ⟨KeepsV_type, ?_⟩
   walk_at "w"
   have up : ∀ {n}, n <= 90 -> n <= 200 := fun h => ntr h (by decide)
   refine CallI_rangeU (ntr hr6 (by decide)) ?_
   refine sends_for F (a := a) (e := e) ha.1 (up ha.2) (up he.2) ring 0 mor snt (by rw [Nat.zero_add]; exact ntr hr6 (by decide)) fun mor snt => ?_
   walk_at "w"
   refine Ev_ListF ?_
   walk_at "w"
   refine ⟨SubAt_of SubOk_str, ?_⟩
   have hle : ring <= (ofL (List.replicate e 46)).length := by rw [ofL_len, List.length_replicate]; exact ntr (Nat.le_add_left ring a) (Nat.le_of_lt hh)
   refine Sl_str (by decide) (lenS (n := 90) (by rw [List.length_replicate]; exact he.2) (bl rfl)) ?_
   refine cast_v (w := .str (ofL (List.replicate (e - ring) 46))) (congrArg PV.str ((pickS_lo hle).trans (congrArg ofL (List.drop_replicate ..)))) ?_
   walk_at "w"
   refine ⟨SubAt_items .list, ?_⟩
   refine Sl_mid 1 3 .list (bl rfl) (.inl ?_)
   refine Bin_addL .list .list (bl rfl) (.inl ?_)
   walk_at "w"
   refine Ev_ListF ?_
   walk_at "w"
   refine Bin_addL .list .list (bl rfl) (.inl ?_)
   refine cast_v (w := rowsV (turnAt ring [a, b, c, e] 3)) (congrArg (fun n => PV.list [PV.str (ofL (List.replicate (e - ring) 46)), PV.str (ofL (List.replicate b 46)), PV.str (ofL (List.replicate c 46)), PV.str (ofL (List.replicate (a + n) 46))]) (Nat.zero_add ring)) ?_
   walk_at "w"
   exact q _ _ _ _
end
end
set_option maxHeartbeats 2000000
section
section
variable {B : Base} {d : Nat} {H : AH}
theorem turn_for (F : LawFns B) {scr scale lens lps rsts trs : Option PV} {C : Addr} {c0 c1 c2 c3 c4 c5 : Nat} {ring ways : Nat} (hC : (C, natsPV [c0, c1, c2, c3, c4, c5]) ∈ H) (hr3 : 3 <= ring) (hr6 : ring <= 6) {Qn : SQ} {Qf : FQ} : ∀ (n k : Nat) (a b c e : Nat) (pl tu li fa fi la mo se : Option PV), turnsL ring [] [a, b, c, e] = n -> (∀ m ∈ [a, b, c, e], 1 <= m /\ m <= 90) ->
   (∀ a' b' c' e' pl tu li fa fi la mo se, turnsL ring [] [a', b', c', e'] = 0 -> (∀ m ∈ [a', b', c', e'], 1 <= m /\ m <= 90) -> lapsL ring [a', b', c', e'] = lapsL ring [a, b, c, e] -> List.Perm (restsL ring [a', b', c', e']) (restsL ring [a, b, c, e]) -> Qn (stW (F := F) (script_ := scr) (cells_ := some (.lref C)) (ring_ := some (.int ring)) (rows_ := some (rowsV [a', b', c', e'])) (scale_ := scale) (ways_ := some (.int ways)) (lengths_ := lens) (laps_ := lps) (rests_ := rsts) (turns_ := trs) (place_ := pl) (turn_ := tu) (line_ := li) (falls_ := fa) (first_ := fi) (last_ := la) (more_ := mo) (sent_ := se)) H) ->
   ForL B fiW (d + 64) (forTgt f7) (forBody f7) [] (arith 1 (k : Nat) n) (stW (F := F) (script_ := scr) (cells_ := some (.lref C)) (ring_ := some (.int ring)) (rows_ := some (rowsV [a, b, c, e])) (scale_ := scale) (ways_ := some (.int ways)) (lengths_ := lens) (laps_ := lps) (rests_ := rsts) (turns_ := trs) (place_ := pl) (turn_ := tu) (line_ := li) (falls_ := fa) (first_ := fi) (last_ := la) (more_ := mo) (sent_ := se)) H Qn Qf := by
 intro n
 induction n with
 | zero => intro k a b c e pl tu li fa fi la mo se hD hb q; exact ForL_nil (q a b c e pl tu li fa fi la mo se hD hb rfl (List.Perm.refl _))
 | succ n ih =>
   intro k a b c e pl tu li fa fi la mo se hD hb q
   refine ForL_cons ?_
   show Asg B _ (d + 64) NoE (forTgt f7) (.int (k : Nat)) _ _ _
   refine' Asg_N ?_
   refine Put_L (by walk_at "m_rep") ?_
   refine turn_head F hC hr3 hr6 hb (fun h => Nat.succ_ne_zero n (hD.symm.trans (falls_zero hr3 hr6 h))) fun p hp li' fa' => ?_
   refine turn_tail F hr3 hr6 hb hp fun fi la mo se => ⟨(fun p hp => nomatch hp), ?_⟩
   have h1 := turn_D hr3 hr6 hp
   have h2 := turn_laps hr3 hr6 hp
   have h3 := turn_rests hr3 hr6 hp
   have h4 := turn_bound hr3 hr6 hp hb
   obtain ⟨a', b', c', e', hl⟩ := turn_len (ring := ring) (a := a) (b := b) (c := c) (e := e) (p := p)
   rw [hl] at h1 h2 h3 h4 ⊢
   exact ih (k + 1) a' b' c' e' _ _ _ _ fi la mo se (Nat.succ.inj (h1.symm.trans hD)) h4 fun a'' b'' c'' e'' pl tu li fa fi la mo se g1 g2 g3 g4 => q a'' b'' c'' e'' pl tu li fa fi la mo se g1 g2 (g3.trans h2) (g4.trans h3)
theorem law_s7 (F : LawFns B) {scr scale lens lps rsts : PV} {C : Addr} {c0 c1 c2 c3 c4 c5 : Nat} {ring ways : Nat} (hC : (C, natsPV [c0, c1, c2, c3, c4, c5]) ∈ H) (hr3 : 3 <= ring) (hr6 : ring <= 6) {a b c e : Nat} (hb : ∀ m ∈ [a, b, c, e], 1 <= m /\ m <= 90) (hT : turnsL ring [] [a, b, c, e] <= 100000) {Q : PQ}
   (h : ∀ a' b' c' e', turnsL ring [] [a', b', c', e'] = 0 -> (∀ m ∈ [a', b', c', e'], 1 <= m /\ m <= 90) -> lapsL ring [a', b', c', e'] = lapsL ring [a, b, c, e] -> List.Perm (restsL ring [a', b', c', e']) (restsL ring [a, b, c, e]) ->
     XsF B fiW (d + 64) (bodyW 8) (stW (F := F) (script_ := some scr) (cells_ := some (.lref C)) (ring_ := some (.int ring)) (rows_ := some (rowsV [a', b', c', e'])) (scale_ := some scale) (ways_ := some (.int ways)) (lengths_ := some lens) (laps_ := some lps) (rests_ := some rsts)) H (fun O H' => Q .none H') (PX Q)) :
   XsF B fiW (d + 64) (bodyW 7) (stW (F := F) (script_ := some scr) (cells_ := some (.lref C)) (ring_ := some (.int ring)) (rows_ := some (rowsV [a, b, c, e])) (scale_ := some scale) (ways_ := some (.int ways)) (lengths_ := some lens) (laps_ := some lps) (rests_ := some rsts) (turns_ := some (.int ((turnsL ring [] [a, b, c, e] : Nat) : Int)))) H (fun O H' => Q .none H') (PX Q) := by
 refine XsF_cons ?_
 walk_at "w"
 refine ⟨KeepsV_type, ?_⟩
 walk_at "w"
 refine CallI_rangeU (ntr hT (by decide)) ?_
 refine turn_for F hC hr3 hr6 _ 0 a b c e none none none none none none none none rfl hb fun a' b' c' e' pl tu li fa fi la mo se g1 g2 g3 g4 => ?_
 exact (h a' b' c' e' g1 g2 g3 g4).wk (by walk_at "k")
end
end
theorem sorted_eq {xs ys : List Int} (h1 : xs.Pairwise (· <= ·)) (h2 : ys.Pairwise (· <= ·)) (h : List.Perm xs ys) : xs = ys :=
 h.eq_of_pairwise (fun a b O O h3 h4 => Int.le_antisymm h3 h4) h1 h2
theorem chainI {a b : Int} {r : List Int} (h : a <= b) (hs : (b :: r).Pairwise (· <= ·)) : (a :: b :: r).Pairwise (· <= ·) := chainR (R := (· <= ·)) (fun h k => Int.le_trans h k) h hs
theorem sorted4 {x y z w : Int} (h1 : x <= y) (h2 : y <= z) (h3 : z <= w) : [x, y, z, w].Pairwise (· <= ·) := chainI h1 (chainI h2 (chainI h3 (List.pairwise_singleton _ _)))
theorem place_end {ring : Nat} {l : List Nat} {rs : List Int} (hs : rs.Pairwise (· <= ·)) (hp : List.Perm rs (restsL ring l)) (q k : Nat) {x y z w : Nat} (pm : List.Perm (restsL ring l) [(x : Int), (y : Int), (z : Int), (w : Int)]) (h1 : x <= y) (h2 : y <= z) (h3 : z <= w)
   (hlt : ∀ n ∈ [x, y, z, w], n < ring) (hL : lapsL ring l = 4 * q + k) {V : Nat -> Prop} (eV : V = fun p => l.getD p 0 = [x, y, z, w].getD ((k + p) % 4) 0 + ring * (q + (k + p) / 4)) (v0 : V 0) (v1 : V 1) (v2 : V 2) (v3 : V 3) :
   ∃ ns : List Nat, rs = ns.map Int.ofNat /\ ns.length = 4 /\ (∀ n ∈ ns, n < ring) /\ ∀ p < 4, l.getD p 0 = ns.getD ((lapsL ring l + p) % 4) 0 + ring * ((lapsL ring l + p) / 4) := by
 refine ⟨[x, y, z, w], sorted_eq hs (sorted4 (Int.ofNat_le.mpr h1) (Int.ofNat_le.mpr h2) (Int.ofNat_le.mpr h3)) (hp.trans pm), rfl, hlt, fun p hp4 => ?_⟩
 rw [hL, Nat.add_assoc, Nat.mul_add_mod, Nat.mul_add_div (by decide)]
 have h := lt4 v0 v1 v2 v3 hp4
 rw [eV] at h
 exact h
theorem final_place {ring a b c e : Nat} (h3 : 3 <= ring) (h6 : ring <= 6) (h : a <= b /\ b <= c /\ c <= e /\ e <= a + ring) {rs : List Int} (hs : rs.Pairwise (· <= ·)) (hp : List.Perm rs (restsL ring [a, b, c, e])) :
   ∃ ns : List Nat, rs = ns.map Int.ofNat /\ ns.length = 4 /\ (∀ n ∈ ns, n < ring) /\ ∀ p < 4, [a, b, c, e].getD p 0 = ns.getD ((lapsL ring [a, b, c, e] + p) % 4) 0 + ring * ((lapsL ring [a, b, c, e] + p) / 4) := by
 obtain ⟨o1, o2, o3, o4⟩ := h
 have hr : 0 < ring := nlt (by decide) h3
 have mono : ∀ {x y : Nat}, x <= y -> y / ring = x / ring -> x % ring <= y % ring := fun {x y} g1 g2 =>
   Nat.le_of_add_le_add_left (a := ring * (x / ring)) (by rw [Nat.div_add_mod, <- g2, Nat.div_add_mod]; exact g1)
 have wrap : e / ring = a / ring + 1 -> e % ring <= a % ring := fun g2 =>
   Nat.le_of_add_le_add_left (a := ring * (e / ring)) (by rw [Nat.div_add_mod, g2, Nat.mul_succ, Nat.add_right_comm, Nat.div_add_mod]; exact o4)
 have vl : ∀ {n q : Nat}, n / ring = q -> n = n % ring + ring * q := fun {n q} g => g ▸ (Nat.mod_add_div n ring).symm
 have lt : ∀ n : Nat, n % ring < ring := fun n => Nat.mod_lt n hr
 have m1 := Nat.div_le_div_right (c := ring) o1
 have m2 := Nat.div_le_div_right (c := ring) o2
 have m3 := Nat.div_le_div_right (c := ring) o3
 have m4 := Nat.div_le_div_right (c := ring) o4
 rw [Nat.add_div_right _ hr] at m4
 have rot : ∀ (x y z w : Int), List.Perm [x, y, z, w] [w, x, y, z] := fun x y z w => List.perm_append_comm (l₁ := [x, y, z]) (l₂ := [w])
 have hL : lapsL ring [a, b, c, e] = 0 + a / ring + b / ring + c / ring + e / ring := rfl
 by_cases k3 : e / ring = a / ring
 . have k2 := Nat.le_antisymm (k3 ▸ m3) (ntr m1 m2)
   have k1 := Nat.le_antisymm (k2 ▸ m2) m1
   rw [k1, k2, k3] at hL
   exact place_end hs hp (a / ring) 0 (.refl _) (mono o1 k1) (mono o2 (k2.trans k1.symm)) (mono o3 (k3.trans k2.symm)) (all4 (lt _) (lt _) (lt _) (lt _)) (hL.trans (by omega)) rfl (vl rfl) (vl k1) (vl k2) (vl k3)
 . have k3 : e / ring = a / ring + 1 := Nat.le_antisymm m4 (Nat.lt_of_le_of_ne (ntr m1 (ntr m2 m3)) (Ne.symm k3))
   have w := wrap k3
   by_cases k2 : c / ring = a / ring
   . have k1 := Nat.le_antisymm (k2 ▸ m2) m1
     rw [k1, k2, k3] at hL
     exact place_end hs hp (a / ring) 1 (rot _ _ _ _) w (mono o1 k1) (mono o2 (k2.trans k1.symm)) (all4 (lt _) (lt _) (lt _) (lt _)) (hL.trans (by omega)) rfl (vl rfl) (vl k1) (vl k2) (vl k3)
   . have k2 : c / ring = a / ring + 1 := Nat.le_antisymm (k3 ▸ m3) (Nat.lt_of_le_of_ne (ntr m1 m2) (Ne.symm k2))
     by_cases k1 : b / ring = a / ring
     . rw [k1, k2, k3] at hL
       exact place_end hs hp (a / ring) 2 ((rot _ _ _ _).trans (rot _ _ _ _)) (mono o3 (k3.trans k2.symm)) w (mono o1 k1) (all4 (lt _) (lt _) (lt _) (lt _)) (hL.trans (by omega)) rfl (vl rfl) (vl k1) (vl k2) (vl k3)
     . have k1 : b / ring = a / ring + 1 := Nat.le_antisymm (k2 ▸ m2) (Nat.lt_of_le_of_ne m1 (Ne.symm k1))
       rw [k1, k2, k3] at hL
       exact place_end hs hp (a / ring) 3 ((rot _ _ _ _).trans ((rot _ _ _ _).trans (rot _ _ _ _))) (mono o2 (k2.trans k1.symm)) (mono o3 (k3.trans k2.symm)) w (all4 (lt _) (lt _) (lt _) (lt _)) (hL.trans (by omega)) rfl (vl rfl) (vl k1) (vl k2) (vl k3)
set_option maxHeartbeats 2000000
section
section
variable {B : Base} {d : Nat} {H : AH}
noncomputable abbrev f10 : Stmt := ((stBody (topSt kLaw))[10]?).getD (.Pass default)
theorem place_for (F : LawFns B) {scr cel rws scale wys lens : Option PV} {R : Addr} {ns l : List Nat} {ring Lp : Nat} (hR : (R, natsPV ns) ∈ H) (hns : ns.length = 4) (hl : l.length = 4) (hLp : Lp <= 100000) (hnr : ∀ n ∈ ns, n < ring) (hr6 : ring <= 6) (hpl : ∀ p < 4, l.getD p 0 = ns.getD ((Lp + p) % 4) 0 + ring * ((Lp + p) / 4)) {Qn : SQ} {Qf : FQ} : ∀ (n k : Nat) (pl la sp : Option PV), k + n <= 4 ->
   (∀ pl la sp, Qn (stW (F := F) (script_ := scr) (cells_ := cel) (ring_ := some (.int ring)) (rows_ := rws) (scale_ := scale) (ways_ := wys) (lengths_ := lens) (laps_ := some (.int (Lp : Nat))) (rests_ := some (.lref R)) (line_ := some (.list (natsPV l))) (place_ := pl) (lap_ := la) (spot_ := sp)) H) ->
   ForL B fiW (d + 64) (forTgt f10) (forBody f10) [] (arith 1 (k : Nat) n) (stW (F := F) (script_ := scr) (cells_ := cel) (ring_ := some (.int ring)) (rows_ := rws) (scale_ := scale) (ways_ := wys) (lengths_ := lens) (laps_ := some (.int (Lp : Nat))) (rests_ := some (.lref R)) (line_ := some (.list (natsPV l))) (place_ := pl) (lap_ := la) (spot_ := sp)) H Qn Qf := by
 intro n
 induction n with
 | zero => intro k pl la sp hk q; exact ForL_nil (q pl la sp)
 | succ n ih =>
   intro k pl la sp hk q
   have e3 := Nat.succ_add_eq_add_succ k n
   have ih := fun pl la sp => ih (k + 1) pl la sp (e3 ▸ hk) q
   have hk4 : k < 4 := nlt (Nat.lt_add_of_pos_right (Nat.succ_pos n)) hk
   have hm : (Lp + k) % 4 < ns.length := by rw [hns]; exact Nat.mod_lt _ (by decide)
   have hb : Builtin.Int.intBits ((Lp + k : Nat) : Int) <= 64 := intBits_le_64 (by omega) (by omega)
   refine ForL_cons ?_
   show Asg B _ (d + 64) NoE (forTgt f10) (.int (k : Nat)) _ _ _
   refine' Asg_N ?_
   walk_at "w"
   refine' Xs_cons' ?_
   walk_at "w"
   refine ⟨KeepsV_FnIs F.I.hm, ?_⟩
   walk_at "w"
   refine im_call F.I (a := ((Lp + k : Nat) : Int)) (by decide) (by decide) (ntr hb (by decide)) ?_
   rw [show (((Lp + k : Nat) : Int).fdiv 4) = (((Lp + k) / 4 : Nat) : Int) from div_nat _ 4, mod4]
   walk_at "w"
   refine ⟨SubAt_items .list, ?_⟩
   refine Get_nats (line := l) .list (hl ▸ hk4) (hl ▸ by decide) ?_
   walk_at "w"
   refine ⟨SubAt_items (.lref hR), ?_⟩
   refine Get_nats (.lref hR) hm (hns ▸ by decide) ?_
   walk_at "w"
   refine Bin_mul (mul_sm (Nat.lt_of_le_of_lt hr6 (by decide))) ?_
   walk_at "w"
   have e2 : ((l.getD k 0 : Nat) : Int) = ((ns.getD ((Lp + k) % 4) 0 : Nat) : Int) + (ring : Int) * (((Lp + k) / 4 : Nat) : Int) := congrArg Int.ofNat (hpl k hk4)
   rw [e2, bne_self_eq_false]
   walk_at "w"
   exact ⟨(fun p hp => nomatch hp), ih _ _ _⟩
theorem law_s10 (F : LawFns B) {scr cel rws scale wys lens : PV} {R : Addr} {ns l : List Nat} {ring Lp : Nat} (hR : (R, natsPV ns) ∈ H) (hns : ns.length = 4) (hl : l.length = 4) (hLp : Lp <= 100000) (hnr : ∀ n ∈ ns, n < ring) (hr6 : ring <= 6) (hpl : ∀ p < 4, l.getD p 0 = ns.getD ((Lp + p) % 4) 0 + ring * ((Lp + p) / 4)) {Q : PQ}
   (h : XsF B fiW (d + 64) (bodyW 11) (stW (F := F) (script_ := some scr) (ways_ := some wys) (scale_ := some scale) (lengths_ := some lens) (rests_ := some (.lref R)) (line_ := some (.list (natsPV l)))) H (fun O H' => Q .none H') (PX Q)) :
   XsF B fiW (d + 64) (bodyW 10) (stW (F := F) (script_ := some scr) (cells_ := some cel) (ring_ := some (.int ring)) (rows_ := some rws) (scale_ := some scale) (ways_ := some wys) (lengths_ := some lens) (laps_ := some (.int (Lp : Nat))) (rests_ := some (.lref R)) (line_ := some (.list (natsPV l)))) H (fun O H' => Q .none H') (PX Q) := by
 refine XsF_cons ?_
 walk_at "w"
 refine ⟨KeepsV_type, ?_⟩
 walk_at "w"
 refine CallI_range1 (by decide) (by decide) ?_
 refine place_for F hR hns hl hLp hnr hr6 hpl 4 0 none none none (Nat.le_refl 4) fun pl la sp => ?_
 exact h.wk (by walk_at "k")
end
end
theorem ins_step {α : Type} {xs : List α} {i : Nat} {y : α} (h : xs[i]? = some y) : insAt xs i y = insAt xs (i + 1) y := by
 obtain ⟨hi, hy⟩ := List.getElem?_eq_some_iff.mp h
 unfold insAt
 rw [List.drop_eq_getElem_cons hi, hy, List.take_succ_eq_append_getElem hi, hy]
 simp
theorem ins_upto {α : Type} {xs : List α} {y : α} {i j : Nat} (h : i <= j) (hy : ∀ m, i <= m -> m < j -> xs[m]? = some y) : insAt xs i y = insAt xs j y := by
 induction h with
 | refl => rfl
 | step h ih => exact (ih fun m a b => hy m a (Nat.lt_succ_of_lt b)).trans (ins_step (hy _ h (Nat.lt_succ_self _)))
theorem clp_mono {a b lo hi : Nat} (h : a <= b) : clp a lo hi <= clp b lo hi := Nat.max_le.mpr ⟨Nat.le_max_left _ _, ntr (Nat.le_min.mpr ⟨ntr (Nat.min_le_left _ _) h, Nat.min_le_right _ _⟩) (Nat.le_max_right _ _)⟩
theorem clp_in {a b lo hi m : Nat} (hl : lo <= hi) (h1 : clp a lo hi <= m) (h2 : m < clp b lo hi) : a <= m /\ m < b /\ m < hi := by
 obtain ⟨l1, l2⟩ := Nat.max_le.mp h1
 obtain ⟨h4, h5⟩ := Nat.lt_min.mp (Nat.lt_of_not_le fun q => nlr (Nat.max_le.mpr ⟨l1, q⟩) h2)
 exact ⟨Nat.le_of_not_lt fun q => nlr l2 (Nat.lt_min.mpr ⟨q, h5⟩), h4, h5⟩
theorem ins_is {α : Type} {xs : List α} {i : Nat} {y : α} : insAt xs i y = xs.take i ++ [y] ++ xs.drop i := (List.append_assoc (xs.take i) [y] (xs.drop i)).symm
theorem place_eq {li : List Int} {y : Int} (hs : li.Pairwise (· <= ·)) (left : Bool) {low high : Nat} (hlh : low <= high) (hh : high <= li.length) :
   insAt li (placeOf left li y low high) y = li.take (clp (cntLt li y) low high) ++ [y] ++ li.drop (clp (cntLt li y) low high) := by
 rw [<- ins_is]
 cases left with
 | true => rfl
 | false =>
   refine (ins_upto (clp_mono (cnt_le li y)) fun m h1 h2 => ?_).symm
   obtain ⟨h3, h4, h5⟩ := clp_in hlh h1 h2
   have e := List.getElem?_eq_getElem (nlt h5 hh)
   have g3 := of_decide_eq_false ((filt_lt hs m _ e).trans (decide_eq_false (nlr h3)))
   have g4 := of_decide_eq_true ((filt_le hs m _ e).trans (decide_eq_true h4))
   rw [e, Int.le_antisymm g4 (Int.not_lt.mp g3)]
section
variable {B : Base} {d : Nat} {H : AH}
theorem Xs.drop {b : List Stmt} {σ : St} {fi : FnInfo} {E : EP} {e : Addr × List PV} {Qn : SQ} {Qf : FQ} (h : Xs B fi d E b σ H Qn Qf) : Xs B fi d E b σ (e :: H) Qn Qf := fun A s env eo R I F => by
 have t : Tr B noU (e :: H) s H s := (Tr.refl I).drop_key
 exact wpAny_mono (h A s env eo R t.inv (F.tr I t)) (fun fl s' hh1 => by obtain ⟨σ', H', t', F', q⟩ := hh1; exact ⟨σ', H', t.up.trans t', F', q⟩) fun O O x => x
noncomputable abbrev f11 : Stmt := ((stBody (topSt kLaw))[11]?).getD (.Pass default)
noncomputable abbrev f11i : Stmt := ((forBody f11)[3]?).getD (.Pass default)
theorem clp_int {c lo hi : Nat} (h : lo <= hi) : min (max (c : Int) (lo : Int)) (hi : Int) = ((clp c lo hi : Nat) : Int) := by
 unfold clp
 by_cases h1 : c <= lo
 . rw [Int.max_eq_right (Int.ofNat_le.mpr h1), Int.min_eq_left (Int.ofNat_le.mpr h), Nat.max_eq_left (ntr (Nat.min_le_left _ _) h1)]
 . have h1 := Nat.le_of_not_le h1
   rw [Int.max_eq_left (Int.ofNat_le.mpr h1)]
   by_cases h2 : c <= hi
   . rw [Int.min_eq_left (Int.ofNat_le.mpr h2), Nat.min_eq_left h2, Nat.max_eq_right h1]
   . have h2 := Nat.le_of_not_le h2
     rw [Int.min_eq_right (Int.ofNat_le.mpr h2), Nat.min_eq_right h2, Nat.max_eq_right h]
set_option maxHeartbeats 2000000 in
theorem seek_one (F : LawFns B) {scr wys scale lens rsts fi be : Option PV} {li : List Int} {y : Int} {low high : Nat} {left : Int} (hs : li.Pairwise (· <= ·)) (hl : li.length = 4) (hlh : low <= high) (hh : high <= 4) {Qn : SQ} {Qf : FQ}
   (q : ∀ fi be, Qn (stW (F := F) (script_ := scr) (ways_ := wys) (scale_ := scale) (lengths_ := lens) (rests_ := rsts) (line_ := some (.list (intsPV li))) (sought_ := some (.int y)) (less_ := some (.int ((cntLt li y : Nat) : Int))) (upto_ := some (.int ((cntLe li y : Nat) : Int))) (low_ := some (.int (low : Nat))) (high_ := some (.int (high : Nat))) (left_ := some (.int left)) (first_ := fi) (behind_ := be)) H) :
   Xs B fiW (d + 64) NoE (forBody f11i) (stW (F := F) (script_ := scr) (ways_ := wys) (scale_ := scale) (lengths_ := lens) (rests_ := rsts) (line_ := some (.list (intsPV li))) (sought_ := some (.int y)) (less_ := some (.int ((cntLt li y : Nat) : Int))) (upto_ := some (.int ((cntLe li y : Nat) : Int))) (low_ := some (.int (low : Nat))) (high_ := some (.int (high : Nat))) (left_ := some (.int left)) (first_ := fi) (behind_ := be)) H Qn Qf := by
 have hli : (intsPV li).length = 4 := (List.length_map ..).trans hl
 refine' Xs_cons' ?_
 refine X_Swap2 (Str.ofString "first") (Str.ofString "behind") (by kernel_rfl) ?_
 walk_at "w"
 refine ⟨KeepsV_builtin, ?_⟩
 walk_at "w"
 refine ⟨KeepsV_builtin, ?_⟩
 walk_at "w"
 refine Call_max2 ?_
 walk_at "w"
 refine Call_min2 ?_
 walk_at "w"
 refine ⟨KeepsV_builtin, ?_⟩
 walk_at "w"
 refine ⟨KeepsV_builtin, ?_⟩
 walk_at "w"
 refine Call_max2 ?_
 walk_at "w"
 refine Call_min2 ?_
 rw [clp_int hlh, clp_int hlh]
 walk_at "w"
 walk_at "w"
 refine Ev_ListF ?_
 walk_at "w"
 refine ⟨KeepsV_FnIs F.Y.hbl, ?_⟩
 walk_at "w"
 refine bisL_call4 (d := d + 63) F.Y.hbl F.Y.D3 F.Y.gV F.Y.gln (.list (xs := intsPV li)) (.inr ⟨rfl, hli ▸ hh⟩) (hli ▸ by decide) (bisL_ints hs) ?_
 walk_at "w"
 refine ⟨KeepsV_FnIs F.Y.hbr, ?_⟩
 walk_at "w"
 refine bisR_call4 (d := d + 63) F.Y.hbr F.Y.D4 F.Y.gV F.Y.gln (.list (xs := intsPV li)) (.inr ⟨rfl, hli ▸ hh⟩) (hli ▸ by decide) (bisR_ints hs) ?_
 walk_at "w"
 refine Ev_ListF ?_
 walk_at "w"
 refine Cmp_neI (ns := [((clp (cntLt li y) low high : Nat) : Int), ((clp (cntLe li y) low high : Nat) : Int)]) (ms := [((clp (cntLt li y) low high : Nat) : Int), ((clp (cntLe li y) low high : Nat) : Int)]) .list .list ?_
 rw [decide_eq_true rfl]
 walk_at "w"
 refine ⟨KeepsV_FnIs F.hd, ?_⟩
 walk_at "w"
 refine ⟨KeepsV_type, ?_⟩
 walk_at "w"
 refine Call_list (.inr .list) (hli ▸ bl rfl) (.inr fun A => ?_)
 walk_at "w"
 refine laid_call F.Y (d := d + 59) (xs := li) (lo := low) (hi := high) (H' := (A, intsPV (insAt li (placeOf (left != 0) li y low high) y)) :: H) F.hd (.head _) hs (.inr ⟨rfl, hl ▸ hh⟩) hlh (hl ▸ by decide) ?_ ?_
 . rw [ins_map]; exact .head
 rw [place_eq hs _ hlh (hl ▸ hh)]
 generalize clp (cntLt li y) low high = fx at *
 have ht : (List.take fx (intsPV li)).length <= 4 := hli ▸ List.length_take_le' ..
 walk_at "w"
 refine ⟨SubAt_items .list, ?_⟩
 refine Sl_hi fx .list (hli ▸ bl rfl) (.inl ?_)
 walk_at "w"
 refine Ev_ListF ?_
 walk_at "w"
 refine Bin_addL .list .list (ntr (Nat.add_le_add_right ht 1) (bl rfl)) (.inl ?_)
 walk_at "w"
 refine ⟨SubAt_items .list, ?_⟩
 refine Sl_lo fx .list (hli ▸ bl rfl) (.inl ?_)
 refine Bin_addL .list .list (by rw [List.length_append, List.length_drop, hli]; exact ntr (Nat.add_le_add (Nat.add_le_add_right ht 1) (Nat.sub_le _ _)) (bl rfl)) (.inl ?_)
 refine Cmp_neI (ns := li.take fx ++ [y] ++ li.drop fx) (ms := li.take fx ++ [y] ++ li.drop fx) (.lref (.head _)) (by rw [intsPV, <- List.map_take, <- List.map_drop, List.map_append, List.map_append]; exact .list) ?_
 rw [decide_eq_true rfl]
 refine' Tru_bool ?_
 refine' ite_nt ?_
 refine Xs.drop (Xs_nil ?_)
 refine Xs_nil ?_
 exact q _ _
end
section
variable {B : Base} {d : Nat} {E : EP} {H : AH}
theorem tup_isTuple {h : Heap} {l : Addr} {vs : Array Value} {n : Nat} (e : h.get? l = some (tupObj vs n)) : h.IsTuple l vs := ⟨_, e, rfl, n, rfl⟩
theorem tit_loose {h : Heap} {it l : Addr} {i : Nat} (x : h.IsTupleIter it l i) : ∀ o, h.get? it = some o -> Loose o := by
 obtain ⟨o', ho', hc, hd⟩ := x
 intro o ho
 rw [ho'] at ho; cases ho
 refine ⟨fun ⟨vs, n, q⟩ => (by rw [hd] at q; cases q), fun vs q t e => ?_⟩
 rw [hd] at e; cases e; simp
inductive JU (B : Base) (it l : Addr) (items : List PV) (H : AH) (s : Shared) : Prop
 | mk (vs : Array Value) (n i : Nat) (a : s.heap.IsTupleIter it l i) (b : s.heap.get? l = some (tupObj vs n)) (c : VRs (Trk B H) s.heap (vs.toList.drop i) items) (d : ¬ Trk B H l) (e : B.g.objs.size <= it) (f : ¬ Trk B H it)
theorem iter_nextU {it l : Addr} {vs : Array Value} {n i : Nat} {items : List PV} {J : List PV -> AH -> Shared -> Prop} {tgt : Expr} {A : Around} {s : Shared} (R : Room A 3) (I : Inv B H s)
   (hit : s.heap.IsTupleIter it l i) (hl : s.heap.get? l = some (tupObj vs n)) (hv : VRs (Trk B H) s.heap (vs.toList.drop i) items) (hg : B.g.objs.size <= it) (ht : ¬ Trk B H it)
   (hJ : ∀ x xs s', items = x :: xs -> s'.heap.IsTupleIter it l (i + 1) -> Only B (· = it) (fun O => False) H s s' -> J xs H s') :
   wpAny (model B.prog B.w) A (pyNext (.ref it)) (fun r s₁ => match items with
     | [] => r = none /\ Only B (· = it) (fun O => False) H s s₁
     | x :: xs => ∃ v, r = some v /\ wpAny (model B.prog B.w) A (letOwnedTupleGo tgt (.ref it) v) (fun O s₂ => Only B (· = it) (fun O => False) H s s₂ /\ VR (Trk B H) s₂.heap v x /\ J xs H s₂) NoE s₁) NoE s := by
 have hLo := tit_loose hit
 have mk : ∀ (h' : Heap), (∀ a o, s.heap.get? a = some o -> a ≠ it -> h'.get? a = some o) -> s.heap.objs.size <= h'.objs.size -> Only B (· = it) (fun O => False) H s { s with heap := h' } := fun h' hk hz =>
   Only.make I (fun a o e hp => hk a o e hp) hz (fun p hp => by subst hp; exact ⟨hg, ht⟩) (fun p hp o ho => by subst hp; exact hLo o ho) (fun O O e O => e) (Nat.le_refl _) I.bare rfl
 cases items with
 | nil =>
   have hnil := hv.isnil
   have hx : vs[i]? = none := by
     rw [<- Array.getElem?_toList]
     exact List.getElem?_eq_none (List.drop_eq_nil_iff.mp hnil)
   exact wpAny_grow (wpAny_pyNext_tuple_end R.handled hit (tup_isTuple hl) hx fun h' hx' hz => ⟨rfl, mk h' (fun a o e hne => hx' a o hne e) hz⟩)
 | cons x xs =>
   obtain ⟨v, ws, hd, hr, hrs⟩ := hv.head
   have hx : vs[i]? = some v := by
     rw [<- Array.getElem?_toList]
     have := congrArg (fun l => l[0]?) hd
     simpa using this
   refine wpAny_pyNext_tuple_item hit (tup_isTuple hl) hx fun h' hit' hs' => ⟨v, rfl, ?_⟩
   have o := mk h' (fun a o e hne => (hs'.2 a hne).trans e) (by rw [hs'.1]; exact Nat.le_refl _)
   obtain ⟨ob, ho, hc, O⟩ := id hit'
   refine letGo_plain ho hc rfl ⟨o, hr.mono (fun a ob e q O => o.heap a ob e fun eq => (hLo ob (eq ▸ e)).1 q) fun O O t => t, hJ x xs _ rfl hit' o⟩
theorem tit_at {P : Addr -> Prop} {G : Nat -> Prop} {deps H' : AH} {s s' : Shared} (e : Evo B P G deps H s H' s') {it l : Addr} {i : Nat} (hp : P it) (x : s.heap.IsTupleIter it l i) : s'.heap.IsTupleIter it l i := by
 obtain ⟨o, ho, r⟩ := x; exact ⟨o, e.own _ _ ho hp, r⟩
theorem tit_lt {s : Shared} {it l : Addr} {i : Nat} (x : s.heap.IsTupleIter it l i) : it < s.heap.objs.size := by
 obtain ⟨o, ho, O⟩ := x; exact Heap.lt_size ho
theorem Iter_JU (tgt : Expr) (it l : Addr) : Iter B [] tgt (.ref it) (· = it) (fun O => False) (JU B it l) where
 self := fun items H s A E Q j q => by
   obtain ⟨vs, n, i, hit, O, O, O, O, O⟩ := j
   exact wpAny_pyIter_tupleiter hit q
 notseq := fun items H s j p hp o ho => by
   obtain ⟨vs, n, i, hit, O, O, O, O, O⟩ := j
   subst hp; exact (tit_loose hit o ho).1
 stable := fun items H s H' s' ⟨vs, n, i, hit, hl, hv, hn, hg, ht⟩ e =>
   ⟨vs, n, i, tit_at e rfl hit, e.seq _ _ hl ⟨_, _, rfl⟩ hn, e.vrs hv, e.trk (Heap.lt_size hl) hn, hg, e.trk (tit_lt hit) ht⟩
 next := fun items H s A ⟨vs, n, i, hit, hl, hv, hn, hg, ht⟩ R I => by
   refine iter_nextU R I hit hl hv hg ht fun x xs s' hi hit' o => ?_
   subst hi
   obtain ⟨v, ws, hd, hr, hrs⟩ := hv.head
   refine ⟨vs, n, i + 1, hit', o.heap _ _ hl fun eq => (tit_loose hit _ (eq ▸ hl)).1 ⟨_, _, rfl⟩, ?_, hn, hg, ht⟩
   have : vs.toList.drop (i + 1) = ws := by rw [<- List.drop_drop, hd]; rfl
   rw [this]
   exact hrs.mono (fun a ob e q O => o.heap a ob e fun eq => (tit_loose hit ob (eq ▸ e)).1 q) fun O O t => t
theorem tit_new {s : Shared} {l : Addr} : ({ s with heap := s.heap.push { cls := .type "tuple_iterator", data := .fields #[.ref l, .int 0 0] } } : Shared).heap.IsTupleIter s.heap.objs.size l 0 :=
 ⟨_, Heap.get?_push_size _ rfl, rfl, rfl⟩
theorem IterV_tup {tgt : Expr} {xs : List PV} {Q : IQ} (h : Q xs [] H) : IterV B d E tgt (.tup xs) H Q := fun A s R I va r => by
 cases r with
 | tup ho hn hs =>
   rename_i a vs n
   refine wpAny_pyIter_tuple (tup_isTuple ho) ?_
   have t := Tr.push I { cls := .type "tuple_iterator", data := .fields #[.ref a, .int 0 0] }
   exact MadeO.made ⟨xs, [], H, _, _, _, t, Iter_JU tgt s.heap.objs.size a, ⟨vs, n, 0, tit_new, Heap.get?_push_of_some _ ho, hs.tr t, hn, I.size, not_trk_size I⟩,
     fun p hp => by subst hp; exact ⟨Nat.le_refl _, size_push_lt, not_trk_size I⟩, fun _ f => f.elim, (fun _ hm => nomatch hm), h⟩
end
section
variable {B : Base} {d : Nat} {H : AH}
noncomputable def ltP (y : Int) : PV -> Bool
 | .int i => decide (i < y)
 | _ => false
noncomputable def leP (y : Int) : PV -> Bool
 | .int i => decide (i <= y)
 | _ => false
theorem lt_map (li : List Int) (y : Int) : (([] : List PV) ++ ((intsPV li).filter (ltP y)).map id).length = cntLt li y := by
 rw [List.nil_append, List.map_id, intsPV, List.filter_map, List.length_map]; exact List.countP_eq_length_filter.symm
theorem le_map (li : List Int) (y : Int) : (([] : List PV) ++ ((intsPV li).filter (leP y)).map id).length = cntLe li y := by
 rw [List.nil_append, List.map_id, intsPV, List.filter_map, List.length_map]; exact List.countP_eq_length_filter.symm
noncomputable abbrev stSk (y : PV) : Option PV -> St := fun o => [(Str.ofString ".0", .local, none), (Str.ofString "many", .local, o), (Str.ofString "sought", .cell, some y)]
theorem seek_for (F : LawFns B) {scr wys scale lens rsts : Option PV} {li : List Int} {y : Int} (hs : li.Pairwise (· <= ·)) (hl : li.length = 4) {Qn : SQ} {Qf : FQ} : ∀ (ts : List (Nat × Nat × Int)) (lo hi lf fi be : Option PV), (∀ t ∈ ts, t.1 <= t.2.1 /\ t.2.1 <= 4) ->
   (∀ lo hi lf fi be, Qn (stW (F := F) (script_ := scr) (ways_ := wys) (scale_ := scale) (lengths_ := lens) (rests_ := rsts) (line_ := some (.list (intsPV li))) (sought_ := some (.int y)) (less_ := some (.int ((cntLt li y : Nat) : Int))) (upto_ := some (.int ((cntLe li y : Nat) : Int))) (low_ := lo) (high_ := hi) (left_ := lf) (first_ := fi) (behind_ := be)) H) ->
   ForL B fiW (d + 64) (forTgt f11i) (forBody f11i) [] (ts.map fun t => PV.tup [.int (t.1 : Nat), .int (t.2.1 : Nat), .int t.2.2]) (stW (F := F) (script_ := scr) (ways_ := wys) (scale_ := scale) (lengths_ := lens) (rests_ := rsts) (line_ := some (.list (intsPV li))) (sought_ := some (.int y)) (less_ := some (.int ((cntLt li y : Nat) : Int))) (upto_ := some (.int ((cntLe li y : Nat) : Int))) (low_ := lo) (high_ := hi) (left_ := lf) (first_ := fi) (behind_ := be)) H Qn Qf := by
 intro ts
 induction ts with
 | nil => intro lo hi lf fi be ht q; exact ForL_nil (q lo hi lf fi be)
 | cons t ts ih =>
   intro lo hi lf fi be ht q
   obtain ⟨l, h, f⟩ := t
   refine ForL_cons ?_
   obtain ⟨h1, h2⟩ := ht _ mcs
   have ih := fun lo hi lf fi be => ih lo hi lf fi be (fun t h => ht t (mcm _ h)) q
   show Asg B _ (d + 64) NoE (forTgt f11i) (.tup [.int (l : Nat), .int (h : Nat), .int f]) _ _ _
   refine Asg_T rfl rfl ?_
   have fin := fun Qn' Qf' fi be q => seek_one F (d := d) (H := H) (scr := scr) (wys := wys) (scale := scale) (lens := lens) (rsts := rsts) (fi := fi) (be := be) (li := li) (y := y) (low := l) (high := h) (left := f) hs hl h1 h2 (Qn := Qn') (Qf := Qf') q
   repeat first | exact fin _ _ _ _ fun fi be => ⟨(fun p hp => nomatch hp), ih _ _ _ fi be⟩ | walk_at "mw"
set_option maxHeartbeats 2000000 in
theorem seek_two (F : LawFns B) {scr wys scale lens rsts le up lo hi lf fi be : Option PV} {li : List Int} {y : Int} (hs : li.Pairwise (· <= ·)) (hl : li.length = 4) {Qn : SQ} {Qf : FQ}
   (q : ∀ le up lo hi lf fi be, Qn (stW (F := F) (script_ := scr) (ways_ := wys) (scale_ := scale) (lengths_ := lens) (rests_ := rsts) (line_ := some (.list (intsPV li))) (sought_ := some (.int y)) (less_ := le) (upto_ := up) (low_ := lo) (high_ := hi) (left_ := lf) (first_ := fi) (behind_ := be)) H) :
   Xs B fiW (d + 64) NoE (forBody f11) (stW (F := F) (script_ := scr) (ways_ := wys) (scale_ := scale) (lengths_ := lens) (rests_ := rsts) (line_ := some (.list (intsPV li))) (sought_ := some (.int y)) (less_ := le) (upto_ := up) (low_ := lo) (high_ := hi) (left_ := lf) (first_ := fi) (behind_ := be)) H Qn Qf := by
 have hli : (intsPV li).length = 4 := (List.length_map ..).trans hl
 have hc1 : cntLt li y < 2 ^ 60 := Nat.lt_of_le_of_lt (cntLt_le li y) (hl ▸ by decide)
 have hc2 : cntLe li y < 2 ^ 60 := Nat.lt_of_le_of_lt (cntLe_le li y) (hl ▸ by decide)
 refine' Xs_cons' ?_
 walk_at "w"
 refine ⟨KeepsV_builtin, ?_⟩
 walk_at "w"
 refine Ev_ListCompF (stSk (.int y) none) (.loc (.loc (.capC (by walk_at "mm") .nil))) ?_ (by decide +kernel) (by rfl) (by rfl) (by intro _ _; rfl) (dk rfl)
 refine EvI_of ?_
 walk_at "w"
 refine IterV_list fun D => ?_
 refine CmpL_filter (σt := stSk (.int y)) (f := id) (p := ltP y) ?_ ?_ _ _ none ?_ ?_ ?_ ?_
 . intro x o H K k
   walk_at "w"
   exact k
 . intro p hp; cases hp
 . intro x hx acc K k
   obtain ⟨z, hz', rfl⟩ := mmp hx
   walk_at "w"
   exact k
 . intro x hx acc K k
   walk_at "w"
   exact k
 . rw [List.length_nil, Nat.zero_add, hli]; exact bl rfl
 walk_at "w"
 refine Call_len_list .list (by rw [lt_map]; exact hc1) ?_
 rw [lt_map]
 walk_at "w"
 refine ⟨KeepsV_builtin, ?_⟩
 walk_at "w"
 refine Ev_ListCompF (stSk (.int y) none) (.loc (.loc (.capC (by walk_at "mm") .nil))) ?_ (by decide +kernel) (by rfl) (by rfl) (by intro _ _; rfl) (dk rfl)
 refine EvI_of ?_
 walk_at "w"
 refine IterV_list fun D => ?_
 refine CmpL_filter (σt := stSk (.int y)) (f := id) (p := leP y) ?_ ?_ _ _ none ?_ ?_ ?_ ?_
 . intro x o H K k
   walk_at "w"
   exact k
 . intro p hp; cases hp
 . intro x hx acc K k
   obtain ⟨z, hz', rfl⟩ := mmp hx
   walk_at "w"
   exact k
 . intro x hx acc K k
   walk_at "w"
   exact k
 . rw [List.length_nil, Nat.zero_add, hli]; exact bl rfl
 walk_at "w"
 refine Call_len_list .list (by rw [le_map]; exact hc2) ?_
 rw [le_map]
 walk_at "w"
 refine Ev_ListF ?_
 walk_at "w"
 refine ⟨KeepsV_FnIs F.Y.hbl, ?_⟩
 walk_at "w"
 refine bisL_call2 (d := d + 63) F.Y.hbl F.Y.D3 F.Y.gV F.Y.gln (.list (xs := intsPV li)) (hli ▸ by decide) (bisL_ints hs) ?_
 rw [List.length_map, clp_all (cntLt_le li y)]
 walk_at "w"
 refine ⟨KeepsV_FnIs F.Y.hbr, ?_⟩
 walk_at "w"
 refine bisR_call2 (d := d + 63) F.Y.hbr F.Y.D4 F.Y.gV F.Y.gln (.list (xs := intsPV li)) (hli ▸ by decide) (bisR_ints hs) ?_
 rw [List.length_map, clp_all (cntLe_le li y)]
 walk_at "w"
 refine Ev_ListF ?_
 walk_at "w"
 refine Cmp_neI (ns := [((cntLt li y : Nat) : Int), ((cntLe li y : Nat) : Int)]) (ms := [((cntLt li y : Nat) : Int), ((cntLe li y : Nat) : Int)]) .list .list ?_
 rw [decide_eq_true rfl]
 walk_at "w"
 refine EvI_of ?_
 walk_at "w"
 refine IterV_tup ?_
 refine seek_for F hs hl [(3, 4, 0), (0, 1, 0), (3, 4, 1), (0, 1, 1)] lo hi lf fi be (by decide) fun lo hi lf fi be => ?_
 refine Xs_nil ?_
 exact q _ _ lo hi lf fi be
theorem law_s11 (F : LawFns B) {sl : List Int} (hsl : sl.length <= 63) {wys scale rsts : PV} {l li : List Nat} {S : Int} (hS : S = (sl.take 60).sum) (hs : (li.map Int.ofNat).Pairwise (· <= ·)) (hl : li.length = 4) (hl0 : 0 < l.length) (hl60 : l.length < 2 ^ 60) {Q : PQ}
   (h : XsF B fiW (d + 64) (bodyW 12) (stW (F := F) (script_ := some (.list (intsPV sl))) (ways_ := some wys) (scale_ := some scale) (rests_ := some rsts)) H (fun O H' => Q .none H') (PX Q)) :
   XsF B fiW (d + 64) (bodyW 11) (stW (F := F) (script_ := some (.list (intsPV sl))) (ways_ := some wys) (scale_ := some scale) (lengths_ := some (.list (natsPV l))) (rests_ := some rsts) (line_ := some (.list (natsPV li)))) H (fun O H' => Q .none H') (PX Q) := by
 rw [show natsPV li = intsPV (li.map Int.ofNat) from natsPV_ints li]
 refine XsF_cons ?_
 walk_at "w"
 refine EvI_of ?_
 walk_at "w"
 refine ⟨SubAt_items .list, ?_⟩
 refine Get_nats (line := l) (j := 0) .list hl0 hl60 ?_
 walk_at "w"
 refine ⟨KeepsV_builtin, ?_⟩
 walk_at "w"
 refine ⟨SubAt_items .list, ?_⟩
 refine Sl_hi 60 .list (by rw [List.length_map]; exact ntr hsl (bl rfl)) (.inl ?_)
 rw [<- List.map_take]
 refine Call_sum (ns := sl.take 60) .list ?_
 rw [<- hS]
 walk_at "w"
 refine IterV_tup ?_
 refine ForL_cons ?_
 refine' Asg_N ?_
 refine Put_C (by walk_at "m_rep") ?_ rfl
 refine seek_two F hs (by rw [List.length_map]; exact hl) fun le up lo hi lf fi be => ⟨(fun p hp => nomatch hp), ?_⟩
 refine ForL_cons ?_
 refine' Asg_N ?_
 refine Put_C (by walk_at "m_rep") ?_ rfl
 refine seek_two F hs (by rw [List.length_map]; exact hl) fun le up lo hi lf fi be => ⟨(fun p hp => nomatch hp), ?_⟩
 refine ForL_nil ?_
 exact h.wk (by walk_at "k")
end
section
variable {B : Base} {fi : FnInfo} {d : Nat} {E : EP} {σ : St} {H : AH}
theorem Ev_One {op : BoolOp} {e : Expr} {pos : Pos} {Q : PQ} (h : Ev B fi d E e σ H Q) : Ev B fi d E (.BoolOp op [e] pos) σ H Q := fun A s env eo R I F => BoolOp_one (h A s env eo R I F)
theorem Ev_And {e₁ e₂ : Expr} {rest : List Expr} {pos : Pos} {Q : PQ}
   (h : Ev B fi d E e₁ σ H fun v H₁ => Tru B d E v H₁ fun c H₂ => if c = true then Ev B fi d E (.BoolOp .And (e₂ :: rest) pos) σ H₂ Q else Q v H₂) : Ev B fi d E (.BoolOp .And (e₁ :: e₂ :: rest) pos) σ H Q := fun A s env eo R I F => by
 refine BoolOp_and (wpAny_mono (h A s env eo R I F) (fun va s₁ hh1 => ?_) fun O O x => x)
 obtain ⟨v, H₁, t₁, r₁, h₁⟩ := hh1
 refine wpAny_mono (h₁ A s₁ R t₁.inv va r₁) (fun c s₂ hh1 => ?_) fun O O x => x
 obtain ⟨H₂, t₂, h₂⟩ := hh1
 cases c with
 | true =>
   rw [if_pos rfl] at h₂ ⊢
   exact wpAny_mono (h₂ A s₂ env eo R t₂.inv (F.tr I (t₁.trans t₂))) (fun O O p => EvPost.trans (t₁.trans t₂) p) fun O O x => x
 | false =>
   rw [if_neg Bool.false_ne_true] at h₂ ⊢
   exact ⟨v, H₂, t₁.trans t₂, r₁.tr t₂, h₂⟩
end
set_option maxHeartbeats 2000000
section
section
variable {B : Base} {d : Nat} {H : AH}
theorem exc_V1 : isSubtype (.type "ValueError") (.type "BaseException") = pure true := PySem.F.excRaise_ValueError.isExc
theorem exc_Z1 : isSubtype (.type "ZeroDivisionError") (.type "BaseException") = pure true := PySem.F.excRaise_ZeroDivisionError.isExc
theorem exc_V2 : isSubtype (.type ((Manifest.find? "ValueError").elim "type" fun x => x.metatype)) (.type "tuple") = pure false := by rw [isSubtype_type]; kernel_rfl
theorem exc_Z2 : isSubtype (.type ((Manifest.find? "ZeroDivisionError").elim "type" fun x => x.metatype)) (.type "tuple") = pure false := by rw [isSubtype_type]; kernel_rfl
noncomputable def LayFns.flat (F : LayFns B) {g : Heap} {hk : ∀ a o, B.g.get? a = some o -> g.get? a = some o} : LayFns (B.flat g hk) :=
 { F with hl := F.hl.flat, hr := F.hr.flat, hbl := F.hbl.flat, hbr := F.hbr.flat, D1 := F.D1.flat, D2 := F.D2.flat, D3 := F.D3.flat, D4 := F.D4.flat, gl := F.gl, gr := F.gr, gbl := F.gbl, gbr := F.gbr, gV := F.gV, gln := F.gln }
theorem law_s12 (F : LawFns B) {scr wys scale : PV} {R : Addr} {rs : List Int} (hR : (R, intsPV rs) ∈ H) (hrs : rs.length <= 100) {Q : PQ}
   (h : ∀ W, XsF B fiW (d + 64) (bodyW 13) (stW (F := F) (script_ := some scr) (ways_ := some wys) (scale_ := some scale) (rests_ := some (.lref R)) (words_ := some (.lref W)) (before_ := some (.list (intsPV rs)))) ((W, []) :: H) (fun O H' => Q .none H') (PX Q)) :
   XsF B fiW (d + 64) (bodyW 12) (stW (F := F) (script_ := some scr) (ways_ := some wys) (scale_ := some scale) (rests_ := some (.lref R))) H (fun O H' => Q .none H') (PX Q) := by
 refine XsF_cons ?_
 refine X_Swap2 (Str.ofString "words") (Str.ofString "before") (by kernel_rfl) ?_
 walk_at "w"
 refine Ev_ListT ?_
 refine EvL_nil fun W => ?_
 walk_at "w"
 refine ⟨KeepsV_type, ?_⟩
 walk_at "w"
 refine Call_list (.inr (.lref (.tail _ hR))) (by rw [List.length_map]; exact ntr hrs (bl rfl)) (.inl ?_)
 walk_at "w"
 walk_at "w"
 exact h W
theorem law_s13 (F : LawFns B) {sl : List Int} (hsl : sl.length <= 63) {ways : Nat} {scale before : PV} {R W : Addr} {rs : List Int} (hR : (R, intsPV rs) ∈ (W, []) :: H) {Q : PQ}
   (h : XsF B fiW (d + 64) (bodyW 14) (stW (F := F) (script_ := some (.list (intsPV sl))) (ways_ := some (.int ways)) (scale_ := some scale) (rests_ := some (.lref R)) (words_ := some (.lref W)) (before_ := some before)) ((W, [.str (Str.ofString "lo must be non-negative")]) :: H) (fun O H' => Q .none H') (PX Q)) :
   XsF B fiW (d + 64) (bodyW 13) (stW (F := F) (script_ := some (.list (intsPV sl))) (ways_ := some (.int ways)) (scale_ := some scale) (rests_ := some (.lref R)) (words_ := some (.lref W)) (before_ := some before)) ((W, []) :: H) (fun O H' => Q .none H') (PX Q) := by
 refine XsF_TryAppend (msg := loMsg) (W := W) (xs := []) PySem.F.excStr_ValueError exc_V1 exc_V2 PySem.F.excCall_ValueError.sub ?_ (by walk_at "mm") (by walk_at "mm") (by walk_at "mm") (by walk_at "mm") (.head) (bl rfl) (by decide) h
 walk_at "w"
 refine ⟨rfl, ⟨_, rfl⟩, KeepsV_FnIs F.hd, ?_⟩
 walk_at "w"
 refine ⟨KeepsV_builtin, ?_⟩
 walk_at "w"
 refine ⟨SubAt_items .list, ?_⟩
 refine Sl_hi 60 .list (by rw [List.length_map]; exact ntr hsl (bl rfl)) (.inl ?_)
 rw [<- List.map_take]
 refine Call_sum (ns := sl.take 60) .list ?_
 walk_at "w"
 refine Bin_fmod (by decide) ?_
 rw [mod3]
 walk_at "w"
 refine Bin_fdiv (by decide) (noPyS (by decide)) ?_
 walk_at "w"
 refine Bin_fmod (by decide) ?_
 walk_at "w"
 refine ⟨rfl, _, .lref hR (.other (.other (.other (.other .nil)))), fun g hk => ?_⟩
 exact laidX (d := d + 61) flat_flat F.Y.flat (by lia) F.hd.flat
theorem law_s14 (F : LawFns B) {scr ways before : PV} {s : Int} {R W : Addr} {xs : List PV} (hx : xs.length <= 10) {Q : PQ}
   (h : XsF B fiW (d + 64) (bodyW 15) (stW (F := F) (script_ := some scr) (ways_ := some ways) (scale_ := some (.int s)) (rests_ := some (.lref R)) (words_ := some (.lref W)) (before_ := some before)) ((W, xs ++ [.str (Str.ofString "")]) :: H) (fun O H' => Q .none H') (PX Q)) :
   XsF B fiW (d + 64) (bodyW 14) (stW (F := F) (script_ := some scr) (ways_ := some ways) (scale_ := some (.int s)) (rests_ := some (.lref R)) (words_ := some (.lref W)) (before_ := some before)) ((W, xs) :: H) (fun O H' => Q .none H') (PX Q) := by
 refine XsF_TryAppend (msg := none) (W := W) (xs := xs) PySem.F.excStr_ZeroDivisionError exc_Z1 exc_Z2 PySem.F.excCall_ZeroDivisionError.sub ?_ (by walk_at "mm") (by walk_at "mm") (by walk_at "mm") (by walk_at "mm") (.head) (ntr hx (by decide)) (by decide) h
 walk_at "w"
 refine ⟨rfl, ⟨_, rfl⟩, KeepsV_FnIs F.I.hm, ?_⟩
 walk_at "w"
 refine ⟨rfl, _, .other (.other .nil), fun g hk => ?_⟩
 exact imX (d := d + 63) flat_flat F.I.hm.flat F.I.gz F.I.gm F.I.gp
theorem law_s15 (F : LawFns B) {scr ways scale : PV} {R W : Addr} {rs : List Int} (hR : (R, intsPV rs) ∈ (W, [PV.str (Str.ofString "lo must be non-negative"), .str (Str.ofString "")]) :: H) {Q : PQ} (q : Q (.bool true) ((W, [PV.str (Str.ofString "lo must be non-negative"), .str (Str.ofString "")]) :: H)) :
   XsF B fiW (d + 64) (bodyW 15) (stW (F := F) (script_ := some scr) (ways_ := some ways) (scale_ := some scale) (rests_ := some (.lref R)) (words_ := some (.lref W)) (before_ := some (.list (intsPV rs)))) ((W, [.str (Str.ofString "lo must be non-negative"), .str (Str.ofString "")]) :: H) (fun O H' => Q .none H') (PX Q) := by
 refine XsF.of ?_
 refine' Xs_cons' ?_
 refine X_Return ?_
 refine Ev_And ?_
 walk_at "w"
 refine Ev_ListF ?_
 walk_at "w"
 have hok : ∀ x ∈ [Str.ofString "lo must be non-negative", Str.ofString ""], PyData.strOk x = true := by decide +kernel
 refine Cmp_eqSs (ns := [Str.ofString "lo must be non-negative", Str.ofString ""]) (ms := [Str.ofString "lo must be non-negative", Str.ofString ""]) (.lref (.head _)) .list hok hok ?_
 rw [decide_eq_true rfl]
 walk_at "w"
 refine Ev_One ?_
 walk_at "w"
 refine Cmp_eqI (ns := rs) (ms := rs) (.lref hR) .list ?_
 rw [decide_eq_true rfl]
 exact q
end
end
section
variable {B : Base} {d : Nat}
theorem scale_bits {S : Int} {n : Nat} (h : Builtin.Int.intBits S <= n) : Builtin.Int.intBits (2 * S + 1) <= n + 2 := by
 rw [intBits_le_iff] at h ⊢
 have h2 : (2 * S + 1).natAbs <= 2 * S.natAbs + 1 := ntr (Int.natAbs_add_le _ _) (by rw [Int.natAbs_mul]; exact Nat.le_refl _)
 rw [Nat.pow_add]
 refine Nat.lt_of_le_of_lt h2 (show _ < 2 ^ n * 4 from ?_)
 omega
theorem fN_le {ring m x : Nat} (hm : m <= 90) (hx : x <= 90) (hr : ring <= 6) : fN ring m x <= 96 := by
 unfold fN
 split
 . exact ntr (Nat.div_le_self _ _) (ntr (Nat.sub_le _ _) (ntr (Nat.sub_le _ _) (ntr hm (by decide))))
 . exact ntr (Nat.div_le_self _ _) (Nat.add_le_add (ntr (Nat.sub_le _ _) hx) (ntr (Nat.sub_le _ _) hr))
noncomputable def QT : PQ := fun v O => v = .bool true
theorem law_rest (F : LawFns B) {sl : List Int} (hsl : sl.length <= 63) (hSb : Builtin.Int.intBits (sl.take 60).sum <= 1100000) {C : Addr} {c0 c1 c2 c3 c4 c5 ring l0 l1 l2 l3 : Nat} (hr3 : 3 <= ring) (hr6 : ring <= 6) (hb : ∀ n ∈ [l0, l1, l2, l3], 1 <= n /\ n <= 90) :
   XsF B fiW (d + 64) (bodyW 3) (stW (F := F) (script_ := some (.list (intsPV sl))) (cells_ := some (.lref C)) (ring_ := some (.int (ring : Nat))) (rows_ := some (rowsV [l0, l1, l2, l3]))) ((C, natsPV [c0, c1, c2, c3, c4, c5]) :: []) (fun O H' => QT .none H') (PX QT) := by
 have hb2 : ∀ n ∈ [l0, l1, l2, l3], n <= 90 := fun n hn => (hb n hn).2
 have g0 := hb2 l0 (.head _)
 have g1 := hb2 l1 (.tail _ (.head _))
 have g2 := hb2 l2 (.tail _ (.tail _ (.head _)))
 have g3 := hb2 l3 (.tail _ (.tail _ (.tail _ (.head _))))
 refine law_s3 F (Q := QT) hsl rfl hSb ?_
 refine law_s4 F (Q := QT) rfl hb hr3 hr6 ?_
 refine law_s5 F (Q := QT) rfl hb2 fun R => ?_
 refine law_s6 F (Q := QT) (by omega) (scale_bits hSb) (by decide) hr3 hr6 (bl rfl) hb2 fun rs hrs hprm => ?_
 have hrl : rs.length = 4 := hprm.length_eq
 refine law_s7 F (Q := QT) (.tail _ (.head _)) hr3 hr6 hb ?_ fun a b c e hD hb' hlaps hperm => ?_
 . rw [turnsL4 hr3 hr6]
   exact ntr (Nat.add_le_add (Nat.add_le_add (fN_le g1 g0 hr6) (Nat.add_le_add (fN_le g2 g0 hr6) (fN_le g2 g1 hr6))) (Nat.add_le_add (fN_le g3 g0 hr6) (Nat.add_le_add (fN_le g3 g1 hr6) (fN_le g3 g2 hr6)))) (by decide)
 have hsorted := zero_falls hr3 hr6 hD
 have hb2' : ∀ n ∈ [a, b, c, e], n <= 90 := fun n hn => (hb' n hn).2
 refine law_s8 F (Q := QT) (turns := .none) (cs := []) rfl hb' hr3 hr6 (goods_sorted hsorted) ?_
 refine law_s9 F (rows := .none) (Q := QT) rfl hb2' ?_
 obtain ⟨ns, hns, hlen, hlt, hpl⟩ := final_place hr3 hr6 hsorted hrs (hprm.trans hperm.symm)
 subst hns
 have dv : ∀ {n}, n <= 90 -> n / ring <= 90 := fun h => ntr (Nat.div_le_self _ _) h
 have hLp : lapsL ring [l0, l1, l2, l3] <= 100000 := ntr (Nat.add_le_add (Nat.add_le_add (Nat.add_le_add (Nat.add_le_add (Nat.le_refl 0) (dv g0)) (dv g1)) (dv g2)) (dv g3)) (by decide)
 rw [hlaps] at hpl
 refine law_s10 F (Q := QT) (R := R) (ns := ns) (l := [a, b, c, e]) (natsPV_ints ns ▸ .head _) hlen rfl hLp hlt hr6 hpl ?_
 refine law_s11 F (Q := QT) hsl rfl ?_ rfl (bl rfl) (bl rfl) ?_
 . show [(a : Int), (b : Int), (c : Int), (e : Int)].Pairwise (· <= ·)
   exact sorted4 (Int.ofNat_le.mpr hsorted.1) (Int.ofNat_le.mpr hsorted.2.1) (Int.ofNat_le.mpr hsorted.2.2.1)
 refine law_s12 F (Q := QT) (rs := ns.map Int.ofNat) (.head _) (by rw [List.length_map, hlen]; decide) fun W => ?_
 refine law_s13 F (Q := QT) hsl (rs := ns.map Int.ofNat) (.tail _ (.head _)) ?_
 refine law_s14 F (Q := QT) (bl rfl) ?_
 refine law_s15 F (Q := QT) (rs := ns.map Int.ofNat) (.tail _ (.head _)) rfl
theorem cell_ok (c : Nat) : 1 <= 1 + c % 9 /\ 1 + c % 9 <= 90 := ⟨Nat.le_add_right _ _, ntr (Nat.add_le_add_left (Nat.le_of_lt (Nat.mod_lt c (by decide))) 1) (by decide)⟩
theorem law_all (F : LawFns B) {sl : List Int} (hsl : sl.length <= 63) (hSb : Builtin.Int.intBits (sl.take 60).sum <= 1100000) :
   XsF B fiW (d + 64) (bodyW 0) (stW (F := F) (script_ := some (.list (intsPV sl)))) [] (fun O H' => QT .none H') (PX QT) := by
 refine law_s0 F (Q := QT) fun C => ?_
 refine law_s1 F (Q := QT) hsl fun cs hcs => ?_
 obtain ⟨c0, r, rfl⟩ := List.exists_cons_of_length_eq_add_one hcs
 obtain ⟨c1, r, rfl⟩ := List.exists_cons_of_length_eq_add_one (Nat.succ.inj hcs)
 obtain ⟨c2, c3, c4, c5, rfl⟩ := len4 (Nat.succ.inj (Nat.succ.inj hcs))
 exact law_s2 F (Q := QT) (law_rest F hsl hSb (Nat.le_add_right _ _) (Nat.add_le_add_left (Nat.le_of_lt_succ (show c4 % 4 < 3 + 1 from Nat.mod_lt c4 (by decide))) 3) (all4 (cell_ok c0) (cell_ok c1) (cell_ok c2) (cell_ok c3)))
end
noncomputable def oAt (K : Frag) (a : Addr) : Obj := (K.lookup a).getD default
noncomputable def oDoc (o : Obj) : Value := match o.data with | .func fd => fd.doc | _ => .none
noncomputable def oPm (o : Obj) : Value := match o.data with | .func fd => fd.pyModule | _ => .none
noncomputable def oAn (o : Obj) : Option Addr := match o.data with | .func fd => fd.annotations | _ => none
noncomputable def oCt (o : Obj) : Value := match o.data with | .func fd => fd.closureTuple | _ => .none
noncomputable def oSeqN (o : Obj) : Nat := match o.data with | .seq _ n => n | _ => 0
noncomputable def oTok0 (o : Obj) : Tok := match o.data with | .seq vs _ => (match vs.getD 0 .none with | .int _ t => t | _ => default) | _ => default
noncomputable def oHash (o : Obj) : Int := match o.data with | .dict es _ => (es.getD 0 default).hash | _ => 0
noncomputable def oKTok (o : Obj) : Tok := match o.data with | .dict es _ => (match (es.getD 0 default).key with | .str _ t => t | _ => default) | _ => default
noncomputable def oDictN (o : Obj) : Nat := match o.data with | .dict _ n => n | _ => 0
noncomputable def FnK (K : Frag) (f : Addr) (name : Str) (k : Nat) (dV kV cdv : Value) : Prop :=
 K.lookup f = some ⟨(oAt K f).cls, (oAt K f).dict, .func (fnOf name name (stArgs (topSt k)) (stBody (topSt k)) (stScope (topSt k)) dV kV (oDoc (oAt K f)) (oPm (oAt K f)) (oAn (oAt K f)) cdv (oCt (oAt K f))), (oAt K f).slots⟩ /\ codeIn K cdv name = true
noncomputable def BisK (K : Frag) (T D : Addr) : Prop :=
 K.lookup T = some (tupObj #[.int 0 (oTok0 (oAt K T)), .none] (oSeqN (oAt K T))) /\ K.lookup D = some (keyDict (oHash (oAt K D)) (oKTok (oAt K D)) (oDictN (oAt K D)))
noncomputable def GlK (K : Frag) (x : Str) (a : Addr) : Prop := nsIn K mainGlobals x = some (some (.ref a))
noncomputable def intK (K : Frag) (x : Str) (i : Int) : Bool := match nsIn K mainGlobals x with | some (some (.int j _)) => j == i | _ => false
noncomputable def strK (K : Frag) (x : Str) (i : Str) : Bool := match nsIn K mainGlobals x with | some (some (.str j _)) => j == i | _ => false
noncomputable def BiK (K : Frag) (x : Str) (v : Value) : Prop := nsIn K mainGlobals x = some none /\ bootBuiltins x = some v /\ x ≠ "__name__"
noncomputable def patFs (o : Obj) : Array Value := match o.data with | .fields fs => fs | _ => #[]
noncomputable def oItems (o : Obj) : Array Value := match o.data with | .seq vs _ => vs | _ => #[]
noncomputable def PatK (K : Frag) (p c : Addr) (code : Array Nat) (kind : Nat) : Prop :=
 K.lookup p = some ⟨.type "re.Pattern", none, .fields (patFs (oAt K p)), (oAt K p).slots⟩ /\ Builtin.Re.reRawNat ((patFs (oAt K p)).getD 6 .none) = kind /\ Builtin.Re.reRawNat ((patFs (oAt K p)).getD 2 .none) = 0 /\ (patFs (oAt K p)).getD 5 .none = .ref c /\
   K.lookup c = some ⟨(oAt K c).cls, (oAt K c).dict, .seq (oItems (oAt K c)) (oSeqN (oAt K c)), (oAt K c).slots⟩ /\ ((oItems (oAt K c)).map Builtin.Re.reRawOf).map (·.toNat) = code
section
variable {B : Base} {K : Frag} {w : World}
theorem FnK.is (X : K.In B.g) {f : Addr} {name : Str} {k : Nat} {dV kV cdv : Value} (h : FnK K f name k dV kV cdv) : FnIs B f name k dV kV cdv :=
 ⟨⟨_, _, _, _, _, _, _, X _ _ h.1⟩, codeRec_of X h.2⟩
theorem BisK.is (X : K.In B.g) {T D : Addr} (h : BisK K T D) : BisDef B (.ref T) (.ref D) :=
 ⟨⟨T, _, _, rfl, X _ _ h.1⟩, D, _, _, _, rfl, X _ _ h.2⟩
theorem GlK.is (X : K.In B.g) {x : Str} {a : Addr} (h : GlK K x a) : GlobIs B x (.raw (.ref a)) := ⟨_, .inl (mg_of X B.nsg h), fun O O => .raw _⟩
theorem BiK.is (X : K.In B.g) {x : Str} {v : Value} (h : BiK K x v) : GlobIs B x (.raw v) := ⟨_, .inr ⟨ns_none_of X B.nsg h.1, h.2⟩, fun O O => .raw _⟩
theorem intK_is (X : K.In B.g) {x : Str} {i : Int} (h : intK K x i = true) : GlobIs B x (.int i) := by
 unfold intK at h
 split at h
 . rename_i j t e
   rw [eq_of_beq h] at e
   exact ⟨_, .inl (mg_of X B.nsg e), fun _ _ => .int _ _⟩
 . cases h
theorem strK_is (X : K.In B.g) {x i : Str} (h : strK K x i = true) : GlobIs B x (.str i) := by
 unfold strK at h
 split at h
 . rename_i j t e
   rw [eq_of_beq h] at e
   exact ⟨_, .inl (mg_of X B.nsg e), fun _ _ => .str _ _⟩
 . cases h
theorem PatK.is (X : K.In B.g) {p c : Addr} {code : Array Nat} {kind : Nat} (h : PatK K p c code kind) : PatAt B.g p code kind :=
 ⟨_, _, _, c, _, _, _, X _ _ h.1, rfl, h.2.1, h.2.2.1, h.2.2.2.1, X _ _ h.2.2.2.2.1, rfl, h.2.2.2.2.2⟩
end
noncomputable def tabs04 : List (Addr × Addr) := [(51, 47), (58, 54)]
set_option genInjectivity false in
set_option genSizeOf false in
structure Look (K : Frag) : Prop where
 noT : noTabs K = true
 h1 : codeHdIn K 51 47 = true
 h2 : codeHdIn K 58 54 = true
 f2 : FnK K 38 "_div2n1n" kDiv2 .none .none (.ref 37)
 f3 : FnK K 45 "_div3n2n" kDiv3 .none .none (.ref 44)
 fi : FnK K 52 "_int2digits" kDigits .none .none (.ref 51)
 fo : FnK K 59 "_digits2int" kDigitsInt .none .none (.ref 58)
 fp : FnK K 66 "_divmod_pos" kDivPos .none .none (.ref 65)
 fm : FnK K 73 "int_divmod" kDivmod .none .none (.ref 72)
 ir : FnK K 82 "insort_right" kInsR (.ref 74) (.ref 75) (.ref 81)
 br : FnK K 91 "bisect_right" kBisR (.ref 83) (.ref 84) (.ref 90)
 il : FnK K 100 "insort_left" kInsL (.ref 92) (.ref 93) (.ref 99)
 bl : FnK K 109 "bisect_left" kBisL (.ref 101) (.ref 102) (.ref 108)
 d1 : BisK K 74 75
 d2 : BisK K 83 84
 d3 : BisK K 92 93
 d4 : BisK K 101 102
 it : FnK K 116 "_iter_escaped_chars" kIter .none .none (.ref 115)
 st : FnK K 123 "_strip_quoted_realnames" kStrip .none .none (.ref 122)
 ck : FnK K 130 "_check_parenthesis" kCheck .none .none (.ref 129)
 pp : FnK K 137 "_pre_parse_validation" kPre .none .none (.ref 136)
 p1 : PatK K 142 141 Rx.code1 0
 p2 : PatK K 147 146 Rx.code1 1
 p3 : PatK K 152 151 Rx.code3 0
 qd : FnK K 159 "quotedata" kQuote .none .none (.ref 158)
 qp : FnK K 166 "_quote_periods" kPeriods .none .none (.ref 165)
 fe : FnK K 173 "_fix_eols" kEols .none .none (.ref 172)
 ls : FnK K 180 "_law_sent" kSent .none .none (.ref 179)
 ld : FnK K 187 "_law_laid" kLaid .none .none (.ref 186)
 ll : FnK K 192 "_law_laps" kLaps .none .none (.ref 191)
 lw : FnK K 197 "law" kLaw .none .none (.ref 196)
 g2 : GlK K "_div2n1n" 38
 g3 : GlK K "_div3n2n" 45
 gi : GlK K "_int2digits" 52
 go : GlK K "_digits2int" 59
 gp : GlK K "_divmod_pos" 66
 gm : GlK K "int_divmod" 73
 gir : GlK K "insort_right" 82
 gbr : GlK K "bisect_right" 91
 gil : GlK K "insort_left" 100
 gbl : GlK K "bisect_left" 109
 git : GlK K "_iter_escaped_chars" 116
 gst : GlK K "_strip_quoted_realnames" 123
 gck : GlK K "_check_parenthesis" 130
 gpp : GlK K "_pre_parse_validation" 137
 gp1 : GlK K "_twin_re_1" 142
 gp2 : GlK K "_twin_re_2" 147
 gp3 : GlK K "_twin_re_3" 152
 gqd : GlK K "quotedata" 159
 gqp : GlK K "_quote_periods" 166
 gfe : GlK K "_fix_eols" 173
 gls : GlK K "_law_sent" 180
 gld : GlK K "_law_laid" 187
 gll : GlK K "_law_laps" 192
 glw : GlK K "law" 197
 gDL : intK K "_DIV_LIMIT" 4000 = true
 gCR : strK K "CRLF" (ofL [13, 10]) = true
 gbu : GlK K "__builtins__" 4
 bDm : BiK K "divmod" (.builtin "divmod")
 bLen : BiK K "len" (.builtin "len")
 bMin : BiK K "min" (.builtin "min")
 bMax : BiK K "max" (.builtin "max")
 bAbs : BiK K "abs" (.builtin "abs")
 bSum : BiK K "sum" (.builtin "sum")
 bZe : BiK K "ZeroDivisionError" (.type "ZeroDivisionError")
 bVe : BiK K "ValueError" (.type "ValueError")
 bStr : BiK K "str" (.type "str")
 bLi : BiK K "list" (.type "list")
 bRa : BiK K "range" (.type "range")
 bZi : BiK K "zip" (.type "zip")
 bEn : BiK K "enumerate" (.type "enumerate")
 bRv : BiK K "reversed" (.type "reversed")
section
variable {B : Base} {K : Frag}
noncomputable abbrev qn04 : Addr -> Pos -> Option Str := fun P O => if P = 47 then some "_int2digits.<locals>.inner" else some "_digits2int.<locals>.inner"
noncomputable abbrev divFns (X : K.In B.g) (L : Look K) : DivFns B := ⟨38, 45, .ref 37, .ref 44, L.f2.is X, L.f3.is X, L.g2.is X, L.g3.is X, intK_is X L.gDL, L.bDm.is X⟩
noncomputable abbrev digFns (X : K.In B.g) (L : Look K) (n1 : NestOk B 51 47 (stPos nI) "_int2digits.<locals>.inner") (n2 : NestOk B 58 54 (stPos nO) "_digits2int.<locals>.inner") : DigFns B :=
 { divFns X L with fi := 52, fo := 59, ci := 51, co := 58, pi := 47, po := 54, hi := L.fi.is X, ho := L.fo.is X, ni := n1, no := n2, gi := L.gi.is X, go := L.go.is X, gln := L.bLen.is X, grv := L.bRv.is X }
noncomputable abbrev imFns (X : K.In B.g) (L : Look K) (n1 : NestOk B 51 47 (stPos nI) "_int2digits.<locals>.inner") (n2 : NestOk B 58 54 (stPos nO) "_digits2int.<locals>.inner") : ImFns B :=
 { digFns X L n1 n2 with fp := 66, fm := 73, cp := .ref 65, cm := .ref 72, hp := L.fp.is X, hm := L.fm.is X, gp := L.gp.is X, gm := L.gm.is X, gz := L.bZe.is X }
noncomputable abbrev layFns (X : K.In B.g) (L : Look K) : LayFns B where
 fl := 100
 fr := 82
 bl := 109
 br := 91
 cl := .ref 99
 cr := .ref 81
 dl := .ref 108
 dr := .ref 90
 dV1 := .ref 92
 kV1 := .ref 93
 dV2 := .ref 74
 kV2 := .ref 75
 dV3 := .ref 101
 kV3 := .ref 102
 dV4 := .ref 83
 kV4 := .ref 84
 hl := L.il.is X
 hr := L.ir.is X
 hbl := L.bl.is X
 hbr := L.br.is X
 D1 := L.d3.is X
 D2 := L.d1.is X
 D3 := L.d4.is X
 D4 := L.d2.is X
 gl := L.gil.is X
 gr := L.gir.is X
 gbl := L.gbl.is X
 gbr := L.gbr.is X
 gV := L.bVe.is X
 gln := L.bLen.is X
noncomputable abbrev sendFns (X : K.In B.g) (L : Look K) : SendFns B where
 p1 := 142
 p2 := 147
 p3 := 152
 h1 := L.p1.is X
 h2 := L.p2.is X
 h3 := L.p3.is X
 g1 := L.gp1.is X
 g2 := L.gp2.is X
 g3 := L.gp3.is X
 gc := strK_is X L.gCR
 fq := 159
 fb := 166
 fe := 173
 cq := .ref 158
 cb := .ref 165
 ce := .ref 172
 hq := L.qd.is X
 hb := L.qp.is X
 he := L.fe.is X
 gln := L.bLen.is X
 gq := L.gqd.is X
 gb := L.gqp.is X
 ge := L.gfe.is X
noncomputable abbrev mailFns (X : K.In B.g) (L : Look K) : MailFns B where
 f := 123
 g := 116
 c := 130
 cdf := .ref 122
 cdg := .ref 115
 cdc := .ref 129
 hf := L.st.is X
 hg := L.it.is X
 hc := L.ck.is X
 gf := L.gst.is X
 gg := L.git.is X
 gc := L.gck.is X
 gl := L.bLen.is X
 ge := L.bEn.is X
noncomputable abbrev lapsFns (X : K.In B.g) (L : Look K) : LapsFns B where
 S := sendFns X L
 M := mailFns X L
 fs := 180
 cs := .ref 179
 hs := L.ls.is X
 fp := 137
 cp := .ref 136
 hp := L.pp.is X
 gs := L.gls.is X
 gp := L.gpp.is X
 gr := L.bRa.is X
 gz := L.bZi.is X
 gli := L.bLi.is X
 gmi := L.bMin.is X
 gle := L.bLen.is X
noncomputable abbrev lawFns (X : K.In B.g) (L : Look K) (n1 : NestOk B 51 47 (stPos nI) "_int2digits.<locals>.inner") (n2 : NestOk B 58 54 (stPos nO) "_digits2int.<locals>.inner") : LawFns B where
 L := lapsFns X L
 Y := layFns X L
 I := imFns X L n1 n2
 fL := 192
 cL := .ref 191
 hL := L.ll.is X
 fd := 187
 cd := .ref 186
 hd := L.ld.is X
 gL := L.gll.is X
 gd := L.gld.is X
 gE := L.bEn.is X
 gSum := L.bSum.is X
 gAbs := L.bAbs.is X
 gMax := L.bMax.is X
 gStr := L.bStr.is X
end
theorem sum_bits {N : Nat} : ∀ {l : List Int}, (∀ x ∈ l, x.natAbs < 2 ^ N) -> l.sum.natAbs <= l.length * 2 ^ N
 | [], _ => by simp
 | x :: r, h => by
   have h1 := h x (.head _)
   have h2 := sum_bits (l := r) fun y hy => h y (.tail _ hy)
   rw [List.sum_cons, List.length_cons, Nat.add_mul]
   generalize 2 ^ N = M at *
   omega
theorem sum60_bits {N : Nat} {sl : List Int} (h : ∀ x ∈ sl, Builtin.Int.intBits x <= N) : Builtin.Int.intBits (sl.take 60).sum <= N + 6 := by
 rw [intBits_le_iff]
 have h1 := sum_bits (N := N) (l := sl.take 60) fun x hx => intBits_le_iff.mp (h x (List.mem_of_mem_take hx))
 have h2 : (sl.take 60).length <= 60 := by rw [List.length_take]; lia
 rw [Nat.pow_add]
 have h3 : 2 ^ 6 = 64 := rfl
 have h4 := Nat.mul_le_mul_right (2 ^ N) h2
 have h5 : 0 < 2 ^ N := Nat.pos_of_ne_zero (by simp)
 rw [h3]
 generalize 2 ^ N = M at *
 lia
theorem wellAll_ints {P : Params} {h : Heap} {T : Addr -> Prop} : ∀ {sl : List Int} {vs : List Value}, WellAll P h vs (ofPys (sl.map .int)) -> VRs T h vs (intsPV sl)
 | [], _, x => by cases x; exact .nil
 | i :: r, _, x => by
   simp only [List.map_cons, ofPys, ofPy] at x
   cases x with
   | cons a b => cases a; exact .cons (.int _ _) (wellAll_ints b)
theorem join04 {w : World} {s₁ : Shared} {mg mb : Str -> Option Value} {K : Frag} (X : K.In s₁.heap) (L : Look K) (hT8 : ∀ P ∈ ([54, 47] : List Addr), s₁.heap.get? P = some (tabObj #[])) (G : s₁.heap.Ns mainGlobals mg) (Gb : s₁.heap.Ns builtinsNs mb)
   (nl : s₁.heap.NoLimit) (boot : ∀ x : Str, x ≠ "__name__" -> mb x = bootBuiltins x) (bmain : ∃ bm ob, mg "__builtins__" = some (.ref bm) /\ bm ≠ builtinsNs /\ s₁.heap.get? bm = some ob /\ ob.cls = .type "module" /\ ob.dict = some builtinsNs /\ ob.data = .plain)
   (hgens : s₁.gens = #[]) {sl : List Int} (hn : sl.length <= 63) (hbits : ∀ x ∈ sl, Builtin.Int.intBits x <= 1048576) {l fa : Addr} (hmg : mg "law" = some (.ref fa)) (W : Well w.params s₁.heap (.ref l) (ofPy (.list (sl.map .int)))) :
   wpAny (model pw w) callerA (call (.ref fa) [.ref l] []) (fun v s' => v = .bool true /\ OldK s₁.heap s'.heap /\ s'.os = s₁.os /\ AllBare s'.gens) NoE s₁ := by
 have hfa : fa = 197 := by
   have e := mg_of X G L.glw
   rw [hmg] at e
   cases e; rfl
 subst hfa
 have hT : TabsAt tabs04 s₁.heap := by
   intro q hq
   simp only [tabs04, List.mem_cons, List.not_mem_nil, or_false] at hq
   rcases hq with rfl | rfl
   . exact ⟨codeHd_of_K X L.h1, hT8 47 (by simp)⟩
   . exact ⟨codeHd_of_K X L.h2, hT8 54 (by simp)⟩
 have XG : K.In (ghostOf s₁.heap tabs04) := ghost_K hT X L.noT
 have hCA := ghost_code hT
 let B : Base := { prog := pw, w := w, g := ghostOf s₁.heap tabs04, mg := mg, mb := mb, K := K, tabs := tabs04, qn := qn04, os := s₁.os, inK := XG, nsg := ghost_ns hT G, nsb := ghost_ns hT Gb
                   nolimit := let ⟨mc, a, r⟩ := nl; ⟨mc, ghost_ns hT a, r⟩, boot := boot, tabsHidden := fun q hq => hideAll_none _ (List.mem_map_of_mem hq), low := by decide }
 have I : Inv B [] s₁ := {
   keep := fun a o e => of_hideAll _ e
   size := Nat.le_of_eq (hideAll_size _ _)
   tabs := fun q hq => ⟨#[], (hT q hq).2, trivial, fun pos cv e => by cases e⟩
   bare := by rw [hgens]; exact .of_eq rfl
   os := rfl
   nodup := .nil
   hid := fun q hq => nomatch hq
   objs := fun q hq => nomatch hq }
 obtain ⟨bm, ob, e1, e2, e3, e4, e5, e6⟩ := bmain
 have e7 := mg_of X G L.gbu
 rw [e1] at e7
 have hbm : bm = 4 := by cases e7; rfl
 subst hbm
 have hob : (ghostOf s₁.heap tabs04).get? 4 = some ob := ghost_get hT e3 (fun q => by rw [q] at e4; cases e4)
 have ba : ∀ P : Addr, P ≠ 4 -> B.g.BuiltinsAt B.mg P := fun P hP => ⟨4, ob, e1, e2, by decide, fun q => hP q.symm, hob, e4, e5, e6⟩
 have n1 : NestOk B 51 47 (stPos nI) "_int2digits.<locals>.inner" := ⟨.head _, hCA.1, fun O O O => rfl, ba 47 (by decide)⟩
 have n2 : NestOk B 58 54 (stPos nO) "_digits2int.<locals>.inner" := ⟨.tail _ (.head _), hCA.2.1, fun O O O => rfl, ba 54 (by decide)⟩
 have F : LawFns B := lawFns XG L n1 n2
 have hl : ∃ vs, s₁.heap.get? l = some (lstObj vs 0) /\ VRs (Trk B []) s₁.heap vs.toList (intsPV sl) := by
   simp only [ofPy] at W
   cases W with
   | list e a => exact ⟨_, e, wellAll_ints a⟩
 obtain ⟨vs, hl1, hl2⟩ := hl
 have hlt : ¬ Trk B [] l := fun t => by
   rcases t with t | t | t
   . cases t
   . obtain ⟨q, hq, rfl⟩ := mmp t
     have := (hT q hq).2
     rw [hl1] at this; cases this
   . cases t
 have hb := sum60_bits hbits
 refine wpAny_mono (callF_of (B := B) (d := 64) (H := []) (args := [.list (intsPV sl)]) (kw := []) (Q := QT) (L.lw.is XG) (fun doc pm an ct => BindV_p1 fun S v => law_bind) rfl law_chk (law_ini F) (law_all (d := 0) F hn (ntr hb (by decide)))
   callerA s₁ ⟨rfl, by decide, by decide⟩ rfl I (.ref 197) [.ref l] [] (.raw _) (.cons (.list hl1 hlt hl2) .nil) ⟨.nil, rfl⟩) (fun v s' ⟨p, H', t, r, q⟩ => ?_) fun O O x => x
 have hq : p = .bool true := q
 subst hq
 (first | obtain ⟨O, rfl⟩ := r.inv | obtain rfl := r.inv | cases r)
 have hk : ∀ b o, b ∉ tabs04.map (·.2) -> s₁.heap.get? b = some o -> s'.heap.get? b = some o := fun b o hb e => t.inv.keep b o (ghost_ne e hb)
 refine ⟨rfl, ⟨fun b o e => ?_, fun b o e => ?_⟩, t.inv.os, t.inv.bare⟩
 . by_cases hb : b ∈ tabs04.map (·.2)
   . obtain ⟨q, hq, rfl⟩ := mmp hb
     obtain ⟨ps, hps, O⟩ := t.inv.tabs q hq
     have e2 := (hT q hq).2
     rw [e] at e2
     have e3 := Option.some.inj e2
     subst e3
     exact .inr (.inl ⟨((hT q hq).1.tab (hT q hq).2).isCodeTable, rfl, #[], ps, rfl, by rw [Array.empty_append]; exact hps⟩)
   . exact .inl (hk b o hb e)
 . by_cases hb : b ∈ tabs04.map (·.2)
   . obtain ⟨q, hq, rfl⟩ := mmp hb
     obtain ⟨ps, hps, O⟩ := t.inv.tabs q hq
     exact ⟨_, hps⟩
   . exact ⟨o, hk b o hb e⟩
theorem look04 (P : Params) : Look (hd04.heap_1 P) where
  noT := by kernel_rfl
  h1 := by kernel_rfl
  h2 := by kernel_rfl
  f2 := ⟨by kernel_rfl, by kernel_rfl⟩
  f3 := ⟨by kernel_rfl, by kernel_rfl⟩
  fi := ⟨by kernel_rfl, by kernel_rfl⟩
  fo := ⟨by kernel_rfl, by kernel_rfl⟩
  fp := ⟨by kernel_rfl, by kernel_rfl⟩
  fm := ⟨by kernel_rfl, by kernel_rfl⟩
  ir := ⟨by kernel_rfl, by kernel_rfl⟩
  br := ⟨by kernel_rfl, by kernel_rfl⟩
  il := ⟨by kernel_rfl, by kernel_rfl⟩
  bl := ⟨by kernel_rfl, by kernel_rfl⟩
  d1 := ⟨by kernel_rfl, by kernel_rfl⟩
  d2 := ⟨by kernel_rfl, by kernel_rfl⟩
  d3 := ⟨by kernel_rfl, by kernel_rfl⟩
  d4 := ⟨by kernel_rfl, by kernel_rfl⟩
  it := ⟨by kernel_rfl, by kernel_rfl⟩
  st := ⟨by kernel_rfl, by kernel_rfl⟩
  ck := ⟨by kernel_rfl, by kernel_rfl⟩
  pp := ⟨by kernel_rfl, by kernel_rfl⟩
  p1 := ⟨by kernel_rfl, by kernel_rfl, by kernel_rfl, by kernel_rfl, by kernel_rfl, by kernel_rfl⟩
  p2 := ⟨by kernel_rfl, by kernel_rfl, by kernel_rfl, by kernel_rfl, by kernel_rfl, by kernel_rfl⟩
  p3 := ⟨by kernel_rfl, by kernel_rfl, by kernel_rfl, by kernel_rfl, by kernel_rfl, by kernel_rfl⟩
  qd := ⟨by kernel_rfl, by kernel_rfl⟩
  qp := ⟨by kernel_rfl, by kernel_rfl⟩
  fe := ⟨by kernel_rfl, by kernel_rfl⟩
  ls := ⟨by kernel_rfl, by kernel_rfl⟩
  ld := ⟨by kernel_rfl, by kernel_rfl⟩
  ll := ⟨by kernel_rfl, by kernel_rfl⟩
  lw := ⟨by kernel_rfl, by kernel_rfl⟩
  g2 := (by kernel_rfl : _ = _)
  g3 := (by kernel_rfl : _ = _)
  gi := (by kernel_rfl : _ = _)
  go := (by kernel_rfl : _ = _)
  gp := (by kernel_rfl : _ = _)
  gm := (by kernel_rfl : _ = _)
  gir := (by kernel_rfl : _ = _)
  gbr := (by kernel_rfl : _ = _)
  gil := (by kernel_rfl : _ = _)
  gbl := (by kernel_rfl : _ = _)
  git := (by kernel_rfl : _ = _)
  gst := (by kernel_rfl : _ = _)
  gck := (by kernel_rfl : _ = _)
  gpp := (by kernel_rfl : _ = _)
  gp1 := (by kernel_rfl : _ = _)
  gp2 := (by kernel_rfl : _ = _)
  gp3 := (by kernel_rfl : _ = _)
  gqd := (by kernel_rfl : _ = _)
  gqp := (by kernel_rfl : _ = _)
  gfe := (by kernel_rfl : _ = _)
  gls := (by kernel_rfl : _ = _)
  gld := (by kernel_rfl : _ = _)
  gll := (by kernel_rfl : _ = _)
  glw := (by kernel_rfl : _ = _)
  gDL := by kernel_rfl
  gCR := by kernel_rfl
  gbu := (by kernel_rfl : _ = _)
  bDm := ⟨by kernel_rfl, by kernel_rfl, by decide⟩
  bLen := ⟨by kernel_rfl, by kernel_rfl, by decide⟩
  bMin := ⟨by kernel_rfl, by kernel_rfl, by decide⟩
  bMax := ⟨by kernel_rfl, by kernel_rfl, by decide⟩
  bAbs := ⟨by kernel_rfl, by kernel_rfl, by decide⟩
  bSum := ⟨by kernel_rfl, by kernel_rfl, by decide⟩
  bZe := ⟨by kernel_rfl, by kernel_rfl, by decide⟩
  bVe := ⟨by kernel_rfl, by kernel_rfl, by decide⟩
  bStr := ⟨by kernel_rfl, by kernel_rfl, by decide⟩
  bLi := ⟨by kernel_rfl, by kernel_rfl, by decide⟩
  bRa := ⟨by kernel_rfl, by kernel_rfl, by decide⟩
  bZi := ⟨by kernel_rfl, by kernel_rfl, by decide⟩
  bEn := ⟨by kernel_rfl, by kernel_rfl, by decide⟩
  bRv := ⟨by kernel_rfl, by kernel_rfl, by decide⟩
end Mine
open PySem PySem.W PyProof.Rows
set_option maxHeartbeats 4000000 in
theorem PySem.Challenge.cw_wc0020_04_holds : PySem.Challenge.rw_wc0020_04.Holds := by
  refine Mine.hd04 ?_
  intro w s₀ s₁ mg mb G Y fa o pm cd doc dV kV ho hd hcd hD hmg hg args vals as hpre hlay hrd hwl hlo
  have KX := km_in_of Y
  km_tabs Y
  clear Y
  refine Ground.open G ?_
  intro T B D TE TW
  clear ho hd hcd hD B D TE TW G
  wrow_args hpre hlay hrd hwl hlo
  rename_i sl _ _ hlb _ _ _ _ l _ _ _ _ W _ _ _ hlen _
  have hlen' : sl.length ≤ 63 := by omega
  refine wpAny_mono (Mine.join04 KX (Mine.look04 w.params) hT8 T.g T.b T.nolimit T.builtins T.bmain hg hlen' (fun x hx => PyData.bits_item_of_ints hlb hx) hmg W) ?_ (fun _ _ x => x.elim)
  rintro v s' ⟨rfl, hK, hos, hbare⟩
  exact ⟨.inl ⟨_, .bool true, _, rfl, raisesW_false (by wrow_none_raised), ReadsW.bool _, postW_of (by wrow_shape) (by wtm_val) (by w_fin), fun _ => ⟨.nil, fun _ h => nomatch h⟩⟩, hK, hos, hbare⟩
