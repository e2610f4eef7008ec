import PyProof.Rows.All
import Wide.All
import OpenK.AllK
import Wide.FinOn
import PySem.Sre
import Lean
import PySem.Challenge.RW_zd0001_01
set_option Elab.async false
set_option rowWalk.seconds 0
section
open PySem PySem.W PyProof.Rows
set_option Elab.async false
namespace Mine
set_option maxRecDepth 100000 in
set_option maxHeartbeats 8000000 in
open_top hd for PySem.Challenge.rw_zd0001_01
theorem calm : True := by
  w_top off
  exact trivial
end Mine
end
section
open PySem PySem.Sre
namespace Mine
set_option maxRecDepth 100000
set_option linter.unusedSimpArgs false
def rc : Array Nat := #[14, 8, 1, 2, 4294967295, 1, 1, 34, 0, 16, 34, 28, 22, 0, 4294967295, 7, 11, 13, 7, 21, 16, 34, 16, 92, 0, 15, 8, 6, 16, 92, 2, 15, 2, 0, 1, 16, 34, 1]
/-- trying at p -/
def SS (T : Array Nat) (l p : Nat) (o : Bool) (se : Seen) : M :=
  { code := rc, text := T, lim := l, start := p, lastStart := l, pc := 9, pos := p, handed := p, outermost := o, marks := #[],
    frames := [{ wait := .nextStart, pc := 9, pos := p, outermost := o }], weight := 1, seen := se }
def PP (T : Array Nat) (l p r : Nat) (k : Int) (o : Bool) (se : Seen) : M :=
  { code := rc, text := T, lim := l, start := p, lastStart := l, pc := 15, pos := r, handed := r, outermost := false, marks := #[],
    loops := #[{ pc := 0, outer := none }], inner := some 0,
    frames := [{ wait := .possMore, pc := 11, pos := r, outermost := o, count := k, kept := { whole := true } },
      { wait := .nextStart, pc := 9, pos := p, outermost := o }], weight := 2, seen := se }
theorem step_of {m m' : M} (ho : m.outcome = none) (ha : m.answer = none) (hp : m.pc < m.code.size) (h : m.exec = m') : m.step = m' := by
  unfold M.step
  rw [ho, ha]
  simp [hp, h]
theorem runFor_add (m : M) : ∀ a b : Nat, m.runFor (a + b) = (m.runFor a).runFor b := by
  intro a
  induction a generalizing m with
  | zero => intro b; simp [M.runFor]
  | succ n ih =>
    intro b
    rw [Nat.succ_add]
    show (if m.outcome.isSome then m else M.runFor (n + b) m.step) = M.runFor b (if m.outcome.isSome then m else M.runFor n m.step)
    by_cases h : m.outcome.isSome
    · rw [if_pos h, if_pos h]
      cases b with
      | zero => rfl
      | succ b => show m = if m.outcome.isSome then m else _; rw [if_pos h]
    · rw [if_neg h, if_neg h, ih]
theorem run_off {T : Array Nat} {l p : Nat} {o : Bool} {se : Seen} (hp : p < l) (hc : T.getD p 0 ≠ 34) :
    ∃ se', (SS T l p o se).runFor 2 = SS T l (p + 1) false se' := by
  refine ⟨?_, ?_⟩
  rotate_left
  · have h2 : (T[p]?.getD 0 == 34) = false := by simpa using hc
    have h1 : ¬ (l ≤ p) := by omega
    simp [SS, M.runFor, M.step, M.exec, M.word, rc, ops, accepts, hp, h1, h2, M.say, M.resume, M.attemptFrom, M.hasFirstSet, M.attemptAt, M.attempt, M.putBack]
    rfl
theorem run_last {T : Array Nat} {l : Nat} {o : Bool} {se : Seen} :
    ∃ m, (SS T l l o se).runFor 3 = m ∧ m.outcome = some .failed := by
  refine ⟨_, rfl, ?_⟩
  simp [SS, M.runFor, M.step, M.exec, M.word, rc, ops, accepts, M.say, M.resume, M.attemptFrom, M.hasFirstSet, M.attemptAt, M.attempt, M.putBack]
theorem run_quote {T : Array Nat} {l p : Nat} {o : Bool} {se : Seen} (hp : p < l) (hc : T.getD p 0 = 34) :
    ∃ se', (SS T l p o se).runFor 2 = PP T l p (p + 1) 0 o se' := by
  refine ⟨?_, ?_⟩
  rotate_left
  · have h2 : T[p]?.getD 0 = 34 := by simpa using hc
    have h1 : ¬ (l ≤ p) := by omega
    simp [SS, PP, M.runFor, M.step, M.exec, M.word, rc, ops, accepts, hp, h1, h2, M.say, M.resume, M.attempt, M.putBack, itemWidth, M.possessive, M.keep, M.frame, maxRepeat]
    rfl
theorem run_in {T : Array Nat} {l p r : Nat} {k : Int} {o : Bool} {se : Seen} (hp : r < l) (hc : T.getD r 0 ≠ 34) (hb : T.getD r 0 ≠ 92) (hk : 0 ≤ k) :
    ∃ se', (PP T l p r k o se).runFor 6 = PP T l p (r + 1) (k + 1) o se' := by
  refine ⟨?_, ?_⟩
  rotate_left
  · have h2 : (T[r]?.getD 0 == 34) = false := by simpa using hc
    have h3 : (T[r]?.getD 0 == 92) = false := by simpa using hb
    have h4 : ¬ (k + 1 < 0) := by omega
    have h1 : ¬ (l ≤ r) := by omega
    simp [PP, M.runFor, M.step, M.exec, M.word, rc, ops, accepts, inSet, hp, h1, h2, h3, h4, M.say, M.resume, M.attempt, M.putBack, itemWidth, M.possessive, M.keep, M.frame, maxRepeat, M.alternative]
    rfl
theorem run_close {T : Array Nat} {l p r : Nat} {k : Int} {o : Bool} {se : Seen} (hp : r < l) (hc : T.getD r 0 = 34) (hk : 0 ≤ k) :
    ∃ m, (PP T l p r k o se).runFor 10 = m ∧ m.outcome = some .matched ∧ m.start = p ∧ m.handed = r + 1 := by
  refine ⟨_, rfl, ?_⟩
  have h2 : T[r]?.getD 0 = 34 := by simpa using hc
  have h4 : ¬ (k < 0) := by omega
  have h1 : ¬ (l ≤ r) := by omega
  simp [PP, M.runFor, M.step, M.exec, M.word, rc, ops, accepts, inSet, hp, h1, h2, h4, M.say, M.resume, M.attempt, M.putBack, itemWidth, M.possessive, M.keep, M.frame, maxRepeat, M.alternative, M.loopAt]
theorem run_open {T : Array Nat} {l p : Nat} {k : Int} {o : Bool} {se : Seen} (hp : p < l) (hk : 0 ≤ k) :
    ∃ se', (PP T l p l k o se).runFor 8 = SS T l (p + 1) false se' := by
  refine ⟨?_, ?_⟩
  rotate_left
  · have h4 : ¬ (k < 0) := by omega
    simp [PP, SS, M.runFor, M.step, M.exec, M.word, rc, ops, accepts, inSet, hp, h4, M.say, M.resume, M.attempt, M.putBack, itemWidth, M.possessive, M.keep, M.frame, maxRepeat, M.alternative, M.loopAt, M.attemptFrom, M.hasFirstSet, M.attemptAt]
    rfl
def FR (T : Array Nat) (p l : Nat) : M := { code := rc, text := T, lim := l, start := p, pc := 9, pos := p, handed := p, marks := #[], seen := ({} : Seen).add 14 }
theorem fs_eq {T : Array Nat} {l p : Nat} : forSearch rc T 0 p l false = (if (decide (p > l) || decide (l - p < 2)) = true then (FR T p l).say false else { FR T p l with lastStart := l }.attemptFrom p true) := rfl
theorem search_start {T : Array Nat} {l p : Nat} (h : p + 2 ≤ l) : ∃ se, forSearch rc T 0 p l false = SS T l p true se := by
  refine ⟨?_, ?_⟩
  rotate_left
  · have h1 : ¬ (l < p) := by omega
    have h2 : ¬ (l - p < 2) := by omega
    rw [fs_eq]
    simp [rc, ops, h1, h2, M.attemptFrom, M.hasFirstSet, M.attemptAt, M.attempt, SS, FR]
    rfl
theorem search_short {T : Array Nat} {l p : Nat} (h : l < p + 2) : ∃ m, (forSearch rc T 0 p l false).runFor 1 = m ∧ m.outcome = some .failed := by
  refine ⟨_, rfl, ?_⟩
  have h2 : l - p < 2 := by omega
  rw [fs_eq]
  simp [h2, M.say, M.runFor, M.step, FR]
/-- the search ends: none -/
def Fails (m : M) (n : Nat) : Prop := ∃ k, k ≤ n ∧ (m.runFor k).outcome = some .failed
def Finds (m : M) (n a b : Nat) : Prop := ∃ k, k ≤ n ∧ (m.runFor k).outcome = some .matched ∧ (m.runFor k).start = a ∧ (m.runFor k).handed = b
theorem Fails.after {m m' : M} {j n n' : Nat} (h : m.runFor j = m') (f : Fails m' n) (hn : j + n ≤ n') : Fails m n' := by
  obtain ⟨k, hk, e⟩ := f
  exact ⟨j + k, by omega, by rw [runFor_add, h]; exact e⟩
theorem Finds.after {m m' : M} {j n n' a b : Nat} (h : m.runFor j = m') (f : Finds m' n a b) (hn : j + n ≤ n') : Finds m n' a b := by
  obtain ⟨k, hk, e⟩ := f
  exact ⟨j + k, by omega, by rw [runFor_add, h]; exact e⟩
theorem scan_none {T : Array Nat} {l : Nat} : ∀ (d p : Nat) (o : Bool) (se : Seen), p + d = l → (∀ i, p ≤ i → i < l → T.getD i 0 ≠ 34) → Fails (SS T l p o se) (2 * d + 3)
  | 0, p, o, se, h, _ => by
    have hp : p = l := by omega
    subst hp
    obtain ⟨m, e, hm⟩ := run_last (T := T) (l := p) (o := o) (se := se)
    exact ⟨3, by omega, by rw [e]; exact hm⟩
  | d + 1, p, o, se, h, hc => by
    obtain ⟨se', e⟩ := run_off (T := T) (l := l) (p := p) (o := o) (se := se) (by omega) (hc p (Nat.le_refl _) (by omega))
    exact Fails.after e (scan_none d (p + 1) false se' (by omega) fun i h1 h2 => hc i (by omega) h2) (by omega)
/-- inside the quotes, to the place r + d -/
theorem scan_in {T : Array Nat} {l p : Nat} {o : Bool} : ∀ (d r : Nat) (k : Int) (se : Seen), 0 ≤ k → r + d ≤ l → (∀ i, r ≤ i → i < r + d → T.getD i 0 ≠ 34 ∧ T.getD i 0 ≠ 92) →
    ∃ k' se', 0 ≤ k' ∧ (PP T l p r k o se).runFor (6 * d) = PP T l p (r + d) k' o se'
  | 0, r, k, se, hk, h, _ => ⟨k, se, hk, rfl⟩
  | d + 1, r, k, se, hk, h, hc => by
    have hr := hc r (Nat.le_refl _) (by omega)
    obtain ⟨se', e⟩ := run_in (T := T) (l := l) (p := p) (r := r) (k := k) (o := o) (se := se) (by omega) hr.1 hr.2 hk
    obtain ⟨k', se'', hk', e'⟩ := scan_in (T := T) (l := l) (p := p) (o := o) d (r + 1) (k + 1) se' (by omega) (by omega) fun i h1 h2 => hc i (by omega) (by omega)
    refine ⟨k', se'', hk', ?_⟩
    have : 6 * (d + 1) = 6 + 6 * d := by omega
    rw [this, runFor_add, e, e']
    have : r + 1 + d = r + (d + 1) := by omega
    rw [this]
theorem scan_lone {T : Array Nat} {l q p0 : Nat} (hq : q < l) (hc : T.getD q 0 = 34) (ho : ∀ i, p0 ≤ i → i < l → i ≠ q → T.getD i 0 ≠ 34) (h92 : ∀ i, i < l → T.getD i 0 ≠ 92) :
    ∀ (d p : Nat) (o : Bool) (se : Seen), p0 ≤ p → p + d = q → Fails (SS T l p o se) (2 * d + 8 * (l - q) + 20)
  | 0, p, o, se, h0, h => by
    have hp : p = q := by omega
    subst hp
    obtain ⟨se1, e1⟩ := run_quote (T := T) (l := l) (p := p) (o := o) (se := se) hq hc
    obtain ⟨k', se2, hk', e2⟩ := scan_in (T := T) (l := l) (p := p) (o := o) (l - (p + 1)) (p + 1) 0 se1 (by omega) (by omega) fun i h1 h2 => ⟨ho i (by omega) (by omega) (by omega), h92 i (by omega)⟩
    have e3 : p + 1 + (l - (p + 1)) = l := by omega
    rw [e3] at e2
    obtain ⟨se4, e4⟩ := run_open (T := T) (l := l) (p := p) (k := k') (o := o) (se := se2) hq hk'
    have f := scan_none (T := T) (l := l) (l - (p + 1)) (p + 1) false se4 (by omega) fun i h1 h2 => ho i (by omega) h2 (by omega)
    exact Fails.after e1 (Fails.after e2 (Fails.after e4 f (Nat.le_refl _)) (Nat.le_refl _)) (by omega)
  | d + 1, p, o, se, h0, h => by
    obtain ⟨se', e⟩ := run_off (T := T) (l := l) (p := p) (o := o) (se := se) (by omega) (ho p h0 (by omega) (by omega))
    exact Fails.after e (scan_lone hq hc ho h92 d (p + 1) false se' (by omega) (by omega)) (by omega)
theorem scan_pair {T : Array Nat} {l a b : Nat} (hab : a < b) (hb : b < l) (ha : T.getD a 0 = 34) (hbq : T.getD b 0 = 34) (hin : ∀ i, a < i → i < b → T.getD i 0 ≠ 34 ∧ T.getD i 0 ≠ 92) :
    ∀ (d p : Nat) (o : Bool) (se : Seen), p + d = a → (∀ i, p ≤ i → i < a → T.getD i 0 ≠ 34) → Finds (SS T l p o se) (2 * d + 6 * (b - a) + 20) a (b + 1)
  | 0, p, o, se, h, _ => by
    have hp : p = a := by omega
    subst hp
    obtain ⟨se1, e1⟩ := run_quote (T := T) (l := l) (p := p) (o := o) (se := se) (by omega) ha
    obtain ⟨k', se2, hk', e2⟩ := scan_in (T := T) (l := l) (p := p) (o := o) (b - (p + 1)) (p + 1) 0 se1 (by omega) (by omega) fun i h1 h2 => hin i (by omega) (by omega)
    have e3 : p + 1 + (b - (p + 1)) = b := by omega
    rw [e3] at e2
    obtain ⟨m, e4, h4⟩ := run_close (T := T) (l := l) (p := p) (r := b) (k := k') (o := o) (se := se2) hb hbq hk'
    have f : Finds (PP T l p b k' o se2) 10 p (b + 1) := ⟨10, Nat.le_refl _, by rw [e4]; exact h4⟩
    exact Finds.after e1 (Finds.after e2 f (Nat.le_refl _)) (by omega)
  | d + 1, p, o, se, h, hc => by
    obtain ⟨se', e⟩ := run_off (T := T) (l := l) (p := p) (o := o) (se := se) (by omega) (hc p (Nat.le_refl _) (by omega))
    exact Finds.after e (scan_pair hab hb ha hbq hin d (p + 1) false se' (by omega) fun i h1 h2 => hc i (by omega) h2) (by omega)
end Mine
end
section
open PySem PySem.W PyProof.Rows PySem.Builtin.Re
namespace Mine
set_option maxRecDepth 100000
set_option linter.unusedSimpArgs false
theorem runFor_done {m : Sre.M} (h : m.outcome.isSome = true) : ∀ n, m.runFor n = m
  | 0 => rfl
  | n + 1 => by show (if m.outcome.isSome then m else Sre.M.runFor n m.step) = m; rw [if_pos h]
theorem runFor_past {m : Sre.M} {k n : Nat} (h : (m.runFor k).outcome.isSome = true) (hn : k ≤ n) : m.runFor n = m.runFor k := by
  obtain ⟨r, rfl⟩ := Nat.exists_eq_add_of_le hn
  rw [runFor_add, runFor_done h]
section
variable {MM : Model} {A : Around} {E : Value → Shared → Prop} {s : Shared}
theorem wp_drive : ∀ (t : Nat) (m : Sre.M) (k : Nat) {Q : Sre.M → Shared → Prop}, (m.runFor k).outcome.isSome = true → k ≤ 4 * t → 0 < t → Q (m.runFor k) s → wpAny MM A (reDrive t m) Q E s
  | 0, _, _, _, _, _, h, _ => absurd h (Nat.lt_irrefl _)
  | t + 1, m, k, Q, hk, hn, _, hQ => by
    unfold reDrive
    show wpAny MM A (if (m.runFor 4).outcome.isSome = true then pure (m.runFor 4) else (rule "sre.turn" >>= fun _ => reDrive t (m.runFor 4))) Q E s
    by_cases h4 : (m.runFor 4).outcome.isSome = true
    · rw [if_pos h4]
      have e : m.runFor 4 = m.runFor k := by
        rcases Nat.le_total k 4 with h | h
        · exact runFor_past hk h
        · exact (runFor_past h4 h).symm
      rw [e]; exact wpAny_pure hQ
    · rw [if_neg h4]
      refine wpAny_bind (wpAny_rule ?_)
      have hk4 : 4 < k := by
        rcases Nat.lt_or_ge 4 k with h | h
        · exact h
        · exact absurd (by rw [runFor_past hk h]; exact hk) h4
      have e : (m.runFor 4).runFor (k - 4) = m.runFor k := by
        rw [← runFor_add]; congr 1; omega
      exact wp_drive t (m.runFor 4) (k - 4) (by rw [e]; exact hk) (by omega) (by omega) (by rw [e]; exact hQ)
theorem wp_rules {Q : PUnit → Shared → Prop} (c : Nat → Bool) (nm : Nat → String) : ∀ (l : List Nat), Q PUnit.unit s → wpAny MM A (forIn l PUnit.unit fun i _ => if c i = true then do rule (nm i); pure (ForInStep.yield PUnit.unit) else pure (ForInStep.yield PUnit.unit)) Q E s
  | [], h => wpAny_pure h
  | a :: l, h => by
    have ih := wp_rules c nm l h
    rw [List.forIn_cons]
    refine wpAny_bind ?_
    by_cases hc : c a = true
    · rw [if_pos hc]
      exact wpAny_bind (wpAny_rule (wpAny_pure ih))
    · rw [if_neg hc]
      exact wpAny_pure ih
theorem wp_toEnd {m : Sre.M} {k : Nat} {Q : Option Sre.M → Shared → Prop} (hk : k ≤ 4 * 2 ^ 64)
    (h : ((m.runFor k).outcome = some .matched ∧ Q (some (m.runFor k)) s) ∨ ((m.runFor k).outcome = some .failed ∧ Q none s)) : wpAny MM A (reRunToEnd m) Q E s := by
  unfold reRunToEnd
  have hs : (m.runFor k).outcome.isSome = true := by rcases h with h | h <;> rw [h.1] <;> rfl
  refine wpAny_bind (wp_drive (2 ^ 64) m k hs hk (by decide) ?_)
  refine wpAny_bind (wp_rules (fun i => (m.runFor k).seen.has i) (fun i => Sre.names.getD i "") _ ?_)
  rcases h with h | h <;> rw [h.1] <;> exact wpAny_pure h.2
end
end Mine
end
section
open PySem PySem.W PyProof.Rows PySem.Builtin PySem.Builtin.Re
namespace Mine
set_option maxRecDepth 100000
set_option linter.unusedSimpArgs false
def patO : Obj := { cls := .type "re.Pattern", data := .fields #[.bytes #[34, 40, 63, 58, 91, 94, 34, 92, 92, 93, 124, 92, 92, 46, 41, 42, 43, 34] 347, .int 0 388, .int 0 0, .none, .none, .ref 74, .int 1 0] }
def codeO : Obj := { cls := .type "tuple", data := .seq (rc.toList.map fun (n : Nat) => Value.int (n : Int) 0).toArray }
def bn (b : Array UInt8) : Array Nat := b.map (·.toNat)
theorem textOf_eq {b : Array UInt8} {t : Tok} : reTextOf (.bytes b t) = pure (bn b, 1) := by
  unfold reTextOf
  show (Bytes.bufferQuiet? "_sre" (.bytes b t) >>= fun r => _) = _
  rw [KBy.quiet_eq]
  rfl
theorem noColl_eq {b : Array UInt8} {t : Tok} : reNoCollectionInside (.bytes b t) 1 = pure () := by
  unfold reNoCollectionInside
  show (isInstance (.bytes b t) (.type "bytes") >>= fun r => _) = _
  rw [KBy.isInstance_eq]
  rfl
theorem turned_eq {b : Array UInt8} {t : Tok} : reLiteralCannotBeTurned (.bytes b t) = pure () := by
  unfold reLiteralCannotBeTurned
  show (isInstance (.bytes b t) (.type "bytes") >>= fun r => _) = _
  rw [KBy.isInstance_eq]
  rfl
section
variable {MM : Model} {A : Around} {E : Value → Shared → Prop} {s : Shared}
abbrev tgtOf (b : Array UInt8) (t : Tok) : ReTarget := { pattern := .ref 75, string := .bytes b t, code := rc, text := bn b, kind := 1, groups := 0, pos := 0, lim := (bn b).size }
theorem wp_target {b : Array UInt8} {t : Tok} {Q : ReTarget → Shared → Prop} (hP : s.heap.get? 75 = some patO) (hC : s.heap.get? 74 = some codeO) (h : Q (tgtOf b t) s) :
    wpAny MM A (reWholeTarget (.ref 75) (.bytes b t)) Q E s := by
  unfold reWholeTarget
  refine wpAny_bind (wpAny_fieldsOf hP rfl ?_)
  refine wpAny_bind (wpAny_of_eq textOf_eq ?_)
  dsimp only
  refine wpAny_bind ?_
  show wpAny MM A (reNoCollectionInside (.bytes b t) 1) _ E s
  refine wpAny_of_eq noColl_eq ?_
  refine wpAny_bind ?_
  unfold reRawItems
  refine wpAny_bind (wpAny_seqItems hC rfl ?_)
  refine wpAny_pure (wpAny_pure ?_)
  have e : Array.map (fun x => x.toNat) (Array.map reRawOf (rc.toList.map fun (n : Nat) => Value.int (n : Int) 0).toArray) = rc := by kernel_rfl
  show Q { tgtOf b t with code := Array.map (fun x => x.toNat) (Array.map reRawOf (rc.toList.map fun (n : Nat) => Value.int (n : Int) 0).toArray) } s
  rw [e]; exact h
theorem take_eq {id : String} {b : Array UInt8} {t : Tok} : Bytes.takeBufferQuiet? id (.bytes b t) 0 = pure (some (b, none)) := by
  have e : Bytes.takeBuffer? id (.bytes b t) 0 = pure (some (b, none)) := by
    unfold Bytes.takeBuffer?
    rw [KBy.special_eq KBy.look_buffer]
    simp only [pure_bind]
    rw [KBy.own_buffer]
    show (Bytes.buffer? id (.bytes b t) (0 == Bytes.fullReadOnly) >>= fun r => _) = _
    have e2 : (0 == Bytes.fullReadOnly) = false := by decide
    rw [e2, KBy.buffer_eq]; rfl
  unfold Bytes.takeBufferQuiet?
  rw [e]; rfl
def flat : List (Array UInt8 × Tok) → Array UInt8
  | [] => #[]
  | p :: r => p.1 ++ flat r
def bv (p : Array UInt8 × Tok) : Value := .bytes p.1 p.2
theorem joined_eq : ∀ (l : List (Array UInt8)) (k : Nat) (a : Array UInt8), ((l.zipIdx k).foldl (fun out (p, i) => (if i > 0 then out ++ (#[] : Array UInt8) else out) ++ p) a) = l.foldl (· ++ ·) a
  | [], _, _ => rfl
  | p :: l, k, a => by
    rw [List.zipIdx_cons, List.foldl_cons, List.foldl_cons, ← joined_eq l (k + 1)]
    congr 1
    show (if k > 0 then a ++ #[] else a) ++ p = a ++ p
    split <;> simp
theorem foldl_flat : ∀ (l : List (Array UInt8 × Tok)) (a : Array UInt8), (l.map (·.1)).foldl (· ++ ·) a = a ++ flat l
  | [], a => by simp [flat]
  | p :: l, a => by rw [List.map_cons, List.foldl_cons, foldl_flat l, flat, Array.append_assoc]
theorem wp_range {β : Type} {F : Nat → β → Sem (ForInStep β)} {f : Nat → β → β} {I : β → Prop} {n : Nat} (hF : ∀ i b (Q : ForInStep β → Shared → Prop), i < n → I b → Q (.yield (f i b)) s → wpAny MM A (F i b) Q E s)
    (hI : ∀ i b, i < n → I b → I (f i b)) {Q : β → Shared → Prop} : ∀ (d k : Nat) (b : β), k + d = n → I b → Q ((List.range' k d).foldl (fun b i => f i b) b) s → wpAny MM A (forIn (List.range' k d) b F) Q E s
  | 0, k, b, _, _, hQ => wpAny_pure hQ
  | d + 1, k, b, h, hb, hQ => by
    rw [List.range'_succ, List.forIn_cons]
    refine wpAny_bind (hF k b _ (by omega) hb ?_)
    exact wp_range hF hI d (k + 1) (f k b) (by omega) (hI k b (by omega) hb) (by rw [List.range'_succ, List.foldl_cons] at hQ; exact hQ)
theorem wp_joinLetGo {keep : List Value} {Q : Unit → Shared → Prop} : ∀ {l : List (Value × Option Value)}, (∀ x ∈ l, x.1.onHeap = false ∧ x.2 = none) → Q () s → wpAny MM A (Bytes.joinLetGo l keep) Q E s
  | [], _, h => wpAny_pure h
  | (x, u) :: r, hl, h => by
    have e : u = none := (hl _ (.head _)).2
    subst e
    unfold Bytes.joinLetGo
    exact wpAny_bind (wpAny_letGo (wp_joinLetGo (fun y hy => hl y (.tail _ hy)) h))
theorem size_flat : ∀ (l : List (Array UInt8 × Tok)) (k : Nat), (l.map (·.1)).foldl (fun a b => a + b.size) k = k + (flat l).size
  | [], k => by simp [flat]
  | p :: l, k => by rw [List.map_cons, List.foldl_cons, size_flat l, flat, Array.size_append]; omega
theorem wp_join {prog : Program} {w : World} {A : Around} {t : Tok} {D : Addr} {n : Nat} {ps : List (Array UInt8 × Tok)} {Q : Fin → Shared → Prop} (hD : s.heap.get? D = some { cls := .type "list", data := .seq (ps.map bv).toArray n }) 
    (hne : ps ≠ []) (hsz : (flat ps).size ≤ 16777216) (h : ∀ tk k, Q (.done (.ret (.bytes (flat ps) tk))) { s with toks := k }) :
    wpAny (model prog w) A (Builtin.«bytes.join» ⟨[.bytes #[] t, .ref D], []⟩) Q E s := by
  unfold Builtin.«bytes.join» Bytes.joinM
  dsimp only
  refine wpAny_bind (wpAny_of_eq (a := (.bytes #[] t, .ref D)) (by kernel_rfl) ?_)
  refine wpAny_bind ?_
  show wpAny _ A (Bytes.joinItems (.ref D)) _ E s
  unfold Bytes.joinItems
  refine wpAny_bind (wpAny_typeOf (T := "list") ⟨_, hD, rfl⟩ ?_)
  refine wpAny_pure ?_
  refine wpAny_bind (wpAny_seqItems hD rfl ?_)
  match ps, hne with
  | [p], _ =>
    refine wpAny_bind (wpAny_typeOf (T := "bytes") (typeIs_bytes _ _ _) ?_)
    refine wpAny_bind (wpAny_rule (wpAny_pure ?_))
    have := h p.2 s.toks
    have e : flat [p] = p.1 := by simp [flat]
    rw [e] at this; exact this
  | p :: q :: r, _ =>
    refine wpAny_bind ?_
    generalize hps : p :: q :: r = ps at hD h hsz ⊢
    let f : Nat → Array (Array UInt8) × List (Value × Option Value) → Array (Array UInt8) × List (Value × Option Value) := fun i st => (st.1.push (ps.getD i (#[], 0)).1, st.2 ++ [(bv (ps.getD i (#[], 0)), none)])
    let I : Array (Array UInt8) × List (Value × Option Value) → Prop := fun st => ∀ x ∈ st.2, x.1.onHeap = false ∧ x.2 = none
    have hfin : ∀ (d k : Nat) (b : Array (Array UInt8) × List (Value × Option Value)), k + d = ps.length → I b → I ((List.range' k d).foldl (fun b i => f i b) b) ∧ ((List.range' k d).foldl (fun b i => f i b) b).1.toList = b.1.toList ++ (ps.drop k).map (·.1) := by
      intro d
      induction d with
      | zero => intro k b hk hb; exact ⟨hb, by rw [List.drop_eq_nil_of_le (by omega)]; simp⟩
      | succ d ih =>
        intro k b hk hb
        have hkl : k < ps.length := by omega
        rw [List.range'_succ, List.foldl_cons]
        have hb' : I (f k b) := by
          intro x hx
          rcases List.mem_append.mp hx with hx | hx
          · exact hb x hx
          · cases List.mem_singleton.mp hx; exact ⟨rfl, rfl⟩
        obtain ⟨h1, h2⟩ := ih (k + 1) (f k b) (by omega) hb'
        refine ⟨h1, h2.trans ?_⟩
        have e : ps.getD k (#[], 0) = ps[k] := by simp [List.getD, List.getElem?_eq_getElem hkl]
        rw [List.drop_eq_getElem_cons hkl]
        show (b.1.push (ps.getD k (#[], 0)).1).toList ++ _ = _
        rw [e, Array.toList_push, List.append_assoc]; rfl
    rw [Std.Legacy.Range.forIn_eq_forIn_range']
    have hn : (ps.map bv).toArray.size = ps.length := by simp
    show wpAny _ A (forIn (List.range' 0 (((ps.map bv).toArray.size - 0 + 1 - 1) / 1)) _ _) _ E s
    have hn2 : ((ps.map bv).toArray.size - 0 + 1 - 1) / 1 = ps.length := by rw [hn]; simp
    rw [hn2]
    refine wp_range (f := f) (I := I) (n := ps.length) ?_ ?_ ps.length 0 _ (by omega) (fun x hx => nomatch hx) ?_
    · intro i b Q hi hb hQ
      refine wpAny_bind (wpAny_seqItems hD rfl ?_)
      dsimp only
      have hany : (b.2.any fun x => x.1.onHeap) = false := by
        rw [List.any_eq_false]
        intro x hx
        rw [(hb x hx).1]; exact Bool.false_ne_true
      have hx : (ps.map bv).toArray.getD i .none = bv (ps.getD i (#[], 0)) := by
        simp [List.getD, List.getElem?_eq_getElem hi, Array.getD, hi]
      rw [hany, hx]
      show wpAny _ A (if false = true then _ else _) Q E s
      rw [if_neg Bool.false_ne_true]
      refine wpAny_bind (wpAny_holding (wpAny_of_eq take_eq ?_))
      dsimp only
      refine wpAny_bind (wpAny_seqItems hD rfl ?_)
      dsimp only
      have he : ((ps.map bv).toArray.size != (ps.map bv).toArray.size) = false := by simp
      rw [he]
      show wpAny _ A (if false = true then _ else _) Q E s
      rw [if_neg Bool.false_ne_true]
      exact wpAny_pure hQ
    · intro i b hi hb x hx
      rcases List.mem_append.mp hx with hx | hx
      · exact hb x hx
      · cases List.mem_singleton.mp hx; exact ⟨rfl, rfl⟩
    · obtain ⟨hI, hL⟩ := hfin ps.length 0 (#[], []) (by omega) (fun x hx => nomatch hx)
      generalize (List.range' 0 ps.length).foldl (fun b i => f i b) (#[], []) = st at hI hL
      have hL' : st.1.toList = ps.map (·.1) := by simpa using hL
      refine wpAny_bind (wpAny_of_eq (a := (#[] : Array UInt8)) rfl ?_)
      have ht : Bytes.tooLong (Array.foldl (fun x1 x2 => x1 + x2.size) ((#[] : Array UInt8).size * (st.1.size - 1)) st.1) = false := by
        refine KBy.tooLong_not ?_
        rw [← Array.foldl_toList, hL', size_flat]
        simpa using hsz
      rw [ht]
      show wpAny _ A (if false = true then _ else _) Q E s
      rw [if_neg Bool.false_ne_true]
      have hj : Bytes.joined #[] st.1.toList = flat ps := by
        unfold Bytes.joined
        rw [joined_eq, hL', foldl_flat, Array.empty_append]
      refine wpAny_bind ?_
      show wpAny _ A (mkBytes (Bytes.joined #[] st.1.toList)) _ E s
      rw [hj]
      refine wpAny_mkBytes ?_ (by rw [sizeLine_eq]; exact hsz)
      refine wpAny_bind (wpAny_holding (wpAny_point ?_))
      refine wpAny_bind (wp_joinLetGo hI ?_)
      exact wpAny_pure (h _ _)
end
end Mine
end
section
open PySem PySem.W PyProof.Rows PySem.Builtin
namespace Mine
set_option maxRecDepth 100000
theorem slot_join : Slot "bytes" "join" "bytes.join" :=
  .of (owner := "bytes") (n := "join") (by rw [typeLookup_type, builtinLookup_eq_fast]; kernel_rfl) (by decide +kernel) (by decide +kernel) (by decide +kernel)
    (by first | exact .inl (by decide +kernel) | exact .inr (by decide +kernel)) (by rw [isSubtype_type]; kernel_rfl)
theorem entry_join : entryFor table "bytes.join" = some Builtin.«bytes.join» := entryFor_of_tree (by kernel_rfl)
theorem args_join (a b : Value) : argsOk "bytes.join" ⟨[a, b], []⟩ := by unfold argsOk; kernel_rfl
theorem slot_count : Slot "bytes" "count" "bytes.count" :=
  .of (owner := "bytes") (n := "count") (by rw [typeLookup_type, builtinLookup_eq_fast]; kernel_rfl) (by decide +kernel) (by decide +kernel) (by decide +kernel)
    (by first | exact .inl (by decide +kernel) | exact .inr (by decide +kernel)) (by rw [isSubtype_type]; kernel_rfl)
theorem type_count : typeOf (.builtin "bytes.count") = pure (.type "method_descriptor") := by show builtinType _ = _; rw [builtinType_eq_fast]; kernel_rfl
theorem entry_count : entryFor table "bytes.count" = some Builtin.«bytes.count» := entryFor_of_tree (by kernel_rfl)
theorem args_count (a b : Value) : argsOk "bytes.count" ⟨[a, b], []⟩ := by unfold argsOk; kernel_rfl
theorem slot_sub : Slot "re.Pattern" "sub" "re.Pattern.sub" :=
  .of (owner := "re.Pattern") (n := "sub") (by rw [typeLookup_type, builtinLookup_eq_fast]; kernel_rfl) (by decide +kernel) (by decide +kernel) (by decide +kernel)
    (by first | exact .inl (by decide +kernel) | exact .inr (by decide +kernel)) (by rw [isSubtype_type]; kernel_rfl)
theorem type_sub : typeOf (.builtin "re.Pattern.sub") = pure (.type "method_descriptor") := by show builtinType _ = _; rw [builtinType_eq_fast]; kernel_rfl
theorem entry_sub : entryFor table "re.Pattern.sub" = some Builtin.«re.Pattern.sub» := entryFor_of_tree (by kernel_rfl)
theorem args_sub (a b c : Value) : argsOk "re.Pattern.sub" ⟨[a, b, c], []⟩ := by unfold argsOk; kernel_rfl
theorem plainAttrs_pat : PlainAttrs "re.Pattern" where
  ga := ⟨"object.__getattribute__", by rw [typeLookup_type, builtinLookup_eq_fast]; kernel_rfl, by decide +kernel⟩
  noGetattr := by rw [typeLookup_type, builtinLookup_eq_fast]; kernel_rfl
theorem look_call_bytes : typeLookup (.type "bytes") "__call__" = pure none := by rw [typeLookup_type, builtinLookup_eq_fast]; kernel_rfl
theorem named_sub (a b : Value) : Re.reNamed "re.Pattern.sub" "sub" ["repl", "string", "count"] 2 [a, b] [] = pure [some a, some b, none] := by kernel_rfl
end Mine
end
section
open PySem PySem.W PyProof.Rows PySem.Builtin PySem.Builtin.Re
namespace Mine
set_option maxRecDepth 100000
set_option linter.unusedSimpArgs false
inductive Cut : List UInt8 → List UInt8 → Prop
  | none {u : List UInt8} : (∀ c ∈ u, c ≠ 34) → Cut u u
  | lone {pre mid : List UInt8} : (∀ c ∈ pre, c ≠ 34) → (∀ c ∈ mid, c ≠ 34) → Cut (pre ++ 34 :: mid) (pre ++ 34 :: mid)
  | pair {pre mid rest v : List UInt8} : (∀ c ∈ pre, c ≠ 34) → (∀ c ∈ mid, c ≠ 34) → Cut rest v → Cut (pre ++ 34 :: (mid ++ 34 :: rest)) (pre ++ v)
theorem bn_get {b : Array UInt8} {i : Nat} : (bn b).getD i 0 = (b.toList.getD i 0).toNat := by
  unfold bn
  by_cases h : i < b.size
  · simp [Array.getD, h, List.getD]
  · simp [Array.getD, h, List.getD]
theorem drop_get {l u : List UInt8} {p j : Nat} (h : l.drop p = u) : l.getD (p + j) 0 = u.getD j 0 := by
  subst h
  simp [List.getD]
theorem entry_loop : entryFor table "re.Pattern.sub.loop" = some Builtin.«re.Pattern.sub.loop» := entryFor_of_tree (by kernel_rfl)
theorem plain_loop : plainId "re.Pattern.sub.loop" = true := by decide +kernel
section
variable {b : Array UInt8}
theorem byte_ne {c : UInt8} {n : Nat} (hn : n < 256) (h : c ≠ n.toUInt8) : c.toNat ≠ n := by
  intro e
  apply h
  apply UInt8.toNat_inj.mp
  rw [e]
  simp [Nat.toUInt8]
  omega
theorem bn_size : (bn b).size = b.size := by simp [bn]
theorem len_drop {u : List UInt8} {p : Nat} (hu : b.toList.drop p = u) : u.length = b.size - p := by
  rw [← hu]; simp
theorem at_drop {u : List UInt8} {p i : Nat} (hu : b.toList.drop p = u) (h : p ≤ i) : (bn b).getD i 0 = (u.getD (i - p) 0).toNat := by
  rw [bn_get, ← drop_get hu]
  congr 3
  omega
theorem getD_mem {u : List UInt8} {j : Nat} (h : j < u.length) : u.getD j 0 ∈ u := by
  simp [List.getD, List.getElem?_eq_getElem h]
theorem no34 {u : List UInt8} {p i : Nat} (hu : b.toList.drop p = u) (h : ∀ c ∈ u, c ≠ 34) (h1 : p ≤ i) (h2 : i < b.size) : (bn b).getD i 0 ≠ 34 := by
  rw [at_drop hu h1]
  have hl := len_drop hu
  exact byte_ne (by decide) (h _ (getD_mem (by omega)))
theorem no92 {u : List UInt8} {p i : Nat} (hu : b.toList.drop p = u) (h : ∀ c ∈ u, c ≠ 92) (h1 : p ≤ i) (h2 : i < b.size) : (bn b).getD i 0 ≠ 92 := by
  rw [at_drop hu h1]
  have hl := len_drop hu
  exact byte_ne (by decide) (h _ (getD_mem (by omega)))
theorem find_none {u : List UInt8} {p : Nat} (hu : b.toList.drop p = u) (hp : p ≤ b.size) (h : ∀ c ∈ u, c ≠ 34) : Fails (Sre.forSearch rc (bn b) 0 p (bn b).size false) (8 * b.size + 60) := by
  have hl := len_drop hu
  by_cases h2 : p + 2 ≤ (bn b).size
  · obtain ⟨se, e⟩ := search_start (T := bn b) h2
    rw [e]
    rw [bn_size] at h2 ⊢
    refine Fails.after (m' := SS (bn b) b.size p true se) (j := 0) rfl (scan_none (b.size - p) p true se (by omega) fun i h1 h3 => no34 hu h h1 h3) (by omega)
  · obtain ⟨m, e, hm⟩ := search_short (T := bn b) (l := (bn b).size) (p := p) (by omega)
    exact ⟨1, by omega, by rw [e]; exact hm⟩
theorem getD_app {x y : List UInt8} {j : Nat} (h : x.length ≤ j) : (x ++ y).getD j 0 = y.getD (j - x.length) 0 := by
  simp [List.getD, List.getElem?_append_right h]
theorem getD_app' {x y : List UInt8} {j : Nat} (h : j < x.length) : (x ++ y).getD j 0 = x.getD j 0 := by
  simp [List.getD, List.getElem?_append_left h]
theorem find_lone {pre mid : List UInt8} {p : Nat} (hu : b.toList.drop p = pre ++ 34 :: mid) (hp : p ≤ b.size) (h1 : ∀ c ∈ pre, c ≠ 34) (h2 : ∀ c ∈ mid, c ≠ 34) (h92 : ∀ c ∈ b.toList, c ≠ 92) :
    Fails (Sre.forSearch rc (bn b) 0 p (bn b).size false) (10 * b.size + 60) := by
  have hl := len_drop hu
  simp only [List.length_append, List.length_cons] at hl
  by_cases h3 : p + 2 ≤ (bn b).size
  · obtain ⟨se, e⟩ := search_start (T := bn b) h3
    rw [e]
    rw [bn_size] at h3 ⊢
    refine Fails.after (m' := SS (bn b) b.size p true se) (j := 0) rfl (scan_lone (T := bn b) (l := b.size) (q := p + pre.length) (p0 := p) (by omega) ?_ ?_ ?_ pre.length p true se (Nat.le_refl _) rfl) (by omega)
    · rw [at_drop hu (by omega), getD_app (by omega)]
      have : p + pre.length - p - pre.length = 0 := by omega
      rw [this]; rfl
    · intro i hi hl2 hne
      rw [at_drop hu hi]
      by_cases hlt : i - p < pre.length
      · rw [getD_app' hlt]
        exact byte_ne (by decide) (h1 _ (getD_mem hlt))
      · rw [getD_app (by omega)]
        have : i - p - pre.length = (i - p - pre.length - 1) + 1 := by omega
        rw [this]
        show (mid.getD _ 0).toNat ≠ 34
        exact byte_ne (by decide) (h2 _ (getD_mem (by omega)))
    · intro i hi
      exact no92 (p := 0) (u := b.toList) rfl h92 (Nat.zero_le _) hi
  · obtain ⟨m, e, hm⟩ := search_short (T := bn b) (l := (bn b).size) (p := p) (by omega)
    exact ⟨1, by omega, by rw [e]; exact hm⟩
theorem find_pair {pre mid rest : List UInt8} {p : Nat} (hu : b.toList.drop p = pre ++ 34 :: (mid ++ 34 :: rest)) (hp : p ≤ b.size) (h1 : ∀ c ∈ pre, c ≠ 34) (h2 : ∀ c ∈ mid, c ≠ 34) (h92 : ∀ c ∈ b.toList, c ≠ 92) :
    Finds (Sre.forSearch rc (bn b) 0 p (bn b).size false) (10 * b.size + 60) (p + pre.length) (p + pre.length + mid.length + 2) := by
  have hl := len_drop hu
  simp only [List.length_append, List.length_cons] at hl
  obtain ⟨se, e⟩ := search_start (T := bn b) (l := (bn b).size) (p := p) (by rw [bn_size]; omega)
  rw [e]
  rw [bn_size]
  have hend : p + pre.length + mid.length + 2 = p + pre.length + mid.length + 1 + 1 := by omega
  rw [hend]
  refine Finds.after (m' := SS (bn b) b.size p true se) (j := 0) rfl (scan_pair (T := bn b) (l := b.size) (a := p + pre.length) (b := p + pre.length + mid.length + 1) (by omega) (by omega) ?_ ?_ ?_ pre.length p true se rfl ?_) (by omega)
  · rw [at_drop hu (by omega), getD_app (by omega)]
    have : p + pre.length - p - pre.length = 0 := by omega
    rw [this]; rfl
  · rw [at_drop hu (by omega), getD_app (by omega)]
    have : p + pre.length + mid.length + 1 - p - pre.length = mid.length + 1 := by omega
    rw [this]
    show ((mid ++ 34 :: rest).getD mid.length 0).toNat = 34
    rw [getD_app (Nat.le_refl _), Nat.sub_self]; rfl
  · intro i hi1 hi2
    refine ⟨?_, no92 (p := 0) (u := b.toList) rfl h92 (Nat.zero_le _) (by omega)⟩
    rw [at_drop hu (by omega), getD_app (by omega)]
    have : i - p - pre.length = (i - p - pre.length - 1) + 1 := by omega
    rw [this]
    show ((mid ++ 34 :: rest).getD _ 0).toNat ≠ 34
    rw [getD_app' (by omega)]
    exact byte_ne (by decide) (h2 _ (getD_mem (by omega)))
  · intro i hi1 hi2
    rw [at_drop hu hi1, getD_app' (by omega)]
    exact byte_ne (by decide) (h1 _ (getD_mem (by omega)))
end
theorem slice_eq {b : Array UInt8} {x y : Nat} : ((bn b).extract x y).map (·.toUInt8) = b.extract x y := by
  unfold bn
  apply Array.ext'
  simp [List.map_map, Function.comp_def]
theorem wp_slice {MM : Model} {A : Around} {E : Value → Shared → Prop} {s : Shared} {b : Array UInt8} {x y : Nat} {Q : Value → Shared → Prop} (hsz : b.size ≤ 16777216) (h : Q (.bytes (b.extract x y) s.toks) { s with toks := s.toks + 1 }) :
    wpAny MM A (reSlice (bn b) 1 x y) Q E s := by
  unfold reSlice
  show wpAny MM A (mkBytes (((bn b).extract x y).map (·.toUInt8))) Q E s
  rw [slice_eq]
  refine wpAny_mkBytes h ?_
  rw [sizeLine_eq, Array.size_extract]
  omega
theorem flat_app : ∀ (x y : List (Array UInt8 × Tok)), flat (x ++ y) = flat x ++ flat y
  | [], y => by simp [flat]
  | p :: x, y => by rw [List.cons_append, flat, flat, flat_app x y, Array.append_assoc]
/-- the pieces' list -/
def listO (items : List Value) (n : Nat) : Obj := { cls := .type "list", data := .seq items.toArray n }
theorem wp_push {MM : Model} {A : Around} {E : Value → Shared → Prop} {s : Shared} {D : Addr} {items : List Value} {n : Nat} {x : Value} {Q : Unit → Shared → Prop} (hD : s.heap.get? D = some (listO items n)) (hsz : items.length ≤ 16777215)
    (h : ∀ h' n', Heap.SameBut D s.heap h' → h'.get? D = some (listO (items ++ [x]) n') → Q () { s with heap := h' }) : wpAny MM A (updateSeq D (·.push x)) Q E s := by
  refine wpAny_updateSeq hD rfl ?_ (by rw [List.size_toArray, sizeLine_eq]; omega) (by rw [Array.size_push, List.size_toArray, sizeLine_eq]; omega)
  refine h _ (if (items.toArray.push x).size == items.toArray.size then n else n + 1) (Heap.SameBut.update ..) ?_
  rw [Heap.get?_update_self _ hD rfl]
  show some ({ cls := .type "list", data := .seq (items.toArray.push x) (if (items.toArray.push x).size == items.toArray.size then n else n + 1) } : Obj) = some { cls := .type "list", data := .seq (items ++ [x]).toArray _ }
  rw [List.push_toArray]
theorem sub_loop {prog : Program} {w : World} {b : Array UInt8} {t t0 : Tok} {D : Addr} (hsz : b.size ≤ 1000000) (h92 : ∀ c ∈ b.toList, c ≠ 92) (hD75 : D ≠ 75) (hD74 : D ≠ 74) {u v : List UInt8} (hcut : Cut u v) :
    ∀ {A : Around} {s : Shared} {R : Result → Shared → Prop} (p : Nat) (n : Int) (k : Nat) (ps : List (Array UInt8 × Tok)), b.toList.drop p = u → p ≤ b.size → s.heap.get? 75 = some patO → s.heap.get? 74 = some codeO →
      s.heap.get? D = some (listO (ps.map bv) k) → ps.length ≤ 2 * p → (flat ps).size ≤ p →
      (∀ h' tk k', Heap.SameBut D s.heap h' → R (.ok (.ret (.bytes (flat ps ++ v.toArray) tk))) { s with heap := h', toks := k' }) →
      codeAny (model prog w) A (.builtin "re.Pattern.sub.loop" ⟨[.ref 75, .bytes b t, .bytes #[] t0, .int 0 0, .int 0 0, .int n 0, .int p 0, .int p 0, .bool false, .ref D, .bool false], []⟩) R s := by
  have hfail : ∀ {u : List UInt8} {A : Around} {s : Shared} {R : Result → Shared → Prop} (p : Nat) (n : Int) (k : Nat) (ps : List (Array UInt8 × Tok)), b.toList.drop p = u → p ≤ b.size → s.heap.get? 75 = some patO → s.heap.get? 74 = some codeO →
      s.heap.get? D = some (listO (ps.map bv) k) → ps.length ≤ 2 * p → (flat ps).size ≤ p → Fails (Sre.forSearch rc (bn b) 0 p (bn b).size false) (10 * b.size + 60) →
      (∀ h' tk k', Heap.SameBut D s.heap h' → R (.ok (.ret (.bytes (flat ps ++ u.toArray) tk))) { s with heap := h', toks := k' }) →
      codeAny (model prog w) A (.builtin "re.Pattern.sub.loop" ⟨[.ref 75, .bytes b t, .bytes #[] t0, .int 0 0, .int 0 0, .int n 0, .int p 0, .int p 0, .bool false, .ref D, .bool false], []⟩) R s := by
    intro u A s R p n k ps hu hp hP hC hD hps hfs hf hR
    refine codeAny_builtin entry_loop ?_
    rw [Around.under_plainId plain_loop]
    unfold Builtin.«re.Pattern.sub.loop»
    dsimp only
    refine wpAny_bind (wp_target hP hC ?_)
    refine wpAny_bind ?_
    show wpAny _ A.in1 (reLiteralCannotBeTurned (.bytes #[] t0)) _ _ s
    refine wpAny_of_eq turned_eq ?_
    refine wpAny_bind ?_
    show wpAny _ A.in1 (reNextFound (tgtOf b t) p false) _ _ s
    unfold reNextFound
    obtain ⟨kk, hk, he⟩ := hf
    refine wp_toEnd (k := kk) (by omega) (.inr ⟨he, ?_⟩)
    have hl := len_drop hu
    -- the end: joiner, join
    have hfin : ∀ (s' : Shared) (k' : Nat) (ps' : List (Array UInt8 × Tok)), s'.heap.get? D = some (listO (ps'.map bv) k') → (flat ps').size ≤ 16777216 → (∀ tk k'', R (.ok (.ret (.bytes (flat ps') tk))) { s' with toks := k'' }) →
        wpAny (model prog w) A.in1 (reSlice (tgtOf b t).text (tgtOf b t).kind 0 0 >>= fun joiner => seqItems? (.ref D) >>= fun its => if (its.getD #[]).isEmpty = true then (pure joiner >>= fun text => if false = true then (holding [text] (mkInt n >>= fun x => newTuple [text, x]) >>= fun v => ret v) else ret text)
          else (call (.builtin (if ((tgtOf b t).kind == 0) = true then "str.join" else "bytes.join")) [joiner, .ref D] >>= fun text => if false = true then (holding [text] (mkInt n >>= fun x => newTuple [text, x]) >>= fun v => ret v) else ret text))
          (fun fin s' => match fin with | .done f => R (.ok f) s' | .again c' => c'.quiet = true ∧ codeAny (model prog w) A c' R s') (fun e s' => R (.error e) s') s' := by
      intro s' k' ps' hD' hsz' hR'
      refine wpAny_bind (wp_slice (by omega) ?_)
      have e0 : b.extract 0 0 = #[] := by simp
      rw [e0]
      refine wpAny_bind (wpAny_seqItems (s := { s' with toks := s'.toks + 1 }) hD' rfl ?_)
      cases ps' with
      | nil =>
        show wpAny _ A.in1 (pure _ >>= fun text => _) _ _ _
        refine wpAny_bind (wpAny_pure ?_)
        exact wpAny_pure (hR' _ _)
      | cons q r =>
        show wpAny _ A.in1 (call (.builtin "bytes.join") [.bytes #[] s'.toks, .ref D] >>= fun text => _) _ _ _
        refine wpAny_bind (wpAny_call_entry slot_join (typeIs_bytes _ _ _) entry_join (wp_join hD' (by simp) hsz' fun tk k'' => ⟨_, rfl, ?_⟩) (args_join _ _))
        exact wpAny_pure (hR' _ _)
    by_cases hlt : p < b.size
    · refine Eq.mpr (congrArg (fun t => wpAny _ A.in1 t _ _ s) (if_pos (by show p < (bn b).size; rw [bn_size]; exact hlt))) ?_
      refine wpAny_bind (wp_slice (by omega) ?_)
      refine wpAny_bind (wp_push (s := { s with toks := s.toks + 1 }) hD (by rw [List.length_map]; omega) ?_)
      intro h' n' hs' hD'
      have ee : flat (ps ++ [(b.extract p (bn b).size, s.toks)]) = flat ps ++ u.toArray := by
        rw [flat_app]
        congr 1
        rw [bn_size, ← hu]
        simp [flat]
        apply Array.ext'
        simp
        rw [List.take_of_length_le (by simp)]
      have hus : u.toArray.size = u.length := by simp
      refine hfin { s with toks := s.toks + 1, heap := h' } n' (ps ++ [(b.extract p (bn b).size, s.toks)]) (by rw [List.map_append]; exact hD') (by rw [ee, Array.size_append, hus]; omega) ?_
      intro tk k''
      rw [ee]
      exact hR h' tk k'' hs'
    · refine Eq.mpr (congrArg (fun t => wpAny _ A.in1 t _ _ s) (if_neg (by show ¬ (p < (bn b).size); rw [bn_size]; exact hlt))) ?_
      have hu0 : u = [] := List.eq_nil_of_length_eq_zero (by omega)
      subst hu0
      refine hfin s k ps hD (by omega) ?_
      intro tk k''
      have := hR s.heap tk k'' (Heap.SameBut.refl ..)
      simpa using this
  induction hcut with
  | none h =>
    intro A s R p n k ps hu hp hP hC hD hps hfs hR
    exact hfail p n k ps hu hp hP hC hD hps hfs (let ⟨j, hj, e⟩ := find_none hu hp h; ⟨j, by omega, e⟩) hR
  | lone h1 h2 =>
    intro A s R p n k ps hu hp hP hC hD hps hfs hR
    exact hfail p n k ps hu hp hP hC hD hps hfs (find_lone hu hp h1 h2 h92) hR
  | pair h1 h2 hc ih =>
    intro A s R p n k ps hu hp hP hC hD hps hfs hR
    refine codeAny_builtin entry_loop ?_
    rw [Around.under_plainId plain_loop]
    unfold Builtin.«re.Pattern.sub.loop»
    dsimp only
    refine wpAny_bind (wp_target hP hC ?_)
    refine wpAny_bind ?_
    show wpAny _ A.in1 (reLiteralCannotBeTurned (.bytes #[] t0)) _ _ s
    refine wpAny_of_eq turned_eq ?_
    refine wpAny_bind ?_
    show wpAny _ A.in1 (reNextFound (tgtOf b t) p false) _ _ s
    unfold reNextFound
    obtain ⟨kk, hk, he, hst, hha⟩ := find_pair hu hp h1 h2 h92
    refine wp_toEnd (k := kk) (by omega) (.inl ⟨he, ?_⟩)
    rename_i pre mid rest v
    have hl := len_drop hu
    simp only [List.length_append, List.length_cons] at hl
    generalize (Sre.forSearch rc (bn b) 0 p (bn b).size false).runFor kk = mm at hst hha
    have hrest : b.toList.drop (p + pre.length + mid.length + 2) = rest := by
      have : b.toList.drop (p + pre.length + mid.length + 2) = (b.toList.drop p).drop (pre.length + mid.length + 2) := by rw [List.drop_drop]; congr 1; omega
      rw [this, hu, List.drop_append]
      have : pre.length + mid.length + 2 - pre.length = (mid.length + 1) + 1 := by omega
      rw [this, List.drop_eq_nil_of_le (by omega), List.nil_append, List.drop_succ_cons, List.drop_append, List.drop_eq_nil_of_le (by omega)]
      have : mid.length + 1 - mid.length = 0 + 1 := by omega
      rw [this]; rfl
    -- the loop goes on
    have hgo : ∀ (s' : Shared) (k' : Nat) (ps' : List (Array UInt8 × Tok)), Heap.SameBut D s.heap s'.heap → s'.heap.get? D = some (listO (ps'.map bv) k') → ps'.length ≤ ps.length + 1 → flat ps' = flat ps ++ pre.toArray → s'.gens = s.gens → s'.drawn = s.drawn → s'.os = s.os →
        wpAny (model prog w) A.in1 (updateSeq D (fun x => x.push (.bytes #[] t0)) >>= fun _ => again (.builtin "re.Pattern.sub.loop" ⟨[.ref 75, .bytes b t, .bytes #[] t0, rawInt 0, rawInt 0, rawInt (n + 1), rawInt mm.handed, rawInt mm.handed, .bool (mm.handed == mm.start), .ref D, .bool false], []⟩))
          (fun fin s' => match fin with | .done f => R (.ok f) s' | .again c' => c'.quiet = true ∧ codeAny (model prog w) A c' R s') (fun e s' => R (.error e) s') s' := by
      intro s' k' ps' hs' hD' hlen hfl hg1 hg2 hg3
      refine wpAny_bind (wp_push hD' (by rw [List.length_map]; omega) ?_)
      intro h2' n2 hs2 hD2
      refine wpAny_pure ⟨Code.quiet_builtin _ (by decide +kernel), ?_⟩
      have hb : (mm.handed == mm.start) = false := by rw [hst, hha]; simp; omega
      rw [hb, hha]
      have hcast : ((p + pre.length + mid.length + 2 : Nat) : Int) = ((p + pre.length + mid.length + 2 : Nat) : Int) := rfl
      have hs3 : Heap.SameBut D s.heap h2' := hs'.trans hs2
      refine ih (s := { s' with heap := h2' }) (p + pre.length + mid.length + 2) (n + 1) n2 (ps' ++ [(#[], t0)]) hrest (by omega) ((hs3.2 75 (Ne.symm hD75)).trans hP) ((hs3.2 74 (Ne.symm hD74)).trans hC) (by rw [List.map_append]; exact hD2) (by simp; omega) ?_ ?_
      · rw [flat_app, hfl]; simp [flat]; omega
      · intro h3 tk k3 hs4
        rw [flat_app, hfl]
        have e1 : (flat ps ++ pre.toArray ++ flat [((#[] : Array UInt8), t0)] ++ v.toArray) = flat ps ++ (pre ++ v).toArray := by
          apply Array.ext'
          simp [flat]
        rw [e1]
        have := hR h3 tk k3 (hs3.trans hs4)
        rw [← hg1, ← hg2, ← hg3] at this
        exact this
    by_cases hpre : pre = []
    · subst hpre
      refine Eq.mpr (congrArg (fun t => wpAny _ A.in1 t _ _ s) (if_neg (by show ¬ (p < mm.start); rw [hst]; simp))) ?_
      exact hgo s k ps (Heap.SameBut.refl ..) hD (by omega) (by simp) rfl rfl rfl
    · have hpl : 0 < pre.length := List.length_pos_iff.mpr hpre
      refine Eq.mpr (congrArg (fun t => wpAny _ A.in1 t _ _ s) (if_pos (by show p < mm.start; rw [hst]; omega))) ?_
      refine wpAny_bind (wp_slice (by omega) ?_)
      refine wpAny_bind (wp_push (s := { s with toks := s.toks + 1 }) hD (by rw [List.length_map]; omega) ?_)
      intro h' n' hs' hD'
      refine hgo { s with toks := s.toks + 1, heap := h' } n' (ps ++ [(b.extract p mm.start, s.toks)]) hs' (by rw [List.map_append]; exact hD') (by simp) ?_ rfl rfl rfl
      rw [flat_app, hst]
      congr 1
      apply Array.ext'
      simp [flat]
      rw [hu, List.take_append_of_le_length (by omega)]
      simp
end Mine
end
section
open PySem PySem.W PyProof.Rows PySem.Builtin PySem.Builtin.Re
namespace Mine
set_option maxRecDepth 100000
set_option linter.unusedSimpArgs false
theorem keeps_new {h₀ h h' : Heap} {L : Addr} {m : Str → Option Value} {news : List (Addr × Obj)} {o : Obj} (F : Fr h₀ L h m) (N : News h₀ L h news) (hs : Heap.SameBut h.objs.size (h.push o) h') : Fr h₀ L h' m ∧ News h₀ L h' news := by
  have get : ∀ b x, h.get? b = some x → h'.get? b = some x := fun b x e => (hs.2 b (Nat.ne_of_lt (Heap.lt_size e))).trans (Heap.get?_push_of_some _ e)
  refine ⟨⟨F.ns.keeps get, fun b x e => get b x (F.keep b x e), F.above⟩, fun p hp => ⟨get _ _ (N p hp).1, (N p hp).2⟩⟩
section
variable {prog : Program} {w : World} {A : Around} {E : Value → Shared → Prop} {s : Shared}
theorem call_sub {b : Array UInt8} {t t0 : Tok} {v : List UInt8} {h₀ : Heap} {L : Addr} {m : Str → Option Value} {news : List (Addr × Obj)} {Q : Value → Shared → Prop} (hsz : b.size ≤ 1000000) (h92 : ∀ c ∈ b.toList, c ≠ 92) (hcut : Cut b.toList v)
    (hP : s.heap.get? 75 = some patO) (hC : s.heap.get? 74 = some codeO) (F : Fr h₀ L s.heap m) (N : News h₀ L s.heap news)
    (h : ∀ h' tk k, Fr h₀ L h' m → News h₀ L h' news → Q (.bytes v.toArray tk) { s with heap := h', toks := k }) :
    wpAny (model prog w) A (call (.builtin "re.Pattern.sub") [.ref 75, .bytes #[] t0, .bytes b t]) Q E s := by
  refine wpAny_call (codeAny_call_builtin slot_sub.plain entry_sub (slot_sub.check _ _ _ _ _ _ _ _ ⟨_, hP, rfl⟩ (args_sub _ _ _) ?_))
  unfold Builtin.«re.Pattern.sub» reSubstitute
  dsimp only
  refine wpAny_bind (wpAny_of_eq (named_sub _ _) ?_)
  dsimp only
  refine wpAny_bind (wpAny_pure ?_)
  refine wpAny_bind (wpAny_specialOf (typeIs_bytes _ _ _) look_call_bytes ?_)
  refine wpAny_bind (wpAny_of_eq (a := Option.none) rfl ?_)
  dsimp only
  refine wpAny_bind (wpAny_of_eq KBy.quiet_eq ?_)
  dsimp only
  refine wpAny_bind (wpAny_pure ?_)
  have e92 : (!(#[] : Array UInt8).contains 92) = true := by simp
  rw [e92]
  simp only [Option.isSome_none, Bool.false_eq_true, if_false, if_true]
  refine wpAny_bind (wpAny_pure ?_)
  refine wpAny_bind (wpAny_holding (wp_target hP hC ?_))
  show wpAny _ A.in1 (newList [] >>= fun x => _) _ _ _
  refine wpAny_bind (wpAny_newList ?_)
  refine wpAny_pure ⟨Code.quiet_builtin _ (by decide +kernel), ?_⟩
  have hl75 := Heap.lt_size hP
  have hl74 := Heap.lt_size hC
  refine sub_loop (s := { s with heap := s.heap.push { cls := .type "list", data := .seq ([] : List Value).toArray } }) hsz h92 (Nat.ne_of_gt hl75) (Nat.ne_of_gt hl74) hcut 0 0 0 [] rfl (Nat.zero_le _) (Heap.get?_push_of_some _ hP) (Heap.get?_push_of_some _ hC) (Heap.get?_push_size _ rfl) (by simp) (by simp [flat]) ?_
  intro h' tk k hs
  obtain ⟨F', N'⟩ := keeps_new F N hs
  have := h h' tk k F' N'
  simpa [flat] using this
end
end Mine
end
section
open PySem PySem.W PyProof.Rows PySem.Builtin PySem.Builtin.Re
namespace Mine
set_option maxRecDepth 100000
set_option linter.unusedSimpArgs false
theorem occ_len (b : Array UInt8) (c : UInt8) : (Bytes.occurrences b #[c] 0 b.size).length = b.toList.count c := by
  unfold Bytes.occurrences
  have hn : b.size + 1 - (0 + (#[c] : Array UInt8).size) = b.size := by simp
  dsimp only
  rw [hn]
  have key : ∀ n, n ≤ b.size → ∀ st, st = (((List.range n).map (· + 0)).foldl (fun (acc : List Nat × Nat) (i : Nat) => if (decide (i ≥ acc.2) && b.extract i (i + (#[c] : Array UInt8).size) == #[c]) = true then (i :: acc.1, i + (#[c] : Array UInt8).size) else acc) ([], 0)) → st.2 ≤ n ∧ st.1.length = (b.toList.take n).count c := by
    intro n
    induction n with
    | zero => intro _ st h; subst h; simp
    | succ n ih =>
      intro hn st h
      rw [List.range_succ, List.map_append, List.foldl_append] at h
      generalize hst : (((List.range n).map (· + 0)).foldl (fun (acc : List Nat × Nat) (i : Nat) => if (decide (i ≥ acc.2) && b.extract i (i + (#[c] : Array UInt8).size) == #[c]) = true then (i :: acc.1, i + (#[c] : Array UInt8).size) else acc) ([], 0)) = s0 at h
      obtain ⟨h1, h2⟩ := ih (by omega) s0 hst.symm
      simp only [List.map_cons, List.map_nil, List.foldl_cons, List.foldl_nil, Nat.add_zero] at h
      have hlt : n < b.toList.length := by simp; omega
      have hex : b.extract n (n + 1) = #[b[n]'(by omega)] := by
        apply Array.ext'
        simp
        rw [List.take_one]
        simp [List.getElem?_eq_getElem hlt]
      rw [show (n + (#[c] : Array UInt8).size) = n + 1 from rfl, hex] at h
      have htake : b.toList.take (n + 1) = b.toList.take n ++ [b[n]'(by omega)] := by
        rw [List.take_succ_eq_append_getElem hlt]; simp
      rw [htake, List.count_append]
      by_cases hc : b[n]'(by omega) = c
      · rw [if_pos (by simp [hc]; omega)] at h
        subst h
        refine ⟨Nat.le_refl _, ?_⟩
        simp [hc, h2]
      · rw [if_neg (by simp [hc])] at h
        subst h
        refine ⟨by omega, ?_⟩
        rw [h2]; simp [hc]
  obtain ⟨_, h2⟩ := key b.size (Nat.le_refl _) _ rfl
  rw [List.length_reverse]
  refine h2.trans ?_
  rw [List.take_of_length_le (by simp)]
section
variable {prog : Program} {w : World} {A : Around} {E : Value → Shared → Prop} {s : Shared}
theorem some_eq {b c : Array UInt8} {t u : Tok} : selfAndSome "bytes.count" "count" 1 3 ⟨[.bytes b t, .bytes c u], []⟩ = pure (.bytes b t, [.bytes c u]) := by kernel_rfl
theorem search_eq {b c : Array UInt8} {t u : Tok} : Bytes.searchArgs .bytes "count" ⟨[.bytes b t, .bytes c u], []⟩ = pure (b, c, if (Bytes.window b.size none none).2 - (Bytes.window b.size none none).1 < (c.size : Int) then none else some ((Bytes.window b.size none none).1.toNat, (Bytes.window b.size none none).2.toNat)) := by
  unfold Bytes.searchArgs
  show (selfAndSome "bytes.count" "count" 1 3 ⟨[.bytes b t, .bytes c u], []⟩ >>= fun x => _) = _
  rw [some_eq]
  show (Bytes.buffer? "bytes.count" (.bytes c u) >>= fun x => _) = _
  rw [KBy.buffer_eq]
  rfl
theorem call_count {b : Array UInt8} {c : UInt8} {t u : Tok} {Q : Value → Shared → Prop} (h : ∀ tk k, Q (.int (b.toList.count c) tk) { s with toks := k }) :
    wpAny (model prog w) A (call (.builtin "bytes.count") [.bytes b t, .bytes #[c] u]) Q E s := by
  refine wpAny_call_entry slot_count (typeIs_bytes _ _ _) entry_count ?_ (args_count _ _)
  unfold Builtin.«bytes.count» Bytes.countM
  refine wpAny_bind (wpAny_of_eq search_eq ?_)
  have hw1 : (Bytes.window b.size none none).1 = 0 := rfl
  have hw2 : (Bytes.window b.size none none).2 = b.size := by
    show min (b.size : Int) (if (b.size : Int) < 0 then _ else (b.size : Int)) = _
    rw [if_neg (by omega)]; omega
  rw [hw1, hw2]
  by_cases hb : (b.size : Int) - 0 < ((#[c] : Array UInt8).size : Int)
  · rw [if_pos hb]
    have h0 : b.toList.count c = 0 := by
      have : b.size = 0 := by simp at hb; omega
      have : b = #[] := Array.eq_empty_of_size_eq_zero this
      subst this; rfl
    have := h s.toks (s.toks + 1)
    rw [h0] at this
    exact wpAny_bind (wpAny_mkInt (wpAny_pure ⟨_, rfl, this⟩))
  · rw [if_neg hb]
    show wpAny _ A.in1 (retInt ((Bytes.occurrences b #[c] 0 ((b.size : Int)).toNat).length : Nat)) _ _ _
    have hz : ((b.size : Int)).toNat = b.size := rfl
    rw [hz, occ_len]
    exact wpAny_bind (wpAny_mkInt (wpAny_pure ⟨_, rfl, h _ _⟩))
end
end Mine
end
section
open PySem PySem.W PyProof.Rows PySem.Builtin
namespace Mine
set_option maxRecDepth 100000
set_option linter.unusedSimpArgs false
set_option pp.maxSteps 3000
section
variable {MM : Model} {A : Around} {E : Value → Shared → Prop} {s : Shared}
theorem entry_encode_eq {x : PySem.Str} {t : Tok} : Builtin.«str.encode» ⟨[.str x t], []⟩ = ((_codecs.encodeNarrow "str.encode" _codecs.utf8Codec none (.str x t) x >>= fun b => mkBytes b) >>= fun v => ret v) := by kernel_rfl
theorem not_bad {c : Nat} (h : c < 128) : _codecs.utf8Codec.bad c = false := by
  show Str.isSurrogate c = false
  unfold Str.isSurrogate
  simp
  omega
theorem bytes_of {c : Nat} (h : c < 128) : _codecs.utf8Codec.bytesOf c = [c.toUInt8] := by
  show Str.utf8Of c = _
  unfold Str.utf8Of
  simp [h]
theorem fold_of : ∀ (l : List Nat) (acc : Array UInt8), (∀ c ∈ l, c < 128) → l.foldl (fun acc y => acc ++ (_codecs.utf8Codec.bytesOf y).toArray) acc = acc ++ (l.map (·.toUInt8)).toArray
  | [], acc, _ => by simp
  | c :: l, acc, h => by
    rw [List.foldl_cons, bytes_of (h c (.head _)), fold_of l _ fun d hd => h d (.tail _ hd)]
    apply Array.ext'
    simp
theorem wp_narrow {id : String} {x : PySem.Str} {v : Value} {Q : Array UInt8 → Shared → Prop} (hx : ∀ c ∈ x.cps.toList, c < 128) (hl : x.length ≤ 16777216) (h : Q (x.cps.map (·.toUInt8)) s) :
    wpAny MM A (_codecs.encodeNarrow id _codecs.utf8Codec none v x) Q E s := by
  unfold _codecs.encodeNarrow
  dsimp only
  rw [Std.Legacy.Range.forIn_eq_forIn_range']
  have hbad : x.cps.findIdx? _codecs.utf8Codec.bad = none := by
    rw [Array.findIdx?_eq_none_iff]
    intro c hc
    exact not_bad (hx c (by simpa using hc))
  have hsz : [:x.length].size = x.cps.size := by simp [Std.Legacy.Range.size, Str.length]
  show wpAny MM A (forIn (List.range' 0 [:x.length].size 1) _ _ >>= _) Q E s
  rw [hsz]
  refine wpAny_bind ?_
  rcases hn : x.cps.size with _ | n
  · have : x.cps = #[] := Array.eq_empty_of_size_eq_zero hn
    rw [this] at h
    have e : Array.map (fun x : Nat => x.toUInt8) #[] = #[] := by simp
    rw [e] at h
    exact wpAny_pure (wpAny_pure h)
  · have hfold : Array.foldl (fun acc y => acc ++ (_codecs.utf8Codec.bytesOf y).toArray) #[] x.cps = x.cps.map (·.toUInt8) := by
      rw [← Array.foldl_toList, fold_of _ _ hx]
      apply Array.ext'
      simp
    rw [List.range'_succ, List.forIn_cons]
    refine wpAny_bind ?_
    dsimp only
    show wpAny MM A (if (#[] : Array UInt8).size > sizeLine then _ else _) _ E s
    rw [if_neg (by simp)]
    have h0 : x.cps[0]? = some (x.cps[0]'(by omega)) := Array.getElem?_eq_getElem (by omega)
    rw [h0]
    dsimp only
    rw [not_bad (hx _ (by simp))]
    simp only [Bool.not_false, if_true]
    have hext : x.cps.extract 0 (n + 1) = x.cps := by rw [← hn]; simp
    have hszm : (x.cps.map (·.toUInt8)).size ≤ sizeLine := by rw [Array.size_map, sizeLine_eq]; exact hl
    rw [hext, hbad]
    have hone : (none : Option Nat).getD x.cps.size = n + 1 := hn
    rw [hone, hext, hfold]
    refine wpAny_pure ?_
    dsimp only
    cases n with
    | zero => exact wpAny_pure (wpAny_pure h)
    | succ k =>
      rw [List.range'_succ, List.forIn_cons]
      refine wpAny_bind ?_
      dsimp only
      rw [if_neg (by omega)]
      have hnone : x.cps[0 + (k + 1 + 1)]? = none := Array.getElem?_eq_none (by omega)
      rw [hnone]
      exact wpAny_pure (wpAny_pure (wpAny_pure h))
theorem call_encode {prog : Program} {w : World} {x : PySem.Str} {t : Tok} {Q : Value → Shared → Prop} (hx : ∀ c ∈ x.cps.toList, c < 128) (hl : x.length ≤ 16777216) (h : ∀ tk k, Q (.bytes (x.cps.map (·.toUInt8)) tk) { s with toks := k }) :
    wpAny (model prog w) A (call (.builtin "str.encode") [.str x t]) Q E s := by
  refine wpAny_call_entry F.slot_str_encode (typeIs_str _ _ _) F.entry_str_encode ?_ (F.args_str_encode_1 _)
  rw [entry_encode_eq]
  refine wpAny_bind (wpAny_bind (wp_narrow hx hl ?_))
  refine wpAny_mkBytes (wpAny_pure ⟨_, rfl, h _ _⟩) ?_
  rw [Array.size_map, sizeLine_eq]; exact hl
end
end Mine
end
section
open PySem PySem.W PyProof.Rows PySem.Builtin PySem.Builtin.Re
namespace Mine
set_option Elab.async false
set_option maxRecDepth 100000
theorem fill : PySem.Challenge.rw_zd0001_01 = PySem.Challenge.rw_zd0001_01 ∧ hd.heap_39 = hd.heap_39 := by
  k_fill
  exact ⟨rfl, rfl⟩
section
variable {w : World} {h₀ : Heap} {L : Addr} {m : Str → Option Value} {news : List (Addr × Obj)} {s : Shared}
theorem patK {h : Heap} (X : (hd.heap_39 w.params).In h) : h.get? 75 = some patO := X 75 patO (by kernel_rfl)
theorem codK {h : Heap} (X : (hd.heap_39 w.params).In h) : h.get? 74 = some codeO := X 74 codeO (by kernel_rfl)
theorem meth_sub {M : Model} {A : Around} {E : Value → Shared → Prop} {pl : Sem Bool} {Q : Value × List Value → Shared → Prop} (F : Fr h₀ L s.heap m) (X : (hd.heap_39 w.params).In h₀) (h : Q (.builtin "re.Pattern.sub", [.ref 75]) s) : wpAny M A (getMethod (.ref 75) "sub" pl) Q E s :=
  getMethod_builtin ⟨_, F.keep _ _ (patK X), rfl⟩ plainAttrs_pat slot_sub type_sub (fun a e => ⟨_, by cases e; exact F.keep _ _ (patK X), rfl⟩) h
theorem subK {prog : Program} {A : Around} {E : Value → Shared → Prop} {b : Array UInt8} {t t0 : Tok} {v : List UInt8} {Q : Value → Shared → Prop} (hsz : b.size ≤ 1000000) (h92 : ∀ c ∈ b.toList, c ≠ 92) (hcut : Cut b.toList v)
    (F : Fr h₀ L s.heap m) (N : News h₀ L s.heap news) (X : (hd.heap_39 w.params).In h₀)
    (h : ∀ h' tk k, Fr h₀ L h' m → News h₀ L h' news → Q (.bytes v.toArray tk) { s with heap := h', toks := k }) :
    wpAny (model prog w) A (call (.builtin "re.Pattern.sub") [.ref 75, .bytes #[] t0, .bytes b t]) Q E s :=
  call_sub hsz h92 hcut (F.keep _ _ (patK X)) (F.keep _ _ (codK X)) F N h
theorem meth_count {M : Model} {A : Around} {E : Value → Shared → Prop} {b : Array UInt8} {t : Tok} {pl : Sem Bool} {Q : Value × List Value → Shared → Prop} (h : Q (.builtin "bytes.count", [.bytes b t]) s) : wpAny M A (getMethod (.bytes b t) "count" pl) Q E s :=
  getMethod_builtin (typeIs_bytes _ _ _) FB.plainAttrs_bytes slot_count type_count (fun a e => nomatch e) h
end
local macro_rules | `(tactic| walk_at "getMethod ref") => `(tactic| (k_here; (with_reducible show wpAny _ _ (getMethod (Value.ref 75) _ _) _ _ _); (refine meth_sub (by k_asm) (by k_asm) ?_)))
local macro_rules | `(tactic| walk_at "getMethod bytes") => `(tactic| (k_here; (refine meth_count ?_)))
local macro_rules | `(tactic| walk_at "call builtin:re.Pattern.sub") => `(tactic| (k_here; (refine subK (by assumption) (by assumption) (by assumption) (by k_asm) (by k_asm) (by k_asm) ?_); intro h' tk' k' F' N'))
local macro_rules | `(tactic| walk_at "call builtin:bytes.count") => `(tactic| (k_here; (refine call_count ?_); intro tk' k'))
set_option maxHeartbeats 8000000 in
theorem paren_sum {w : World} {A₀ : Around} {base h₀ : Heap} {env : Env} {L : Addr} {m mg mb : Str → Option Value} {mean : ExcName → Option Value} {news : List (Addr × Obj)} {s : Shared} {R : Result → Shared → Prop}
  {b : Array UInt8} {t t' : Tok} {d : Int} {v : List UInt8} (hsz : b.size ≤ 1000000) (h92 : ∀ c ∈ b.toList, c ≠ 92) (hcut : Cut b.toList v)
  (B : Below A₀ base [] h₀) (F : Fr h₀ L s.heap m) (X : (hd.heap_39 w.params).In h₀) (N : News h₀ L s.heap news) (T : Top hd.view_39 (looseW hd.view_39 [Str.ofString "_quoted", Str.ofString "_paren_depth"]) mean mg mb h₀)
  (hf : env.frame = some L) (hke : env.scope.kind = .function)
  (h : ∀ h' tk k, Fr h₀ L h' m → News h₀ L h' news → R (.ok (.ret (.int (d + v.count 40 - v.count 41) tk))) { s with heap := h', toks := k })
  : codeAny (model PySem.Challenge.rw_zd0001_01.row.prog w) (callerA.deeper env) (.call (.ref 83) ⟨[.bytes b t, .int d t'], []⟩) R s := by
  refine' code_def B F X N T rfl hf hke ?k6 ?k7 ?k8 ?k9 ?kB ?_ ?c2 ?c3 ?c4 ?c5
  case k6 => k_is
  case k7 => k_is
  case k8 => k_room
  case k9 => first | exact BindsTo.of_eq rfl | exact binds_K (by k_in) rfl (by k_is) rfl rfl rfl
  case c5 => decide
  case kB => exact locs rfl
  case c2 => exact rfl
  case c3 => exact rfl
  case c4 => exact rfl
  intro g' L' h' FG' F' N' B' X' T'
  (try dsimp only)
  (try k_fold)
  k_steps
  all_goals exact h _ _ _ (by assumption) (by assumption)
set_option maxHeartbeats 8000000 in
theorem paren_sum1 {w : World} {A₀ : Around} {base h₀ : Heap} {env : Env} {L : Addr} {m mg mb : Str → Option Value} {mean : ExcName → Option Value} {news : List (Addr × Obj)} {s : Shared} {R : Result → Shared → Prop}
  {b : Array UInt8} {t : Tok} {v : List UInt8} (hsz : b.size ≤ 1000000) (h92 : ∀ c ∈ b.toList, c ≠ 92) (hcut : Cut b.toList v)
  (B : Below A₀ base [] h₀) (F : Fr h₀ L s.heap m) (X : (hd.heap_39 w.params).In h₀) (N : News h₀ L s.heap news) (T : Top hd.view_39 (looseW hd.view_39 [Str.ofString "_quoted", Str.ofString "_paren_depth"]) mean mg mb h₀)
  (hf : env.frame = some L) (hke : env.scope.kind = .function)
  (h : ∀ h' tk k, Fr h₀ L h' m → News h₀ L h' news → R (.ok (.ret (.int (0 + v.count 40 - v.count 41) tk))) { s with heap := h', toks := k })
  : codeAny (model PySem.Challenge.rw_zd0001_01.row.prog w) (callerA.deeper env) (.call (.ref 83) ⟨[.bytes b t], []⟩) R s := by
  refine' code_def B F X N T rfl hf hke ?k6 ?k7 ?k8 ?k9 ?kB ?_ ?c2 ?c3 ?c4 ?c5
  case k6 => k_is
  case k7 => k_is
  case k8 => k_room
  case k9 => first | exact BindsTo.of_eq rfl | exact binds_K (by k_in) rfl (by k_is) rfl rfl rfl
  case c5 => decide
  case kB => exact locs rfl
  case c2 => exact rfl
  case c3 => exact rfl
  case c4 => exact rfl
  intro g' L' h' FG' F' N' B' X' T'
  (try dsimp only)
  (try k_fold)
  k_steps
  all_goals exact h _ _ _ (by assumption) (by assumption)
end Mine
end
section
open PySem PySem.W PyProof.Rows PySem.Builtin PySem.Builtin.Str
namespace Mine
set_option maxRecDepth 100000
set_option linter.unusedSimpArgs false
def dbl : List Nat → List Nat
  | [] => []
  | c :: r => if c = 34 then 34 :: 34 :: dbl r else c :: dbl r
theorem dbl_app : ∀ x y : List Nat, dbl (x ++ y) = dbl x ++ dbl y
  | [], y => rfl
  | c :: x, y => by
    rw [List.cons_append, dbl, dbl, dbl_app x y]
    split <;> simp
theorem idx3 {n : Nat} (h : 3 ≤ n) : strSliceIndices none (some 3) 1 n = [0, 1, 2] := by
  unfold strSliceIndices
  show sliceRange 0 (max 0 (min (if (3 : Int) < 0 then 3 + (n : Int) else 3) (n : Int))) 1 = _
  rw [if_neg (by omega)]
  have : max 0 (min (3 : Int) n) = 3 := by omega
  rw [this]; decide
theorem idx35 {n : Nat} (h : 5 ≤ n) : strSliceIndices (some 3) (some 5) 1 n = [3, 4] := by
  unfold strSliceIndices
  show sliceRange (max 0 (min (if (3 : Int) < 0 then 3 + (n : Int) else 3) (n : Int))) (max 0 (min (if (5 : Int) < 0 then 5 + (n : Int) else 5) (n : Int))) 1 = _
  rw [if_neg (by omega), if_neg (by omega)]
  have h3 : max 0 (min (3 : Int) n) = 3 := by omega
  have h5 : max 0 (min (5 : Int) n) = 5 := by omega
  rw [h3, h5]; decide
theorem slice3 {a b c : Nat} {r : List Nat} (hr : r ≠ []) : Txt.slice ⟨(a :: b :: c :: r).toArray⟩ none (some 3) = ⟨#[a, b, c]⟩ := by
  unfold Txt.slice
  have hl : (⟨(a :: b :: c :: r).toArray⟩ : PySem.Str).length = r.length + 3 := by simp [PySem.Str.length]
  rw [hl, idx3 (by omega)]
  have hpos : 0 < r.length := List.length_pos_iff.mpr hr
  rw [if_neg (by simp; omega)]
  simp
theorem slice35 {a b c d e : Nat} {r : List Nat} : Txt.slice ⟨(a :: b :: c :: d :: e :: r).toArray⟩ (some 3) (some 5) = ⟨#[d, e]⟩ := by
  unfold Txt.slice
  have hl : (⟨(a :: b :: c :: d :: e :: r).toArray⟩ : PySem.Str).length = r.length + 5 := by simp [PySem.Str.length]
  rw [hl, idx35 (by omega)]
  rw [if_neg (by simp)]
  simp
theorem item_at {x : PySem.Str} {i : Int} {c : Nat} (h0 : 0 ≤ i) (h : x.cps[i.toNat]? = some c) : Txt.item x i = ⟨#[c]⟩ := by
  have hlt : i.toNat < x.cps.size := by
    rcases Nat.lt_or_ge i.toNat x.cps.size with h1 | h1
    · exact h1
    · rw [Array.getElem?_eq_none h1] at h; cases h
  unfold Txt.item Txt.charAt seqIndex?
  have h1 : ¬ (i < 0) := by omega
  simp only [h1, if_false]
  have h2 : (decide (0 ≤ i) && decide (i < (x.length : Int))) = true := by
    have hi : i < (x.length : Int) := by show i < ((x.cps.size : Nat) : Int); omega
    rw [decide_eq_true h0, decide_eq_true hi]; rfl
  rw [if_pos h2]
  show (⟨#[(x.cps[i.toNat]?).getD 0]⟩ : PySem.Str) = _
  rw [h]; rfl
section
variable {prog : Program} {w : World} {A : Around} {E : Value → Shared → Prop} {s : Shared} {value slice : Expr} {x y : PySem.Str} {t u : Tok} {Q : Value → Shared → Prop}
theorem sub_at {i : Int} {c : Nat} (h0 : 0 ≤ i) (hlen : x.length ≤ 1000000) (hc : x.cps[i.toNat]? = some c) (h : Q (.str ⟨#[c]⟩ s.toks) { s with toks := s.toks + 1 })
    (hs : subscripted slice false (.str x t) (.int i u) = operate [.str x t, .int i u] (getItem (.str x t) (.int i u)) := by with_unfolding_all rfl)
    (ht : ∀ r, letTemporaryGo value (.str x t) r = pure () := by intro _; with_unfolding_all rfl) :
    wpAny (model prog w) A (subscriptTail value slice (.str x t) (.int i u)) Q E s := by
  have hlt : i.toNat < x.length := by
    rcases Nat.lt_or_ge i.toNat x.cps.size with h1 | h1
    · exact h1
    · rw [Array.getElem?_eq_none h1] at hc; cases hc
  refine item_str (fitsSsize_of (N := 9223372036854775808) (by omega) (by omega) (Int.le_refl _)) (by omega) (by omega) (fun _ => ?_) hs ht
  rw [item_at h0 hc]; exact h
theorem ne_same (hxy : x = y) (h : Q (.bool false) s) : wpAny (model prog w) A (compareOp .NotEq (.str x t) (.str y u)) Q E s := by
  refine ne_str ?_
  have : (x != y) = false := by subst hxy; simp
  rw [this]; exact h
theorem ne_other (hxy : x ≠ y) (h : Q (.bool true) s) : wpAny (model prog w) A (compareOp .NotEq (.str x t) (.str y u)) Q E s := by
  refine ne_str ?_
  have : (x != y) = true := by simpa using hxy
  rw [this]; exact h
theorem eq_same (hxy : x = y) (h : Q (.bool true) s) : wpAny (model prog w) A (compareOp .Eq (.str x t) (.str y u)) Q E s := by
  refine eq_str ?_
  have : (x == y) = true := by subst hxy; simp
  rw [this]; exact h
theorem eq_other (hxy : x ≠ y) (h : Q (.bool false) s) : wpAny (model prog w) A (compareOp .Eq (.str x t) (.str y u)) Q E s := by
  refine eq_str ?_
  have : (x == y) = false := by simpa using hxy
  rw [this]; exact h
end
theorem quote_lit : PySem.Str.ofString "\"" = ⟨#[34]⟩ := by decide +kernel
theorem lit257 : PySem.Str.ofString "257" = ⟨#[50, 53, 55]⟩ := by decide +kernel
theorem litsq : PySem.Str.ofString " \"" = ⟨#[32, 34]⟩ := by decide +kernel
end Mine
end
section
open PySem PySem.W PyProof.Rows PySem.Builtin
namespace Mine
set_option Elab.async false
set_option maxRecDepth 100000
theorem fillA : PySem.Challenge.rw_zd0001_01 = PySem.Challenge.rw_zd0001_01 ∧ hd.heap_39 = hd.heap_39 := by
  k_fill
  exact ⟨rfl, rfl⟩
def pm (x : PySem.Str) (t ti tn td : Tok) (i n : Int) (d : PySem.Str) (c : Option Value) : PySem.Str → Option Value := fun y =>
  if y = PySem.Str.ofString "dirname" then some (.str d td) else if y = PySem.Str.ofString "i" then some (.int i ti) else if y = PySem.Str.ofString "c" then c else if y = PySem.Str.ofString "n" then some (.int n tn) else if y = PySem.Str.ofString "resp" then some (.str x t) else none
def pJ (x : PySem.Str) (t : Tok) (name : List Nat) (news : List (Addr × Obj)) (n : Nat) (m : PySem.Str → Option Value) (news' : List (Addr × Obj)) : Prop :=
  news' = news ∧ ∃ dn rest ti tn td c, name = dn ++ rest ∧ n = rest.length + 1 ∧ m = pm x t ti tn td (5 + (dbl dn).length) x.length ⟨dn.toArray⟩ c
theorem pJ_of {x : PySem.Str} {t : Tok} {name : List Nat} {news : List (Addr × Obj)} {n : Nat} {m : PySem.Str → Option Value} {dn rest : List Nat} {ti tn td : Tok} {c : Option Value} (h1 : name = dn ++ rest) (h2 : n = rest.length + 1) (h3 : m = pm x t ti tn td (5 + (dbl dn).length) x.length ⟨dn.toArray⟩ c) : pJ x t name news n m news :=
  ⟨rfl, dn, rest, ti, tn, td, c, h1, h2, h3⟩
theorem pm_start {x : PySem.Str} {t ti tn td : Tok} : (fun y => if y = PySem.Str.ofString "n" then some (.int x.length tn) else if y = PySem.Str.ofString "i" then some (.int 5 ti) else if y = PySem.Str.ofString "dirname" then some (.str (PySem.Str.ofString "") td) else List.lookup y [(PySem.Str.ofString "resp", Value.str x t)]) = pm x t ti tn td (5 + (dbl []).length) x.length ⟨([] : List Nat).toArray⟩ none := by
  funext y
  by_cases h1 : y = PySem.Str.ofString "n"
  · subst h1; rfl
  by_cases h2 : y = PySem.Str.ofString "i"
  · subst h2; rfl
  by_cases h3 : y = PySem.Str.ofString "dirname"
  · subst h3; rfl
  by_cases h4 : y = PySem.Str.ofString "resp"
  · subst h4; rfl
  have h5 : (y == PySem.Str.ofString "resp") = false := by simpa using h4
  unfold pm
  simp only [if_neg h1, if_neg h2, if_neg h3, if_neg h4, List.lookup_cons, h5, List.lookup_nil]
  split <;> rfl
theorem pm_turn1 {x : PySem.Str} {t ti tn td : Tok} {i n : Int} {d : PySem.Str} {c : Option Value} {v : Value} {i' : Int} {ti' td' : Tok} {d' : PySem.Str} :
    (fun y => if y = PySem.Str.ofString "dirname" then some (.str d' td') else if y = PySem.Str.ofString "i" then some (.int i' ti') else if y = PySem.Str.ofString "c" then some v else pm x t ti tn td i n d c y) = pm x t ti' tn td' i' n d' (some v) := by
  funext y
  by_cases h1 : y = PySem.Str.ofString "n"
  · subst h1; rfl
  by_cases h2 : y = PySem.Str.ofString "i"
  · subst h2; rfl
  by_cases h3 : y = PySem.Str.ofString "dirname"
  · subst h3; rfl
  by_cases h4 : y = PySem.Str.ofString "resp"
  · subst h4; rfl
  by_cases h5 : y = PySem.Str.ofString "c"
  · subst h5; rfl
  unfold pm
  simp only [if_neg h1, if_neg h2, if_neg h3, if_neg h4, if_neg h5]
theorem pm_turn2 {x : PySem.Str} {t ti tn td : Tok} {i n : Int} {d : PySem.Str} {c : Option Value} {v : Value} {i' i'' : Int} {ti' ti'' td' : Tok} {d' : PySem.Str} :
    (fun y => if y = PySem.Str.ofString "dirname" then some (.str d' td') else if y = PySem.Str.ofString "i" then some (.int i' ti') else if y = PySem.Str.ofString "i" then some (.int i'' ti'') else if y = PySem.Str.ofString "c" then some v else pm x t ti tn td i n d c y) = pm x t ti' tn td' i' n d' (some v) := by
  funext y
  by_cases h2 : y = PySem.Str.ofString "i"
  · subst h2; rfl
  · rw [← pm_turn1 (v := v) (ti := ti) (i := i) (d := d) (c := c) (td := td)]
    simp only [if_neg h2]
theorem dbl_len : ∀ l : List Nat, l.length ≤ (dbl l).length
  | [] => Nat.le_refl _
  | c :: l => by
    have := dbl_len l
    rw [dbl]
    split <;> simp <;> omega
theorem add_one {prog : Program} {w : World} {A : Around} {E : Value → Shared → Prop} {s : Shared} {t u : Tok} {Q : Value → Shared → Prop} {l : List Nat} {c : Nat} (hl : l.length ≤ 1000000) (h : ∀ t' k, Q (.str ⟨(l ++ [c]).toArray⟩ t') { s with toks := k }) :
    wpAny (model prog w) A (binaryOp .Add (.str ⟨l.toArray⟩ t) (.str ⟨#[c]⟩ u)) Q E s := by
  refine add_str (fun t' k => ?_) (by rw [sizeLine_eq]; simp [PySem.Str.length]; omega)
  have e : (⟨l.toArray⟩ ++ ⟨#[c]⟩ : PySem.Str) = ⟨(l ++ [c]).toArray⟩ := by
    apply Str.ext'
    rw [Str.cps_append]
    simp
  rw [e]; exact h t' k
local macro_rules | `(tactic| walk_at "binaryOp Add str str") => `(tactic| (k_here; (refine add_one (by assumption) ?_); intro _ _))
local macro_rules | `(tactic| walk_at "subscriptTail Name Name str int") => `(tactic| (k_here; (with_reducible show wpAny _ _ (subscriptTail _ _ (Value.str _ _) (Value.int _ _)) _ _ _); (refine sub_at (by omega) (by assumption) (by assumption) ?_)))
local macro_rules | `(tactic| walk_at "compareOp Eq str str") => `(tactic| (k_here; first | (refine eq_same (by assumption) ?_) | (refine eq_other (by assumption) ?_)))
local macro_rules | `(tactic| walk_at "compareOp NotEq str str") => `(tactic| (k_here; first | (refine ne_same (by assumption) ?_) | (refine ne_other (by assumption) ?_)))
set_option maxHeartbeats 8000000 in
theorem parse_sum {w : World} {A₀ : Around} {base h₀ : Heap} {env : Env} {L : Addr} {m mg mb : PySem.Str → Option Value} {mean : ExcName → Option Value} {news : List (Addr × Obj)} {s : Shared} {R : Result → Shared → Prop}
  {x : PySem.Str} {t : Tok} {name tail : List Nat} (hx : x.cps.toList = 50 :: 53 :: 55 :: 32 :: 34 :: (dbl name ++ 34 :: tail)) (htail : ∀ r, tail ≠ 34 :: r) (hlen : x.length ≤ 1000000)
  (B : Below A₀ base [] h₀) (F : Fr h₀ L s.heap m) (X : (hd.heap_39 w.params).In h₀) (N : News h₀ L s.heap news) (T : Top hd.view_39 (looseW hd.view_39 [Str.ofString "_quoted", Str.ofString "_paren_depth"]) mean mg mb h₀)
  (hf : env.frame = some L) (hke : env.scope.kind = .function)
  (h : ∀ h' tk k, Fr h₀ L h' m → News h₀ L h' news → R (.ok (.ret (.str ⟨name.toArray⟩ tk))) { s with heap := h', toks := k })
  : codeAny (model PySem.Challenge.rw_zd0001_01.row.prog w) (callerA.deeper env) (.call (.ref 70) ⟨[.str x t], []⟩) R s := by
  have hxe : x = ⟨(50 :: 53 :: 55 :: 32 :: 34 :: (dbl name ++ 34 :: tail)).toArray⟩ := by
    obtain ⟨⟨l⟩⟩ := x
    simp only at hx
    rw [hx]
  have hs3 : Txt.slice x none (some 3) = PySem.Str.ofString "257" := by rw [hxe, lit257]; exact slice3 (by simp)
  have hs35 : Txt.slice x (some 3) (some 5) = PySem.Str.ofString " \"" := by rw [hxe, litsq]; exact slice35
  refine' code_def B F X N T rfl hf hke ?k6 ?k7 ?k8 ?k9 ?kB ?_ ?c2 ?c3 ?c4 ?c5
  case k6 => k_is
  case k7 => k_is
  case k8 => k_room
  case k9 => first | exact BindsTo.of_eq rfl | exact binds_K (by k_in) rfl (by k_is) rfl rfl rfl
  case c5 => decide
  case kB => exact locs rfl
  case c2 => exact rfl
  case c3 => exact rfl
  case c4 => exact rfl
  intro g' L' h' FG' F' N' B' X' T'
  (try dsimp only)
  (try k_fold)
  repeat' ((fail_if_success (with_reducible show wpAny _ _ (exec (Stmt.While _ _ _ _) _) _ _ _)); first | (k_unfold; (try dsimp only)) | (k_end; wrow_close) | walk1 | (dsimp only; walk1) | (leave1; walk_say "STEP leave1"; try dsimp only))
  (with_reducible rename Fr _ _ _ _ => F8)
  (with_reducible rename News _ _ _ _ => N8)
  refine' While_inv2 (pJ x t name news) ?F ?N ?hJ ?turn ?hE
  case F => exact F8
  case N => exact N8
  case hJ => exact ⟨rfl, [], name, _, _, _, none, rfl, rfl, pm_start⟩
  case turn =>
    clear F8 N8
    rintro n m₁ news₁ h₁ tk₁ F₁ N₁ ⟨rfl, dn, rest, ti, tn, td, c, hname, hn, hm⟩
    subst hm
    subst hname
    have hq : (⟨#[34]⟩ : PySem.Str) = PySem.Str.ofString "\"" := quote_lit.symm
    have hlx : x.length = x.cps.toList.length := by simp [PySem.Str.length]
    have hdl : dn.length ≤ 1000000 := by
      have h1 := dbl_len dn
      rw [hx, dbl_app] at hlx
      simp only [List.length_cons, List.length_append] at hlx
      omega
    cases rest with
    | nil =>
      rw [List.append_nil] at hx
      have hc1 : x.cps[(5 + ((dbl dn).length : Int)).toNat]? = some 34 := by
        rw [← Array.getElem?_toList, hx]
        have : (5 + ((dbl dn).length : Int)).toNat = (dbl dn).length + 5 := by omega
        rw [this]
        simp
      rw [hx] at hlx
      simp only [List.length_cons, List.length_append] at hlx
      cases tail with
      | nil =>
        simp only [List.length_nil] at hlx
        k_steps
        show wpAny _ _ (execs [Stmt.Return _ _] _) _ _ _
        k_steps
        rw [List.append_nil] at h
        exact h _ _ _ (by assumption) (by assumption)
      | cons d r =>
        simp only [List.length_cons] at hlx
        have hd34 : d ≠ 34 := fun e => htail r (by rw [e])
        have hdq : (⟨#[d]⟩ : PySem.Str) ≠ PySem.Str.ofString "\"" := by rw [quote_lit]; simpa using hd34
        have hc2 : x.cps[(5 + ((dbl dn).length : Int) + 1).toNat]? = some d := by
          rw [← Array.getElem?_toList, hx]
          have : (5 + ((dbl dn).length : Int) + 1).toNat = (dbl dn).length + 1 + 5 := by omega
          rw [this]
          simp
        k_steps
        show wpAny _ _ (execs [Stmt.Return _ _] _) _ _ _
        k_steps
        rw [List.append_nil] at h
        exact h _ _ _ (by assumption) (by assumption)
    | cons a r =>
      rw [dbl_app] at hx
      by_cases ha : a = 34
      · subst ha
        have hdb : dbl (34 :: r) = 34 :: 34 :: dbl r := by simp [dbl]
        rw [hdb] at hx
        have hc1 : x.cps[(5 + ((dbl dn).length : Int)).toNat]? = some 34 := by
          rw [← Array.getElem?_toList, hx]
          have : (5 + ((dbl dn).length : Int)).toNat = (dbl dn).length + 5 := by omega
          rw [this]
          simp
        have hc2 : x.cps[(5 + ((dbl dn).length : Int) + 1).toNat]? = some 34 := by
          rw [← Array.getElem?_toList, hx]
          have : (5 + ((dbl dn).length : Int) + 1).toNat = (dbl dn).length + 1 + 5 := by omega
          rw [this]
          simp
        rw [hx] at hlx
        simp only [List.length_cons, List.length_append] at hlx
        k_steps
        (with_reducible rename Fr _ _ _ _ => F9)
        (with_reducible rename News _ _ _ _ => N9)
        have e : (5 + ((dbl (dn ++ [34])).length : Int)) = 5 + ((dbl dn).length : Int) + 1 + 1 := by rw [dbl_app, List.length_append]; simp [dbl]; omega
        have e2 : (⟨dn.toArray⟩ ++ PySem.Str.ofString "\"" : PySem.Str) = ⟨(dn ++ [34]).toArray⟩ := by
          rw [quote_lit]
          apply Str.ext'
          rw [Str.cps_append]
          simp
        exact ⟨_, _, _, _, r.length + 1, rfl, F9, N9, by rw [hn]; simp, pJ_of (dn := dn ++ [34]) (rest := r) (by simp) rfl (by rw [e, ← e2]; exact pm_turn2)⟩
      · have hdb : dbl (a :: r) = a :: dbl r := by simp [dbl, ha]
        rw [hdb] at hx
        have haq : (⟨#[a]⟩ : PySem.Str) ≠ PySem.Str.ofString "\"" := by rw [quote_lit]; simpa using ha
        have hc1 : x.cps[(5 + ((dbl dn).length : Int)).toNat]? = some a := by
          rw [← Array.getElem?_toList, hx]
          have : (5 + ((dbl dn).length : Int)).toNat = (dbl dn).length + 5 := by omega
          rw [this]
          simp
        rw [hx] at hlx
        simp only [List.length_cons, List.length_append] at hlx
        k_steps
        (with_reducible rename Fr _ _ _ _ => F9)
        (with_reducible rename News _ _ _ _ => N9)
        have e : (5 + ((dbl (dn ++ [a])).length : Int)) = 5 + ((dbl dn).length : Int) + 1 := by rw [dbl_app, List.length_append]; simp [dbl, ha]; omega
        exact ⟨_, _, _, _, r.length + 1, rfl, F9, N9, by rw [hn]; simp, pJ_of (dn := dn ++ [a]) (rest := r) (by simp) rfl (by rw [e]; exact pm_turn1)⟩
  case hE => passes_own
end Mine
end
section
open PySem PySem.W PyProof.Rows PySem.Builtin
namespace Mine
set_option maxRecDepth 100000
theorem slot_filter_next : Slot "filter" "__next__" "filter.__next__" :=
  .of (owner := "filter") (n := "__next__") (by rw [typeLookup_type, builtinLookup_eq_fast]; kernel_rfl) (by decide +kernel) (by decide +kernel) (by decide +kernel)
    (by first | exact .inl (by decide +kernel) | exact .inr (by decide +kernel)) (by rw [isSubtype_type]; kernel_rfl)
theorem entry_filter_next : entryFor table "filter.__next__" = some Builtin.«filter.__next__» := entryFor_of_tree (by kernel_rfl)
theorem args_filter_next (a : Value) : argsOk "filter.__next__" ⟨[a], []⟩ := by unfold argsOk; kernel_rfl
theorem look_filter_iter : ∃ id, typeLookup (.type "filter") "__iter__" = pure (some (.builtin id)) := ⟨"filter.__iter__", by rw [typeLookup_type, builtinLookup_eq_fast]; kernel_rfl⟩
theorem slot_filter_iter : Slot "filter" "__iter__" "filter.__iter__" :=
  .of (owner := "filter") (n := "__iter__") (by rw [typeLookup_type, builtinLookup_eq_fast]; kernel_rfl) (by decide +kernel) (by decide +kernel) (by decide +kernel)
    (by first | exact .inl (by decide +kernel) | exact .inr (by decide +kernel)) (by rw [isSubtype_type]; kernel_rfl)
theorem args_filter_iter (a : Value) : argsOk "filter.__iter__" ⟨[a], []⟩ := by unfold argsOk; kernel_rfl
theorem typeCall_filter (a b : Value) : checkTypeCall "filter" ⟨[a, b], []⟩ = pure () := by kernel_rfl
theorem newCall_filter (a b : Value) : checkBuiltinCall "filter.__new__" ⟨[.type "filter", a, b], []⟩ = pure () := by kernel_rfl
theorem entry_filter_new : entryFor table "filter.__new__" = some Builtin.«filter.__new__» := entryFor_of_tree (by kernel_rfl)
theorem args_max_dflt (a d : Value) : argsOk "max" ⟨[a], [(Str.ofString "default", d)]⟩ := by unfold argsOk; kernel_rfl
end Mine
end
section
open PySem PySem.W PyProof.Rows PySem.Builtin
namespace Mine
set_option maxRecDepth 100000
set_option linter.unusedSimpArgs false
theorem entry_filter_iter : entryFor table "filter.__iter__" = some Builtin.«dict_keyiterator.__iter__» :=
  entryFor_alias (id' := "dict_keyiterator.__iter__") (by kernel_rfl) (by first | rfl | decide +kernel | (unfold String.splitOn; simp +decide [String.splitOnAux])) (by decide +kernel) (by kernel_rfl)
theorem slot_filter_init : Slot "filter" "__init__" "object.__init__" :=
  .of (owner := "object") (n := "__init__") (by rw [typeLookup_type, builtinLookup_eq_fast]; kernel_rfl) (by decide +kernel) (by decide +kernel) (by decide +kernel)
    (by first | exact .inl (by decide +kernel) | exact .inr (by decide +kernel)) (by rw [isSubtype_type]; kernel_rfl)
theorem mro_filter : mroOf (.type "filter") = pure [.type "filter", .type "object"] := by rw [mroOf_type]; kernel_rfl
theorem lookup_filter_new : typeLookup (.type "filter") "__new__" = pure (some (.builtin "filter.__new__")) := by rw [typeLookup_type, builtinLookup_eq_fast]; kernel_rfl
theorem sub_filter : isSubtype (.type "filter") (.type "filter") = pure true := by rw [isSubtype_type]; kernel_rfl
theorem called_filter : TypeCalled "filter" "filter.__new__" "object.__init__" :=
  ⟨by decide +kernel, by decide +kernel, ⟨_, _, mro_filter⟩, madeBy_type mro_filter lookup_filter_new (by decide +kernel), by decide +kernel, sub_filter, slot_filter_init⟩
def viO (d : Addr) (i n ep : Nat) : Obj := { cls := .type "dict_valueiterator", data := .fields #[.ref d, .int i 0, .int n 0, .int ep 0] }
def fiO (it : Addr) : Obj := { cls := .type "filter", data := .fields #[.none, .ref it] }
def vvO (d : Addr) : Obj := { cls := .type "dict_values", data := .fields #[.ref d] }
section
variable {prog : Program} {w : World} {A : Around} {E : Value → Shared → Prop} {s : Shared}
theorem pyIter_vals {v d : Addr} {es : List DictEntry} {ep : Nat} {Q : Value → Shared → Prop} (hov : s.heap.get? v = some (vvO d)) (ho : s.heap.get? d = some (dictOf es ep))
    (hQ : Q (.ref s.heap.objs.size) { s with heap := s.heap.push (viO d 0 es.length ep) }) : wpAny (model prog w) A (pyIter (.ref v)) Q E s := by
  have hT : s.TypeIs (.ref v) "dict_values" := ⟨_, hov, rfl⟩
  refine wpAny_pyIter_slot hT PySem.F.slot_dict_values_iter (wpAny_call_entry PySem.F.slot_dict_values_iter hT PySem.F.entry_dict_values_iter ?_ (PySem.F.args_dict_values_iter_1 _))
  unfold Builtin.«dict_values.__iter__»
  refine wpAny_bind (wpAny_pure ?_)
  refine wpAny_bind ?_
  unfold Builtin.Dict_items.dictOf
  refine wpAny_bind (wpAny_field hov rfl (x := .ref d) rfl (wpAny_pure ?_))
  refine wpAny_bind ?_
  unfold Builtin.Dict_items.newIterator
  refine wpAny_bind (wpAny_dictEntries ho rfl ?_)
  refine wpAny_bind (wpAny_dictEpoch ho rfl ?_)
  have hown : Builtin.Dict_items.ownsTuple "dict_valueiterator" = false := by decide
  simp only [hown, Bool.false_eq_true, if_false]
  refine wpAny_newObj_type (wpAny_pure ⟨_, rfl, "dict_valueiterator", _, ⟨_, Heap.get?_push_size _ rfl, rfl⟩, PySem.F.slot_dict_valueiterator_next.lookup, ?_⟩)
  have e : ({ cls := .type "dict_valueiterator", data := .fields ([.ref d, rawInt 0, rawInt es.toArray.size, rawInt ep] : List Value).toArray } : Obj) = viO d 0 es.length ep := by simp [viO, rawInt]
  show Q (.ref s.heap.objs.size) { s with heap := s.heap.push { cls := .type "dict_valueiterator", data := .fields ([.ref d, rawInt 0, rawInt es.toArray.size, rawInt ep] : List Value).toArray } }
  rw [e]; exact hQ
theorem meets_filter_new (v d : Addr) (es : List DictEntry) (ep : Nat) :
    Meets (Builtin.«filter.__new__» ⟨[.type "filter", .none, .ref v], []⟩) (fun _ R s => s.heap.get? v = some (vvO d) ∧ s.heap.get? d = some (dictOf es ep) ∧
      R (.ok (.ret (.ref (s.heap.objs.size + 1)))) { s with heap := (s.heap.push (viO d 0 es.length ep)).push (fiO s.heap.objs.size) }) :=
  .of_wp fun prog w A R s ⟨hv, hm, h⟩ => by
    unfold Builtin.«filter.__new__»
    refine wpAny_bind (wpAny_of_eq (a := (.type "filter", [.none, .ref v])) (by kernel_rfl) ?_)
    refine wpAny_bind (wpAny_of_eq (a := ()) (by kernel_rfl) ?_)
    refine wpAny_bind (wpAny_of_eq (a := ()) (by kernel_rfl) ?_)
    dsimp only
    refine wpAny_bind (pyIter_vals hv hm ?_)
    refine wpAny_bind ?_
    show wpAny _ _ (newObj (.type "filter") (.fields #[.none, .ref s.heap.objs.size])) _ _ _
    refine wpAny_newObj_type (wpAny_pure ⟨_, rfl, ?_⟩)
    have hz : (s.heap.push (viO d 0 es.length ep)).objs.size = s.heap.objs.size + 1 := Heap.size_push ..
    show R (.ok (.ret (.ref (s.heap.push (viO d 0 es.length ep)).objs.size))) _
    rw [hz]; exact h
theorem call_filter {v d : Addr} {es : List DictEntry} {ep : Nat} {Q : Value → Shared → Prop} (hv : s.heap.get? v = some (vvO d)) (hd : s.heap.get? d = some (dictOf es ep))
    (h : Q (.ref (s.heap.objs.size + 1)) { s with heap := (s.heap.push (viO d 0 es.length ep)).push (fiO s.heap.objs.size) }) :
    wpAny (model prog w) A (call (.type "filter") [.none, .ref v]) Q E s := by
  refine callType_new called_filter (by decide) (typeCall_filter _ _) (newCall_filter _ _) (fun obj => PySem.F.args_object_init_3 obj _ _) entry_filter_new (meets_filter_new v d es ep) ⟨hv, hd, ?_, h⟩
  have hz : (s.heap.push (viO d 0 es.length ep)).objs.size = s.heap.objs.size + 1 := Heap.size_push ..
  refine ⟨fiO s.heap.objs.size, ?_, rfl⟩
  have := Heap.get?_push_size (s.heap.push (viO d 0 es.length ep)) (o := fiO s.heap.objs.size) rfl
  rw [hz] at this; exact this
theorem vi_item {it d : Addr} {i ep : Nat} {es : List DictEntry} {e : DictEntry} {Q : Option Value → Shared → Prop} (ho : s.heap.get? it = some (viO d i es.length ep)) (hod : s.heap.get? d = some (dictOf es ep))
    (hx : es[i]? = some e) (hQ : ∀ h', h'.get? it = some (viO d (i + 1) es.length ep) → Heap.SameBut it s.heap h' → Q (some e.val) { s with heap := h' }) :
    wpAny (model prog w) A (callSpecial? (.ref it) (Str.ofString "__next__")) Q E s := by
  have hT : s.TypeIs (.ref it) "dict_valueiterator" := ⟨_, ho, rfl⟩
  refine wpAny_callSpecial?_slot (name := Str.ofString "__next__") hT PySem.F.slot_dict_valueiterator_next
    (wpAny_call_entry PySem.F.slot_dict_valueiterator_next hT PySem.F.entry_dict_valueiterator_next ?_ (PySem.F.args_dict_valueiterator_next_1 _))
  refine wpAny_bind (wpAny_pure ?_)
  refine wpAny_bind ?_
  refine wpAny_bind ?_
  first | refine wpAny_bind (wpAny_typeNameOfWhole_valiter hT (wpAny_pure ?_)) | refine wpAny_bind (wpAny_typeNameOf_valiter hT (wpAny_pure ?_))
  refine wpAny_bind (wpAny_fieldsOf ho rfl ?_)
  have hown : Builtin.Dict_items.ownsTuple "dict_valueiterator" = false := by decide
  simp only [hown, Bool.false_eq_true, if_false]
  show wpAny _ _ (if (Value.ref d == Value.none) = true then _ else _) _ _ s
  rw [if_neg (show ¬ ((Value.ref d == Value.none) = true) from Bool.false_ne_true)]
  refine wpAny_bind (wpAny_pure ?_)
  refine wpAny_bind (wpAny_dictEntries hod rfl ?_)
  rw [if_neg (by simp)]
  refine wpAny_bind (wpAny_pure ?_)
  refine wpAny_bind (wpAny_dictEpoch hod rfl ?_)
  rw [if_neg (by simp)]
  refine wpAny_pure ?_
  have hlt : i < es.length := by
    rcases Nat.lt_or_ge i es.length with h | h
    · exact h
    · rw [List.getElem?_eq_none h] at hx; cases hx
  have hge : es.toArray[(i : Int).toNat]? = some e := by
    show es.toArray[i]? = some e
    simpa using hx
  simp only [show ¬ ((i : Int) < 0) from by omega, if_false, hge]
  refine wpAny_bind ?_
  first | refine wpAny_bind (wpAny_typeNameOfWhole_valiter hT (wpAny_pure ?_)) | refine wpAny_bind (wpAny_typeNameOf_valiter hT (wpAny_pure ?_))
  refine wpAny_bind (wpAny_isOneOf_valiter hT ?_)
  show wpAny _ _ (setField (.ref it) 1 (rawInt ((i : Int) + 1)) >>= _) _ _ s
  refine wpAny_bind (wpAny_setField ho rfl (by simp) ?_)
  have hit' : (s.heap.update it (Obj.mapFields (·.setIfInBounds 1 (rawInt ((i : Int) + 1))))).get? it = some (viO d (i + 1) es.length ep) := by
    rw [Heap.get?_update_self _ ho rfl]; rfl
  have hT' : Shared.TypeIs { s with heap := s.heap.update it (Obj.mapFields (·.setIfInBounds 1 (rawInt ((i : Int) + 1)))) } (.ref it) "dict_valueiterator" := ⟨_, hit', rfl⟩
  refine wpAny_bind (wpAny_holding ?_)
  refine wpAny_bind (wpAny_isOneOf_valiter (s := { s with heap := s.heap.update it (Obj.mapFields (·.setIfInBounds 1 (rawInt ((i : Int) + 1)))) }) hT' ?_)
  refine wpAny_bind (wpAny_isOneOf_valiter (s := { s with heap := s.heap.update it (Obj.mapFields (·.setIfInBounds 1 (rawInt ((i : Int) + 1)))) }) hT' ?_)
  show wpAny _ _ (pure e.val) _ _ _
  exact wpAny_pure (wpAny_pure ⟨_, rfl, hQ _ hit' (Heap.SameBut.update ..)⟩)
theorem vi_end {it d : Addr} {ep : Nat} {es : List DictEntry} {Q : Option Value → Shared → Prop} (hh : A.handled = none) (ho : s.heap.get? it = some (viO d es.length es.length ep)) (hod : s.heap.get? d = some (dictOf es ep))
    (hE : ∀ h' e, Heap.ExtBut it s.heap h' → (∃ o, h'.get? e = some o ∧ o.cls = .type "StopIteration") → E (.ref e) { s with heap := h' }) :
    wpAny (model prog w) A (callSpecial? (.ref it) (Str.ofString "__next__")) Q E s := by
  have hT : s.TypeIs (.ref it) "dict_valueiterator" := ⟨_, ho, rfl⟩
  refine wpAny_callSpecial?_slot (name := Str.ofString "__next__") hT PySem.F.slot_dict_valueiterator_next
    (wpAny_call_entry PySem.F.slot_dict_valueiterator_next hT PySem.F.entry_dict_valueiterator_next ?_ (PySem.F.args_dict_valueiterator_next_1 _))
  refine wpAny_bind (wpAny_pure ?_)
  refine wpAny_bind ?_
  refine wpAny_bind ?_
  first | refine wpAny_bind (wpAny_typeNameOfWhole_valiter hT (wpAny_pure ?_)) | refine wpAny_bind (wpAny_typeNameOf_valiter hT (wpAny_pure ?_))
  refine wpAny_bind (wpAny_fieldsOf ho rfl ?_)
  have hown : Builtin.Dict_items.ownsTuple "dict_valueiterator" = false := by decide
  simp only [hown, Bool.false_eq_true, if_false]
  show wpAny _ _ (if (Value.ref d == Value.none) = true then _ else _) _ _ s
  rw [if_neg (show ¬ ((Value.ref d == Value.none) = true) from Bool.false_ne_true)]
  refine wpAny_bind (wpAny_pure ?_)
  refine wpAny_bind (wpAny_dictEntries hod rfl ?_)
  rw [if_neg (by simp)]
  refine wpAny_bind (wpAny_pure ?_)
  refine wpAny_bind (wpAny_dictEpoch hod rfl ?_)
  rw [if_neg (by simp)]
  refine wpAny_pure ?_
  have hge : es.toArray[(es.length : Int).toNat]? = none := by
    show es.toArray[es.length]? = none
    simp
  simp only [show ¬ ((es.length : Int) < 0) from by omega, if_false, hge]
  refine wpAny_bind ?_
  first | refine wpAny_bind (wpAny_typeNameOfWhole_valiter hT (wpAny_pure ?_)) | refine wpAny_bind (wpAny_typeNameOf_valiter hT (wpAny_pure ?_))
  show wpAny _ _ (setField (.ref it) 0 .none >>= _) _ _ s
  refine wpAny_bind (wpAny_setField ho rfl (by simp) ?_)
  show wpAny _ _ (newExc (.type "StopIteration") [] >>= _) _ _ _
  refine wpAny_bind ?_
  simp only [newExc, newTuple]
  refine wpAny_bind (wpAny_newObj_type ?_ (by size_fits))
  refine wpAny_bind (m := firstArgMember _ _) (wpAny_of_eq (a := Value.none) (by first | rfl | (simp only [firstArgMember]; rfl)) ?_)
  refine wpAny_newObj_type ?_ (by size_fits)
  simp only [raiseNew]
  refine wpAny_bind (wpAny_handled ?_)
  rw [show A.in1.handled = none from hh]
  refine wpAny_bind (wpAny_pure (wpAny_throw ?_))
  exact hE _ _ (((Heap.SameBut.update ..).extBut.push _).push _) ⟨_, Heap.get?_push_size _ rfl, rfl⟩
end
end Mine
end
section
open PySem PySem.W PyProof.Rows PySem.Builtin
namespace Mine
set_option maxRecDepth 100000
set_option linter.unusedSimpArgs false
section
variable {prog : Program} {w : World} {A : Around} {E : Value → Shared → Prop} {s : Shared}
def fSt (I it d : Addr) (es : List DictEntry) (ep : Nat) (i : Nat) (h : Heap) : Prop := h.get? I = some (fiO it) ∧ h.get? it = some (viO d i es.length ep) ∧ h.get? d = some (dictOf es ep)
theorem filterWalks (hh : A.handled = none) (I it d : Addr) (hIt : I ≠ it) (hdt : d ≠ it) (es : List DictEntry) (ep : Nat) (val : Nat → Int) (hval : ∀ i e, es[i]? = some e → (∃ t, e.val = .int (val i) t) ∧ val i ≠ 0) :
    Walks prog w A I [I, it, d] [it] es.length (fun i v => ∃ t, v = .int (val i) t) (fSt I it d es ep) where
  sub := fun b hb => by simp at hb; simp [hb]
  frame := fun i h h' st hk => ⟨hk I (by simp) _ st.1, hk it (by simp) _ st.2.1, hk d (by simp) _ st.2.2⟩
  item := fun i s Q E hi st hQ => by
    obtain ⟨h1, h2, h3⟩ := st
    have hT : s.TypeIs (.ref I) "filter" := ⟨_, h1, rfl⟩
    obtain ⟨e, he⟩ : ∃ e, es[i]? = some e := ⟨es[i], by simp [hi]⟩
    obtain ⟨⟨t, hv⟩, hne⟩ := hval i e he
    unfold pyNext
    refine wpAny_bind (wpAny_attempt (wpAny_callSpecial?_slot (name := Str.ofString "__next__") hT slot_filter_next (wpAny_call_entry slot_filter_next hT entry_filter_next ?_ (args_filter_next _))))
    unfold Builtin.«filter.__next__»
    refine wpAny_bind (wpAny_of_eq (a := (.ref I, [])) (by kernel_rfl) ?_)
    dsimp only
    refine wpAny_bind (wpAny_field h1 rfl (x := .none) rfl ?_)
    refine wpAny_bind (wpAny_field h1 rfl (x := .ref it) rfl ?_)
    refine wpAny_bind (vi_item h2 h3 he fun h' hit' hs => ?_)
    dsimp only
    rw [hv]
    refine wpAny_bind (wpAny_holding ?_)
    show wpAny _ _ (rule "filter.__next__.own-truth" >>= fun _ => truthy (.int (val i) t)) _ _ _
    refine wpAny_bind (wpAny_rule (truthy_int ?_))
    have hb : (val i != 0) = true := by simpa using hne
    rw [hb]
    refine wpAny_pure ⟨_, rfl, ?_⟩
    exact wpAny_pure (hQ _ h' s.toks ⟨t, rfl⟩ ⟨(hs.2 I hIt).trans h1, hit', (hs.2 d hdt).trans h3⟩ fun b o hb e => (hs.2 b (fun q => hb (by simp [q]))).trans e)
  done := fun s Q E st hQ => by
    obtain ⟨h1, h2, h3⟩ := st
    have hT : s.TypeIs (.ref I) "filter" := ⟨_, h1, rfl⟩
    unfold pyNext
    refine wpAny_bind (wpAny_attempt (wpAny_callSpecial?_slot (name := Str.ofString "__next__") hT slot_filter_next (wpAny_call_entry slot_filter_next hT entry_filter_next ?_ (args_filter_next _))))
    unfold Builtin.«filter.__next__»
    refine wpAny_bind (wpAny_of_eq (a := (.ref I, [])) (by kernel_rfl) ?_)
    dsimp only
    refine wpAny_bind (wpAny_field h1 rfl (x := .none) rfl ?_)
    refine wpAny_bind (wpAny_field h1 rfl (x := .ref it) rfl ?_)
    refine wpAny_bind (vi_end hh h2 h3 fun h' e he ho => ?_)
    obtain ⟨o, ho, hc⟩ := ho
    refine wpAny_bind (wpAny_isInstance (T := "StopIteration") (b := true) ⟨o, ho, hc⟩ isSubtype_stop ?_)
    exact wpAny_pure (hQ h' s.toks fun b x hb ex => he b x (fun q => hb (by simp [q])) ex)
  self := fun i s Q E st hQ => by
    have hT : s.TypeIs (.ref I) "filter" := ⟨_, st.1, rfl⟩
    refine wpAny_pyIter_slot hT slot_filter_iter (wpAny_call_entry slot_filter_iter hT entry_filter_iter ?_ (args_filter_iter _))
    show wpAny _ _ (ret (.ref I)) _ _ s
    exact wpAny_pure ⟨_, rfl, "filter", _, hT, slot_filter_next.lookup, hQ⟩
/-- the greatest of the first k + 1 -/
def mxv (val : Nat → Int) : Nat → Int
  | 0 => val 0
  | k + 1 => if val (k + 1) > mxv val k then val (k + 1) else mxv val k
variable {R : Result → Shared → Prop} {I : Addr} {fp wr : List Addr} {n : Nat} {val : Nat → Int} {St : Nat → Heap → Prop} {dv : Value}
theorem max_loop (W : Walks prog w A.in1 I fp wr n (fun i v => ∃ t, v = .int (val i) t) St) (S : Addr) (hSf : S ∉ fp) :
    ∀ (k j : Nat) (s : Shared) (tb : Tok) (c : Nat), n - (j + 1) = k → j + 1 ≤ n → St (j + 1) s.heap →
    s.heap.get? S = some { cls := .type "list", dict := none, data := .seq #[.int (mxv val j) tb, .int (mxv val j) tb] c, slots := #[] } →
    (∀ t h' tk, (∀ b o, b ∉ wr → b ≠ S → s.heap.get? b = some o → h'.get? b = some o) → R (.ok (.ret (.int (mxv val (n - 1)) t))) { s with heap := h', toks := tk }) →
    codeAny (model prog w) A (.builtin "max.loop" ⟨[.ref I, .none, .ref S], [(Str.ofString "default", dv)]⟩) R s := by
  have hSw : S ∉ wr := fun h => hSf (W.sub _ h)
  have hname : (toString "max" ++ toString ".loop" : String) = "max.loop" := by decide
  intro k
  induction k with
  | zero =>
    intro j s tb c hk hj hst hS hR
    have hin : j + 1 = n := by omega
    refine codeAny_builtin PySem.F.entry_max_loop ?_
    rw [Around.under_plainId PySem.F.plain_max_loop _]
    show wpAny _ A.in1 (seqItems? (.ref S) >>= _) _ _ s
    refine wpAny_bind (wpAny_seqItems hS rfl ?_)
    show wpAny _ A.in1 (tryCatch (pyNext (.ref I)) _ >>= _) _ _ s
    refine wpAny_bind (wpAny_tryCatch (W.done s _ _ (hin ▸ hst) fun h' tk hk' => ?_))
    have hS' := hk' S _ hSw hS
    show wpAny _ A.in1 (updateSeq S (fun _ => #[]) >>= _) _ _ _
    refine wpAny_bind ?_
    refine wpAny_updateSeq hS' rfl (wpAny_bind (wpAny_letGo (wpAny_pure ?_)))
    have hj1 : n - 1 = j := by omega
    have := hR tb ((h').update S (Obj.mapSeq fun _ => #[])) tk fun b o hbw hbS e => (Heap.get?_update_other _ _ (Ne.symm hbS)).trans (hk' b o hbw e)
    rw [hj1] at this
    exact this
  | succ k ih =>
    intro j s tb c hk hj hst hS hR
    have hlt : j + 1 < n := by omega
    refine codeAny_builtin PySem.F.entry_max_loop ?_
    rw [Around.under_plainId PySem.F.plain_max_loop _]
    show wpAny _ A.in1 (seqItems? (.ref S) >>= _) _ _ s
    refine wpAny_bind (wpAny_seqItems hS rfl ?_)
    show wpAny _ A.in1 (tryCatch (pyNext (.ref I)) _ >>= _) _ _ s
    refine wpAny_bind (wpAny_tryCatch (W.item (j + 1) s _ _ hlt hst fun v h' tk hP hst' hk' => ?_))
    obtain ⟨t, rfl⟩ := hP
    have hS' := hk' S _ hSw hS
    show wpAny _ A.in1 (tryCatch (holding [.int (val (j + 1)) t, .int (val (j + 1)) t] (richCompare .Gt (.int (val (j + 1)) t) (.int (mxv val j) tb) >>= _)) _ >>= _) _ _ _
    refine wpAny_bind (wpAny_tryCatch (wpAny_holding (wpAny_bind ?_)))
    have hgt : ∀ {Q : Value → Shared → Prop} {E : Value → Shared → Prop} {s' : Shared}, Q (.bool (decide (mxv val j < val (j + 1)))) s' → wpAny (model prog w) A.in1 (richCompare .Gt (.int (val (j + 1)) t) (.int (mxv val j) tb)) Q E s' := fun hq => gt_int hq
    refine hgt ?_
    refine wpAny_bind (wpAny_holding (wpAny_truthy_bool ?_))
    refine wpAny_bind (wpAny_letGo (wpAny_pure ?_))
    by_cases hb : mxv val j < val (j + 1)
    · rw [if_pos (decide_eq_true hb)]
      refine wpAny_bind ?_
      refine wpAny_updateSeq hS' rfl (wpAny_bind (wpAny_letGo ?_))
      rw [hname]
      have hm : mxv val (j + 1) = val (j + 1) := by simp only [mxv]; rw [if_pos hb]
      refine wpAny_pure ⟨plainId_quiet PySem.F.plain_max_loop _, ih (j + 1) _ t _ (by omega) hlt (W.frame _ _ _ hst' fun b hbf o e => ?_) (by rw [hm]; exact Heap.get?_update_self _ hS' rfl) fun t' h'' tk'' hk'' => ?_⟩
      · exact (Heap.get?_update_other _ _ (fun h : S = b => hSf (by rw [h]; exact hbf))).trans e
      · exact hR t' h'' tk'' fun b o hbw hbS e => hk'' b o hbw hbS ((Heap.get?_update_other _ _ (Ne.symm hbS)).trans (hk' b o hbw e))
    · rw [if_neg (by simpa using hb)]
      refine wpAny_bind (wpAny_letGo ?_)
      rw [hname]
      have hm : mxv val (j + 1) = mxv val j := by simp only [mxv]; rw [if_neg hb]
      refine wpAny_pure ⟨plainId_quiet PySem.F.plain_max_loop _, ih (j + 1) _ tb c (by omega) hlt hst' (by rw [hm]; exact hS') fun t' h'' tk'' hk'' => ?_⟩
      exact hR t' h'' tk'' fun b o hbw hbS e => hk'' b o hbw hbS (hk' b o hbw e)
theorem max_first (W : Walks prog w A.in1 I fp wr n (fun i v => ∃ t, v = .int (val i) t) St) (S : Addr) (hSf : S ∉ fp) (hn : 0 < n) {s : Shared} {c : Nat} (hst : St 0 s.heap)
    (hS : s.heap.get? S = some { cls := .type "list", dict := none, data := .seq #[] c, slots := #[] })
    (hR : ∀ t h' tk, (∀ b o, b ∉ wr → b ≠ S → s.heap.get? b = some o → h'.get? b = some o) → R (.ok (.ret (.int (mxv val (n - 1)) t))) { s with heap := h', toks := tk }) :
    codeAny (model prog w) A (.builtin "max.loop" ⟨[.ref I, .none, .ref S], [(Str.ofString "default", dv)]⟩) R s := by
  have hSw : S ∉ wr := fun h => hSf (W.sub _ h)
  have hname : (toString "max" ++ toString ".loop" : String) = "max.loop" := by decide
  refine codeAny_builtin PySem.F.entry_max_loop ?_
  rw [Around.under_plainId PySem.F.plain_max_loop _]
  show wpAny _ A.in1 (seqItems? (.ref S) >>= _) _ _ s
  refine wpAny_bind (wpAny_seqItems hS rfl ?_)
  show wpAny _ A.in1 (tryCatch (pyNext (.ref I)) _ >>= _) _ _ s
  refine wpAny_bind (wpAny_tryCatch (W.item 0 s _ _ hn hst fun v h' tk hP hst' hk' => ?_))
  obtain ⟨t, rfl⟩ := hP
  have hS' := hk' S _ hSw hS
  show wpAny _ A.in1 (updateSeq S (fun _ => #[.int (val 0) t, .int (val 0) t]) >>= _) _ _ _
  refine wpAny_bind ?_
  refine wpAny_updateSeq hS' rfl ?_
  rw [hname]
  refine wpAny_pure ⟨plainId_quiet PySem.F.plain_max_loop _, max_loop W S hSf _ 0 _ t _ rfl hn (W.frame _ _ _ hst' fun b hbf o e => ?_) (Heap.get?_update_self _ hS' rfl) fun t' h'' tk'' hk'' => ?_⟩
  · exact (Heap.get?_update_other _ _ (fun h : S = b => hSf (by rw [h]; exact hbf))).trans e
  · exact hR t' h'' tk'' fun b o hbw hbS e => hk'' b o hbw hbS ((Heap.get?_update_other _ _ (Ne.symm hbS)).trans (hk' b o hbw e))
theorem max_none (W : Walks prog w A.in1 I fp wr 0 (fun i v => ∃ t, v = .int (val i) t) St) (S : Addr) (hSf : S ∉ fp) {s : Shared} {c : Nat} (hst : St 0 s.heap)
    (hS : s.heap.get? S = some { cls := .type "list", dict := none, data := .seq #[] c, slots := #[] })
    (hR : ∀ h' tk, (∀ b o, b ∉ wr → s.heap.get? b = some o → h'.get? b = some o) → R (.ok (.ret dv)) { s with heap := h', toks := tk }) :
    codeAny (model prog w) A (.builtin "max.loop" ⟨[.ref I, .none, .ref S], [(Str.ofString "default", dv)]⟩) R s := by
  refine codeAny_builtin PySem.F.entry_max_loop ?_
  rw [Around.under_plainId PySem.F.plain_max_loop _]
  show wpAny _ A.in1 (seqItems? (.ref S) >>= _) _ _ s
  refine wpAny_bind (wpAny_seqItems hS rfl ?_)
  show wpAny _ A.in1 (tryCatch (pyNext (.ref I)) _ >>= _) _ _ s
  refine wpAny_bind (wpAny_tryCatch (W.done s _ _ hst fun h' tk hk' => ?_))
  refine wpAny_bind (wpAny_rule (wpAny_pure ?_))
  exact hR h' tk hk'
theorem kmb_args {a d : Value} : argsOk "max" ⟨[a], [(Str.ofString "default", d)]⟩ := args_max_dflt a d
theorem bind_max {d : Value} : Builtin.Builtins.bindParams "max" ["key", "default"] 0 ⟨[], [(Str.ofString "default", d)]⟩ = pure [none, some d] := by kernel_rfl
theorem call_max_dflt {es : List DictEntry} {ep : Nat} {it d : Addr} {dv : Value} {Q : Value → Shared → Prop} (hh : A.handled = none) (hIt : I ≠ it) (hdt : d ≠ it) (val : Nat → Int) (hval : ∀ i e, es[i]? = some e → (∃ t, e.val = .int (val i) t) ∧ val i ≠ 0)
    (h1 : s.heap.get? I = some (fiO it)) (h2 : s.heap.get? it = some (viO d 0 es.length ep)) (h3 : s.heap.get? d = some (dictOf es ep))
    (h : ∀ v h' tk, (es.length = 0 → v = dv) → (0 < es.length → ∃ t, v = .int (mxv val (es.length - 1)) t) → (∀ b o, b ≠ it → s.heap.get? b = some o → h'.get? b = some o) → Q v { s with heap := h', toks := tk }) :
    wpAny (model prog w) A (call (.builtin "max") [.ref I] [(Str.ofString "default", dv)]) Q E s := by
  have hname : (toString "max" ++ toString ".loop" : String) = "max.loop" := by decide
  have W := filterWalks (prog := prog) (w := w) (A := A.in1.in1) hh I it d hIt hdt es ep val hval
  refine kmb_tree PySem.F.kind_max PySem.F.plain_max PySem.F.entry_max (args_max_dflt _ _) ?_
  show wpAny _ A.in1 (Builtin.Builtins.bindParams "max" ["key", "default"] 0 ⟨[], [(Str.ofString "default", dv)]⟩ >>= _) _ _ s
  refine wpAny_bind (wpAny_of_eq bind_max ?_)
  refine wpAny_bind (wpAny_pure ?_)
  refine wpAny_bind (wpAny_of_in1 (W.self 0 s _ _ ⟨h1, h2, h3⟩ ?_))
  refine wpAny_bind (wpAny_newObj_type ?_)
  have hs1 := Heap.lt_size h1
  have hs2 := Heap.lt_size h2
  have hs3 := Heap.lt_size h3
  have hSf : s.heap.objs.size ∉ [I, it, d] := by
    intro hm
    simp only [List.mem_cons, List.not_mem_nil, or_false] at hm
    rcases hm with e | e | e
    · exact absurd hs1 (by rw [e]; exact Nat.lt_irrefl _)
    · exact absurd hs2 (by rw [e]; exact Nat.lt_irrefl _)
    · exact absurd hs3 (by rw [e]; exact Nat.lt_irrefl _)
  rw [hname]
  have hst : fSt I it d es ep 0 (s.heap.push { cls := .type "list", data := .seq ([] : List Value).toArray }) := ⟨Heap.get?_push_of_some _ h1, Heap.get?_push_of_some _ h2, Heap.get?_push_of_some _ h3⟩
  rcases Nat.eq_zero_or_pos es.length with hz | hz
  · have hes : es = [] := List.eq_nil_of_length_eq_zero hz
    subst hes
    refine wpAny_pure ⟨plainId_quiet PySem.F.plain_max_loop _, max_none W.of_in1 s.heap.objs.size hSf (s := { s with heap := s.heap.push { cls := .type "list", data := .seq ([] : List Value).toArray } }) hst (Heap.get?_push_size _ rfl) fun h' tk hk => ?_⟩
    exact h _ h' tk (fun _ => rfl) (fun q => absurd q (Nat.lt_irrefl _)) fun b o hb e => hk b o (by simp [hb]) (Heap.get?_push_of_some _ e)
  · refine wpAny_pure ⟨plainId_quiet PySem.F.plain_max_loop _, max_first W.of_in1 s.heap.objs.size hSf hz (s := { s with heap := s.heap.push { cls := .type "list", data := .seq ([] : List Value).toArray } }) hst (Heap.get?_push_size _ rfl) fun t h' tk hk => ?_⟩
    exact h _ h' tk (fun q => absurd q (by omega)) (fun _ => ⟨t, rfl⟩) fun b o hb e => hk b o (by simp [hb]) (Nat.ne_of_lt (Heap.lt_size e)) (Heap.get?_push_of_some _ e)
end
end Mine
end
section
open PySem PySem.W PyProof.Rows PySem.Builtin
namespace Mine
set_option maxRecDepth 100000
set_option linter.unusedSimpArgs false
theorem plain_citer : plainId "proto.contains_iter" = true := by decide +kernel
theorem entry_citer : entryFor table "proto.contains_iter" = some Builtin.«proto.contains_iter» := entryFor_of_tree (by kernel_rfl)
theorem look_vals_contains : typeLookup (.type "dict_values") "__contains__" = pure none := by rw [typeLookup_type, builtinLookup_eq_fast]; kernel_rfl
section
variable {prog : Program} {w : World} {A : Around} {E : Value → Shared → Prop} {s : Shared}
def vSt (it d : Addr) (es : List DictEntry) (ep : Nat) (i : Nat) (h : Heap) : Prop := h.get? it = some (viO d i es.length ep) ∧ h.get? d = some (dictOf es ep)
theorem next_val {it d : Addr} {es : List DictEntry} {ep i : Nat} {e : DictEntry} {Q : Option Value → Shared → Prop} (st : vSt it d es ep i s.heap) (hdt : d ≠ it) (he : es[i]? = some e)
    (hQ : ∀ h', vSt it d es ep (i + 1) h' → Heap.SameBut it s.heap h' → Q (some e.val) { s with heap := h' }) : wpAny (model prog w) A (pyNext (.ref it)) Q E s := by
  unfold pyNext
  refine wpAny_bind (wpAny_attempt (vi_item st.1 st.2 he fun h' hit' hs => ?_))
  exact wpAny_pure (hQ h' ⟨hit', (hs.2 d hdt).trans st.2⟩ hs)
theorem next_end {it d : Addr} {es : List DictEntry} {ep : Nat} {Q : Option Value → Shared → Prop} (hh : A.handled = none) (st : vSt it d es ep es.length s.heap)
    (hQ : ∀ h', Heap.ExtBut it s.heap h' → Q none { s with heap := h' }) : wpAny (model prog w) A (pyNext (.ref it)) Q E s := by
  unfold pyNext
  refine wpAny_bind (wpAny_attempt (vi_end hh st.1 st.2 fun h' e he ho => ?_))
  obtain ⟨o, ho, hc⟩ := ho
  refine wpAny_bind (wpAny_isInstance (T := "StopIteration") (b := true) ⟨o, ho, hc⟩ isSubtype_stop ?_)
  exact wpAny_pure (hQ h' he)
theorem contains_none {it d : Addr} {es : List DictEntry} {ep : Nat} (hh : A.handled = none) (hdt : d ≠ it) (val : Nat → Int) (hval : ∀ (i : Nat) (e : DictEntry), es[i]? = some e → ∃ t, e.val = Value.int (val i) t) :
    ∀ (k i : Nat) (s : Shared) {R : Result → Shared → Prop}, es.length - i = k → i ≤ es.length → vSt it d es ep i s.heap → (∀ h' tk, Heap.ExtBut it s.heap h' → R (.ok (.ret (.bool false))) { s with heap := h', toks := tk }) →
      codeAny (model prog w) A (.builtin "proto.contains_iter" ⟨[.ref it, .none], []⟩) R s := by
  intro k
  induction k with
  | zero =>
    intro i s R hk hi st hR
    have : i = es.length := by omega
    subst this
    refine codeAny_builtin entry_citer ?_
    rw [Around.under_plainId plain_citer]
    unfold Builtin.«proto.contains_iter»
    dsimp only
    refine wpAny_bind (next_end hh st fun h' he => ?_)
    refine wpAny_bind (wpAny_rule (wpAny_pure ?_))
    exact hR h' s.toks he
  | succ k ih =>
    intro i s R hk hi st hR
    obtain ⟨e, he⟩ : ∃ e, es[i]? = some e := ⟨es[i]'(by omega), by simp [show i < es.length by omega]⟩
    obtain ⟨t, hv⟩ := hval i e he
    refine codeAny_builtin entry_citer ?_
    rw [Around.under_plainId plain_citer]
    unfold Builtin.«proto.contains_iter»
    dsimp only
    refine wpAny_bind (next_val st hdt he fun h' st' hs => ?_)
    dsimp only
    rw [hv]
    refine wpAny_bind ?_
    show wpAny _ _ (eqBool (.int (val i) t) .none) _ _ _
    unfold eqBool
    refine wpAny_holding ?_
    have hne : ((Value.int (val i) t) == Value.none) = false := rfl
    rw [hne]
    show wpAny _ _ (richCompare .Eq (.int (val i) t) .none >>= fun r => truthOfDropped r) _ _ _
    have heq : ∀ {Q : Value → Shared → Prop} {E : Value → Shared → Prop} {s' : Shared}, Q (.bool false) s' → wpAny (model prog w) A.in1 (richCompare .Eq (.int (val i) t) .none) Q E s' := fun hq => EqNone.eq_int_none hq
    refine wpAny_bind (heq ?_)
    show wpAny _ _ (truthy (.bool false)) _ _ _
    refine wpAny_truthy_bool ?_
    show wpAny _ _ (again _) _ _ _
    refine wpAny_pure ⟨plainId_quiet plain_citer _, ?_⟩
    exact ih (i + 1) _ (by omega) (by omega) st' fun h2 tk he2 => hR h2 tk fun b o hb eo => he2 b o hb ((hs.2 b hb).trans eo)
theorem in_vals {v d : Addr} {es : List DictEntry} {ep : Nat} {Q : Value → Shared → Prop} (hh : A.handled = none) (val : Nat → Int) (hval : ∀ (i : Nat) (e : DictEntry), es[i]? = some e → ∃ t, e.val = Value.int (val i) t)
    (hv : s.heap.get? v = some (vvO d)) (hd : s.heap.get? d = some (dictOf es ep))
    (h : ∀ h' tk, (∀ b o, s.heap.get? b = some o → h'.get? b = some o) → Q (.bool false) { s with heap := h', toks := tk }) :
    wpAny (model prog w) A (compareOp .In .none (.ref v)) Q E s := by
  have hT : s.TypeIs (.ref v) "dict_values" := ⟨_, hv, rfl⟩
  show wpAny _ A (contains (.ref v) .none >>= fun b => pure (.bool b)) Q E s
  refine wpAny_bind ?_
  unfold contains
  refine wpAny_holding ?_
  show wpAny _ A (specialOf (.ref v) "__contains__" >>= _) _ E s
  refine wpAny_bind (wpAny_specialOf hT look_vals_contains ?_)
  show wpAny _ A (callSpecialUnlessNone? (.ref v) "__contains__" [.none] _ >>= _) _ E s
  refine wpAny_bind (wpAny_callSpecialUnlessNone?_none hT look_vals_contains ?_)
  dsimp only
  refine wpAny_bind (wpAny_rule ?_)
  refine wpAny_bind (wpAny_tryCatch (pyIter_vals hv hd ?_))
  have hlt := Heap.lt_size hd
  refine wpAny_bind (wpAny_runValue (contains_none hh (Nat.ne_of_lt hlt) val hval es.length 0 { s with heap := s.heap.push (viO d 0 es.length ep) } (by omega) (Nat.zero_le _) ⟨Heap.get?_push_size _ rfl, Heap.get?_push_of_some _ hd⟩ fun h' tk he => ?_))
  refine wpAny_pure (wpAny_pure ?_)
  exact h h' tk fun b o e => he b o (Nat.ne_of_lt (Heap.lt_size e)) (Heap.get?_push_of_some _ e)
end
end Mine
end
section
open PySem PySem.W PyProof.Rows PySem.Builtin
namespace Mine
set_option Elab.async false
set_option maxRecDepth 100000
theorem fillW : PySem.Challenge.rw_zd0001_01 = PySem.Challenge.rw_zd0001_01 ∧ hd.heap_39 = hd.heap_39 := by
  k_fill
  exact ⟨rfl, rfl⟩
section
variable {prog : Program} {w : World} {A : Around} {E : Value → Shared → Prop} {s : Shared} {h₀ : Heap} {L D : Addr} {m : PySem.Str → Option Value} {news : List (Addr × Obj)} {es : List DictEntry} {ep : Nat}
theorem meth_values {M : Model} {pl : Sem Bool} {Q : Value × List Value → Shared → Prop} (N : News h₀ L s.heap news) (hD : (D, dictOf es ep) ∈ news) (h : Q (.builtin "dict.values", [.ref D]) s) : wpAny M A (getMethod (.ref D) "values" pl) Q E s :=
  getMethod_builtin ⟨_, N.get hD, rfl⟩ PySem.F.plainAttrs_dict PySem.F.slot_dict_values PySem.F.type_dict_values (fun a e => ⟨_, by cases e; exact N.get hD, rfl⟩) h
theorem vals_K {Q : Value → Shared → Prop} (F : Fr h₀ L s.heap m) (N : News h₀ L s.heap news) (hD : (D, dictOf es ep) ∈ news) (hs : (D == sysModules) = false)
    (h : ∀ V h', Fr h₀ L h' m → News h₀ L h' ((V, vvO D) :: news) → (∀ p ∈ news, p.1 < V) → Q (.ref V) { s with heap := h' }) : wpAny (model prog w) A (call (.builtin "dict.values") [.ref D]) Q E s := by
  have hT : s.TypeIs (.ref D) "dict" := ⟨_, N.get hD, rfl⟩
  refine wpAny_call_entry PySem.F.slot_dict_values hT PySem.F.entry_dict_values ?_ (PySem.F.args_dict_values_1 _)
  refine wpAny_bind ?_
  unfold Builtin.Dict.noArgs
  refine wpAny_bind (wpAny_notOrdered_dict hT ?_)
  show wpAny _ _ (pure D) _ _ s
  refine wpAny_pure ?_
  show wpAny _ _ (Builtin.Dict.showsAll D >>= _) _ _ s
  unfold Builtin.Dict.showsAll
  rw [if_neg (by rw [hs]; exact Bool.false_ne_true)]
  refine wpAny_bind (wpAny_pure ?_)
  exact wpAny_bind (wpAny_newObj_type (wpAny_pure ⟨_, rfl, h _ _ (F.push _) (N.push F _) fun p hp => Heap.lt_size (N p hp).1⟩))
theorem filter_K {Q : Value → Shared → Prop} {V : Addr} {rest : List (Addr × Obj)} (F : Fr h₀ L s.heap m) (N : News h₀ L s.heap ((V, vvO D) :: rest)) (hD : (D, dictOf es ep) ∈ rest)
    (h : ∀ I it h', Fr h₀ L h' m → News h₀ L h' ((I, fiO it) :: (it, viO D 0 es.length ep) :: (V, vvO D) :: rest) → I ≠ it → D ≠ it → (∀ p ∈ (V, vvO D) :: rest, p.1 ≠ it) → Q (.ref I) { s with heap := h' }) :
    wpAny (model prog w) A (call (.type "filter") [.none, .ref V]) Q E s := by
  have hV := N.get (.head _)
  have hd := N.get (.tail _ hD)
  refine call_filter hV hd ?_
  have hz : (s.heap.push (viO D 0 es.length ep)).objs.size = s.heap.objs.size + 1 := Heap.size_push ..
  have F1 := F.push (viO D 0 es.length ep)
  have N1 := N.push F (viO D 0 es.length ep)
  have F2 := F1.push (fiO s.heap.objs.size)
  have N2 := N1.push F1 (fiO s.heap.objs.size)
  rw [hz] at N2
  exact h _ _ _ F2 N2 (Nat.succ_ne_self _) (Nat.ne_of_lt (Heap.lt_size hd)) fun p hp => Nat.ne_of_lt (Heap.lt_size (N p hp).1)
theorem max_K {Q : Value → Shared → Prop} {I it : Addr} {dv : Value} {rest : List (Addr × Obj)} (F : Fr h₀ L s.heap m) (N : News h₀ L s.heap ((I, fiO it) :: (it, viO D 0 es.length ep) :: rest)) (hD : (D, dictOf es ep) ∈ rest) (hIt : I ≠ it) (hdt : D ≠ it) (hr : ∀ p ∈ rest, p.1 ≠ it)
    (val : Nat → Int) (hval : ∀ (i : Nat) (e : DictEntry), es[i]? = some e → (∃ t, e.val = Value.int (val i) t) ∧ val i ≠ 0) (hh : A.handled = none)
    (h : ∀ v h' tk, Fr h₀ L h' m → News h₀ L h' rest → (es.length = 0 → v = dv) → (0 < es.length → ∃ t, v = .int (mxv val (es.length - 1)) t) → Q v { s with heap := h', toks := tk }) :
    wpAny (model prog w) A (call (.builtin "max") [.ref I] [(PySem.Str.ofString "default", dv)]) Q E s := by
  have hit := N (it, viO D 0 es.length ep) (.tail _ (.head _))
  refine call_max_dflt hh hIt hdt val hval (N.get (.head _)) hit.1 (N.get (.tail _ (.tail _ hD))) fun v h' tk h1 h2 hk => ?_
  obtain ⟨oL, a1, a2, hoL, a3⟩ := F.ns
  refine h v h' tk ⟨⟨oL, a1, a2, hk _ _ (fun q => hit.2.1 q.symm) hoL, a3⟩, fun b x e => hk b x (fun q => ?_) (F.keep b x e), F.above⟩ (fun p hp => ⟨hk _ _ (hr p hp) (N p (.tail _ (.tail _ hp))).1, (N p (.tail _ (.tail _ hp))).2⟩) h1 h2
  rw [q] at e
  rw [hit.2.2] at e; cases e
theorem in_K {Q : Value → Shared → Prop} {V : Addr} (F : Fr h₀ L s.heap m) (N : News h₀ L s.heap ((V, vvO D) :: news)) (hD : (D, dictOf es ep) ∈ news) (hsm : (D == sysModules) = false) (val : Nat → Int) (hval : ∀ (i : Nat) (e : DictEntry), es[i]? = some e → (∃ t, e.val = Value.int (val i) t) ∧ val i ≠ 0) (hh : A.handled = none)
    (h : ∀ h' tk, Fr h₀ L h' m → News h₀ L h' ((V, vvO D) :: news) → Q (.bool false) { s with heap := h', toks := tk }) :
    wpAny (model prog w) A (compareOp .In .none (.ref V)) Q E s :=
  in_vals hh val (fun i e he => (hval i e he).1) (N.get (.head _)) (N.get (.tail _ hD)) fun h' tk hk =>
    h h' tk ⟨F.ns.keeps hk, fun b x e => hk b x (F.keep b x e), F.above⟩ fun p hp => ⟨hk _ _ (N p hp).1, (N p hp).2⟩
end
local macro_rules | `(tactic| walk_at "getMethod ref") => `(tactic| (k_here; (refine meth_values (by k_asm) (by first | assumption | exact List.mem_cons_of_mem _ (by assumption) | exact List.mem_cons_of_mem _ (List.mem_cons_of_mem _ (by assumption))) ?_)))
local macro_rules | `(tactic| walk_at "call builtin:dict.values") => `(tactic| (k_here; (refine' vals_K ?F ?N ?D ?S ?_; (case F => k_asm); (case N => k_asm); (case D => first | assumption | exact List.mem_cons_of_mem _ (by assumption) | exact List.mem_cons_of_mem _ (List.mem_cons_of_mem _ (by assumption))); (case S => assumption)); intro V' h' F' N' l1'))
local macro_rules | `(tactic| walk_at "call type:filter") => `(tactic| (k_here; (refine' filter_K ?F ?N ?D ?_; (case N => k_asm); (case F => k_asm); (case D => first | assumption | exact List.mem_cons_of_mem _ (by assumption))); intro I' it' h' F' N' ne1 ne2 ne3))
local macro_rules | `(tactic| walk_at "call builtin:max") => `(tactic| ((show wpAny _ _ (call (Value.builtin "max") [Value.ref _] [(PySem.Str.ofString "default", _)]) _ _ _); k_here; (refine' max_K ?F ?N ?D ?a ?b ?c _ ?v ?hh ?_; (case N => k_asm); (case F => k_asm); (case D => first | assumption | exact List.mem_cons_of_mem _ (by assumption)); (case a => assumption); (case b => assumption); (case c => assumption); (case v => assumption); (case hh => rfl)); intro vm hm km Fm Nm e0 e1; (first | (obtain ⟨tm, e3⟩ := e1 (by assumption); rw [‹mxv _ _ = _›] at e3; subst e3) | (have e2 := e0 (by assumption); subst e2)); clear e0 e1))
local macro_rules | `(tactic| walk_at "compareOp In none ref") => `(tactic| (k_here; (refine' in_K ?F ?N ?D ?S _ ?v ?hh ?_; (case N => k_asm); (case F => k_asm); (case D => first | assumption | exact List.mem_cons_of_mem _ (by assumption)); (case S => assumption); (case v => assumption); (case hh => rfl)); intro hm km Fm Nm))
def wd (mx : Int) : Int := if ((Str.ofString (toString mx)).length : Int) > 3 then ((Str.ofString (toString mx)).length : Int) else 3
set_option maxHeartbeats 8000000 in
theorem width_sum {w : World} {A₀ : Around} {base h₀ : Heap} {env : Env} {L : Addr} {m mg mb : PySem.Str → Option Value} {mean : ExcName → Option Value} {news : List (Addr × Obj)} {s : Shared} {R : Result → Shared → Prop}
  {D : Addr} {es : List DictEntry} {ep : Nat} (hD : (D, dictOf es ep) ∈ news) (hsm : (D == sysModules) = false) (val : Nat → Int) (hval : ∀ (i : Nat) (e : DictEntry), es[i]? = some e → (∃ t, e.val = Value.int (val i) t) ∧ val i ≠ 0) (hlen : 0 < es.length) {mx : Int} (hmx : mxv val (es.length - 1) = mx) (hpos : 0 < mx) (hup : mx < 10000000)
  (B : Below A₀ base [] h₀) (F : Fr h₀ L s.heap m) (X : (hd.heap_39 w.params).In h₀) (N : News h₀ L s.heap news) (T : Top hd.view_39 (looseW hd.view_39 [Str.ofString "_quoted", Str.ofString "_paren_depth"]) mean mg mb h₀)
  (hf : env.frame = some L) (hke : env.scope.kind = .function) (h : ∀ h' t k, Fr h₀ L h' m → News h₀ L h' news → R (.ok (.ret (.int (wd mx) t))) { s with heap := h', toks := k })
  : codeAny (model PySem.Challenge.rw_zd0001_01.row.prog w) (callerA.deeper env) (.call (.ref 38) ⟨[.ref D], []⟩) R s := by
  refine' code_def B F X N T rfl hf hke ?k6 ?k7 ?k8 ?k9 ?kB ?_ ?c2 ?c3 ?c4 ?c5
  case k6 => k_is
  case k7 => k_is
  case k8 => k_room
  case k9 => first | exact BindsTo.of_eq rfl | exact binds_K (by k_in) rfl (by k_is) rfl rfl rfl
  case c5 => decide
  case kB => exact locs rfl
  case c2 => exact rfl
  case c3 => exact rfl
  case c4 => exact rfl
  intro g' L' h' FG' F' N' B' X' T'
  (try dsimp only)
  (try k_fold)
  k_steps
  · exfalso; omega
  · with_reducible rename News _ _ _ _ => N9
    exact h _ _ _ (by assumption) (fun p hp => by first | exact N9 p (.tail _ hp) | exact N9 p (.tail _ (.tail _ hp)))
  · with_reducible rename News _ _ _ _ => N9
    exact h _ _ _ (by assumption) (fun p hp => by first | exact N9 p (.tail _ hp) | exact N9 p (.tail _ (.tail _ hp)))
set_option maxHeartbeats 8000000 in
theorem width_zero {w : World} {A₀ : Around} {base h₀ : Heap} {env : Env} {L : Addr} {m mg mb : PySem.Str → Option Value} {mean : ExcName → Option Value} {news : List (Addr × Obj)} {s : Shared} {R : Result → Shared → Prop}
  {D : Addr} {es : List DictEntry} {ep : Nat} (hD : (D, dictOf es ep) ∈ news) (hsm : (D == sysModules) = false) (val : Nat → Int) (hval : ∀ (i : Nat) (e : DictEntry), es[i]? = some e → (∃ t, e.val = Value.int (val i) t) ∧ val i ≠ 0) (hlen : es.length = 0)
  (B : Below A₀ base [] h₀) (F : Fr h₀ L s.heap m) (X : (hd.heap_39 w.params).In h₀) (N : News h₀ L s.heap news) (T : Top hd.view_39 (looseW hd.view_39 [Str.ofString "_quoted", Str.ofString "_paren_depth"]) mean mg mb h₀)
  (hf : env.frame = some L) (hke : env.scope.kind = .function) (h : ∀ h' t k, Fr h₀ L h' m → News h₀ L h' news → R (.ok (.ret (.int 0 t))) { s with heap := h', toks := k })
  : codeAny (model PySem.Challenge.rw_zd0001_01.row.prog w) (callerA.deeper env) (.call (.ref 38) ⟨[.ref D], []⟩) R s := by
  refine' code_def B F X N T rfl hf hke ?k6 ?k7 ?k8 ?k9 ?kB ?_ ?c2 ?c3 ?c4 ?c5
  case k6 => k_is
  case k7 => k_is
  case k8 => k_room
  case k9 => first | exact BindsTo.of_eq rfl | exact binds_K (by k_in) rfl (by k_is) rfl rfl rfl
  case c5 => decide
  case kB => exact locs rfl
  case c2 => exact rfl
  case c3 => exact rfl
  case c4 => exact rfl
  intro g' L' h' FG' F' N' B' X' T'
  (try dsimp only)
  (try k_fold)
  k_steps
  with_reducible rename News _ _ _ _ => N9
  exact h _ _ _ (by assumption) (fun p hp => by first | exact N9 p (.tail _ hp) | exact N9 p (.tail _ (.tail _ hp)))
end Mine
end
section
open PySem PySem.W PyProof.Rows PySem.Builtin
namespace Mine
set_option Elab.async false
set_option maxRecDepth 100000
section
variable {prog : Program} {w : World} {A : Around} {E : Value → Shared → Prop} {Q : Flow → Shared → Prop} {s : Shared} {env : Env} {h₀ : Heap} {m : PySem.Str → Option Value} {news : List (Addr × Obj)}
/-- what the end of a turn owes: the ledger as it stands, and the part of it that the next turn is told of -/
def TurnEnd (h₀ : Heap) (L : Addr) (I : Addr) (oI : Obj) (Jn : (PySem.Str → Option Value) → List (Addr × Obj) → Prop) (s₁ : Shared) (f : Flow) (s₂ : Shared) : Prop :=
  f = .next ∧ ∃ h' tk m₂ nf news₂, s₂ = { s₁ with heap := h', toks := tk } ∧ Fr h₀ L h' m₂ ∧ News h₀ L h' nf ∧ (I, oI) ∈ nf ∧ (∀ p ∈ news₂, p ∈ nf ∧ (p.1 ≠ I ∨ p.2.cls ≠ oI.cls)) ∧ Jn m₂ news₂
theorem iter_rangeJ {x : PySem.Str} {body : List Stmt} {r : Addr} {n : Nat} {t u v : Tok} (hh : A.handled = none) (F : Fr h₀ env.locals s.heap m) (N : News h₀ env.locals s.heap news) (hr : IsRange s.heap r 0 (n : Int) 1 t u v) (hn : n < 1000)
    (J : Nat → (PySem.Str → Option Value) → List (Addr × Obj) → Prop) (h0 : J 0 m news)
    (turn : ∀ I oI i t m₁ news₁ h₁ tk₁, oI.cls = Value.type "range_iterator" → i < n → J i m₁ news₁ → (∀ p ∈ news₁, p.1 ≠ I) → Fr h₀ env.locals h₁ (fun y => if y = x then some (.int (i : Int) t) else m₁ y) → News h₀ env.locals h₁ ((I, oI) :: news₁) →
      wpAny (model prog w) A (execs body env) (TurnEnd h₀ env.locals I oI (J (i + 1)) { s with heap := h₁, toks := tk₁ }) E { s with heap := h₁, toks := tk₁ })
    (done : ∀ h' tk m' news', Fr h₀ env.locals h' m' → News h₀ env.locals h' news' → J n m' news' → Q .next { s with heap := h', toks := tk }) :
    wpAny (model prog w) A (pyIter (.ref r)) (fun it s₂ => LoopAtV prog w A h₀ env x body Q E it s₂) E s := by
  have hsz : Builtin.Range.rangeSize 0 (n : Int) 1 = (n : Int) := by
    rw [rangeSize_one]
    split <;> omega
  have hsm : Builtin.Range.small 0 (n : Int) 1 = true := small_one (by omega) (by omega) (by omega) (by omega)
  refine wpAny_pyIter_range hr hsm ?_
  rw [hsz]
  have hI : ∀ p ∈ news, p.1 ≠ s.heap.objs.size := fun p hp e => absurd (Heap.lt_size (N p hp).1) (e ▸ Nat.lt_irrefl _)
  have hL : env.locals ≠ s.heap.objs.size := fun e => absurd F.ns.lt (e ▸ Nat.lt_irrefl _)
  have hnone : h₀.get? s.heap.objs.size = none := Heap.get?_none_of_le (Nat.le_of_lt (Nat.lt_of_le_of_lt F.above F.ns.lt))
  have st0 : IsRangeIter (s.heap.push { cls := .type "range_iterator", data := .fields #[rawInt 0, rawInt (n : Int), rawInt 1] }) s.heap.objs.size (0 + ((0 : Nat) : Int) * 1) ((n : Int) - ((0 : Nat) : Int)) 1 := by
    show Heap.get? _ _ = _
    rw [Heap.get?_push_size _ rfl]
    simp
  refine ⟨s.heap.objs.size, [s.heap.objs.size], [s.heap.objs.size], n, _, _, m, news, J, rfl, Walks.range hh _ 0 1 n, ?_, ?_, ?_, st0, F.push _, fun p hp => ⟨Heap.get?_push_of_some _ (N p hp).1, (N p hp).2⟩, h0, ?_, ?_⟩
  · simpa using hL
  · intro b hb; rw [List.mem_singleton.mp hb]; exact hnone
  · intro p hp hb; exact hI p hp (List.mem_singleton.mp hb)
  · intro i v m₁ news₁ s₁ own hs1 hi hP hJ hoff hsub hget hall hst F₁ N₁
    obtain ⟨h, tk, rfl⟩ := hs1
    obtain ⟨t, rfl⟩ := hP
    obtain ⟨oI, hst', hc⟩ : ∃ oI : Obj, h.get? s.heap.objs.size = some oI ∧ oI.cls = Value.type "range_iterator" := ⟨_, hst, rfl⟩
    have hm := hall _ (List.mem_singleton.mpr rfl) hnone _ hst'
    have e : (0 : Int) + (i : Int) * 1 = (i : Int) := by omega
    rw [e] at F₁
    refine wpAny_mono (turn s.heap.objs.size oI i t m₁ news₁ h tk hc hi hJ (fun p hp q => hoff p hp (List.mem_singleton.mpr q)) F₁ (fun p hp => ?_)) (fun f s₃ h₃ => ?_) fun _ _ e => e
    · rcases List.mem_cons.mp hp with rfl | hp
      · exact N₁ _ (List.mem_append_left _ hm)
      · exact N₁ _ (List.mem_append_right _ hp)
    · obtain ⟨rfl, h', tk', m₂, nf, news₂, rfl, F₂, N₂, hIn, hsub2, hJ₂⟩ := h₃
      refine LoopStepV.next (LoopStepU.intro F₂ (news₂ := news₂) (fun p hp => ?_) (fun p hp hb => ?_) hJ₂)
      · rcases List.mem_append.mp hp with hp | hp
        · have e1 : p.1 = s.heap.objs.size := List.mem_singleton.mp (hsub p hp)
          have e2 : h.get? p.1 = some p.2 := hget p hp
          rw [e1] at e2
          have e3 := hst'.symm.trans e2
          have : p = (s.heap.objs.size, p.2) := Prod.ext e1 rfl
          rw [this]
          cases e3
          exact N₂ _ hIn
        · exact N₂ p (hsub2 p hp).1
      · have e1 : p.1 = s.heap.objs.size := List.mem_singleton.mp hb
        have a := (N₂ p (hsub2 p hp).1).1
        have b := (N₂ _ hIn).1
        rw [e1] at a
        have c : h'.get? s.heap.objs.size = some _ := b
        rw [a] at c
        cases c
        exact (hsub2 p hp).2.elim (fun q => q e1) fun q => q rfl
  · intro h' tk m' news' F' N' _ hJ
    exact done h' tk m' news' F' N' hJ
theorem iter_listJ {x : PySem.Str} {body : List Stmt} {t : Addr} {items : Array Value} {c : Nat} (hh : A.handled = none) (F : Fr h₀ env.locals s.heap m) (N : News h₀ env.locals s.heap news) (ht : (t, W.listOf items c) ∈ news)
    (J : Nat → (PySem.Str → Option Value) → List (Addr × Obj) → Prop) (h0 : J 0 m news) (hJt : ∀ i m n, J i m n → (t, W.listOf items c) ∈ n)
    (turn : ∀ I oI i v m₁ news₁ h₁ tk₁, oI.cls = Value.type "list_iterator" → items[i]? = some v → J i m₁ news₁ → (∀ p ∈ news₁, p.1 ≠ I) → Fr h₀ env.locals h₁ (fun y => if y = x then some v else m₁ y) → News h₀ env.locals h₁ ((I, oI) :: news₁) →
      wpAny (model prog w) A (execs body env) (TurnEnd h₀ env.locals I oI (J (i + 1)) { s with heap := h₁, toks := tk₁ }) E { s with heap := h₁, toks := tk₁ })
    (done : ∀ h' tk m' news', Fr h₀ env.locals h' m' → News h₀ env.locals h' news' → J items.size m' news' → Q .next { s with heap := h', toks := tk }) :
    wpAny (model prog w) A (pyIter (.ref t)) (fun it s₂ => LoopAtV prog w A h₀ env x body Q E it s₂) E s := by
  have hl : s.heap.IsList t items := ⟨_, N.get ht, rfl, c, rfl⟩
  refine wpAny_pyIter_list hl ?_
  have hlt : t < s.heap.objs.size := Heap.lt_size (N.get ht)
  have htI : t ≠ s.heap.objs.size := Nat.ne_of_lt hlt
  have hI : ∀ p ∈ news, p.1 ≠ s.heap.objs.size := fun p hp e => absurd (Heap.lt_size (N p hp).1) (e ▸ Nat.lt_irrefl _)
  have hL : env.locals ≠ s.heap.objs.size := fun e => absurd F.ns.lt (e ▸ Nat.lt_irrefl _)
  have hnone : h₀.get? s.heap.objs.size = none := Heap.get?_none_of_le (Nat.le_of_lt (Nat.lt_of_le_of_lt F.above F.ns.lt))
  have st0 : (s.heap.push { cls := .type "list_iterator", data := .fields #[.ref t, .int 0 0] }).IsListIter s.heap.objs.size t 0 ∧ (s.heap.push { cls := .type "list_iterator", data := .fields #[.ref t, .int 0 0] }).IsList t items :=
    ⟨⟨_, Heap.get?_push_size _ rfl, rfl, rfl⟩, hl.at fun o e => Heap.get?_push_of_some _ e⟩
  refine ⟨s.heap.objs.size, [s.heap.objs.size, t], [s.heap.objs.size], items.size, _, _, m, news, J, rfl, Walks.list hh _ t htI items, ?_, ?_, ?_, st0, F.push _, fun p hp => ⟨Heap.get?_push_of_some _ (N p hp).1, (N p hp).2⟩, h0, ?_, ?_⟩
  · intro hm
    rcases List.mem_cons.mp hm with e | hm
    · exact hL e
    · exact (N _ ht).2.1 (List.mem_singleton.mp hm).symm
  · intro b hb; rw [List.mem_singleton.mp hb]; exact hnone
  · intro p hp hb; exact hI p hp (List.mem_singleton.mp hb)
  · intro i v m₁ news₁ s₁ own hs1 hi hP hJ hoff hsub hget hall hst F₁ N₁
    obtain ⟨h, tk, rfl⟩ := hs1
    obtain ⟨⟨oI, ho, hc, hd⟩, hl1⟩ := hst
    have hm := hall _ (List.mem_cons_self ..) hnone _ ho
    refine wpAny_mono (turn s.heap.objs.size oI i v m₁ news₁ h tk hc hP hJ (fun p hp q => hoff p hp (List.mem_singleton.mpr q)) F₁ (fun p hp => ?_)) (fun f s₃ h₃ => ?_) fun _ _ e => e
    · rcases List.mem_cons.mp hp with rfl | hp
      · exact N₁ _ (List.mem_append_left _ hm)
      · exact N₁ _ (List.mem_append_right _ hp)
    · obtain ⟨rfl, h', tk', m₂, nf, news₂, rfl, F₂, N₂, hIn, hsub2, hJ₂⟩ := h₃
      have ht1 : h.get? t = some (W.listOf items c) := (N₁ _ (List.mem_append_right _ (hJt _ _ _ hJ))).1
      refine LoopStepV.next (LoopStepU.intro F₂ (news₂ := news₂) (fun p hp => ?_) (fun p hp hb => ?_) hJ₂)
      · rcases List.mem_append.mp hp with hp | hp
        · have e2 : h.get? p.1 = some p.2 := hget p hp
          rcases List.mem_cons.mp (hsub p hp) with e1 | e1
          · rw [e1] at e2
            have e3 := ho.symm.trans e2
            have : p = (s.heap.objs.size, p.2) := Prod.ext e1 rfl
            rw [this]
            cases e3
            exact N₂ _ hIn
          · have e1 := List.mem_singleton.mp e1
            rw [e1] at e2
            have e3 := ht1.symm.trans e2
            have : p = (t, p.2) := Prod.ext e1 rfl
            rw [this, ← Option.some.inj e3]
            exact N₂ _ (hsub2 _ (hJt _ _ _ hJ₂)).1
        · exact N₂ p (hsub2 p hp).1
      · have e1 : p.1 = s.heap.objs.size := List.mem_singleton.mp hb
        have a := (N₂ p (hsub2 p hp).1).1
        have b := (N₂ _ hIn).1
        rw [e1] at a
        have c : h'.get? s.heap.objs.size = some _ := b
        rw [a] at c
        cases c
        exact (hsub2 p hp).2.elim (fun q => q e1) fun q => q rfl
  · intro h' tk m' news' F' N' _ hJ
    exact done h' tk m' news' F' N' hJ
/-- list.append where the list stands anywhere in the ledger -/
theorem append_mem {L D : Addr} {its : Array Value} {n : Nat} {x : Value} {Q : Value → Shared → Prop} (F : Fr h₀ L s.heap m) (N : News h₀ L s.heap news) (hm : (D, W.listOf its n) ∈ news) (hsz : its.size ≤ 1000)
    (h : ∀ h', Fr h₀ L h' m → News h₀ L h' ((D, W.listOf (its.push x) (n + 1)) :: news.filter (fun p => p.1 != D)) → Q .none { s with heap := h' }) :
    wpAny (model prog w) A (call (.builtin "list.append") [.ref D, x]) Q E s := by
  refine append_at (hsz := Nat.le_trans hsz (by rw [PySem.sizeLine_eq]; decide)) (N.get hm) fun h' hs ho' => h h' (F.change hs (N _ hm).2.1 (N _ hm).2.2) ?_
  intro p hp
  rcases List.mem_cons.mp hp with rfl | hp
  · exact ⟨ho', (N _ hm).2⟩
  · obtain ⟨h1, h2⟩ := List.mem_filter.mp hp
    have hne : p.1 ≠ D := by simpa using h2
    exact ⟨(hs.2 _ hne).trans (N p h1).1, (N p h1).2⟩
end
end Mine
end
section
open PySem PySem.W PyProof.Rows PySem.Builtin
namespace Mine
set_option Elab.async false
set_option maxRecDepth 100000
def Letters (nm : PySem.Str) : Prop := ∀ c ∈ nm.cps.toList, c = 34 ∨ c = 40 ∨ c = 41 ∨ c = 97
section
variable {prog : Program} {w : World} {A : Around} {E : Value → Shared → Prop} {s : Shared} {env : Env} {h₀ : Heap} {L : Addr} {m : PySem.Str → Option Value} {news : List (Addr × Obj)}
theorem sub_mem {value slice : PySem.Expr} {a : Addr} {items : Array Value} {c : Nat} {k : Int} {u : Tok} {Q : Value → Shared → Prop} (N : News h₀ L s.heap news) (hm : (a, W.listOf items c) ∈ news) (h0 : 0 ≤ k) (h1 : k < items.size) (h2 : items.size ≤ 1000)
    (h : ∀ v, items[k.toNat]? = some v → Q v s) (hs : subscripted slice false (.ref a) (.int k u) = operate [.ref a, .int k u] (getItem (.ref a) (.int k u))) :
    wpAny (model prog w) A (subscriptTail value slice (.ref a) (.int k u)) Q E s := by
  have hl : s.heap.IsList a items := ⟨_, N.get hm, rfl, c, rfl⟩
  obtain ⟨v, hv⟩ : ∃ v, items[k.toNat]? = some v := ⟨items[k.toNat]'(by omega), by simp [show k.toNat < items.size by omega]⟩
  exact tail_any hl.typeIs slot_list_getitem.lookup (wpAny_getItem_list hl h0 (by omega) hv (h v hv)) hs
theorem sub_texts {value slice : PySem.Expr} {a : Addr} {items : Array Value} {c : Nat} {k : Int} {u : Tok} {Q : Value → Shared → Prop} (N : News h₀ L s.heap news) (hm : (a, W.listOf items c) ∈ news) (T : List PySem.Str) (hT : ∀ (i : Nat) (v : Value), items[i]? = some v → ∃ x t, v = Value.str x t ∧ x ∈ T)
    (h0 : 0 ≤ k) (h1 : k < items.size) (h2 : items.size ≤ 1000)
    (h : ∀ x t, x ∈ T → Q (.str x t) s) (hs : subscripted slice false (.ref a) (.int k u) = operate [.ref a, .int k u] (getItem (.ref a) (.int k u))) :
    wpAny (model prog w) A (subscriptTail value slice (.ref a) (.int k u)) Q E s :=
  sub_mem N hm h0 h1 h2 (fun v hv => by obtain ⟨x, t, rfl, hx⟩ := hT _ _ hv; exact h x t hx) hs
theorem sub_quad {value slice : PySem.Expr} {t : Tok} {k : Int} {u : Tok} {Q : Value → Shared → Prop} (h0 : 0 ≤ k) (h1 : k < 4)
    (h : ∀ c, (c = 34 ∨ c = 40 ∨ c = 41 ∨ c = 97) → Q (.str ⟨#[c]⟩ s.toks) { s with toks := s.toks + 1 })
    (hs : subscripted slice false (.str (PySem.Str.ofString "\"()a") t) (.int k u) = operate [.str (PySem.Str.ofString "\"()a") t, .int k u] (getItem (.str (PySem.Str.ofString "\"()a") t) (.int k u)))
    (ht : ∀ r, letTemporaryGo value (.str (PySem.Str.ofString "\"()a") t) r = pure ()) :
    wpAny (model prog w) A (subscriptTail value slice (.str (PySem.Str.ofString "\"()a") t) (.int k u)) Q E s := by
  have hl : (PySem.Str.ofString "\"()a").length = 4 := by decide +kernel
  have hc : ∃ c, (PySem.Str.ofString "\"()a").cps[k.toNat]? = some c ∧ (c = 34 ∨ c = 40 ∨ c = 41 ∨ c = 97) := by
    have : k = 0 ∨ k = 1 ∨ k = 2 ∨ k = 3 := by omega
    rcases this with rfl | rfl | rfl | rfl
    · exact ⟨34, by decide +kernel, .inl rfl⟩
    · exact ⟨40, by decide +kernel, .inr (.inl rfl)⟩
    · exact ⟨41, by decide +kernel, .inr (.inr (.inl rfl))⟩
    · exact ⟨97, by decide +kernel, .inr (.inr (.inr rfl))⟩
  obtain ⟨c, hc, hq⟩ := hc
  exact sub_at h0 (by rw [hl]; decide) hc (h c hq) hs ht
theorem range_K {n : Int} {t : Tok} {Q : Value → Shared → Prop} (F : Fr h₀ L s.heap m) (N : News h₀ L s.heap news) (h0 : 0 ≤ n)
    (h : ∀ r h' tk t₁ u₁ v₁, IsRange h' r 0 ((n.toNat : Nat) : Int) 1 t₁ u₁ v₁ → Fr h₀ L h' m → News h₀ L h' news → Q (.ref r) { s with heap := h', toks := tk }) :
    wpAny (model prog w) A (call (.type "range") [.int n t]) Q E s := by
  refine range1_rows F N fun h' tk t₁ u₁ v₁ hr F' N' _ => h _ h' tk t₁ u₁ v₁ ?_ F' N'
  rw [Int.toNat_of_nonneg h0]
  exact hr
def nMap (mB : PySem.Str → Option Value) (nm : PySem.Str) (tn : Tok) (f : Int) (tf : Tok) (ot : Option Value) : PySem.Str → Option Value := fun y =>
  if y = PySem.Str.ofString "figures" then some (.int f tf) else if y = PySem.Str.ofString "name" then some (.str nm tn) else if y = PySem.Str.ofString "turn" then ot else mB y
theorem nMap_start {mB : PySem.Str → Option Value} {nm : PySem.Str} {tn : Tok} {f : Int} {tf : Tok} (h1 : mB (PySem.Str.ofString "figures") = some (.int f tf)) (h2 : mB (PySem.Str.ofString "name") = some (.str nm tn)) : mB = nMap mB nm tn f tf (mB (PySem.Str.ofString "turn")) := by
  funext y
  unfold nMap
  by_cases e1 : y = PySem.Str.ofString "figures"
  · rw [if_pos e1, e1, h1]
  by_cases e2 : y = PySem.Str.ofString "name"
  · rw [if_neg e1, if_pos e2, e2, h2]
  by_cases e3 : y = PySem.Str.ofString "turn"
  · rw [if_neg e1, if_neg e2, if_pos e3, e3]
  · rw [if_neg e1, if_neg e2, if_neg e3]
theorem nMap_turn {mB : PySem.Str → Option Value} {nm nm' : PySem.Str} {tn tn' : Tok} {f f' : Int} {tf tf' : Tok} {ot : Option Value} {v : Value} :
    (fun y => if y = PySem.Str.ofString "figures" then some (.int f' tf') else if y = PySem.Str.ofString "name" then some (.str nm' tn') else if y = PySem.Str.ofString "turn" then some v else nMap mB nm tn f tf ot y) = nMap mB nm' tn' f' tf' (some v) := by
  funext y
  unfold nMap
  by_cases e1 : y = PySem.Str.ofString "figures"
  · simp only [if_pos e1]
  by_cases e2 : y = PySem.Str.ofString "name"
  · simp only [if_neg e1, if_pos e2]
  by_cases e3 : y = PySem.Str.ofString "turn"
  · simp only [if_neg e1, if_neg e2, if_pos e3]
  · simp only [if_neg e1, if_neg e2, if_neg e3]
theorem empty_cps : (PySem.Str.ofString "").cps.toList = [] := by decide +kernel
theorem letters_empty : Letters (PySem.Str.ofString "") := fun c hc => by rw [empty_cps] at hc; exact absurd hc List.not_mem_nil
theorem iter_names {Q : Flow → Shared → Prop} {mB : PySem.Str → Option Value} {body : List Stmt} {r : Addr} {n : Nat} {t u v tn tf : Tok} {f : Int} (hh : A.handled = none) (F : Fr h₀ env.locals s.heap mB) (N : News h₀ env.locals s.heap news) (hr : IsRange s.heap r 0 (n : Int) 1 t u v) (hn : n < 1000)
    (h1 : mB (PySem.Str.ofString "figures") = some (.int f tf)) (h2 : mB (PySem.Str.ofString "name") = some (.str (PySem.Str.ofString "") tn))
    (turn : ∀ I oI i t nm tn f tf ot h₁ tk₁, oI.cls = Value.type "range_iterator" → i < n → nm.length ≤ i → Letters nm → (∀ p ∈ news, p.1 ≠ I) →
      Fr h₀ env.locals h₁ (fun y => if y = PySem.Str.ofString "turn" then some (.int (i : Int) t) else nMap mB nm tn f tf ot y) → News h₀ env.locals h₁ ((I, oI) :: news) →
      wpAny (model prog w) A (execs body env) (TurnEnd h₀ env.locals I oI (fun m' n' => n' = news ∧ ∃ nm tn f tf ot, m' = nMap mB nm tn f tf ot ∧ nm.length ≤ i + 1 ∧ Letters nm) { s with heap := h₁, toks := tk₁ }) E { s with heap := h₁, toks := tk₁ })
    (done : ∀ h' tk nm tn f tf ot, Fr h₀ env.locals h' (nMap mB nm tn f tf ot) → News h₀ env.locals h' news → nm.length ≤ n → Letters nm → Q .next { s with heap := h', toks := tk }) :
    wpAny (model prog w) A (pyIter (.ref r)) (fun it s₂ => LoopAtV prog w A h₀ env (PySem.Str.ofString "turn") body Q E it s₂) E s := by
  refine iter_rangeJ hh F N hr hn (fun i m' n' => n' = news ∧ ∃ nm tn f tf ot, m' = nMap mB nm tn f tf ot ∧ nm.length ≤ i ∧ Letters nm) ?_ ?_ ?_
  · exact ⟨rfl, PySem.Str.ofString "", tn, f, tf, _, nMap_start h1 h2, by decide +kernel, letters_empty⟩
  · rintro I oI i t m₁ news₁ h₁ tk₁ hc hi ⟨rfl, nm, tn, f, tf, ot, rfl, hl, hq⟩ hoff F₁ N₁
    exact turn I oI i t nm tn f tf ot h₁ tk₁ hc hi hl hq hoff F₁ N₁
  · rintro h' tk m' news' F' N' ⟨rfl, nm, tn, f, tf, ot, rfl, hl, hq⟩
    exact done h' tk nm tn f tf ot F' N' hl hq
end
end Mine
namespace Mine
section
variable {prog : Program} {w : World} {A : Around} {E : Value → Shared → Prop} {s : Shared} {x y z : PySem.Str} {t u v : Tok} {Q : Value → Shared → Prop}
theorem dbl_eq : ∀ l : List Nat, StrLaws.dbl 34 l = dbl l
  | [] => rfl
  | c :: l => by
    show (if c = 34 then c :: c :: StrLaws.dbl 34 l else c :: StrLaws.dbl 34 l) = if c = 34 then 34 :: 34 :: dbl l else c :: dbl l
    rw [dbl_eq l]
    split
    · rename_i h; rw [h]
    · rfl
theorem replace_K (hu : u ≠ 0) (hv : v ≠ 0) (huv : u ≠ v) (hx : x.length ≤ 1000) (h : ∀ t' k, Q (.str ⟨(dbl x.cps.toList).toArray⟩ t') { s with toks := k }) :
    wpAny (model prog w) A (call (.builtin "str.replace") [.str x t, .str (PySem.Str.ofString "\"") u, .str (PySem.Str.ofString "\"\"") v]) Q E s := by
  refine SC.replaceW hu hv huv (by decide +kernel) (by omega) (by decide +kernel) fun t' k => ?_
  rw [replace_dbl x _ _ 34 (by decide +kernel) (by decide +kernel), dbl_eq]
  exact h t' k
theorem add_S (hxy : x.length + y.length ≤ 1000) (h : ∀ t' k, Q (.str (x ++ y) t') { s with toks := k }) : wpAny (model prog w) A (binaryOp .Add (.str x t) (.str y u)) Q E s :=
  add_str (fun t' k => h t' k) (by rw [sizeLine_eq]; omega)
end
theorem mul_list {c : Nat} {x : PySem.Str} (hx : x = ⟨#[c]⟩) {k : Int} (h1 : -3 ≤ k) (h2 : k ≤ 3) : (Txt.mul x k).cps.toList = List.replicate k.toNat c := by
  subst hx
  have : k = -3 ∨ k = -2 ∨ k = -1 ∨ k = 0 ∨ k = 1 ∨ k = 2 ∨ k = 3 := by omega
  rcases this with rfl | rfl | rfl | rfl | rfl | rfl | rfl <;> rfl
theorem mul_len {c : Nat} {x : PySem.Str} (hx : x = ⟨#[c]⟩) {k : Int} (h1 : -3 ≤ k) (h2 : k ≤ 3) : (Txt.mul x k).length ≤ 3 := by
  have := congrArg List.length (mul_list hx h1 h2)
  rw [List.length_replicate, Array.length_toList] at this
  show (Txt.mul x k).cps.size ≤ 3
  omega
theorem dbl_len2 : ∀ l : List Nat, (dbl l).length ≤ 2 * l.length
  | [] => Nat.le_refl _
  | c :: l => by
    have := dbl_len2 l
    rw [dbl]
    split <;> simp <;> omega
theorem dbl_str_len {x : PySem.Str} (h : x.length ≤ 3) : (⟨(dbl x.cps.toList).toArray⟩ : PySem.Str).length ≤ 6 := by
  show (dbl x.cps.toList).toArray.size ≤ 6
  have h1 := dbl_len2 x.cps.toList
  have h3 : x.cps.toList.length = x.cps.size := Array.length_toList
  have h2 : x.cps.size ≤ 3 := h
  rw [List.size_toArray]
  omega
def midTexts : List PySem.Str := [PySem.Str.ofString "", PySem.Str.ofString " \"((\"", PySem.Str.ofString ")(", PySem.Str.ofString " \""]
theorem mid_len {x : PySem.Str} (h : x ∈ midTexts) : x.length ≤ 5 := by
  simp only [midTexts, List.mem_cons, List.not_mem_nil, or_false] at h
  rcases h with rfl | rfl | rfl | rfl <;> decide +kernel
theorem mid_cps {x : PySem.Str} (h : x ∈ midTexts) : x.cps.toList ∈ ([[], [32, 34, 40, 40, 34], [41, 40], [32, 34]] : List (List Nat)) := by
  simp only [midTexts, List.mem_cons, List.not_mem_nil, or_false] at h
  rcases h with rfl | rfl | rfl | rfl <;> decide +kernel
end Mine
end
section
open PySem PySem.W PyProof.Rows PySem.Builtin
namespace Mine
set_option Elab.async false
set_option pp.deepTerms false
set_option pp.maxSteps 3000
set_option maxRecDepth 100000
theorem fillL : PySem.Challenge.rw_zd0001_01 = PySem.Challenge.rw_zd0001_01 ∧ hd.heap_39 = hd.heap_39 := by
  k_fill
  exact ⟨rfl, rfl⟩
local macro_rules | `(tactic| walk_at "subscriptTail Name Slice ref ref") => `(tactic| ((with_reducible show wpAny _ _ (subscriptTail _ (PySem.Expr.Slice (some _) none none _) (Value.ref _) (Value.ref _)) _ _ _); k_here; k_dflt (refine' kmk_slice_ints ?F ?N ?l ?p ?q ?i ?m ?c ?_ ?s ?t ?z; (case F => k_asm); (case N => k_asm); (case l => kmk_list); (case p => kmk_part); (case q => kmk_part); (case i => l_ints); (case m => exact kmk_from (by l_ints) (Int.natCast_nonneg _)); (case c => exact List.length_drop ..); (case s => with_unfolding_all rfl); (case t => kmk_pure); (case z => kmk_size)); intro D' ws' h' F' N' l1 hI' hC' hL'; (try k_lt l1)))
theorem one_len (c : Nat) : (⟨#[c]⟩ : PySem.Str).length = 1 := rfl
local macro_rules | `(tactic| walk_at "call builtin:str.replace") => `(tactic| (k_here; k_dflt (refine' replace_K ?a ?b ?c ?d ?_; (case a => first | (simp; done) | omega | (simp; omega)); (case b => first | (simp; done) | omega | (simp; omega)); (case c => first | (simp; done) | omega | (simp; omega)); (case d => omega)); intro t' k'))
local macro_rules | `(tactic| walk_at "binaryOp Add str str") => `(tactic| (k_here; (with_reducible show wpAny _ _ (binaryOp Operator.Add (Value.str _ _) (Value.str _ _)) _ _ _); k_dflt (refine' add_S ?z ?_; (case z => ((try simp only [PySem.Str.length_append, one_len]); omega))); intro t' k'))
def RowOk (nm : PySem.Str) (st : Int) (rp : PySem.Str) : Prop :=
  nm.length ≤ 3 ∧ Letters nm ∧ -3 ≤ st ∧ st ≤ 3 ∧
    ∃ mid, mid ∈ [[], [32, 34, 40, 40, 34], [41, 40], [32, 34]] ∧ rp.cps.toList = 50 :: 53 :: 55 :: 32 :: 34 :: (dbl nm.cps.toList ++ 34 :: (mid ++ (List.replicate st.toNat 40 ++ List.replicate (-st).toNat 41)))
def TupRow (o : Obj) : Prop := ∃ nm st rp t1 t2 t3, o = { cls := .type "tuple", data := .seq #[.str nm t1, .int st t2, .str rp t3] 0 } ∧ RowOk nm st rp
def Asc (l : Addr) (news ts : List (Addr × Obj)) : Prop := (∀ p ∈ ts, @LT.lt Nat _ l p.1 ∧ ∀ q ∈ news, @LT.lt Nat _ q.1 p.1) ∧ ts.Pairwise (fun a b => @LT.lt Nat _ a.1 b.1)
theorem Asc.nil {l : Addr} {news : List (Addr × Obj)} : Asc l news [] := ⟨fun p hp => absurd hp List.not_mem_nil, .nil⟩
theorem Asc.snoc {l T : Addr} {o : Obj} {news ts : List (Addr × Obj)} (a : Asc l news ts) (h1 : @LT.lt Nat _ l T) (h2 : ∀ q ∈ ts ++ news, @LT.lt Nat _ q.1 T) : Asc l news (ts ++ [(T, o)]) := by
  refine ⟨fun p hp => ?_, List.pairwise_append.mpr ⟨a.2, List.pairwise_singleton _ _, fun x hx y hy => ?_⟩⟩
  · rcases List.mem_append.mp hp with hp | hp
    · exact a.1 p hp
    · rw [List.mem_singleton.mp hp]
      exact ⟨h1, fun q hq => h2 q (List.mem_append_right _ hq)⟩
  · rw [List.mem_singleton.mp hy]
    exact h2 x (List.mem_append_left _ hx)
def rJ (l D : Addr) (ws : List Value) (news : List (Addr × Obj)) (i : Nat) (m : PySem.Str → Option Value) (n : List (Addr × Obj)) : Prop :=
  (∃ ov : PySem.Str → Option Value, m = fun y => if y = PySem.Str.ofString "rows" then some (.ref l) else ov y) ∧ ∃ ts : List (Addr × Obj), ts.length = i ∧ ((∀ p ∈ ts, TupRow p.2) ∧ Asc l news ts) ∧
    n = (l, W.listOf (ts.map fun p => Value.ref p.1).toArray i) :: (D, W.listOf ws.toArray 0) :: (ts ++ news)
theorem iter_rows {prog : Program} {w : World} {A : Around} {E : Value → Shared → Prop} {Q : Flow → Shared → Prop} {s : Shared} {env : Env} {h₀ : Heap} {m : PySem.Str → Option Value} {news rest : List (Addr × Obj)} {x : PySem.Str} {body : List Stmt} {l D : Addr} {ws : List Value} (hh : A.handled = none)
    (F : Fr h₀ env.locals s.heap m) (N : News h₀ env.locals s.heap ((l, W.listOf #[] 0) :: (D, W.listOf ws.toArray 0) :: rest)) (hsub : ∀ p ∈ news, p ∈ rest) (hm : m (PySem.Str.ofString "rows") = some (.ref l))
    (turn : ∀ I oI i v m₁ news₁ h₁ tk₁, oI.cls = Value.type "list_iterator" → ws[i]? = some v → rJ l D ws news i m₁ news₁ → (∀ p ∈ news₁, p.1 ≠ I) → Fr h₀ env.locals h₁ (fun y => if y = x then some v else m₁ y) → News h₀ env.locals h₁ ((I, oI) :: news₁) →
      wpAny (model prog w) A (execs body env) (TurnEnd h₀ env.locals I oI (rJ l D ws news (i + 1)) { s with heap := h₁, toks := tk₁ }) E { s with heap := h₁, toks := tk₁ })
    (done : ∀ h' tk (ov : PySem.Str → Option Value) ts, Fr h₀ env.locals h' (fun y => if y = PySem.Str.ofString "rows" then some (.ref l) else ov y) → ts.length = ws.length → (∀ p ∈ ts, TupRow p.2) ∧ Asc l news ts → News h₀ env.locals h' ((l, W.listOf (ts.map fun p => Value.ref p.1).toArray ws.length) :: (D, W.listOf ws.toArray 0) :: (ts ++ news)) → Q .next { s with heap := h', toks := tk }) :
    wpAny (model prog w) A (pyIter (.ref D)) (fun it s₂ => LoopAtV prog w A h₀ env x body Q E it s₂) E s := by
  refine iter_listJ hh F (news := (l, W.listOf #[] 0) :: (D, W.listOf ws.toArray 0) :: news) (fun p hp => ?_) (List.mem_cons_of_mem _ (List.mem_cons_self ..)) (rJ l D ws news) ?_ ?_ ?_ ?_
  · rcases List.mem_cons.mp hp with rfl | hp
    · exact N _ (List.mem_cons_self ..)
    · rcases List.mem_cons.mp hp with rfl | hp
      · exact N _ (List.mem_cons_of_mem _ (List.mem_cons_self ..))
      · exact N _ (List.mem_cons_of_mem _ (List.mem_cons_of_mem _ (hsub p hp)))
  · refine ⟨⟨m, funext fun y => ?_⟩, [], rfl, ⟨fun p hp => absurd hp (List.not_mem_nil), .nil⟩, rfl⟩
    by_cases e : y = PySem.Str.ofString "rows"
    · rw [if_pos e, e, hm]
    · rw [if_neg e]
  · rintro i m n ⟨_, ts, _, _, rfl⟩
    exact List.mem_cons_of_mem _ (List.mem_cons_self ..)
  · intro I oI i v m₁ news₁ h₁ tk₁ hc hv
    exact turn I oI i v m₁ news₁ h₁ tk₁ hc (by simpa using hv)
  · rintro h' tk m' n F' N' ⟨⟨ov, rfl⟩, ts, h1, h2, rfl⟩
    rw [List.size_toArray] at *
    exact done h' tk ov ts F' h1 h2 N'
theorem rows_end {h₀ h' : Heap} {L l D I T : Addr} {oI oT : Obj} {q : Addr × Obj} {lo : Obj} {ws : List Value} {ts news : List (Addr × Obj)} {i n k : Nat} {m' : PySem.Str → Option Value} {s₁ : Shared}
    (F' : Fr h₀ L h' m') (N' : News h₀ L h' ((l, W.listOf ((List.map (fun p => Value.ref p.1) ts).toArray.push (.ref T)) (n + 1)) :: List.filter (fun p => p.1 != l) ((T, oT) :: q :: (I, oI) :: (l, lo) :: (D, W.listOf ws.toArray 0) :: (ts ++ news))))
    (hn : n = i) (hIl : I ≠ l) (hTl : T ≠ l) (hDl : D ≠ l) (htl : ∀ p ∈ ts ++ news, p.1 ≠ l) (hDI : D ≠ I) (hTI : T ≠ I) (htI : ∀ p ∈ ts ++ news, p.1 ≠ I) (hrow : TupRow oT) (hrows : (∀ p ∈ ts, TupRow p.2) ∧ Asc l news ts) (hlT : @LT.lt Nat _ l T) (hnT : ∀ q ∈ ts ++ news, @LT.lt Nat _ q.1 T) (hlen : ts.length = i) (hm : m' (PySem.Str.ofString "rows") = some (.ref l)) :
    TurnEnd h₀ L I oI (rJ l D ws news (i + 1)) s₁ .next { s₁ with heap := h', toks := k } := by
  subst hn
  have mem : ∀ p ∈ ((T, oT) :: q :: (I, oI) :: (l, lo) :: (D, W.listOf ws.toArray 0) :: (ts ++ news)), p.1 ≠ l → p ∈ List.filter (fun p => p.1 != l) ((T, oT) :: q :: (I, oI) :: (l, lo) :: (D, W.listOf ws.toArray 0) :: (ts ++ news)) :=
    fun p hp hne => List.mem_filter.mpr ⟨hp, by simpa using hne⟩
  have e : (List.map (fun p => Value.ref p.1) ts).toArray.push (.ref T) = (List.map (fun p => Value.ref p.1) (ts ++ [(T, oT)])).toArray := by simp
  rw [e] at N'
  refine ⟨rfl, h', k, m', _, _, rfl, F', N', List.mem_cons_of_mem _ (mem _ (by simp) hIl), ?_, ⟨m', funext fun y => ?_⟩, ts ++ [(T, oT)], by simp [hlen], ⟨?_, hrows.2.snoc hlT hnT⟩, rfl⟩
  · intro p hp
    rcases List.mem_cons.mp hp with rfl | hp
    · exact ⟨List.mem_cons_self .., .inl (fun q => hIl q.symm)⟩
    rcases List.mem_cons.mp hp with rfl | hp
    · exact ⟨List.mem_cons_of_mem _ (mem _ (by simp) hDl), .inl hDI⟩
    have h2 : p = (T, oT) ∨ p ∈ ts ++ news := by
      simp only [List.mem_append, List.mem_singleton] at hp ⊢
      rcases hp with (h | h) | h
      · exact .inr (.inl h)
      · exact .inl h
      · exact .inr (.inr h)
    rcases h2 with rfl | h2
    · exact ⟨List.mem_cons_of_mem _ (mem _ (by simp) hTl), .inl hTI⟩
    · exact ⟨List.mem_cons_of_mem _ (mem _ (by simp only [List.mem_cons]; exact .inr (.inr (.inr (.inr (.inr h2))))) (htl p h2)), .inl (htI p h2)⟩
  · by_cases e : y = PySem.Str.ofString "rows"
    · rw [if_pos e, e, hm]
    · rw [if_neg e]
  · intro p hp
    simp only [List.mem_append, List.mem_singleton] at hp
    rcases hp with h | rfl
    · exact hrows.1 p h
    · exact hrow
theorem tup_ne {h₀ h : Heap} {L l : Addr} {lo : Obj} {ts rest : List (Addr × Obj)} (N : News h₀ L h rest) (hl : (l, lo) ∈ rest) (hc : lo.cls = .type "list") (hsub : ∀ p ∈ ts, p ∈ rest) (hrows : ∀ p ∈ ts, TupRow p.2) : ∀ p ∈ ts, p.1 ≠ l := by
  intro p hp e
  have a := (N p (hsub p hp)).1
  have b := (N _ hl).1
  rw [e] at a
  have c : some p.2 = some lo := a.symm.trans b
  obtain ⟨nm, st, rp, t1, t2, t3, ho, _⟩ := hrows p hp
  rw [Option.some.inj c] at ho
  rw [ho] at hc
  exact absurd (show Value.type "tuple" = Value.type "list" from hc) (by decide)
theorem ints_at {vs : List Value} {ns : List Int} (h : IntsAre vs ns) : ∀ {i : Nat} {v : Value}, vs[i]? = some v → ∃ x t, v = Value.int x t := by
  induction h with
  | nil => intro i v h; simp at h
  | cons k t r ih =>
    intro i v h
    cases i with
    | zero => simp at h; exact ⟨_, _, h.symm⟩
    | succ i => simp at h; exact ih h
theorem nums5 (ns : List Int) : (ns.take 5 ++ List.drop (((ns.take 5).length : Int)).toNat [544, 301, 46, 4, 852]).length = 5 := by
  simp only [List.length_append, List.length_drop, List.length_take, List.length_cons, List.length_nil]
  omega
theorem at5 {vs : List Value} {ns : List Int} (h : IntsAre vs ns) (h5 : ns.length = 5) {i : Nat} {v : Value} (hv : vs[i]? = some v) : i < 5 := by
  have := h.length
  rcases Nat.lt_or_ge i vs.length with h1 | h1
  · omega
  · rw [List.getElem?_eq_none h1] at hv; cases hv
theorem allLt_mem {d : Addr} : ∀ {l : List (Addr × Obj)}, AllLt d l → ∀ p ∈ l, p.1 < d
  | [], _ => fun p hp => absurd hp List.not_mem_nil
  | q :: l, h => fun p hp => by
    rcases List.mem_cons.mp hp with rfl | hp
    · exact h.1
    · exact allLt_mem h.2 p hp
theorem c257 : (PySem.Str.ofString "257 \"").cps.toList = [50, 53, 55, 32, 34] := by decide +kernel
theorem cquo : (PySem.Str.ofString "\"").cps.toList = [34] := by decide +kernel
theorem fm0 (a : Int) : 0 ≤ a.fmod 4 := Int.fmod_nonneg_of_pos a (by decide)
theorem fm4 (a : Int) : a.fmod 4 < 4 := Int.fmod_lt_of_pos a (by decide)
local macro_rules | `(tactic| walk_at "subscriptTail Name BinOp ref int") => `(tactic| (k_here; k_dflt (refine' sub_texts ?N ?m midTexts ?T ?a ?b ?c ?_ ?s; (case N => k_asm); (case m => k_mem); (case T => (intro i v h; rcases i with _ | _ | _ | _ | i <;> simp at h <;> (subst h; exact ⟨_, _, rfl, by simp [midTexts]⟩))); (case a => exact fm0 _); (case b => exact fm4 _); (case c => exact Nat.le_of_ble_eq_true rfl); (case s => with_unfolding_all rfl)); intro mid tm hmid))
local macro_rules | `(tactic| walk_at "subscriptTail") => `(tactic| (k_here; (with_reducible show wpAny _ _ (subscriptTail _ _ (Value.str _ _) (Value.int _ _)) _ _ _); k_dflt (refine' sub_quad ?a ?b ?_ ?s ?t; (case a => exact fm0 _); (case b => exact fm4 _); (case s => with_unfolding_all rfl); (case t => (intro _; with_unfolding_all rfl))); intro cq hcq))
local macro_rules | `(tactic| walk_at "call type:range") => `(tactic| (k_here; k_dflt (refine' range_K ?F ?N ?a ?_; (case F => k_asm); (case N => k_asm); (case a => exact fm0 _)); intro r' h' tk' t1' u1' v1' R' F' N'))
local macro_rules | `(tactic| walk_at "call builtin:list.append") => `(tactic| (k_here; k_dflt (refine' append_mem ?F ?N ?m ?z ?_; (case F => k_asm); (case N => k_asm); (case m => k_mem); (case z => (simp; omega))); intro h' F' N'))
set_option maxHeartbeats 8000000 in
theorem replies_sum {w : World} {A₀ : Around} {base h₀ : Heap} {env : Env} {L : Addr} {m mg mb : PySem.Str → Option Value} {mean : ExcName → Option Value} {news : List (Addr × Obj)} {s : Shared} {R : Result → Shared → Prop}
  {sc : Addr} {vs : List Value} {ns : List Int} (hL : h₀.IsList sc vs.toArray) (hI : IntsAre vs ns) (hn : ¬ (63 : Int) < (ns.length : Int))
  (B : Below A₀ base [] h₀) (F : Fr h₀ L s.heap m) (X : (hd.heap_39 w.params).In h₀) (N : News h₀ L s.heap news) (T : Top hd.view_39 (looseW hd.view_39 [Str.ofString "_quoted", Str.ofString "_paren_depth"]) mean mg mb h₀)
  (hf : env.frame = some L) (hke : env.scope.kind = .function)
  (h : ∀ h' l ts k, ts.length = 5 → (∀ p ∈ ts, TupRow p.2) ∧ Asc l news ts → (∀ q ∈ news, @LT.lt Nat _ q.1 l) → Fr h₀ L h' m → News h₀ L h' ((l, W.listOf (ts.map fun p => Value.ref p.1).toArray 5) :: (ts ++ news)) → R (.ok (.ret (.ref l))) { s with heap := h', toks := k })
  : codeAny (model PySem.Challenge.rw_zd0001_01.row.prog w) (callerA.deeper env) (.call (.ref 90) ⟨[.ref sc], []⟩) R s := by
  refine' code_def B F X N T rfl hf hke ?k6 ?k7 ?k8 ?k9 ?kB ?_ ?c2 ?c3 ?c4 ?c5
  case k6 => k_is
  case k7 => k_is
  case k8 => k_room
  case k9 => first | exact BindsTo.of_eq rfl | exact binds_K (by k_in) rfl (by k_is) rfl rfl rfl
  case c5 => decide
  case kB => exact locs rfl
  case c2 => exact rfl
  case c3 => exact rfl
  case c4 => exact rfl
  intro g' L' h' FG' F' N' B' X' T'
  have hL' : g'.IsList sc vs.toArray := by
    obtain ⟨o, e, r⟩ := hL
    exact ⟨o, FG'.keep _ _ e, r⟩
  clear hL
  (try dsimp only)
  (try k_fold)
  repeat' ((fail_if_success (with_reducible show wpAny _ _ (exec (Stmt.For _ _ _ _ _) _) _ _ _)); first | (k_unfold; (try dsimp only)) | (k_end; wrow_close) | walk1 | (dsimp only; walk1) | (leave1; walk_say "STEP leave1"; try dsimp only))
  (with_reducible rename Fr _ _ _ _ => F8)
  (with_reducible rename News _ _ _ _ => N8)
  (with_reducible rename IntsAre _ _ => I8)
  (with_reducible rename _ ∧ _ => l8)
  refine' For_invVF F8 rfl rfl ?_
  repeat' ((fail_if_success (with_reducible show wpAny _ _ (pyIter _) _ _ _)); first | (k_unfold; (try dsimp only)) | (k_end; wrow_close) | walk1 | (dsimp only; walk1) | (leave1; walk_say "STEP leave1"; try dsimp only))
  (with_reducible rename Fr _ _ _ _ => F9)
  (with_reducible rename News _ _ _ _ => N9)
  refine' iter_rows (news := news) rfl F9 N9 ?zsub ?zm ?zturn ?zdone
  case zsub => exact fun p hp => by simp only [List.mem_cons]; simp [hp]
  case zm => rfl
  case zturn =>
    rintro I oI i v m₁ news₁ h₁ tk₁ hcls hv ⟨⟨ov, rfl⟩, ts, hts, hrows, rfl⟩ hoff F₁ N₁
    have hx : ∃ x t, v = Value.int x t := ints_at I8 hv
    have hi5 : i < 5 := at5 I8 (nums5 ns) hv
    have htl := tup_ne N₁ (List.mem_cons_of_mem _ (List.mem_cons_self ..)) rfl (ts := ts) (fun p hp => by simp [hp]) hrows.1
    have hIl := fun q => hoff _ (List.mem_cons_self ..) (Eq.symm q)
    have hDI := hoff _ (List.mem_cons_of_mem _ (List.mem_cons_self ..))
    have htI : ∀ p ∈ ts ++ news, p.1 ≠ I := fun p hp => hoff p (List.mem_cons_of_mem _ (List.mem_cons_of_mem _ hp))
    obtain ⟨x, t, rfl⟩ := hx
    have h257 : (PySem.Str.ofString "257 \"").length = 5 := by decide +kernel
    have hquo : (PySem.Str.ofString "\"").length = 1 := by decide +kernel
    have hopen : PySem.Str.ofString "(" = ⟨#[40]⟩ := by decide +kernel
    have hclose : PySem.Str.ofString ")" = ⟨#[41]⟩ := by decide +kernel
    have hst1 : -3 ≤ (x.fmod 1000000).fmod 7 - 3 := by have := Int.fmod_nonneg_of_pos (x.fmod 1000000) (b := 7) (by decide); omega
    have hst2 : (x.fmod 1000000).fmod 7 - 3 ≤ 3 := by have := Int.fmod_lt_of_pos (x.fmod 1000000) (b := 7) (by decide); omega
    have hmu1 := mul_len hopen hst1 hst2
    have hmu2 := mul_len (k := -((x.fmod 1000000).fmod 7 - 3)) hclose (by omega) (by omega)
    have hml1 := mul_list hopen hst1 hst2
    have hml2 := mul_list (k := -((x.fmod 1000000).fmod 7 - 3)) hclose (by omega) (by omega)
    clear F9 N9 hv
    repeat' ((fail_if_success (with_reducible show wpAny _ _ (exec (Stmt.For _ _ _ _ _) _) _ _ _)); first | (k_unfold; (try dsimp only)) | (k_end; wrow_close) | walk1 | (dsimp only; walk1) | (leave1; walk_say "STEP leave1"; try dsimp only))
    (with_reducible rename Fr _ _ _ _ => Fa)
    refine' For_invVF Fa rfl rfl ?_
    repeat' ((fail_if_success (with_reducible show wpAny _ _ (pyIter _) _ _ _)); first | (k_unfold; (try dsimp only)) | (k_end; wrow_close) | walk1 | (dsimp only; walk1) | (leave1; walk_say "STEP leave1"; try dsimp only))
    (with_reducible rename Fr _ _ _ _ => Fb)
    (with_reducible rename News _ _ _ _ => Nb)
    (with_reducible rename IsRange _ _ _ _ _ _ _ _ => Rb)
    refine' iter_names rfl Fb Nb Rb ?zn rfl rfl ?zt ?zd
    case zn => exact Nat.lt_of_lt_of_le ((Int.toNat_lt (fm0 _)).mpr (fm4 _)) (by decide)
    case zt =>
      intro I2 oI2 i2 t2 nm tn f tf ot h2 tk2 hc2 hi2 hl2 hq2 hoff2 F2 N2
      clear Fb Nb
      have hi3 : i2 < 3 := Nat.lt_of_lt_of_le hi2 (Nat.le_of_lt_succ ((Int.toNat_lt (fm0 _)).mpr (fm4 _)))
      k_steps
      (with_reducible rename Fr _ _ _ _ => Fz)
      (with_reducible rename News _ _ _ _ => Nz)
      (with_reducible rename _ ∨ _ => hcz)
      refine ⟨rfl, _, _, _, _, _, rfl, Fz, Nz, List.mem_cons_self .., fun p hp => ⟨List.mem_cons_of_mem _ hp, .inl (hoff2 p hp)⟩, rfl, _, _, _, _, _, nMap_turn, ?_, ?_⟩
      · rw [PySem.Str.length_append, one_len]; omega
      · intro c hc
        rw [PySem.Str.cps_append, Array.toList_append, List.mem_append] at hc
        rcases hc with hc | hc
        · exact hq2 c hc
        · have e : c = _ := List.mem_singleton.mp hc
          rw [e]; exact hcz
    case zd =>
      intro h2 tk2 nm tn f tf ot F2 N2 hl2 hq2
      clear Fb Nb
      have hl3 : nm.length ≤ 3 := Nat.le_trans hl2 (Nat.le_of_lt_succ ((Int.toNat_lt (fm0 _)).mpr (fm4 _)))
      have hd6 := dbl_str_len hl3
      have hm5 := mid_len ‹_ ∈ midTexts›
      k_steps
      (with_reducible rename Fr _ _ _ _ => Fz)
      (with_reducible rename News _ _ _ _ => Nz)
      (with_reducible rename _ ∧ _ => lz)
      refine rows_end Fz Nz rfl hIl (Nat.ne_of_lt lz.2.2.1).symm (Nat.ne_of_lt l8.1) (fun p hp => ?_) hDI (Nat.ne_of_lt lz.2.1).symm htI ?_ hrows lz.2.2.1 (allLt_mem lz.2.2.2.2) hts rfl
      · rcases List.mem_append.mp hp with hp | hp
        · exact htl p hp
        · exact Nat.ne_of_lt (allLt_mem l8.2.2.2.2.2 p hp)
      · refine ⟨nm, _, _, _, _, _, rfl, hl3, hq2, hst1, hst2, _, mid_cps ‹_ ∈ midTexts›, ?_⟩
        simp only [PySem.Str.cps_append, Array.toList_append, c257, cquo, hml1, hml2, List.append_assoc, List.cons_append, List.nil_append]
  case zdone =>
    intro h' tk ov ts F' hts hrows N'
    have hw5 := I8.length.trans (nums5 ns)
    rw [hw5] at N' hts
    clear F9 N9
    k_steps
    with_reducible rename News _ _ _ _ => N9
    exact h _ _ ts _ hts hrows (allLt_mem l8.2.2.2.2.2) (by assumption) (fun p hp => by
      rcases List.mem_cons.mp hp with rfl | hp
      · exact N9 _ (List.mem_cons_self ..)
      · exact N9 _ (List.mem_cons_of_mem _ (List.mem_cons_of_mem _ hp)))
end Mine
end
section
open PySem PySem.W PyProof.Rows PySem.Builtin
namespace Mine
set_option Elab.async false
set_option maxRecDepth 100000
def rowO (nm : PySem.Str) (st : Int) (rp : PySem.Str) (t1 t2 t3 : Tok) : Obj := { cls := .type "tuple", data := .seq #[.str nm t1, .int st t2, .str rp t3] 0 }
def pick {α : Type} (a b c d e : α) : Nat → α
  | 0 => a
  | 1 => b
  | 2 => c
  | 3 => d
  | _ => e
theorem row_get {p : Addr × Obj} (h : TupRow p.2) : ∃ nm st rp t1 t2 t3, p = (p.1, rowO nm st rp t1 t2 t3) ∧ RowOk nm st rp := by
  obtain ⟨nm, st, rp, t1, t2, t3, ho, hk⟩ := h
  exact ⟨nm, st, rp, t1, t2, t3, Prod.ext rfl ho, hk⟩
def rowsL (T : Nat → Addr) (nm : Nat → PySem.Str) (st : Nat → Int) (rp : Nat → PySem.Str) (t1 t2 t3 : Nat → Tok) : List (Addr × Obj) :=
  [(T 0, rowO (nm 0) (st 0) (rp 0) (t1 0) (t2 0) (t3 0)), (T 1, rowO (nm 1) (st 1) (rp 1) (t1 1) (t2 1) (t3 1)), (T 2, rowO (nm 2) (st 2) (rp 2) (t1 2) (t2 2) (t3 2)), (T 3, rowO (nm 3) (st 3) (rp 3) (t1 3) (t2 3) (t3 3)), (T 4, rowO (nm 4) (st 4) (rp 4) (t1 4) (t2 4) (t3 4))]
theorem rows_open {l : Addr} {news ts : List (Addr × Obj)} (hts : ts.length = 5) (hrow : ∀ p ∈ ts, TupRow p.2) :
    ∃ T nm st rp t1 t2 t3, (∀ i, i < 5 → RowOk (nm i) (st i) (rp i)) ∧ ts = rowsL T nm st rp t1 t2 t3 := by
  have g : ∀ i : Nat, ∃ q : Addr × PySem.Str × Int × PySem.Str × Tok × Tok × Tok, i < 5 → ts[i]? = some (q.1, rowO q.2.1 q.2.2.1 q.2.2.2.1 q.2.2.2.2.1 q.2.2.2.2.2.1 q.2.2.2.2.2.2) ∧ RowOk q.2.1 q.2.2.1 q.2.2.2.1 := by
    intro i
    by_cases hi : i < 5
    · have hlt : i < ts.length := by omega
      obtain ⟨nm, st, rp, t1, t2, t3, e, k⟩ := row_get (hrow ts[i] (List.getElem_mem hlt))
      refine ⟨(ts[i].1, nm, st, rp, t1, t2, t3), fun _ => ⟨?_, k⟩⟩
      rw [List.getElem?_eq_getElem hlt]
      exact congrArg some e
    · exact ⟨(0, PySem.Str.empty, 0, PySem.Str.empty, 0, 0, 0), fun h => absurd h hi⟩
  refine ⟨fun i => (g i).choose.1, fun i => (g i).choose.2.1, fun i => (g i).choose.2.2.1, fun i => (g i).choose.2.2.2.1, fun i => (g i).choose.2.2.2.2.1, fun i => (g i).choose.2.2.2.2.2.1, fun i => (g i).choose.2.2.2.2.2.2, fun i hi => ((g i).choose_spec hi).2, ?_⟩
  refine List.ext_getElem? fun i => ?_
  by_cases hi : i < 5
  · rw [((g i).choose_spec hi).1]
    have : i = 0 ∨ i = 1 ∨ i = 2 ∨ i = 3 ∨ i = 4 := by omega
    rcases this with rfl | rfl | rfl | rfl | rfl <;> rfl
  · rw [List.getElem?_eq_none (by omega), List.getElem?_eq_none (by simp only [rowsL, List.length_cons, List.length_nil]; omega)]
theorem asc_open {l a b c d e : Addr} {oa ob oc od oe : Obj} {news : List (Addr × Obj)} (h : Asc l news [(a, oa), (b, ob), (c, oc), (d, od), (e, oe)]) :
    (@LT.lt Nat _ l a ∧ AllLt a news) ∧ (@LT.lt Nat _ a b ∧ @LT.lt Nat _ l b ∧ AllLt b news) ∧ (@LT.lt Nat _ b c ∧ @LT.lt Nat _ a c ∧ @LT.lt Nat _ l c ∧ AllLt c news) ∧
    (@LT.lt Nat _ c d ∧ @LT.lt Nat _ b d ∧ @LT.lt Nat _ a d ∧ @LT.lt Nat _ l d ∧ AllLt d news) ∧ (@LT.lt Nat _ d e ∧ @LT.lt Nat _ c e ∧ @LT.lt Nat _ b e ∧ @LT.lt Nat _ a e ∧ @LT.lt Nat _ l e ∧ AllLt e news) := by
  obtain ⟨ha, hp⟩ := h
  have A := ha _ (List.mem_cons_self ..)
  have B := ha _ (List.mem_cons_of_mem _ (List.mem_cons_self ..))
  have C := ha _ (List.mem_cons_of_mem _ (List.mem_cons_of_mem _ (List.mem_cons_self ..)))
  have D := ha _ (List.mem_cons_of_mem _ (List.mem_cons_of_mem _ (List.mem_cons_of_mem _ (List.mem_cons_self ..))))
  have E := ha _ (List.mem_cons_of_mem _ (List.mem_cons_of_mem _ (List.mem_cons_of_mem _ (List.mem_cons_of_mem _ (List.mem_cons_self ..)))))
  cases hp with
  | cons h0 hp =>
  cases hp with
  | cons h1 hp =>
  cases hp with
  | cons h2 hp =>
  cases hp with
  | cons h3 hp =>
  have z1 : ∀ {x : Addr × Obj} {l : List (Addr × Obj)}, x ∈ x :: l := List.mem_cons_self ..
  have ab := h0 _ z1
  have ac := h0 _ (List.mem_cons_of_mem _ z1)
  have ad := h0 _ (List.mem_cons_of_mem _ (List.mem_cons_of_mem _ z1))
  have ae := h0 _ (List.mem_cons_of_mem _ (List.mem_cons_of_mem _ (List.mem_cons_of_mem _ z1)))
  have bc := h1 _ z1
  have bd := h1 _ (List.mem_cons_of_mem _ z1)
  have be := h1 _ (List.mem_cons_of_mem _ (List.mem_cons_of_mem _ z1))
  have cd := h2 _ z1
  have ce := h2 _ (List.mem_cons_of_mem _ z1)
  have de := h3 _ z1
  exact ⟨⟨A.1, allLt_of A.2⟩, ⟨ab, B.1, allLt_of B.2⟩, ⟨bc, ac, C.1, allLt_of C.2⟩, ⟨cd, bd, ad, D.1, allLt_of D.2⟩, ⟨de, ce, be, ae, E.1, allLt_of E.2⟩⟩
theorem mem_flip {a b c d e f : Addr × Obj} {news : List (Addr × Obj)} (p : Addr × Obj) (hp : p ∈ e :: d :: c :: b :: a :: f :: news) : p ∈ f :: ([a, b, c, d, e] ++ news) := by
  simp only [List.mem_cons, List.cons_append, List.nil_append] at hp ⊢
  rcases hp with h | h | h | h | h | h | h
  · exact .inr (.inr (.inr (.inr (.inr (.inl h)))))
  · exact .inr (.inr (.inr (.inr (.inl h))))
  · exact .inr (.inr (.inr (.inl h)))
  · exact .inr (.inr (.inl h))
  · exact .inr (.inl h)
  · exact .inl h
  · exact .inr (.inr (.inr (.inr (.inr (.inr h)))))
set_option maxHeartbeats 4000000 in
theorem replies5 {w : World} {A₀ : Around} {base h₀ : Heap} {env : Env} {L : Addr} {m mg mb : PySem.Str → Option Value} {mean : ExcName → Option Value} {news : List (Addr × Obj)} {s : Shared} {R : Result → Shared → Prop}
  {sc : Addr} {vs : List Value} {ns : List Int} (hL : h₀.IsList sc vs.toArray) (hI : IntsAre vs ns) (hn : ¬ (63 : Int) < (ns.length : Int))
  (B : Below A₀ base [] h₀) (F : Fr h₀ L s.heap m) (X : (hd.heap_39 w.params).In h₀) (N : News h₀ L s.heap news) (T : Top hd.view_39 (looseW hd.view_39 [Str.ofString "_quoted", Str.ofString "_paren_depth"]) mean mg mb h₀)
  (hf : env.frame = some L) (hke : env.scope.kind = .function)
  (h : ∀ h' l k (T : Nat → Addr) (nm : Nat → PySem.Str) (st : Nat → Int) (rp : Nat → PySem.Str) (t1 t2 t3 : Nat → Tok), (∀ i, i < 5 → RowOk (nm i) (st i) (rp i)) → Fr h₀ L h' m →
    News h₀ L h' ((T 4, rowO (nm 4) (st 4) (rp 4) (t1 4) (t2 4) (t3 4)) :: (T 3, rowO (nm 3) (st 3) (rp 3) (t1 3) (t2 3) (t3 3)) :: (T 2, rowO (nm 2) (st 2) (rp 2) (t1 2) (t2 2) (t3 2)) :: (T 1, rowO (nm 1) (st 1) (rp 1) (t1 1) (t2 1) (t3 1)) :: (T 0, rowO (nm 0) (st 0) (rp 0) (t1 0) (t2 0) (t3 0)) ::
      (l, W.listOf #[.ref (T 0), .ref (T 1), .ref (T 2), .ref (T 3), .ref (T 4)] 5) :: news) →
    (∀ q ∈ news, @LT.lt Nat _ q.1 l) → (@LT.lt Nat _ l (T 0) ∧ AllLt (T 0) news) → (@LT.lt Nat _ (T 0) (T 1) ∧ @LT.lt Nat _ l (T 1) ∧ AllLt (T 1) news) → (@LT.lt Nat _ (T 1) (T 2) ∧ @LT.lt Nat _ (T 0) (T 2) ∧ @LT.lt Nat _ l (T 2) ∧ AllLt (T 2) news) →
    (@LT.lt Nat _ (T 2) (T 3) ∧ @LT.lt Nat _ (T 1) (T 3) ∧ @LT.lt Nat _ (T 0) (T 3) ∧ @LT.lt Nat _ l (T 3) ∧ AllLt (T 3) news) →
    (@LT.lt Nat _ (T 3) (T 4) ∧ @LT.lt Nat _ (T 2) (T 4) ∧ @LT.lt Nat _ (T 1) (T 4) ∧ @LT.lt Nat _ (T 0) (T 4) ∧ @LT.lt Nat _ l (T 4) ∧ AllLt (T 4) news) →
    R (.ok (.ret (.ref l))) { s with heap := h', toks := k })
  : codeAny (model PySem.Challenge.rw_zd0001_01.row.prog w) (callerA.deeper env) (.call (.ref 90) ⟨[.ref sc], []⟩) R s := by
  refine replies_sum hL hI hn B F X N T hf hke fun h' l ts k hts hrow hlt F' N' => ?_
  obtain ⟨T, nm, st, rp, t1, t2, t3, hok, rfl⟩ := rows_open (l := l) (news := news) hts hrow.1
  obtain ⟨g0, g1, g2, g3, g4⟩ := asc_open hrow.2
  refine h h' l k T nm st rp t1 t2 t3 hok F' (fun p hp => N' p (mem_flip p hp)) hlt g0 g1 g2 g3 g4
end Mine
end
section
open PySem PySem.W PyProof.Rows PySem.Builtin
namespace Mine
set_option Elab.async false
set_option linter.unusedSimpArgs false
def enc (x : PySem.Str) : Array UInt8 := x.cps.map (·.toUInt8)
theorem enc_list (x : PySem.Str) : (enc x).toList = x.cps.toList.map (·.toUInt8) := by simp [enc]
def RepOk (rp : PySem.Str) (st : Int) : Prop :=
  (∀ c ∈ rp.cps.toList, c < 128) ∧ rp.length ≤ 1000000 ∧ (enc rp).size ≤ 1000000 ∧ (∀ c ∈ (enc rp).toList, c ≠ 92) ∧ ∃ v, Cut (enc rp).toList v ∧ (v.count 40 : Int) - (v.count 41 : Int) = st
abbrev u8 (l : List Nat) : List UInt8 := l.map (·.toUInt8)
theorem cut_dbl {rest v : List UInt8} (hr : Cut rest v) : ∀ (nm : List Nat), (∀ c ∈ nm, c = 34 ∨ c = 40 ∨ c = 41 ∨ c = 97) → ∀ (mid pre : List UInt8), (∀ c ∈ pre, c ≠ 34) → (∀ c ∈ mid, c ≠ 34) →
    Cut (pre ++ 34 :: (mid ++ (u8 (dbl nm) ++ 34 :: rest))) (pre ++ v)
  | [], _, mid, pre, hp, hm => Cut.pair hp hm hr
  | c :: nm, hc, mid, pre, hp, hm => by
    have ih := cut_dbl hr nm fun d hd => hc d (List.mem_cons_of_mem _ hd)
    by_cases h : c = 34
    · subst h
      have e : u8 (dbl (34 :: nm)) = 34 :: 34 :: u8 (dbl nm) := by simp [dbl]
      rw [e]
      exact Cut.pair hp hm (ih [] [] (by simp) (by simp))
    · have e : u8 (dbl (c :: nm)) = c.toUInt8 :: u8 (dbl nm) := by simp [dbl, h]
      rw [e]
      have h1 : (c.toUInt8 : UInt8) ≠ 34 := by
        rcases hc c (List.mem_cons_self ..) with rfl | rfl | rfl | rfl
        · exact absurd rfl h
        · decide
        · decide
        · decide
      have := ih (mid ++ [c.toUInt8]) pre hp (by
        intro d hd
        rcases List.mem_append.mp hd with hd | hd
        · exact hm d hd
        · rw [List.mem_singleton.mp hd]; exact h1)
      simpa using this
theorem cut_tail {ends : List UInt8} (he : ∀ c ∈ ends, c ≠ 34) {mid : List Nat} (hm : mid ∈ ([[], [32, 34, 40, 40, 34], [41, 40], [32, 34]] : List (List Nat))) :
    ∃ v, Cut (u8 mid ++ ends) v ∧ (v.count 40 : Int) - (v.count 41 : Int) = (ends.count 40 : Int) - (ends.count 41 : Int) := by
  simp only [List.mem_cons, List.not_mem_nil, or_false] at hm
  rcases hm with rfl | rfl | rfl | rfl
  · exact ⟨ends, Cut.none he, rfl⟩
  · refine ⟨[32] ++ ends, Cut.pair (pre := [32]) (mid := [40, 40]) (by decide) (by decide) (Cut.none he), ?_⟩
    simp
  · refine ⟨41 :: 40 :: ends, Cut.none (fun c hc => ?_), ?_⟩
    · have hc' : c ∈ (41 : UInt8) :: 40 :: ends := hc
      simp only [List.mem_cons] at hc'
      rcases hc' with rfl | rfl | hc'
      · decide
      · decide
      · exact he c hc'
    · simp [List.count_cons]; omega
  · refine ⟨[32] ++ 34 :: ends, Cut.lone (pre := [32]) (by decide) he, ?_⟩
    simp [List.count_cons]
theorem mem_dbl {c : Nat} : ∀ {nm : List Nat}, c ∈ dbl nm → c ∈ nm
  | [], h => h
  | d :: nm, h => by
    rw [dbl] at h
    split at h
    · rename_i e
      simp only [List.mem_cons] at h
      rcases h with h | h | h
      · rw [h, e]; exact List.mem_cons_self ..
      · rw [h, e]; exact List.mem_cons_self ..
      · exact List.mem_cons_of_mem _ (mem_dbl h)
    · rcases List.mem_cons.mp h with h | h
      · rw [h]; exact List.mem_cons_self ..
      · exact List.mem_cons_of_mem _ (mem_dbl h)
theorem rep_ok {nm rp : PySem.Str} {st : Int} (h : RowOk nm st rp) : RepOk rp st := by
  obtain ⟨hl, hq, h1, h2, mid, hmid, hrp⟩ := h
  have hch : ∀ c ∈ rp.cps.toList, c = 50 ∨ c = 53 ∨ c = 55 ∨ c = 32 ∨ c = 34 ∨ c = 40 ∨ c = 41 ∨ c = 97 := by
    intro c hc
    rw [hrp] at hc
    simp only [List.mem_cons, List.mem_append, List.mem_replicate] at hc
    have hm : c ∈ mid → c = 32 ∨ c = 34 ∨ c = 40 ∨ c = 41 := by
      intro hc
      simp only [List.mem_cons, List.not_mem_nil, or_false] at hmid
      rcases hmid with rfl | rfl | rfl | rfl <;> simp at hc <;> omega
    rcases hc with h | h | h | h | h | h | h | h | ⟨_, h⟩ | ⟨_, h⟩
    · omega
    · omega
    · omega
    · omega
    · omega
    · have := hq c (mem_dbl h); omega
    · omega
    · have := hm h; omega
    · omega
    · omega
  have hlen : rp.cps.toList.length ≤ 1000 := by
    rw [hrp]
    have h3 := dbl_len2 nm.cps.toList
    have h4 : nm.cps.toList.length = nm.cps.size := Array.length_toList
    have h5 : nm.cps.size ≤ 3 := hl
    have h6 : mid.length ≤ 5 := by
      simp only [List.mem_cons, List.not_mem_nil, or_false] at hmid
      rcases hmid with rfl | rfl | rfl | rfl <;> decide
    simp only [List.length_cons, List.length_append, List.length_replicate]
    omega
  have hsz : rp.cps.size ≤ 1000 := by rw [← Array.length_toList]; exact hlen
  refine ⟨fun c hc => ?_, ?_, ?_, fun c hc => ?_, ?_⟩
  · have := hch c hc; omega
  · show rp.cps.size ≤ _; omega
  · rw [enc, Array.size_map]; omega
  · rw [enc_list] at hc
    obtain ⟨d, hd, rfl⟩ := List.mem_map.mp hc
    rcases hch d hd with rfl | rfl | rfl | rfl | rfl | rfl | rfl | rfl <;> decide
  · have he : ∀ c ∈ u8 (List.replicate st.toNat 40 ++ List.replicate (-st).toNat 41), c ≠ 34 := by
      intro c hc
      obtain ⟨d, hd, rfl⟩ := List.mem_map.mp hc
      simp only [List.mem_append, List.mem_replicate] at hd
      rcases hd with ⟨_, rfl⟩ | ⟨_, rfl⟩ <;> decide
    obtain ⟨v, hv, hcount⟩ := cut_tail he hmid
    refine ⟨[50, 53, 55, 32] ++ v, ?_, ?_⟩
    · have := cut_dbl hv nm.cps.toList hq [] [50, 53, 55, 32] (by decide) (by simp)
      rw [enc_list, hrp]
      simpa [u8] using this
    · have c1 : ([50, 53, 55, 32] ++ v : List UInt8).count 40 = v.count 40 := by simp [List.count_cons]
      have c2 : ([50, 53, 55, 32] ++ v : List UInt8).count 41 = v.count 41 := by simp [List.count_cons]
      rw [c1, c2, hcount]
      have e1 : (u8 (List.replicate st.toNat 40 ++ List.replicate (-st).toNat 41)).count 40 = st.toNat := by
        simp [u8, List.count_append, List.count_replicate]
      have e2 : (u8 (List.replicate st.toNat 40 ++ List.replicate (-st).toNat 41)).count 41 = (-st).toNat := by
        simp [u8, List.count_append, List.count_replicate]
      rw [e1, e2]
      omega
theorem tail_ok {mid : List Nat} (hm : mid ∈ ([[], [32, 34, 40, 40, 34], [41, 40], [32, 34]] : List (List Nat))) (a b : Nat) : ∀ r, mid ++ (List.replicate a 40 ++ List.replicate b 41) ≠ 34 :: r := by
  intro r h
  simp only [List.mem_cons, List.not_mem_nil, or_false] at hm
  rcases hm with rfl | rfl | rfl | rfl
  · cases a with
    | zero =>
      cases b with
      | zero => simp at h
      | succ b => simp [List.replicate_succ] at h
    | succ a => simp [List.replicate_succ] at h
  · simp at h
  · simp at h
  · simp at h
end Mine
end
section
open PySem PySem.W PyProof.Rows PySem.Builtin
namespace Mine
set_option Elab.async false
set_option maxRecDepth 100000
theorem encode_rep {prog : Program} {w : World} {A : Around} {E : Value → Shared → Prop} {s : Shared} {x : PySem.Str} {st : Int} {t : Tok} {Q : Value → Shared → Prop} (hr : RepOk x st) (h : ∀ tk k, Q (.bytes (enc x) tk) { s with toks := k }) :
    wpAny (model prog w) A (call (.builtin "str.encode") [.str x t]) Q E s := call_encode hr.1 (by have := hr.2.1; omega) h
theorem meth_encode {prog : Program} {w : World} {A : Around} {E : Value → Shared → Prop} {s : Shared} {x : PySem.Str} {t : Tok} {pl : Sem Bool} {Q : Value × List Value → Shared → Prop} (h : Q (.builtin "str.encode", [.str x t]) s) : wpAny (model prog w) A (getMethod (.str x t) "encode" pl) Q E s :=
  getMethod_builtin (typeIs_str s x t) PySem.F.plainAttrs_str PySem.F.slot_str_encode PySem.F.type_str_encode (fun a e => by cases e) h
section
variable {w : World} {A₀ : Around} {base h₀ : Heap} {env : Env} {L : Addr} {m mg mb : PySem.Str → Option Value} {mean : ExcName → Option Value} {news : List (Addr × Obj)} {s : Shared} {R : Result → Shared → Prop} {x nm : PySem.Str} {st d : Int} {t t' : Tok}
theorem paren_rep (hr : RepOk x st)
  (B : Below A₀ base [] h₀) (F : Fr h₀ L s.heap m) (X : (hd.heap_39 w.params).In h₀) (N : News h₀ L s.heap news) (T : Top hd.view_39 (looseW hd.view_39 [Str.ofString "_quoted", Str.ofString "_paren_depth"]) mean mg mb h₀)
  (hf : env.frame = some L) (hke : env.scope.kind = .function)
  (h : ∀ h' tk k, Fr h₀ L h' m → News h₀ L h' news → R (.ok (.ret (.int (d + st) tk))) { s with heap := h', toks := k })
  : codeAny (model PySem.Challenge.rw_zd0001_01.row.prog w) (callerA.deeper env) (.call (.ref 83) ⟨[.bytes (enc x) t, .int d t'], []⟩) R s := by
  obtain ⟨_, _, h1, h2, v, hv, hc⟩ := hr
  refine paren_sum h1 h2 hv B F X N T hf hke fun h' tk k F' N' => ?_
  rw [show d + (v.count 40 : Int) - (v.count 41 : Int) = d + st by omega]
  exact h h' tk k F' N'
theorem paren_rep1 (hr : RepOk x st)
  (B : Below A₀ base [] h₀) (F : Fr h₀ L s.heap m) (X : (hd.heap_39 w.params).In h₀) (N : News h₀ L s.heap news) (T : Top hd.view_39 (looseW hd.view_39 [Str.ofString "_quoted", Str.ofString "_paren_depth"]) mean mg mb h₀)
  (hf : env.frame = some L) (hke : env.scope.kind = .function)
  (h : ∀ h' tk k, Fr h₀ L h' m → News h₀ L h' news → R (.ok (.ret (.int st tk))) { s with heap := h', toks := k })
  : codeAny (model PySem.Challenge.rw_zd0001_01.row.prog w) (callerA.deeper env) (.call (.ref 83) ⟨[.bytes (enc x) t], []⟩) R s := by
  obtain ⟨_, _, h1, h2, v, hv, hc⟩ := hr
  refine paren_sum1 h1 h2 hv B F X N T hf hke fun h' tk k F' N' => ?_
  rw [show 0 + (v.count 40 : Int) - (v.count 41 : Int) = st by omega]
  exact h h' tk k F' N'
theorem parse_rep (hr : RowOk nm st x)
  (B : Below A₀ base [] h₀) (F : Fr h₀ L s.heap m) (X : (hd.heap_39 w.params).In h₀) (N : News h₀ L s.heap news) (T : Top hd.view_39 (looseW hd.view_39 [Str.ofString "_quoted", Str.ofString "_paren_depth"]) mean mg mb h₀)
  (hf : env.frame = some L) (hke : env.scope.kind = .function)
  (h : ∀ h' tk k, Fr h₀ L h' m → News h₀ L h' news → R (.ok (.ret (.str nm tk))) { s with heap := h', toks := k })
  : codeAny (model PySem.Challenge.rw_zd0001_01.row.prog w) (callerA.deeper env) (.call (.ref 70) ⟨[.str x t], []⟩) R s := by
  have hr' := rep_ok hr
  obtain ⟨_, _, _, _, mid, hmid, hrp⟩ := hr
  refine parse_sum hrp (tail_ok hmid _ _) hr'.2.1 B F X N T hf hke fun h' tk k F' N' => ?_
  have e : (⟨nm.cps.toList.toArray⟩ : PySem.Str) = nm := by obtain ⟨⟨l⟩⟩ := nm; rfl
  rw [e]
  exact h h' tk k F' N'
end
end Mine
end
section
open PySem PySem.W PyProof.Rows
namespace Mine
set_option Elab.async false
/-- the plain law: the walk's steps, its heights, and the order of the two lists -/
def dsum (st : Nat → Int) : Nat → Int
  | 0 => 0
  | n + 1 => dsum st n + st n
def ab (st : Nat → Int) (k : Nat) : Bool := decide (0 < dsum st (k + 1))
def frontL (a : Nat → Bool) : Nat → List Nat
  | 0 => []
  | n + 1 => if a n = true then n :: frontL a n else frontL a n
def backL (a : Nat → Bool) : Nat → List Nat
  | 0 => []
  | n + 1 => if a n = true then backL a n else backL a n ++ [n]
def lsum (st : Nat → Int) : List Nat → Int
  | [] => 0
  | k :: r => st k + lsum st r
theorem lsum_app (st : Nat → Int) : ∀ x y : List Nat, lsum st (x ++ y) = lsum st x + lsum st y
  | [], y => by simp [lsum]
  | k :: x, y => by
    show st k + lsum st (x ++ y) = st k + lsum st x + lsum st y
    rw [lsum_app st x y]; omega
theorem fb_len (a : Nat → Bool) : ∀ n, (frontL a n).length + (backL a n).length = n
  | 0 => rfl
  | n + 1 => by
    have := fb_len a n
    rw [frontL, backL]
    split <;> simp <;> omega
theorem fb_sum (st : Nat → Int) (a : Nat → Bool) : ∀ n, lsum st (frontL a n) + lsum st (backL a n) = dsum st n
  | 0 => rfl
  | n + 1 => by
    have := fb_sum st a n
    rw [frontL, backL, dsum]
    split
    · show st n + lsum st (frontL a n) + lsum st (backL a n) = _
      omega
    · rw [lsum_app]
      show lsum st (frontL a n) + (lsum st (backL a n) + (st n + 0)) = _
      omega
theorem fb_walk (st : Nat → Int) : ∀ n, (∀ j, j < (frontL (ab st) n).length → lsum st ((frontL (ab st) n).take j) < lsum st (frontL (ab st) n)) ∧ (∀ j, lsum st ((backL (ab st) n).take j) ≤ 0) ∧ 0 ≤ lsum st (frontL (ab st) n)
  | 0 => ⟨fun j h => absurd h (Nat.not_lt_zero _), fun j => by simp [backL, lsum], by simp [frontL, lsum]⟩
  | n + 1 => by
    obtain ⟨h1, h2, h3⟩ := fb_walk st n
    have hs := fb_sum st (ab st) (n + 1)
    have hb : lsum st (backL (ab st) n) ≤ 0 := by
      have := h2 (backL (ab st) n).length
      rwa [List.take_length] at this
    by_cases h : ab st n = true
    · have hpos : 0 < dsum st (n + 1) := by simpa [ab] using h
      rw [frontL, backL, if_pos h, if_pos h] at hs ⊢
      have e : lsum st (n :: frontL (ab st) n) = st n + lsum st (frontL (ab st) n) := rfl
      refine ⟨fun j hj => ?_, h2, by omega⟩
      cases j with
      | zero => show (0 : Int) < _; omega
      | succ j =>
        have := h1 j (by simpa using hj)
        show st n + lsum st ((frontL (ab st) n).take j) < _
        omega
    · have hneg : dsum st (n + 1) ≤ 0 := by
        have : ¬ (0 < dsum st (n + 1)) := by simpa [ab] using h
        omega
      rw [frontL, backL, if_neg h, if_neg h] at hs ⊢
      refine ⟨h1, fun j => ?_, h3⟩
      rcases Nat.lt_or_ge j ((backL (ab st) n).length + 1) with hj | hj
      · rw [List.take_append_of_le_length (by omega)]
        exact h2 j
      · rw [List.take_of_length_le (by simp; omega)]
        omega
/-- the heights of the line before its turns, seen from the last height of the first part -/
theorem order_walk (st : Nat → Int) (n j : Nat) :
    (j < (frontL (ab st) n).length → lsum st ((frontL (ab st) n ++ backL (ab st) n).take j) < lsum st (frontL (ab st) n)) ∧
    (j = (frontL (ab st) n).length → lsum st ((frontL (ab st) n ++ backL (ab st) n).take j) = lsum st (frontL (ab st) n)) ∧
    lsum st ((frontL (ab st) n ++ backL (ab st) n).take j) ≤ lsum st (frontL (ab st) n) := by
  obtain ⟨h1, h2, h3⟩ := fb_walk st n
  refine ⟨fun hj => ?_, fun hj => ?_, ?_⟩
  · rw [List.take_append_of_le_length (by omega)]
    exact h1 j hj
  · subst hj
    rw [List.take_append_of_le_length (Nat.le_refl _), List.take_length]
  · rcases Nat.lt_or_ge j (frontL (ab st) n).length with hj | hj
    · rw [List.take_append_of_le_length (by omega)]
      have := h1 j hj
      omega
    · rw [List.take_append, List.take_of_length_le hj, lsum_app]
      have := h2 (j - (frontL (ab st) n).length)
      omega
theorem lsum_bound {st : Nat → Int} (hst : ∀ i, i < 5 → -3 ≤ st i ∧ st i ≤ 3) : ∀ (l : List Nat), (∀ k ∈ l, k < 5) → -3 * (l.length : Int) ≤ lsum st l ∧ lsum st l ≤ 3 * (l.length : Int)
  | [], _ => by simp [lsum]
  | k :: l, h => by
    have h1 := lsum_bound hst l fun x hx => h x (List.mem_cons_of_mem _ hx)
    have h2 := hst k (h k (List.mem_cons_self ..))
    show -3 * ((l.length + 1 : Nat) : Int) ≤ st k + lsum st l ∧ st k + lsum st l ≤ 3 * ((l.length + 1 : Nat) : Int)
    omega
theorem mem_front {a : Nat → Bool} {k : Nat} : ∀ {n : Nat}, k ∈ frontL a n → k < n
  | 0, h => by simp [frontL] at h
  | n + 1, h => by
    rw [frontL] at h
    split at h
    · rcases List.mem_cons.mp h with h | h
      · omega
      · have := mem_front h; omega
    · have := mem_front h; omega
theorem mem_back {a : Nat → Bool} {k : Nat} : ∀ {n : Nat}, k ∈ backL a n → k < n
  | 0, h => by simp [backL] at h
  | n + 1, h => by
    rw [backL] at h
    split at h
    · have := mem_back h; omega
    · rcases List.mem_append.mp h with h | h
      · have := mem_back h; omega
      · have := List.mem_singleton.mp h; omega
end Mine
end
section
open PySem PySem.W PyProof.Rows
namespace Mine
set_option Elab.async false
theorem core_ge : ∀ (fuel n : Nat) (ds : List Char), ds.length ≤ (Nat.toDigitsCore 10 fuel n ds).length
  | 0, n, ds => by simp [Nat.toDigitsCore]
  | fuel + 1, n, ds => by
    rw [Nat.toDigitsCore]
    split
    · simp
    · exact Nat.le_trans (by simp) (core_ge fuel (n / 10) _)
theorem core_pow : ∀ (k fuel n : Nat) (ds : List Char), n < fuel → 10 ^ k ≤ n → ds.length + k + 1 ≤ (Nat.toDigitsCore 10 fuel n ds).length
  | _, 0, n, ds, h, _ => absurd h (Nat.not_lt_zero _)
  | 0, fuel + 1, n, ds, h, hn => by
    rw [Nat.toDigitsCore]
    split
    · simp
    · exact Nat.le_trans (by simp) (core_ge fuel (n / 10) _)
  | k + 1, fuel + 1, n, ds, h, hn => by
    have e : (10 : Nat) ^ (k + 1) = 10 ^ k * 10 := Nat.pow_succ ..
    have hp : 0 < 10 ^ k := Nat.pow_pos (by decide)
    have h1 : 10 ^ k ≤ n / 10 := by rw [Nat.le_div_iff_mul_le (by decide)]; omega
    rw [Nat.toDigitsCore]
    split
    · omega
    · have := core_pow k fuel (n / 10) (Nat.digitChar (n % 10) :: ds) (by omega) h1
      simp only [List.length_cons] at this
      omega
theorem text_len {v : Int} {k : Nat} (h1 : (10 : Int) ^ k ≤ v) (h2 : v < (10 : Int) ^ (k + 1)) : (Str.ofString (toString v)).length = k + 1 := by
  have hp : (0 : Int) < 10 ^ k := Int.pow_pos (by decide)
  have h0 : 0 ≤ v := by omega
  refine Nat.le_antisymm (toString_length_le h0 (Nat.succ_pos k) h2) ?_
  obtain ⟨n, rfl⟩ := Int.eq_ofNat_of_zero_le h0
  rw [PyProof.Rows.ofString_length]
  have e : toString ((n : Nat) : Int) = Nat.repr n := rfl
  rw [e]
  have hn : 10 ^ k ≤ n := by
    have : ((10 ^ k : Nat) : Int) ≤ (n : Int) := by push_cast; exact h1
    omega
  have := core_pow k (n + 1) n [] (Nat.lt_succ_self n) hn
  have e2 : (Nat.repr n).toList = Nat.toDigits 10 n := by
    simp [Nat.repr]
  rw [e2]
  show _ ≤ (Nat.toDigitsCore 10 (n + 1) n []).length
  simpa using this
/-- the width of a number between two powers of ten -/
theorem wd_of {v : Int} {k : Nat} (h1 : (10 : Int) ^ k ≤ v) (h2 : v < (10 : Int) ^ (k + 1)) (hk : 2 ≤ k) : wd v = (k : Int) + 1 := by
  unfold wd
  rw [text_len h1 h2]
  split <;> omega
end Mine
end
section
open PySem PySem.W PyProof.Rows
namespace Mine
set_option Elab.async false
theorem mxv_ge {val : Nat → Int} {i : Nat} : ∀ {j : Nat}, i ≤ j → val i ≤ mxv val j
  | 0, h => by
    have : i = 0 := by omega
    subst this; exact Int.le_refl _
  | j + 1, h => by
    show val i ≤ if val (j + 1) > mxv val j then val (j + 1) else mxv val j
    rcases Nat.lt_or_ge i (j + 1) with h1 | h1
    · have := mxv_ge (val := val) (i := i) (j := j) (by omega)
      split <;> omega
    · have : i = j + 1 := by omega
      subst this
      split <;> omega
theorem mxv_le {val : Nat → Int} {M : Int} : ∀ {j : Nat}, (∀ i, i ≤ j → val i ≤ M) → mxv val j ≤ M
  | 0, h => h 0 (Nat.le_refl _)
  | j + 1, h => by
    show (if val (j + 1) > mxv val j then val (j + 1) else mxv val j) ≤ M
    have h1 := h (j + 1) (Nat.le_refl _)
    have h2 := mxv_le (val := val) (M := M) (j := j) fun i hi => h i (by omega)
    split <;> omega
def lineAt (st : Nat → Int) (z : Nat) (j : Nat) : Int := 10 ^ z - lsum st (frontL (ab st) 5) + lsum st ((frontL (ab st) 5 ++ backL (ab st) 5).take j)
theorem line_facts {st : Nat → Int} (hst : ∀ i, i < 5 → -3 ≤ st i ∧ st i ≤ 3) (z j : Nat) :
    (10 : Int) ^ z - 30 ≤ lineAt st z j ∧ lineAt st z j ≤ 10 ^ z ∧ (j < (frontL (ab st) 5).length → lineAt st z j < 10 ^ z) ∧ (j = (frontL (ab st) 5).length → lineAt st z j = 10 ^ z) := by
  obtain ⟨h1, h2, h3⟩ := order_walk st 5 j
  have hl := fb_len (ab st) 5
  have hf := lsum_bound hst (frontL (ab st) 5) fun k hk => mem_front hk
  have ho := lsum_bound hst ((frontL (ab st) 5 ++ backL (ab st) 5).take j) fun k hk => by
    have := List.mem_of_mem_take hk
    rcases List.mem_append.mp this with h | h
    · exact mem_front h
    · exact mem_back h
  have hlen : ((frontL (ab st) 5 ++ backL (ab st) 5).take j).length ≤ 5 := by
    rw [List.length_take, List.length_append]; omega
  unfold lineAt
  refine ⟨by omega, by omega, fun h => ?_, fun h => ?_⟩
  · have := h1 h; omega
  · have := h2 h; omega
theorem ten_cases {z : Nat} (h3 : 3 ≤ z) (h6 : z ≤ 6) : ∃ k, z = k + 1 ∧ 2 ≤ k ∧ (10 : Int) ^ (k + 1) = 10 * 10 ^ k ∧ (10 : Int) ^ (k + 2) = 100 * 10 ^ k ∧ (100 : Int) ≤ 10 ^ k ∧ (10 : Int) ^ k ≤ 100000 := by
  have : z = 3 ∨ z = 4 ∨ z = 5 ∨ z = 6 := by omega
  rcases this with rfl | rfl | rfl | rfl
  · exact ⟨2, rfl, by decide, by decide, by decide, by decide, by decide⟩
  · exact ⟨3, rfl, by decide, by decide, by decide, by decide, by decide⟩
  · exact ⟨4, rfl, by decide, by decide, by decide, by decide, by decide⟩
  · exact ⟨5, rfl, by decide, by decide, by decide, by decide, by decide⟩
/-- the widths: below the front's length the greatest line still has `z` figures, from there on one more -/
theorem width_at {st : Nat → Int} (hst : ∀ i, i < 5 → -3 ≤ st i ∧ st i ≤ 3) {z : Nat} (h3 : 3 ≤ z) (h6 : z ≤ 6) (j : Nat) :
    0 < mxv (lineAt st z) j ∧ mxv (lineAt st z) j < 10000000 ∧ wd (mxv (lineAt st z) j) = if j < (frontL (ab st) 5).length then (z : Int) else (z : Int) + 1 := by
  obtain ⟨k, rfl, hk, e1, e2, b1, b2⟩ := ten_cases h3 h6
  have hlo : (10 : Int) ^ (k + 1) - 30 ≤ mxv (lineAt st (k + 1)) j := Int.le_trans (line_facts hst (k + 1) 0).1 (mxv_ge (Nat.zero_le j))
  have hhi : mxv (lineAt st (k + 1)) j ≤ (10 : Int) ^ (k + 1) := mxv_le fun i _ => (line_facts hst (k + 1) i).2.1
  refine ⟨by omega, by omega, ?_⟩
  split
  · rename_i h
    have hlt : mxv (lineAt st (k + 1)) j ≤ (10 : Int) ^ (k + 1) - 1 := mxv_le fun i hi => by
      have := (line_facts hst (k + 1) i).2.2.1 (by omega)
      omega
    rw [wd_of (k := k) (by omega) (by omega) hk]
    push_cast; rfl
  · rename_i h
    have hge : (10 : Int) ^ (k + 1) ≤ mxv (lineAt st (k + 1)) j := by
      have := (line_facts hst (k + 1) (frontL (ab st) 5).length).2.2.2 rfl
      have h2 := mxv_ge (val := lineAt st (k + 1)) (i := (frontL (ab st) 5).length) (j := j) (by omega)
      omega
    rw [wd_of (k := k + 1) hge (by rw [show k + 1 + 1 = k + 2 from rfl]; omega) (by omega)]
/-- the last check: the same lines less one -/
theorem width_less {st : Nat → Int} (hst : ∀ i, i < 5 → -3 ≤ st i ∧ st i ≤ 3) {z : Nat} (h3 : 3 ≤ z) (h6 : z ≤ 6) :
    0 < mxv (fun j => lineAt st z j - 1) 5 ∧ mxv (fun j => lineAt st z j - 1) 5 < 10000000 ∧ wd (mxv (fun j => lineAt st z j - 1) 5) = (z : Int) := by
  obtain ⟨k, rfl, hk, e1, e2, b1, b2⟩ := ten_cases h3 h6
  have hlo : (10 : Int) ^ (k + 1) - 31 ≤ mxv (fun j => lineAt st (k + 1) j - 1) 5 := by
    have a := (line_facts hst (k + 1) 0).1
    have b := mxv_ge (val := fun j => lineAt st (k + 1) j - 1) (i := 0) (j := 5) (Nat.zero_le 5)
    have c : (fun j => lineAt st (k + 1) j - 1) 0 = lineAt st (k + 1) 0 - 1 := rfl
    omega
  have hhi : mxv (fun j => lineAt st (k + 1) j - 1) 5 ≤ (10 : Int) ^ (k + 1) - 1 := mxv_le fun i _ => by
    have := (line_facts hst (k + 1) i).2.1
    show lineAt st (k + 1) i - 1 ≤ _
    omega
  refine ⟨by omega, by omega, ?_⟩
  rw [wd_of (k := k) (by omega) (by omega) hk]
  push_cast; rfl
end Mine
end
section
open PySem PySem.W PyProof.Rows PySem.Calls PyProof.Rows.LCg PyProof.Rows.LCt
namespace Mine
set_option Elab.async false
set_option maxHeartbeats 2000000
section
variable {prog : Program} {w : World} {A : Around} {E : Value → Shared → Prop} {s : Shared} {h₀ : Heap} {L : Addr} {m : PySem.Str → Option Value} {env : Env}
/-- a list comprehension with one test, over a range of any step, into a name -/
theorem assign_compR {ct elt iter : PySem.Expr} {x y : PySem.Str} {px py : Pos} {scope : Scope} {cl : List (PySem.Str × Addr)} {pos spos : Pos} {Q : Flow → Shared → Prop} (F₀ : Fr h₀ L s.heap m) (hLe : env.locals = L)
    (hsw : swapsWith (.ListComp elt [⟨.Name x px, iter, [ct], 0⟩] scope pos) (some (.Name y py)) spos.line env = pure true)
    (hclos : closureFor scope env = pure cl) (hcell : ∀ z ∈ scope.names, z.2 ≠ .cell) (hkind : scope.kind = .function)
    (hnames : ∀ z ∈ scope.names, z.2 = .local → scope.names.lookup z.1 = some .local) (hx : scope.names.lookup x = some .local)
    (hy : env.kindOf y = some .local) (hp : (env.scope.kind == .class || (env.scope.kind == .module && env.locals != env.globals)) = false)
    (h : wpAny (model prog w) A (eval iter env) (fun xv s₁ => ∃ r a b c t u v n news, xv = .ref r ∧ A.handled = none ∧ Fr h₀ L s₁.heap m ∧ News h₀ L s₁.heap news ∧ IsRange s₁.heap r a b c t u v ∧ Builtin.Range.small a b c = true ∧ Builtin.Range.rangeSize a b c = ((n : Nat) : Int) ∧ n ≤ sizeLine ∧
      ∀ g, CompRestT prog w A h₀ L m env ct elt x scope cl { s₁ with heap := g } (fun _ => True) (fun i v => ∃ t, v = .int (a + (i : Int) * c) t) (FinA h₀ L m { s₁ with heap := g } y Q) n 0 [] news) E s)
    (hs : ∀ x, foldedSetIterable iter env x = pure x := by intro _; rfl) :
    wpAny (model prog w) A (exec (.Assign [.Name y py] (.ListComp elt [⟨.Name x px, iter, [ct], 0⟩] scope pos) spos) env) Q E s := by
  subst hLe
  rw [exec_Assign_Name_used _ _ _ _ hsw]
  refine wpAny_bind (wpAny_standAt (wpAny_bind ?_))
  show wpAny _ A (do let _ ← comprehension (.ListComp elt [⟨.Name x px, iter, [ct], 0⟩] scope pos) scope env _ (newList []) false (eval iter env) (some (assign (.Name y py) env))) _ _ s
  refine wpAny_bind (wpAny_mono (wpAny_comprehension_free (use := some (assign (.Name y py) env)) (Q := fun _ s' => Q .next s') rfl hs hclos hkind hnames
    (wpAny_mono h (fun xv s₁ h₁ => ?_) fun _ _ e => e)) (fun _ s' hq => wpAny_pure (wpAny_pure hq)) fun _ _ e => e)
  obtain ⟨r, a, b, c, t, u, v, n, news, rfl, hh, F, N, hr, hsm, hn, hsz, R⟩ := h₁
  refine wpAny_pyIter_range hr hsm ?_
  refine block_T (Walks.range hh _ a c n) hsz (fun i h st => ⟨_, st⟩) (fun i h h' o nw st e e' _ _ _ => ?_) hcell hkind hx (by show IsRangeIter _ _ _ _ _; rw [hn]; simpa using Heap.get?_push_size _ rfl) (fun b hb => ?_)
    (F.keeps fun _ _ e => Heap.get?_push_of_some _ e) (N.grown fun _ _ e => Heap.get?_push_of_some _ e) (Nat.ne_of_lt F.ns.lt) (next_is_new F) (fun p hp => Nat.ne_of_lt (Heap.lt_size (N p hp).1)) trivial (R _) ?_
  · have q := Option.some.inj (st.symm.trans e)
    rw [← q] at e'
    exact e'
  · rw [List.mem_singleton.mp hb]
    show s₁.heap.objs.size < (s₁.heap.push _).objs.size
    rw [Heap.size_push]; exact Nat.lt_succ_self _
  · intro D C h' tk m' ys news' F' N' o1 hn hC₀ hD₀ hCL hDL hCD offC fin
    show wpAny _ A (assign (.Name y py) env (.ref D)) _ _ _
    refine wpAny_assign_Name (wpAny_storeName_local hy F'.ns (fun h₂ hn₂ hs₂ => ?_) hp)
    have hL₀ : h₀.get? env.locals = none := Heap.get?_none_of_le F'.above
    have F₂ : Fr h₀ env.locals h₂ (fun z => if z = y then some (.ref D) else m z) := ⟨hn₂, fun b o e => hs₂.extBut b o (fun q => by rw [q, hL₀] at e; cases e) (F'.keep b o e), F'.above⟩
    refine ⟨m', hn.sameBut hs₂ hCL, fun h'' hs'' => fin D h'' _ (F₂.change hs'' hCL hC₀) (fun p hp => ?_) o1⟩
    have z : h₂.get? p.1 = some p.2 := hs₂.extBut _ _ (N' p hp).2.1 (N' p hp).1
    refine ⟨hs''.extBut _ _ ?_ z, (N' p hp).2⟩
    rcases List.mem_cons.mp hp with rfl | hp
    · exact Ne.symm hCD
    · exact offC p hp
end
end Mine
end
section
open PySem PySem.W PyProof.Rows PySem.Calls PyProof.Rows.LCg PyProof.Rows.LCt
namespace Mine
set_option Elab.async false
set_option maxHeartbeats 2000000
def coll (f : Nat → Int) (c : Nat → Bool) : Nat → Nat → List Int
  | 0, _ => []
  | k + 1, i => if c i = true then f i :: coll f c k (i + 1) else coll f c k (i + 1)
def pick5 (a b c d e : Bool) : Nat → Bool
  | 0 => a
  | 1 => b
  | 2 => c
  | 3 => d
  | _ => e
theorem ints_snoc {vs : List Value} {ns : List Int} (h : IntsAre vs ns) (z : Int) (t : Tok) : IntsAre (vs ++ [.int z t]) (ns ++ [z]) := by
  induction h with
  | nil => exact .cons z t .nil
  | cons k t' r ih => exact .cons k t' ih
section
variable {prog : Program} {w : World} {A : Around} {s : Shared} {h₀ : Heap} {L : Addr} {m : PySem.Str → Option Value} {env : Env}
theorem compT_ints {ct elt : PySem.Expr} {x : PySem.Str} {scope : Scope} {cl : List (PySem.Str × Addr)} {P : Nat → Value → Prop} {Fin : List Value → List (Addr × Obj) → Prop} {news : List (Addr × Obj)} (f : Nat → Int) (c : Nat → Bool) (n : Nat)
    (test : ∀ i v I oI C oC D m₂ h tk ys (E' : Value → Shared → Prop) (Q : Bool → Shared → Prop), i < n → P i v → NsObj oC m₂ → m₂ x = some v → Fr h₀ L h m → News h₀ L h ((I, oI) :: (C, oC) :: (D, lst ys) :: news) → Off3 I C D news → ((@Ne Nat I C) ∧ (@Ne Nat I D) ∧ (@Ne Nat C D)) →
      (∀ h' tk', Fr h₀ L h' m → News h₀ L h' ((I, oI) :: (C, oC) :: (D, lst ys) :: news) → Q (c i) { s with heap := h', toks := tk' }) →
      wpAny (model prog w) A (isTrue ct (compEnvC scope cl C env) (eval ct (compEnvC scope cl C env))) Q E' { s with heap := h, toks := tk })
    (elm : ∀ i v I oI C oC D m₂ h tk ys (E' : Value → Shared → Prop) (Q : Value → Shared → Prop), i < n → P i v → NsObj oC m₂ → m₂ x = some v → Fr h₀ L h m → News h₀ L h ((I, oI) :: (C, oC) :: (D, lst ys) :: news) → Off3 I C D news → ((@Ne Nat I C) ∧ (@Ne Nat I D) ∧ (@Ne Nat C D)) →
      (∀ t h' tk', Fr h₀ L h' m → News h₀ L h' ((I, oI) :: (C, oC) :: (D, lst ys) :: news) → Q (.int (f i) t) { s with heap := h', toks := tk' }) →
      wpAny (model prog w) A (eval elt (compEnvC scope cl C env)) Q E' { s with heap := h, toks := tk })
    (fin : ∀ ys, IntsAre ys (coll f c n 0) → Fin ys news) :
    ∀ k i ys ns, k + i = n → IntsAre ys ns → ns ++ coll f c k i = coll f c n 0 → CompRestT prog w A h₀ L m env ct elt x scope cl s (fun _ => True) P Fin k i ys news
  | 0, i, ys, ns, _, hy, he => by
    refine CompRestT.zero (fin ys ?_)
    rw [← he]
    simpa [coll] using hy
  | k + 1, i, ys, ns, hk, hy, he => by
    refine CompRestT.succ fun v I oI C oC D m₂ h tk E' hP hns hv F N off ne => ?_
    refine test i v I oI C oC D m₂ h tk ys E' _ (by omega) hP hns hv F N off ne fun h' tk' F' N' => ?_
    cases hc : c i with
    | true =>
      rw [if_pos rfl]
      refine elm i v I oI C oC D m₂ h' tk' ys E' _ (by omega) hP hns hv F' N' off ne fun t h'' tk'' F'' N'' => ?_
      refine ⟨h'', tk'', news, rfl, F'', N'', off, trivial, ?_⟩
      refine compT_ints f c n test elm fin k (i + 1) _ (ns ++ [f i]) (by omega) (ints_snoc hy (f i) t) ?_
      rw [← he, coll, if_pos hc]
      simp
    | false =>
      rw [if_neg Bool.false_ne_true]
      refine ⟨h', tk', news, rfl, F', N', off, trivial, ?_⟩
      refine compT_ints f c n test elm fin k (i + 1) ys ns (by omega) hy ?_
      rw [← he, coll, if_neg (by rw [hc]; exact Bool.false_ne_true)]
end
theorem coll_front (a : Nat → Bool) : coll (fun i => 4 + (i : Int) * -1) (fun i => a (4 - i)) 5 0 = (frontL a 5).map fun (k : Nat) => (k : Int) := by
  have g : ∀ b0 b1 b2 b3 b4 : Bool, coll (fun i => 4 + (i : Int) * -1) (fun i => pick5 b0 b1 b2 b3 b4 (4 - i)) 5 0 = (frontL (pick5 b0 b1 b2 b3 b4) 5).map fun (k : Nat) => (k : Int) := by decide
  exact g (a 0) (a 1) (a 2) (a 3) (a 4)
theorem coll_back (a : Nat → Bool) : coll (fun i => 0 + (i : Int) * 1) (fun i => !a i) 5 0 = (backL a 5).map fun (k : Nat) => (k : Int) := by
  have g : ∀ b0 b1 b2 b3 b4 : Bool, coll (fun i => 0 + (i : Int) * 1) (fun i => !pick5 b0 b1 b2 b3 b4 i) 5 0 = (backL (pick5 b0 b1 b2 b3 b4) 5).map fun (k : Nat) => (k : Int) := by decide
  exact g (a 0) (a 1) (a 2) (a 3) (a 4)
theorem coll_back1 (a : Nat → Bool) : coll (fun i => 0 + (i : Int)) (fun i => !a i) 5 0 = (backL a 5).map fun (k : Nat) => (k : Int) := by
  have g : ∀ b0 b1 b2 b3 b4 : Bool, coll (fun i => 0 + (i : Int)) (fun i => !pick5 b0 b1 b2 b3 b4 i) 5 0 = (backL (pick5 b0 b1 b2 b3 b4) 5).map fun (k : Nat) => (k : Int) := by decide
  exact g (a 0) (a 1) (a 2) (a 3) (a 4)
section
variable {prog : Program} {w : World} {A : Around} {s : Shared} {h₀ : Heap} {L : Addr} {m : PySem.Str → Option Value} {env : Env}
theorem comp_ints {elt : PySem.Expr} {x : PySem.Str} {scope : Scope} {cl : List (PySem.Str × Addr)} {S : List (Addr × Obj) → Prop} {P : Nat → Value → Prop} {Fin : List Value → List (Addr × Obj) → Prop} {news : List (Addr × Obj)} (hS : S news) (f : Nat → Int) (n : Nat)
    (elm : ∀ i v I oI C oC D m₂ h tk ys (E' : Value → Shared → Prop) (Q : Value → Shared → Prop), i < n → P i v → NsObj oC m₂ → m₂ x = some v → Fr h₀ L h m → News h₀ L h ((I, oI) :: (C, oC) :: (D, lst ys) :: news) → Off3 I C D news → ((@Ne Nat I C) ∧ (@Ne Nat I D) ∧ (@Ne Nat C D)) →
      (∀ t h' tk', Fr h₀ L h' m → News h₀ L h' ((I, oI) :: (C, oC) :: (D, lst ys) :: news) → Q (.int (f i) t) { s with heap := h', toks := tk' }) →
      wpAny (model prog w) A (eval elt (compEnvC scope cl C env)) Q E' { s with heap := h, toks := tk })
    (fin : ∀ ys, IntsAre ys (coll f (fun _ => true) n 0) → Fin ys news) :
    ∀ k i ys ns, k + i = n → IntsAre ys ns → ns ++ coll f (fun _ => true) k i = coll f (fun _ => true) n 0 → CompRest prog w A h₀ L m env elt x scope cl s S P Fin k i ys news
  | 0, i, ys, ns, _, hy, he => by
    refine CompRest.zero (fin ys ?_)
    rw [← he]
    simpa [coll] using hy
  | k + 1, i, ys, ns, hk, hy, he => by
    refine CompRest.succ fun v I oI C oC D m₂ h tk E' hP hns hv F N off ne => ?_
    refine elm i v I oI C oC D m₂ h tk ys E' _ (by omega) hP hns hv F N off ne fun t h'' tk'' F'' N'' => ?_
    refine ⟨h'', tk'', news, rfl, F'', N'', off, hS, ?_⟩
    refine comp_ints hS f n elm fin k (i + 1) _ (ns ++ [f i]) (by omega) (ints_snoc hy (f i) t) ?_
    rw [← he, coll, if_pos rfl]
    simp
end
theorem coll_all (l : List Nat) (g : Nat → Int) : ∀ (k i : Nat), i + k = l.length → coll (fun j => g (l.getD j 0)) (fun _ => true) k i = (l.drop i).map g
  | 0, i, h => by
    rw [List.drop_of_length_le (by omega)]; rfl
  | k + 1, i, h => by
    have hlt : i < l.length := by omega
    rw [coll, if_pos rfl, coll_all l g k (i + 1) (by omega), List.drop_eq_getElem_cons hlt, List.map_cons]
    simp [List.getD, hlt]
theorem ints_getD {vs : List Value} {ns : List Int} (h : IntsAre vs ns) : ∀ {i : Nat} {v : Value}, vs[i]? = some v → ∃ t, v = Value.int (ns.getD i 0) t := by
  induction h with
  | nil => intro i v h; simp at h
  | cons k t r ih =>
    intro i v h
    cases i with
    | zero => simp at h; exact ⟨t, h.symm⟩
    | succ i => simp at h; simpa using ih h
theorem getD_cast : ∀ (l : List Nat) (i : Nat), (l.map (fun (k : Nat) => (k : Int))).getD i 0 = ((l.getD i 0 : Nat) : Int)
  | [], i => by simp
  | a :: l, 0 => by simp
  | a :: l, i + 1 => by simpa using getD_cast l i
theorem getD_lt {l : List Nat} (h : ∀ k ∈ l, k < 5) (i : Nat) : l.getD i 0 < 5 := by
  rw [List.getD_eq_getElem?_getD]
  cases e : l[i]? with
  | none => decide
  | some k => exact h k (List.mem_of_getElem? e)
end Mine
end
section
open PySem PySem.W PyProof.Rows
namespace Mine
set_option Elab.async false
theorem execs_two (env : Env) : ∀ l1 l2 : List Stmt, execs (l1 ++ l2) env = (execs l1 env >>= fun f => match f with | .next => execs l2 env | f => pure f)
  | [], l2 => by
    show execs l2 env = (pure Flow.next >>= _)
    rw [pure_bind]
  | st :: l1, l2 => by
    rw [List.cons_append, execs_cons, execs_cons, bind_assoc]
    refine congrArg (exec st env >>= ·) (funext fun f => ?_)
    cases f <;> simp only [pure_bind]
    exact execs_two env l1 l2
/-- cut a block in two: what the first part leaves is all that the second is told of -/
theorem cut_at {M : Model} {A : Around} {env : Env} {Q : Flow → Shared → Prop} {E : Value → Shared → Prop} {s : Shared} (l : List Stmt) (n : Nat) (P : Shared → Prop)
    (first : wpAny M A (execs (l.take n) env) (fun f s' => f = .next ∧ P s') E s) (second : ∀ s', P s' → wpAny M A (execs (l.drop n) env) Q E s') : wpAny M A (execs l env) Q E s := by
  rw [show l = l.take n ++ l.drop n from (List.take_append_drop n l).symm, execs_two]
  refine wpAny_bind (wpAny_mono first (fun f s' h => ?_) fun _ _ x => x)
  obtain ⟨rfl, h⟩ := h
  exact second s' h
/-- the same, with the frame's three marks at hand for the middle -/
theorem cut_fr {M : Model} {A : Around} {env : Env} {Q : Flow → Shared → Prop} {E : Value → Shared → Prop} {s : Shared} {h₀ : Heap} {L : Addr} {m : PySem.Str → Option Value} (F : Fr h₀ L s.heap m) (l : List Stmt) (n : Nat) (P : Heap → Addr → Shared → Shared → Prop)
    (first : wpAny M A (execs (l.take n) env) (fun f s' => f = .next ∧ P h₀ L s s') E s) (second : ∀ s', P h₀ L s s' → wpAny M A (execs (l.drop n) env) Q E s') : wpAny M A (execs l env) Q E s :=
  cut_at l n (P h₀ L s) first second
end Mine
end
section
open PySem PySem.W PyProof.Rows PySem.Builtin
namespace Mine
set_option Elab.async false
theorem pairs_get {prog : Program} {w : World} {knd : KeyKind prog w Int} {es : List DictEntry} {kvs : List (Int × Value)} (h : Pairs knd es kvs) : es.length = kvs.length ∧ ∀ (i : Nat) (e : DictEntry), es[i]? = some e → ∃ kv, kvs[i]? = some kv ∧ e.val = kv.2 := by
  induction h with
  | nil => exact ⟨rfl, fun i e h => by simp at h⟩
  | cons hk hv r ih =>
    refine ⟨by simp [ih.1], fun i e h => ?_⟩
    cases i with
    | zero => simp at h; subst h; exact ⟨_, by simp, hv⟩
    | succ i => simp at h; obtain ⟨kv, a, b⟩ := ih.2 i e h; exact ⟨kv, by simpa using a, b⟩
theorem dict_bridge {prog : Program} {w : World} {o : Obj} {kvs : List (Int × Value)} (h : o.IsDictOf (intKind prog w) kvs) :
    ∃ (es : List DictEntry) (ep : Nat), o = dictOf es ep ∧ es.length = kvs.length ∧ ∀ (i : Nat) (e : DictEntry), es[i]? = some e → ∃ kv, kvs[i]? = some kv ∧ e.val = kv.2 := by
  obtain ⟨es, ep, ⟨hc, hd, hs⟩, hdata, _, hp, _⟩ := h
  obtain ⟨h1, h2⟩ := pairs_get hp
  refine ⟨es.toList, ep, ?_, h1, h2⟩
  obtain ⟨c, d, dt, sl⟩ := o
  simp only at hc hd hs hdata
  subst hc hd hs hdata
  rfl
section
variable {w : World} {A₀ : Around} {base h₀ : Heap} {env : Env} {L : Addr} {m mg mb : PySem.Str → Option Value} {mean : ExcName → Option Value} {news : List (Addr × Obj)} {s : Shared} {R : Result → Shared → Prop} {D : Addr} {o : Obj}
theorem width_made0 (hD : (D, o) ∈ news) (hi : o.IsDictOf (intKind PySem.Challenge.rw_zd0001_01.row.prog w) []) (hsm : (D == sysModules) = false)
  (B : Below A₀ base [] h₀) (F : Fr h₀ L s.heap m) (X : (hd.heap_39 w.params).In h₀) (N : News h₀ L s.heap news) (T : Top hd.view_39 (looseW hd.view_39 [Str.ofString "_quoted", Str.ofString "_paren_depth"]) mean mg mb h₀)
  (hf : env.frame = some L) (hke : env.scope.kind = .function)
  (h : ∀ h' t k, Fr h₀ L h' m → News h₀ L h' news → R (.ok (.ret (.int 0 t))) { s with heap := h', toks := k })
  : codeAny (model PySem.Challenge.rw_zd0001_01.row.prog w) (callerA.deeper env) (.call (.ref 38) ⟨[.ref D], []⟩) R s := by
  obtain ⟨es, ep, rfl, hl, hv⟩ := dict_bridge hi
  have hes : es = [] := List.eq_nil_of_length_eq_zero hl
  subst hes
  exact width_zero hD hsm (fun _ => 0) (fun i e he => by simp at he) rfl B F X N T hf hke h
theorem width_made {kvs : List (Int × Value)} (val : Nat → Int) (hD : (D, o) ∈ news) (hi : o.IsDictOf (intKind PySem.Challenge.rw_zd0001_01.row.prog w) kvs) (hsm : (D == sysModules) = false)
  (hkv : ∀ (i : Nat) (kv : Int × Value), kvs[i]? = some kv → ∃ t, kv.2 = Value.int (val i) t) (hne : ∀ i, val i ≠ 0) (hlen : 0 < kvs.length) {mx : Int} (hmx : mxv val (kvs.length - 1) = mx) (hpos : 0 < mx) (hup : mx < 10000000)
  (B : Below A₀ base [] h₀) (F : Fr h₀ L s.heap m) (X : (hd.heap_39 w.params).In h₀) (N : News h₀ L s.heap news) (T : Top hd.view_39 (looseW hd.view_39 [Str.ofString "_quoted", Str.ofString "_paren_depth"]) mean mg mb h₀)
  (hf : env.frame = some L) (hke : env.scope.kind = .function)
  (h : ∀ h' t k, Fr h₀ L h' m → News h₀ L h' news → R (.ok (.ret (.int (wd mx) t))) { s with heap := h', toks := k })
  : codeAny (model PySem.Challenge.rw_zd0001_01.row.prog w) (callerA.deeper env) (.call (.ref 38) ⟨[.ref D], []⟩) R s := by
  obtain ⟨es, ep, rfl, hl, hv⟩ := dict_bridge hi
  refine width_sum hD hsm val (fun i e he => ?_) (by omega) (by rw [hl]; exact hmx) hpos hup B F X N T hf hke h
  obtain ⟨kv, a, b⟩ := hv i e he
  obtain ⟨t, c⟩ := hkv i kv a
  exact ⟨⟨t, b.trans c⟩, hne i⟩
end
end Mine
end
section
open PySem PySem.W PyProof.Rows PySem.Builtin
namespace Mine
set_option Elab.async false
set_option maxRecDepth 100000
def ordN (st : Nat → Int) : List Nat := frontL (ab st) 5 ++ backL (ab st) 5
theorem ord_len (st : Nat → Int) : (ordN st).length = 5 := by
  unfold ordN
  rw [List.length_append]; exact fb_len _ _
theorem ord_lt (st : Nat → Int) (i : Nat) : (ordN st).getD i 0 < 5 :=
  getD_lt (fun k hk => (List.mem_append.mp hk).elim mem_front mem_back) i
theorem line_step (st : Nat → Int) (z j : Nat) (hj : j < 5) : lineAt st z j + st ((ordN st).getD j 0) = lineAt st z (j + 1) := by
  have hl := ord_len st
  have e : (ordN st).take (j + 1) = (ordN st).take j ++ [(ordN st).getD j 0] := by
    rw [List.take_add_one, List.getElem?_eq_getElem (by omega)]
    simp [List.getD, show j < (ordN st).length by omega]
  show lineAt st z j + _ = 10 ^ z - lsum st (frontL (ab st) 5) + lsum st ((ordN st).take (j + 1))
  rw [e, lsum_app]
  show 10 ^ z - lsum st (frontL (ab st) 5) + lsum st ((ordN st).take j) + _ = 10 ^ z - lsum st (frontL (ab st) 5) + (lsum st ((ordN st).take j) + (st ((ordN st).getD j 0) + 0))
  omega
theorem row_st {nm rp : Nat → PySem.Str} {st : Nat → Int} (h : ∀ i, i < 5 → RowOk (nm i) (st i) (rp i)) : ∀ i, i < 5 → -3 ≤ st i ∧ st i ≤ 3 := fun i hi => by
  have := h i hi
  unfold RowOk at this
  omega
def wAt (st : Nat → Int) (z j : Nat) : Int := if j < (frontL (ab st) 5).length then (z : Int) else (z : Int) + 1
section
variable {prog : Program} {w : World} {A : Around} {E : Value → Shared → Prop} {s : Shared} {env : Env} {h₀ : Heap} {L : Addr} {m : PySem.Str → Option Value} {news : List (Addr × Obj)}
theorem sub_ord {value slice : PySem.Expr} {a : Addr} {ys : List Value} {c : Nat} {st : Nat → Int} {k : Int} {u : Tok} {Q : Value → Shared → Prop} (N : News h₀ L s.heap news) (hm : (a, W.listOf ys.toArray c) ∈ news) (hys : IntsAre ys ((ordN st).map fun (i : Nat) => (i : Int))) (h0 : 0 ≤ k) (h5 : k < 5)
    (h : ∀ t, Q (.int (((ordN st).getD k.toNat 0 : Nat) : Int) t) s) (hs : subscripted slice false (.ref a) (.int k u) = operate [.ref a, .int k u] (getItem (.ref a) (.int k u))) :
    wpAny (model prog w) A (subscriptTail value slice (.ref a) (.int k u)) Q E s := by
  have hl : ys.length = 5 := by rw [hys.length, List.length_map, ord_len]
  refine sub_mem N hm h0 (by rw [List.size_toArray]; omega) (by rw [List.size_toArray]; omega) (fun v hv => ?_) hs
  have hv' : ys[k.toNat]? = some v := by simpa using hv
  obtain ⟨t, rfl⟩ := ints_getD hys hv'
  rw [getD_cast]
  exact h t
theorem sub_talk {value slice : PySem.Expr} {a : Addr} {T : Nat → Addr} {c x : Nat} {u : Tok} {Q : Value → Shared → Prop} (hx : x < 5) (N : News h₀ L s.heap news) (hm : (a, W.listOf #[.ref (T 0), .ref (T 1), .ref (T 2), .ref (T 3), .ref (T 4)] c) ∈ news)
    (h : Q (.ref (T x)) s) (hs : subscripted slice false (.ref a) (.int (x : Int) u) = operate [.ref a, .int (x : Int) u] (getItem (.ref a) (.int (x : Int) u))) :
    wpAny (model prog w) A (subscriptTail value slice (.ref a) (.int (x : Int) u)) Q E s := by
  refine sub_mem N hm (by omega) (by simp; omega) (by simp) (fun v hv => ?_) hs
  have e : v = .ref (T x) := by
    have : x = 0 ∨ x = 1 ∨ x = 2 ∨ x = 3 ∨ x = 4 := by omega
    rcases this with rfl | rfl | rfl | rfl | rfl <;> simpa using hv.symm
  rw [e]; exact h
theorem sub_rep {value slice : PySem.Expr} {T : Nat → Addr} {nm rp : Nat → PySem.Str} {st : Nat → Int} {t1 t2 t3 : Nat → Tok} {x : Nat} {u : Tok} {Q : Value → Shared → Prop} (hx : x < 5) (N : News h₀ L s.heap news)
    (m4 : (T 4, rowO (nm 4) (st 4) (rp 4) (t1 4) (t2 4) (t3 4)) ∈ news) (m3 : (T 3, rowO (nm 3) (st 3) (rp 3) (t1 3) (t2 3) (t3 3)) ∈ news) (m2 : (T 2, rowO (nm 2) (st 2) (rp 2) (t1 2) (t2 2) (t3 2)) ∈ news) (m1 : (T 1, rowO (nm 1) (st 1) (rp 1) (t1 1) (t2 1) (t3 1)) ∈ news) (m0 : (T 0, rowO (nm 0) (st 0) (rp 0) (t1 0) (t2 0) (t3 0)) ∈ news)
    (h : Q (.str (rp x) (t3 x)) s) (hs : subscripted slice false (.ref (T x)) (.int 2 u) = operate [.ref (T x), .int 2 u] (getItem (.ref (T x)) (.int 2 u))) :
    wpAny (model prog w) A (subscriptTail value slice (.ref (T x)) (.int 2 u)) Q E s := by
  have hm : (T x, rowO (nm x) (st x) (rp x) (t1 x) (t2 x) (t3 x)) ∈ news := by
    have : x = 0 ∨ x = 1 ∨ x = 2 ∨ x = 3 ∨ x = 4 := by omega
    rcases this with rfl | rfl | rfl | rfl | rfl <;> assumption
  have ht : s.heap.IsTuple (T x) #[.str (nm x) (t1 x), .int (st x) (t2 x), .str (rp x) (t3 x)] := ⟨_, N.get hm, rfl, 0, rfl⟩
  exact tail_any ht.typeIs slot_tuple_getitem.lookup (getItem_tuple ht (by decide) (by decide) (j := 2) (x := .str (rp x) (t3 x)) (show seqIndex? 2 3 = some 2 by decide) (by simp) h) hs
end
def FunKvs (f : Nat → Int) (n : Nat) (kvs : List (Int × Value)) : Prop := kvs.length = n ∧ ∀ (i : Nat) (kv : Int × Value), kvs[i]? = some kv → kv.1 = (i : Int) ∧ ∃ t, kv.2 = Value.int (f i) t
theorem FunKvs.nil (f : Nat → Int) : FunKvs f 0 [] := ⟨rfl, fun i kv e => by simp at e⟩
theorem FunKvs.put {f : Nat → Int} {n : Nat} {kvs : List (Int × Value)} {k : Int} {t : Tok} (h : FunKvs f n kvs) (hk : k = (n : Int)) : FunKvs f (n + 1) (stored kvs k (.int (f n) t)) := by
  obtain ⟨h1, h2⟩ := h
  have e : kvs.any (fun kv => decide (kv.1 = k)) = false := by
    refine List.any_eq_false.mpr fun kv hkv => ?_
    obtain ⟨i, hi⟩ := List.mem_iff_getElem?.mp hkv
    have := (h2 i kv hi).1
    have hlt : i < n := by
      have := (List.getElem?_eq_some_iff.mp hi).1
      omega
    simp only [decide_eq_true_eq]
    omega
  unfold stored
  rw [e, if_neg Bool.false_ne_true]
  refine ⟨by simp [h1], fun i kv hi => ?_⟩
  rcases Nat.lt_or_ge i n with hlt | hge
  · rw [List.getElem?_append_left (by omega)] at hi
    exact h2 i kv hi
  · rw [List.getElem?_append_right (by omega), h1] at hi
    have : i = n := by
      rcases Nat.eq_or_lt_of_le hge with q | q
      · exact q.symm
      · rw [List.getElem?_eq_none (by simp; omega)] at hi; cases hi
    subst this
    rw [Nat.sub_self] at hi
    simp at hi
    subst hi
    exact ⟨hk, _, rfl⟩
abbrev LineKvs (st : Nat → Int) (z n : Nat) (kvs : List (Int × Value)) : Prop := FunKvs (lineAt st z) n kvs
theorem LineKvs.nil (st : Nat → Int) (z : Nat) : LineKvs st z 0 [] := FunKvs.nil _
theorem LineKvs.put {st : Nat → Int} {z n : Nat} {kvs : List (Int × Value)} {k : Int} {t : Tok} (h : LineKvs st z n kvs) (hk : k = (n : Int)) : LineKvs st z (n + 1) (stored kvs k (.int (lineAt st z n) t)) := FunKvs.put h hk
section
variable {prog : Program} {w : World} {A : Around} {E : Value → Shared → Prop} {s : Shared} {h₀ : Heap} {L : Addr} {m : PySem.Str → Option Value} {news : List (Addr × Obj)}
theorem rep_ints (k : Int) (t : Tok) : ∀ n : Nat, IntsAre (List.replicate n [Value.int k t]).flatten (List.replicate n k)
  | 0 => .nil
  | n + 1 => by
    rw [List.replicate_succ, List.replicate_succ, List.flatten_cons]
    exact .cons k t (rep_ints k t n)
theorem mul_one {l : Addr} {k x : Int} {t u : Tok} {c : Nat} {Q : Value → Shared → Prop} (F : Fr h₀ L s.heap m) (N : News h₀ L s.heap news) (hl : (l, W.listOf #[.int k t] c) ∈ news) (hlo : 0 ≤ x) (hhi : x ≤ 6)
    (h : ∀ D h' ws, IntsAre ws (List.replicate x.toNat k) → ws.length ≤ 6 → Fr h₀ L h' m → News h₀ L h' ((D, W.listOf ws.toArray 0) :: news) → (∀ p ∈ news, p.1 < D) → Q (.ref D) { s with heap := h' }) : wpAny (model prog w) A (binaryOp .Mult (.ref l) (.int x u)) Q E s := by
  have hll : s.heap.IsList l #[.int k t] := ⟨_, N.get hl, rfl, c, rfl⟩
  have hi := rep_ints k t x.toNat
  exact KMa.mul (vs := [.int k t]) F N hll (by omega) (by omega) (by simp; omega) rfl fun D h' F' N' l1 => h D h' _ hi (by rw [hi.length, List.length_replicate]; omega) F' N' l1
theorem len_front {l : Addr} {ys : List Value} {c f : Nat} {Q : Value → Shared → Prop} (N : News h₀ L s.heap news) (hl : (l, W.listOf ys.toArray c) ∈ news) (hf : ys.length = f) (h5 : f ≤ 5)
    (h : ∀ t k, Q (.int (f : Int) t) { s with toks := k }) : wpAny (model prog w) A (call (.builtin "len") [.ref l]) Q E s := by
  have hll : s.heap.IsList l ys.toArray := ⟨_, N.get hl, rfl, c, rfl⟩
  have e : ((ys.toArray.size : Nat) : Int) = (f : Int) := by rw [List.size_toArray, hf]
  refine PyProof.Rows.len_list hll (by rw [e]; omega) ?_
  rw [e]
  exact h _ _
theorem add_small {a b : Addr} {vs us : List Value} {ns ms : List Int} {c c' : Nat} {Q : Value → Shared → Prop} (F : Fr h₀ L s.heap m) (N : News h₀ L s.heap news) (ha : (a, W.listOf vs.toArray c) ∈ news) (hb : (b, W.listOf us.toArray c') ∈ news) (hi : IntsAre vs ns) (hj : IntsAre us ms) (hz : ns.length + ms.length ≤ 1000)
    (h : ∀ D h' ws, IntsAre ws (ns ++ ms) → Fr h₀ L h' m → News h₀ L h' ((D, W.listOf ws.toArray 0) :: news) → (∀ p ∈ news, p.1 < D) → Q (.ref D) { s with heap := h' }) : wpAny (model prog w) A (binaryOp .Add (.ref a) (.ref b)) Q E s :=
  kmk_add_ints F N ⟨_, N.get ha, rfl, c, rfl⟩ ⟨_, N.get hb, rfl, c', rfl⟩ hi hj (fun D us h' F' N' l1 hi' => h D h' us hi' F' N' l1) (by rw [sizeLine_eq]; omega)
theorem ne_ints_same {a b : Addr} {vs us : List Value} {ns ms : List Int} {c c' : Nat} {Q : Value → Shared → Prop} (N : News h₀ L s.heap news) (ha : (a, W.listOf vs.toArray c) ∈ news) (hb : (b, W.listOf us.toArray c') ∈ news) (hi : IntsAre vs ns) (hj : IntsAre us ms) (hu : A.units + 64 < cLine) (e : ns = ms)
    (h : Q (.bool false) s) : wpAny (model prog w) A (compareOp .NotEq (.ref a) (.ref b)) Q E s :=
  ne_intsK ⟨_, N.get ha, rfl, c, rfl⟩ hi ⟨_, N.get hb, rfl, c', rfl⟩ hj hu (by rw [decide_eq_true e]; exact h)
theorem widths_eq (st : Nat → Int) (z : Nat) (f : Nat) (hf : (frontL (ab st) 5).length = f) (h5 : f ≤ 5) :
    [0, wAt st z 0, wAt st z 1, wAt st z 2, wAt st z 3, wAt st z 4, wAt st z 5] = [0] ++ List.replicate ((f : Nat) : Int).toNat (z : Int) ++ List.replicate (6 - (f : Int)).toNat ((z : Int) + 1) := by
  unfold wAt
  rw [hf]
  have : f = 0 ∨ f = 1 ∨ f = 2 ∨ f = 3 ∨ f = 4 ∨ f = 5 := by omega
  rcases this with rfl | rfl | rfl | rfl | rfl | rfl <;> rfl
end
section
variable {w : World} {A₀ : Around} {base h₀ : Heap} {env : Env} {L : Addr} {m mg mb : PySem.Str → Option Value} {mean : ExcName → Option Value} {news : List (Addr × Obj)} {s : Shared} {R : Result → Shared → Prop}
theorem paren_line {x : PySem.Str} {sx d d' : Int} {t t' : Tok} (hr : RepOk x sx) (hd' : d + sx = d')
  (B : Below A₀ base [] h₀) (F : Fr h₀ L s.heap m) (X : (hd.heap_39 w.params).In h₀) (N : News h₀ L s.heap news) (T : Top hd.view_39 (looseW hd.view_39 [Str.ofString "_quoted", Str.ofString "_paren_depth"]) mean mg mb h₀)
  (hf : env.frame = some L) (hke : env.scope.kind = .function)
  (h : ∀ h' tk k, Fr h₀ L h' m → News h₀ L h' news → R (.ok (.ret (.int d' tk))) { s with heap := h', toks := k })
  : codeAny (model PySem.Challenge.rw_zd0001_01.row.prog w) (callerA.deeper env) (.call (.ref 83) ⟨[.bytes (enc x) t, .int d t'], []⟩) R s := by
  subst hd'
  exact paren_rep hr B F X N T hf hke h
theorem width_line {D : Addr} {o : Obj} {kvs : List (Int × Value)} {st : Nat → Int} {z : Nat} (hst : ∀ i, i < 5 → -3 ≤ st i ∧ st i ≤ 3) (hz : 3 ≤ z ∧ z ≤ 6) (j : Nat) (hD : (D, o) ∈ news) (hi : o.IsDictOf (intKind PySem.Challenge.rw_zd0001_01.row.prog w) kvs) (hsm : (D == sysModules) = false)
  (hkv : LineKvs st z (j + 1) kvs)
  (B : Below A₀ base [] h₀) (F : Fr h₀ L s.heap m) (X : (hd.heap_39 w.params).In h₀) (N : News h₀ L s.heap news) (T : Top hd.view_39 (looseW hd.view_39 [Str.ofString "_quoted", Str.ofString "_paren_depth"]) mean mg mb h₀)
  (hf : env.frame = some L) (hke : env.scope.kind = .function)
  (h : ∀ h' t k, Fr h₀ L h' m → News h₀ L h' news → R (.ok (.ret (.int (wAt st z j) t))) { s with heap := h', toks := k })
  : codeAny (model PySem.Challenge.rw_zd0001_01.row.prog w) (callerA.deeper env) (.call (.ref 38) ⟨[.ref D], []⟩) R s := by
  obtain ⟨h1, h2, h3⟩ := width_at hst hz.1 hz.2 j
  obtain ⟨hl, hkv⟩ := hkv
  refine width_made (lineAt st z) hD hi hsm (fun i kv e => (hkv i kv e).2) (fun i e => ?_) (by omega) (show mxv (lineAt st z) (kvs.length - 1) = mxv (lineAt st z) j by rw [hl]; rfl) h1 h2 B F X N T hf hke fun h' t k F' N' => ?_
  · have := (line_facts hst z i).1
    have h10 : (1000 : Int) ≤ 10 ^ z := by
      have : z = 3 ∨ z = 4 ∨ z = 5 ∨ z = 6 := by omega
      rcases this with rfl | rfl | rfl | rfl <;> decide
    omega
  · rw [h3]; exact h h' t k F' N'
theorem width_lessK {D : Addr} {o : Obj} {kvs : List (Int × Value)} {st : Nat → Int} {z : Nat} (hst : ∀ i, i < 5 → -3 ≤ st i ∧ st i ≤ 3) (hz : 3 ≤ z ∧ z ≤ 6) (hD : (D, o) ∈ news) (hi : o.IsDictOf (intKind PySem.Challenge.rw_zd0001_01.row.prog w) kvs) (hsm : (D == sysModules) = false)
  (hkv : FunKvs (fun i => lineAt st z i - 1) 6 kvs)
  (B : Below A₀ base [] h₀) (F : Fr h₀ L s.heap m) (X : (hd.heap_39 w.params).In h₀) (N : News h₀ L s.heap news) (T : Top hd.view_39 (looseW hd.view_39 [Str.ofString "_quoted", Str.ofString "_paren_depth"]) mean mg mb h₀)
  (hf : env.frame = some L) (hke : env.scope.kind = .function)
  (h : ∀ h' t k, Fr h₀ L h' m → News h₀ L h' news → R (.ok (.ret (.int (z : Int) t))) { s with heap := h', toks := k })
  : codeAny (model PySem.Challenge.rw_zd0001_01.row.prog w) (callerA.deeper env) (.call (.ref 38) ⟨[.ref D], []⟩) R s := by
  obtain ⟨h1, h2, h3⟩ := width_less hst hz.1 hz.2
  obtain ⟨hl, hkv⟩ := hkv
  refine width_made (fun j => lineAt st z j - 1) hD hi hsm (fun i kv e => (hkv i kv e).2) (fun i e => ?_) (by omega) (show mxv (fun j => lineAt st z j - 1) (kvs.length - 1) = mxv (fun j => lineAt st z j - 1) 5 by rw [hl]) h1 h2 B F X N T hf hke fun h' t k F' N' => ?_
  · have := (line_facts hst z i).1
    have h10 : (1000 : Int) ≤ 10 ^ z := by
      have : z = 3 ∨ z = 4 ∨ z = 5 ∨ z = 6 := by omega
      rcases this with rfl | rfl | rfl | rfl <;> decide
    (try dsimp only at e)
    omega
  · rw [h3]; exact h h' t k F' N'
end
end Mine
end
section
open PySem PySem.W PyProof.Rows PySem.Builtin PySem.Calls
namespace Mine
set_option Elab.async false
set_option maxRecDepth 100000
theorem stored_fun {f : Nat → Int} {l : List Value} {kvs : List (Int × Value)} (h : StoredAll (fun v (k : Int) => ∃ t, v = Value.int k t) (fun v y => ∃ (i : Nat) (t t' : Tok), v = Value.int (i : Int) t ∧ y = Value.int (f i) t') l kvs) :
    (∀ (j : Nat) (v : Value), l[j]? = some v → ∃ t, v = Value.int (j : Int) t) → FunKvs f l.length kvs := by
  induction h with
  | nil => intro _; exact FunKvs.nil f
  | @snoc l kvs v k y hs hk hy ih =>
    intro hl
    have h1 := ih fun j u hj => hl j u (by
      have hlt : j < l.length := (List.getElem?_eq_some_iff.mp hj).1
      rw [List.getElem?_append_left hlt]; exact hj)
    obtain ⟨t, e⟩ := hl l.length v (by simp)
    obtain ⟨t1, e1⟩ := hk
    obtain ⟨i, t2, t3, e2, e3⟩ := hy
    subst e
    cases e1
    have hi : (l.length : Int) = (i : Int) := by injection e2
    have hi' : l.length = i := by omega
    subst hi'
    subst e3
    rw [List.length_append, List.length_singleton]
    exact FunKvs.put h1 rfl
section
variable {prog : Program} {w : World} {A : Around} {E : Value → Shared → Prop} {s : Shared} {h₀ : Heap} {L d c : Addr} {od oc : Obj} {kvs : List (Int × Value)} {m : PySem.Str → Option Value} {news : List (Addr × Obj)} {env : Env} {f : Nat → Int} {n : Nat}
theorem less_comp {tb x : PySem.Str} {p1 p2 p3 p4 p5 p6 p7 p8 : Pos} {scope : Scope} {cl : List (PySem.Str × Addr)} {pos : Pos} {Q : Value → Shared → Prop}
    (F : Fr h₀ L s.heap m) (N : News h₀ L s.heap news) (hbig : sysModules < h₀.objs.size) (hh : A.handled = none)
    (hmem : (d, od) ∈ news) (hi : od.IsDictOf (intKind prog w) kvs) (hk : FunKvs f n kvs) (hn : n ≤ 1000) (hsm : (d == sysModules) = false)
    (hcm : (c, oc) ∈ news) (hcd : oc.data = .cell (some (.ref d))) (hcl : cl.lookup tb = some c)
    (hclos : closureFor scope env = pure cl) (hcell : ∀ y ∈ scope.names, y.2 ≠ .cell) (hkind : scope.kind = .function)
    (hnames : ∀ y ∈ scope.names, y.2 = .local → scope.names.lookup y.1 = some .local) (hx : scope.names.lookup x = some .local)
    (hfree : ∀ C, (compEnvC scope cl C env).kindOf tb = some .cell) (hb1 : (tb == ("__debug__" : PySem.Str)) = false) (hb3 : (x == ("__debug__" : PySem.Str)) = false)
    (hout : wpAny (model prog w) A (eval (.Name tb p8) env) (fun xv s₁ => xv = .ref d ∧ s₁ = s) E s)
    (fin : ∀ D o h' tk kvs', Fr h₀ L h' m → News h₀ L h' ((D, o) :: news) → (∀ p ∈ news, p.1 < D) → (D == sysModules) = false → o.IsDictOf (intKind prog w) kvs' → FunKvs (fun i => f i - 1) n kvs' → Q (.ref D) { s with heap := h', toks := tk }) :
    wpAny (model prog w) A (eval (.DictComp (.Name x p1) (.BinOp (.Subscript (.Name tb p2) (.Name x p3) p4) .Sub (.Constant (.int 1) 0 p5) p6) [⟨.Name x p7, .Name tb p8, [], 0⟩] scope pos) env) Q E s := by
  rw [arm_eval_DictComp]
  refine wpAny_comprehension_free (use := none) rfl (fun _ => rfl) hclos hkind hnames (wpAny_mono hout (fun xv s₁ h₁ => ?_) fun _ _ e => e)
  obtain ⟨rfl, rfl⟩ := h₁
  obtain ⟨es, ep, hex, hdat, hko, hps, hnd⟩ := id hi
  have hAt : s₁.heap.DictAt (intKind prog w) d kvs ep := ⟨od, es, N.get hmem, hex, hdat, hko, hps, hnd⟩
  refine wpAny_pyIter_dict hsm hAt ?_
  have hdlt : d < s₁.heap.objs.size := Heap.lt_size (N.get hmem)
  generalize hH1 : s₁.heap.push { cls := .type "dict_keyiterator", data := .fields #[.ref d, .int 0 0, .int kvs.length 0, .int ep 0] } = H1
  have hz1 : H1.objs.size = s₁.heap.objs.size + 1 := by rw [← hH1, Heap.size_push]
  have old1 : ∀ b o, s₁.heap.get? b = some o → H1.get? b = some o := fun b o e => by rw [← hH1]; exact Heap.get?_push_of_some _ e
  have hit : H1.IsKeyIter s₁.heap.objs.size d 0 kvs.length ep := by rw [← hH1]; exact ⟨_, Heap.get?_push_size _ rfl, rfl, rfl⟩
  refine wpAny_newObj_type (wpAny_newFunctionEnv hcell (by intro y hy; simp at hy) (fun h₁ hns₁ hsb₁ => ?_) hkind)
  dsimp only at hns₁ hsb₁ ⊢
  have hnew : (H1.push { cls := .type "dict", dict := none, data := .dict #[] }).DictOf (intKind prog w) H1.objs.size [] := Heap.DictOf.new H1
  generalize hH2 : H1.push { cls := .type "dict", dict := none, data := .dict #[] } = H2 at hns₁ hsb₁ hnew ⊢
  have hz2 : H2.objs.size = H1.objs.size + 1 := by rw [← hH2, Heap.size_push]
  have old2 : ∀ b o, H1.get? b = some o → H2.get? b = some o := fun b o e => by rw [← hH2]; exact Heap.get?_push_of_some _ e
  have old3 : ∀ b o, H2.get? b = some o → h₁.get? b = some o := fun b o e => hsb₁.extBut b o (Nat.ne_of_lt (Heap.lt_size e)) (Heap.get?_push_of_some _ e)
  have old : ∀ b o, s₁.heap.get? b = some o → h₁.get? b = some o := fun b o e => old3 b o (old2 b o (old1 b o e))
  have hDC : H1.objs.size ≠ H2.objs.size := by rw [hz2]; exact Nat.ne_of_lt (Nat.lt_succ_self _)
  have hacc : h₁.DictOf (intKind prog w) H1.objs.size [] := hnew.at fun o e => old3 _ o e
  have lt1 : ∀ b, b < s₁.heap.objs.size → b ≠ H2.objs.size ∧ b ≠ H1.objs.size ∧ b ∉ [s₁.heap.objs.size] := fun b hb => by
    refine ⟨?_, ?_, ?_⟩
    · rw [hz2, hz1]; exact Nat.ne_of_lt (Nat.lt_succ_of_lt (Nat.lt_succ_of_lt hb))
    · rw [hz1]; exact Nat.ne_of_lt (Nat.lt_succ_of_lt hb)
    · intro q; exact absurd (List.mem_singleton.mp q) (Nat.ne_of_lt hb)
  have W := Walks.dictKeys (knd := intKind prog w) hh s₁.heap.objs.size d (Nat.ne_of_lt hdlt) kvs ep
  have hst₁ : h₁.IsKeyIter s₁.heap.objs.size d 0 kvs.length ep ∧ h₁.DictAt (intKind prog w) d kvs ep :=
    ⟨hit.at fun o e => old3 _ o (old2 _ o e), hAt.at' fun o e => old _ o e⟩
  have hDf : H1.objs.size ∉ [s₁.heap.objs.size, d] := by
    rw [hz1]; intro q
    rcases List.mem_cons.mp q with q | q
    · exact Nat.succ_ne_self _ q
    · exact absurd (List.mem_singleton.mp q).symm (Nat.ne_of_lt (Nat.lt_succ_of_lt hdlt))
  have hCf : H2.objs.size ∉ [s₁.heap.objs.size, d] := by
    rw [hz2, hz1]; intro q
    rcases List.mem_cons.mp q with q | q
    · exact absurd q.symm (Nat.ne_of_lt (Nat.lt_succ_of_lt (Nat.lt_succ_self _)))
    · exact absurd (List.mem_singleton.mp q).symm (Nat.ne_of_lt (Nat.lt_succ_of_lt (Nat.lt_succ_of_lt hdlt)))
  have key_int : ∀ (i : Nat) (v : Value), (∃ k x, kvs[i]? = some (k, x) ∧ (intKind prog w).is k v = true) → ∃ t u, v = Value.int (i : Int) t ∧ valueAt kvs (i : Int) = some (Value.int (f i) u) := by
    rintro i v ⟨k, y, hx1, hx2⟩
    obtain ⟨e1, u, e2⟩ := hk.2 i _ hx1
    simp only at e1 e2
    subst e1 e2
    obtain ⟨t, rfl⟩ := Value.isInt_shape hx2
    exact ⟨t, u, rfl, valueAt_of_get hnd hx1⟩
  have loop : ∀ s₃ : Shared, s₃ = { s₁ with heap := h₁, toks := s₁.toks + ([] : List (PySem.Str × Value)).length } →
      codeAny (model prog w) A (.compLoop (.DictComp (.Name x p1) (.BinOp (.Subscript (.Name tb p2) (.Name x p3) p4) .Sub (.Constant (.int 1) 0 p5) p6) [⟨.Name x p7, .Name tb p8, [], 0⟩] scope pos) 0 (.ref s₁.heap.objs.size) (.ref H1.objs.size) (compEnvC scope cl H2.objs.size env))
        (compPost (model prog w) A E none Q (.ref H1.objs.size) H2.objs.size) s₃ := by
    rintro s₃ rfl
    refine codeAny_compLoop_walkD (hsz := by rw [sizeLine_eq]; have := hk.1; omega) (knd := intKind prog w) (cenv := compEnvC scope cl H2.objs.size env) W (fun _ => true) (fun v (k : Int) => ∃ t, v = Value.int k t) (fun v y => ∃ (i : Nat) (t t' : Tok), v = Value.int (i : Int) t ∧ y = Value.int (f i - 1) t')
      (lookup_relabel_local hx) (by simp [compEnvC, relabel, hkind]) hDC hDf hCf hst₁ hacc hns₁ (fun i v s₃ m₃ hv hn hm hk => ?_) (fun i v s₃ m₃ hv hpv hn hm hk => ?_) (fun i v s₃ m₃ hv hpv hn hm hk => ?_) fun h' tk m' kvs' vs hn' ha hlen hP hF hk' => ?_
    · exact wpAny_pure ⟨rfl, s₃.heap, s₃.toks, rfl, fun _ _ e => e⟩
    · obtain ⟨t, u, rfl, _⟩ := key_int i v hv
      refine ldVarK hn hm ⟨⟨(i : Int), intKind_is _ _ _ _, t, rfl⟩, s₃.heap, s₃.toks, rfl, fun _ _ e => e⟩ (by simp [compEnvC, relabel, hkind]) (lookup_relabel_local hx) hb3
    · obtain ⟨t, u, rfl, hval⟩ := key_int i v hv
      have up : ∀ b o, s₁.heap.get? b = some o → s₃.heap.get? b = some o := fun b o e =>
        hk b o (lt1 b (Heap.lt_size e)).1 (lt1 b (Heap.lt_size e)).2.2 (lt1 b (Heap.lt_size e)).2.1 (old b o e)
      refine wpAny_BinOp (Subscript_ (ldCellK hcl ⟨oc, up _ _ (N.get hcm), hcd⟩ (ldVarK hn hm ?_ (by simp [compEnvC, relabel, hkind]) (lookup_relabel_local hx) hb3) (by simp [compEnvC, relabel, hkind]) (hfree _) hb1))
      have N3 : News h₀ L s₃.heap news := fun p hp => ⟨up _ _ (N p hp).1, (N p hp).2⟩
      refine kda_item (knd := intKind prog w) N3 hmem hi (intKind_is _ _ _ _) hval ?_
      refine wpAny_Constant_int (PyProof.Rows.sub_int ⟨⟨i, t, _, rfl, rfl⟩, s₃.heap, _, rfl, fun _ _ e => e⟩)
    · obtain ⟨o, ho, hdo⟩ := Heap.dictOf_iff.mp ha
      refine ⟨m', hn', fun h'' hs'' => ?_⟩
      have up : ∀ b o, s₁.heap.get? b = some o → h''.get? b = some o := fun b o e =>
        hs''.extBut b o (lt1 b (Heap.lt_size e)).1 (hk' b o (lt1 b (Heap.lt_size e)).1 (lt1 b (Heap.lt_size e)).2.2 (lt1 b (Heap.lt_size e)).2.1 (old b o e))
      have hlt : s₁.heap.objs.size < H1.objs.size := by rw [hz1]; exact Nat.lt_succ_self _
      have hL : h₀.objs.size ≤ s₁.heap.objs.size := Nat.le_trans F.above (Nat.le_of_lt F.ns.lt)
      refine fin H1.objs.size o h'' tk kvs' (F.keeps up) (fun p hp => ?_) (fun p hp => Nat.lt_trans (Heap.lt_size (N p hp).1) hlt) ?_ hdo ?_
      · rcases List.mem_cons.mp hp with rfl | hp
        · refine ⟨hs''.extBut _ _ hDC ho, ?_, Heap.get?_none_of_le (Nat.le_trans hL (Nat.le_of_lt hlt))⟩
          exact Ne.symm (Nat.ne_of_lt (Nat.lt_trans F.ns.lt hlt))
        · exact ⟨up _ _ (N p hp).1, (N p hp).2⟩
      · exact beq_eq_false_iff_ne.mpr (Nat.ne_of_gt (Nat.lt_of_lt_of_le hbig (Nat.le_trans hL (Nat.le_of_lt hlt))))
      · have hlen' : vs.length = n := hlen.trans hk.1
        rw [← hlen']
        rw [List.filter_eq_self.mpr (fun _ _ => rfl)] at hF
        refine stored_fun (f := fun i => f i - 1) hF fun j v hj => ?_
        obtain ⟨t, u, e, _⟩ := key_int j v (hP j v hj)
        exact ⟨t, e⟩
  exact codeAny_compStart_dict (loop _ rfl) (W.self 0 _ _ _ hst₁ (loop _ rfl))
end
end Mine
end
section
open PySem PySem.W PyProof.Rows PySem.Builtin PySem.Calls
namespace Mine
set_option Elab.async false
set_option maxRecDepth 100000
theorem ints_snoc_inv {k : Int} : ∀ {l : List Int} {ys : List Value}, IntsAre ys (l ++ [k]) → ∃ r t, ys = r ++ [Value.int k t] ∧ IntsAre r l
  | [], _, .cons _ t .nil => ⟨[], t, rfl, .nil⟩
  | a :: l, _, .cons _ t h => by
    obtain ⟨r, u, rfl, hr⟩ := ints_snoc_inv h
    exact ⟨Value.int a t :: r, u, rfl, .cons a t hr⟩
def doneL (n : Nat) : List Int := [4, 3, 2, 1, 0].take (5 - n)
theorem doneL_step {k : Nat} (h : k < 5) : doneL (k + 1) ++ [(k : Int)] = doneL k := by
  have : k = 0 ∨ k = 1 ∨ k = 2 ∨ k = 3 ∨ k = 4 := by omega
  rcases this with rfl | rfl | rfl | rfl | rfl <;> rfl
theorem doneL_len (n : Nat) : (doneL n).length ≤ 5 := by
  unfold doneL
  rw [List.length_take]
  simp only [List.length_cons, List.length_nil]; omega
def restL (st : Nat → Int) (n : Nat) : List Int := (frontL (ab st) n ++ backL (ab st) n).map fun (k : Nat) => (k : Int)
theorem restL_len (st : Nat → Int) (n : Nat) : (restL st n).length = n := by
  unfold restL
  rw [List.length_map, List.length_append]; exact fb_len _ _
theorem restL_pos {st : Nat → Int} {k : Nat} (h : 0 < dsum st (k + 1)) : restL st (k + 1) = (k : Int) :: restL st k := by
  have : ab st k = true := by simpa [ab] using h
  unfold restL
  rw [frontL, backL, if_pos this, if_pos this]; rfl
theorem restL_neg {st : Nat → Int} {k : Nat} (h : ¬ 0 < dsum st (k + 1)) : restL st (k + 1) = restL st k ++ [(k : Int)] := by
  have : ¬ ab st k = true := by simpa [ab] using h
  unfold restL
  rw [frontL, backL, if_neg this, if_neg this, ← List.append_assoc, List.map_append]; rfl
def wMap (mB : PySem.Str → Option Value) (d : Int) (td : Tok) (ot : Option Value) : PySem.Str → Option Value := fun y =>
  if y = PySem.Str.ofString "depth" then some (.int d td) else if y = PySem.Str.ofString "taken" then ot else mB y
def wJ (st : Nat → Int) (lb lo : Addr) (mB : PySem.Str → Option Value) (rest : List (Addr × Obj)) (n : Nat) (m' : PySem.Str → Option Value) (nx : List (Addr × Obj)) : Prop :=
  n ≤ 5 ∧ ∃ ys bs co cb td ot, IntsAre ys (restL st n) ∧ IntsAre bs (doneL n) ∧ m' = wMap mB (dsum st n) td ot ∧ nx = (lb, W.listOf bs.toArray cb) :: (lo, W.listOf ys.toArray co) :: rest
theorem wMap_start {mB : PySem.Str → Option Value} {d : Int} {td : Tok} (h : mB (PySem.Str.ofString "depth") = some (.int d td)) : mB = wMap mB d td (mB (PySem.Str.ofString "taken")) := by
  funext y
  unfold wMap
  by_cases e1 : y = PySem.Str.ofString "depth"
  · rw [if_pos e1, e1, h]
  by_cases e2 : y = PySem.Str.ofString "taken"
  · rw [if_neg e1, if_pos e2, e2]
  · rw [if_neg e1, if_neg e2]
section
variable {prog : Program} {w : World} {A : Around} {E : Value → Shared → Prop} {s : Shared} {h₀ : Heap} {L : Addr} {m : PySem.Str → Option Value} {news : List (Addr × Obj)}
theorem ne_ints_is {a b : Addr} {vs us : List Value} {ns ms : List Int} {c c' : Nat} {r : Bool} {Q : Value → Shared → Prop} (N : News h₀ L s.heap news) (ha : (a, W.listOf vs.toArray c) ∈ news) (hb : (b, W.listOf us.toArray c') ∈ news) (hi : IntsAre vs ns) (hj : IntsAre us ms) (hu : A.units + 64 < cLine) (e : (!decide (ns = ms)) = r)
    (h : Q (.bool r) s) : wpAny (model prog w) A (compareOp .NotEq (.ref a) (.ref b)) Q E s :=
  ne_intsK ⟨_, N.get ha, rfl, c, rfl⟩ hi ⟨_, N.get hb, rfl, c', rfl⟩ hj hu (by rw [e]; exact h)
theorem eq_ints_same {a b : Addr} {vs us : List Value} {ns ms : List Int} {c c' : Nat} {Q : Value → Shared → Prop} (N : News h₀ L s.heap news) (ha : (a, W.listOf vs.toArray c) ∈ news) (hb : (b, W.listOf us.toArray c') ∈ news) (hi : IntsAre vs ns) (hj : IntsAre us ms) (hu : A.units + 64 < cLine) (e : ns = ms)
    (h : Q (.bool true) s) : wpAny (model prog w) A (compareOp .Eq (.ref a) (.ref b)) Q E s :=
  eq_intsK ⟨_, N.get ha, rfl, c, rfl⟩ hi ⟨_, N.get hb, rfl, c', rfl⟩ hj hu (by rw [decide_eq_true e]; exact h)
theorem pop_end {D : Addr} {r : List Value} {y : Value} {n : Nat} {news' : List (Addr × Obj)} {Q : Value → Shared → Prop} (F : Fr h₀ L s.heap m) (N : News h₀ L s.heap news) (U : Upd D (W.listOf (r ++ [y]).toArray n) (W.listOf r.toArray (n + 1)) news news') (hz : r.length ≤ 100)
    (h : ∀ h', Fr h₀ L h' m → News h₀ L h' news' → Q y { s with heap := h' }) : wpAny (model prog w) A (call (.builtin "list.pop") [.ref D]) Q E s :=
  kl_pop F N (p := r) (y := y) (kpa_last y r) U (by simp only [List.length_append, List.length_singleton]; rw [sizeLine_eq]; omega) h
theorem pop_front {D : Addr} {r : List Value} {y : Value} {n : Nat} {u : Tok} {news' : List (Addr × Obj)} {Q : Value → Shared → Prop} (F : Fr h₀ L s.heap m) (N : News h₀ L s.heap news) (U : Upd D (W.listOf (y :: r).toArray n) (W.listOf r.toArray (n + 1)) news news') (hz : r.length ≤ 100)
    (h : ∀ h', Fr h₀ L h' m → News h₀ L h' news' → Q y { s with heap := h' }) : wpAny (model prog w) A (call (.builtin "list.pop") [.ref D, .int 0 u]) Q E s :=
  kl_popAt F N (k := 0) (p := []) (q := r) (y := y) rfl (by unfold seqIndex?; simp) rfl U (by simp only [List.length_cons]; rw [sizeLine_eq]; omega) h
end
theorem wMap_turn {mB : PySem.Str → Option Value} {d d' : Int} {td td' : Tok} {ot ot' : Option Value} :
    (fun y => if y = PySem.Str.ofString "depth" then some (.int d' td') else if y = PySem.Str.ofString "taken" then ot' else wMap mB d td ot y) = wMap mB d' td' ot' := by
  funext y
  unfold wMap
  by_cases e1 : y = PySem.Str.ofString "depth"
  · simp only [if_pos e1]
  by_cases e2 : y = PySem.Str.ofString "taken"
  · simp only [if_neg e1, if_pos e2]
  · simp only [if_neg e1, if_neg e2]
theorem while_turn {h₀ g : Heap} {L lb lo : Addr} {s s₃ : Shared} {st : Nat → Int} {k tk : Nat} {mB : PySem.Str → Option Value} {td td' tq : Tok} {d0 : Int} {ot ot' : Option Value} {p0 : Addr × Obj} {bs r : List Value} {cb co : Nat} {rest : List (Addr × Obj)} {Q : Flow → Shared → Prop}
    (hk : k < 5) (hr : IntsAre r (restL st k)) (hb : IntsAre bs (doneL (k + 1)))
    (F : Fr h₀ L g (fun y => if y = PySem.Str.ofString "depth" then some (.int (dsum st (k + 1) - st k) td') else if y = PySem.Str.ofString "taken" then ot' else wMap mB d0 td ot y))
    (N : News h₀ L g (p0 :: (lb, W.listOf (bs.toArray.push (.int (k : Int) tq)) cb) :: (lo, W.listOf r.toArray co) :: rest)) (e : s₃ = { s with heap := g, toks := tk }) :
    WhileStep2 h₀ L s (wJ st lb lo mB rest) Q (k + 1) .next s₃ := by
  have e1 : dsum st (k + 1) - st k = dsum st k := by
    show dsum st k + st k - st k = dsum st k
    omega
  rw [wMap_turn, e1] at F
  refine ⟨g, tk, _, _, k, e, F, fun p hp => N p (.tail _ hp), Nat.lt_succ_self k, by omega, r, bs ++ [.int (k : Int) tq], co, cb, td', ot', hr, ?_, rfl, ?_⟩
  · rw [← doneL_step hk]; exact ints_snoc hb _ _
  · rw [List.push_toArray]
theorem name_map {m m' : PySem.Str → Option Value} {k : PySem.Str} {v : Option Value} (h : m k = v) (e : m = m') : m = fun y => if y = k then v else m' y := by
  funext y
  by_cases q : y = k
  · rw [if_pos q, q, h]
  · rw [if_neg q, ← e]
theorem Fr_as {h₀ h : Heap} {L : Addr} {m m' : PySem.Str → Option Value} (F : Fr h₀ L h m) (e : m = m') : Fr h₀ L h m' := e ▸ F
theorem news_add {h₀ h : Heap} {L : Addr} {x : Addr × Obj} {news l : List (Addr × Obj)} (hx : x ∈ news) (N : News h₀ L h news) (N' : News h₀ L h l) : News h₀ L h (x :: l) := fun p hp => by
  rcases List.mem_cons.mp hp with rfl | hp
  · exact N _ hx
  · exact N' p hp
end Mine
namespace Mine
theorem list_arr {a : Addr} {its : Array Value} {c : Nat} {news : List (Addr × Obj)} (hm : (a, W.listOf its c) ∈ news) : (a, W.listOf its.toList.toArray c) ∈ news := by rw [Array.toArray_toList]; exact hm
theorem ord_ints {st : Nat → Int} {ws : List Value} (h : IntsAre ws ((frontL (ab st) 5).map (fun (k : Nat) => (k : Int)) ++ (backL (ab st) 5).map (fun (k : Nat) => (k : Int)))) : IntsAre ws ((ordN st).map fun (k : Nat) => (k : Int)) := by
  unfold ordN
  rw [List.map_append]; exact h
theorem lsum_sum (st : Nat → Int) : ∀ l : List Nat, (l.map st).sum = lsum st l
  | [] => rfl
  | k :: l => by
    rw [List.map_cons, List.sum_cons, lsum_sum st l]; rfl
theorem line_val {st : Nat → Int} {z : Nat} {t : Tok} {v : Option Value} (h : v = some (.int (10 ^ ((z : Nat) : Int).toNat - ((frontL (ab st) 5).map st).sum) t)) : v = some (.int (lineAt st z 0) t) := by
  rw [h, lsum_sum]
  have : (10 : Int) ^ ((z : Nat) : Int).toNat - lsum st (frontL (ab st) 5) = lineAt st z 0 := by
    show (10 : Int) ^ z - lsum st (frontL (ab st) 5) = 10 ^ z - lsum st (frontL (ab st) 5) + 0
    omega
  rw [this]
end Mine
namespace Mine
theorem list_is {a : Addr} {its its' : Array Value} {c c' : Nat} {news : List (Addr × Obj)} (hm : (a, W.listOf its c) ∈ news) (e : its = its') (e' : c = c') : (a, W.listOf its' c') ∈ news := by rw [← e, ← e']; exact hm
theorem size_bound (a : Int) : 3 ≤ 3 + a.fmod 4 ∧ 3 + a.fmod 4 ≤ 6 := by
  have h1 := fm0 a
  have h2 := fm4 a
  omega
end Mine
namespace Mine
theorem ints_cons_inv {k : Int} {l : List Int} {ys : List Value} (h : IntsAre ys (k :: l)) : ∃ t vs, ys = Value.int k t :: vs ∧ IntsAre vs l := by
  cases h with
  | cons _ t r => exact ⟨t, _, rfl, r⟩
end Mine
end
section
open PySem PySem.W PyProof.Rows PySem.Builtin PySem.Calls
namespace Mine
set_option Elab.async false
set_option maxRecDepth 100000
def wsL (st : Nat → Int) (z : Nat) : Nat → List Int
  | 0 => [0, wAt st z 0]
  | i + 1 => wsL st z i ++ [wAt st z (i + 1)]
theorem wsL_len (st : Nat → Int) (z : Nat) : ∀ i, (wsL st z i).length = i + 2
  | 0 => rfl
  | i + 1 => by rw [wsL, List.length_append, wsL_len st z i]; rfl
def lMap (mB : PySem.Str → Option Value) (x : Int) (tl : Tok) (op : Option Value) : PySem.Str → Option Value := fun y =>
  if y = PySem.Str.ofString "line" then some (.int x tl) else if y = PySem.Str.ofString "place" then op else mB y
theorem lMap_start {mB : PySem.Str → Option Value} {x : Int} {tl : Tok} (h : mB (PySem.Str.ofString "line") = some (.int x tl)) : mB = lMap mB x tl (mB (PySem.Str.ofString "place")) := by
  funext y
  unfold lMap
  by_cases e1 : y = PySem.Str.ofString "line"
  · rw [if_pos e1, e1, h]
  by_cases e2 : y = PySem.Str.ofString "place"
  · rw [if_neg e1, if_pos e2, e2]
  · rw [if_neg e1, if_neg e2]
theorem lMap_turn {mB : PySem.Str → Option Value} {x x' : Int} {tl tl' : Tok} {op op' : Option Value} :
    (fun y => if y = PySem.Str.ofString "line" then some (.int x' tl') else if y = PySem.Str.ofString "place" then op' else lMap mB x tl op y) = lMap mB x' tl' op' := by
  funext y
  unfold lMap
  by_cases e1 : y = PySem.Str.ofString "line"
  · simp only [if_pos e1]
  by_cases e2 : y = PySem.Str.ofString "place"
  · simp only [if_neg e1, if_pos e2]
  · simp only [if_neg e1, if_neg e2]
def lJ (prog : Program) (w : World) (st : Nat → Int) (z : Nat) (lw d : Addr) (mB : PySem.Str → Option Value) (rest : List (Addr × Obj)) (i : Nat) (m' : PySem.Str → Option Value) (nx : List (Addr × Obj)) : Prop :=
  ∃ ws cw od kvs tl op, IntsAre ws (wsL st z i) ∧ od.IsDictOf (intKind prog w) kvs ∧ LineKvs st z (i + 1) kvs ∧ m' = lMap mB (lineAt st z i) tl op ∧ nx = (lw, W.listOf ws.toArray cw) :: (d, od) :: rest
theorem place_turn {prog : Program} {w : World} {h₀ g : Heap} {L lw d I : Addr} {s s₃ : Shared} {st : Nat → Int} {z i tk : Nat} {mB : PySem.Str → Option Value} {tl t0 tw : Tok} {x0 : Int} {op o0 : Option Value} {ws : List Value} {cw : Nat} {rest : List (Addr × Obj)} {oI o1 o2 od : Obj} {kvs : List (Int × Value)}
    (hoff : ∀ p ∈ (lw, o1) :: (d, o2) :: rest, p.1 ≠ I) (hws : IntsAre ws (wsL st z i)) (hd : od.IsDictOf (intKind prog w) kvs) (hk : LineKvs st z (i + 1 + 1) kvs)
    (F : Fr h₀ L g (fun y => if y = PySem.Str.ofString "line" then some (.int (lineAt st z (i + 1)) tl) else if y = PySem.Str.ofString "place" then op else lMap mB x0 t0 o0 y))
    (N : News h₀ L g ((I, oI) :: (lw, W.listOf (ws.toArray.push (.int (wAt st z (i + 1)) tw)) cw) :: (d, od) :: rest)) (e : s₃ = { s with heap := g, toks := tk }) :
    TurnEnd h₀ L I oI (lJ prog w st z lw d mB rest (i + 1)) s .next s₃ := by
  rw [lMap_turn] at F
  rw [List.push_toArray] at N
  refine ⟨rfl, g, tk, _, _, (lw, W.listOf (ws ++ [Value.int (wAt st z (i + 1)) tw]).toArray cw) :: (d, od) :: rest, e, F, N, List.mem_cons_self .., fun p hp => ⟨List.mem_cons_of_mem _ hp, .inl ?_⟩, ws ++ [Value.int (wAt st z (i + 1)) tw], cw, od, kvs, tl, op, ints_snoc hws _ _, hd, hk, rfl, rfl⟩
  rcases List.mem_cons.mp hp with rfl | hp
  · exact hoff (lw, o1) (List.mem_cons_self ..)
  rcases List.mem_cons.mp hp with rfl | hp
  · exact hoff (d, o2) (List.mem_cons_of_mem _ (List.mem_cons_self ..))
  · exact hoff p (List.mem_cons_of_mem _ (List.mem_cons_of_mem _ hp))
theorem lJ_start {prog : Program} {w : World} {lw d : Addr} {st : Nat → Int} {z : Nat} {mB : PySem.Str → Option Value} {tl : Tok} {its : Array Value} {cw : Nat} {rest : List (Addr × Obj)} {od : Obj} {kvs : List (Int × Value)}
    (hi : IntsAre its.toList (wsL st z 0)) (hd : od.IsDictOf (intKind prog w) kvs) (hk : LineKvs st z (0 + 1) kvs) (hl : mB (PySem.Str.ofString "line") = some (.int (lineAt st z 0) tl)) :
    lJ prog w st z lw d mB rest 0 mB ((lw, W.listOf its cw) :: (d, od) :: rest) :=
  ⟨its.toList, cw, od, kvs, tl, _, hi, hd, hk, lMap_start hl, by rw [Array.toArray_toList]⟩
section
variable {prog : Program} {w : World} {A : Around} {E : Value → Shared → Prop} {s : Shared} {h₀ : Heap} {L d : Addr} {m : PySem.Str → Option Value} {news : List (Addr × Obj)} {g : Obj → List (Addr × Obj)} {o : Obj} {kvs : List (Int × Value)}
theorem set_line {st : Nat → Int} {z n : Nat} {k : Int} {t u : Tok} {Q : Unit → Shared → Prop} (F : Fr h₀ L s.heap m) (N : News h₀ L s.heap news) (U : UpdF d o news g) (hd : o.IsDictOf (intKind prog w) kvs) (hk : LineKvs st z n kvs) (hn : n ≤ 100) (hkey : k = (n : Int))
    (h : ∀ h' o' kvs', Fr h₀ L h' m → News h₀ L h' (g o') → o'.IsDictOf (intKind prog w) kvs' → LineKvs st z (n + 1) kvs' → Q () { s with heap := h', toks := s.toks + 1 }) : wpAny (model prog w) A (setItem (.ref d) (.int k t) (.int (lineAt st z n) u)) Q E s :=
  kda_set F N U hd (intKind_is _ _ _ _) (by rw [sizeLine_eq]; have := hk.1; omega) fun h' o' F' N' hd' => h h' o' _ F' N' hd' (hk.put hkey)
theorem sub_ordN {value slice : PySem.Expr} {a : Addr} {ys : List Value} {c i : Nat} {st : Nat → Int} {u : Tok} {Q : Value → Shared → Prop} (hi : i < 5) (N : News h₀ L s.heap news) (hm : (a, W.listOf ys.toArray c) ∈ news) (hys : IntsAre ys ((ordN st).map fun (i : Nat) => (i : Int)))
    (h : ∀ t, Q (.int (((ordN st).getD i 0 : Nat) : Int) t) s) (hs : subscripted slice false (.ref a) (.int (i : Int) u) = operate [.ref a, .int (i : Int) u] (getItem (.ref a) (.int (i : Int) u))) :
    wpAny (model prog w) A (subscriptTail value slice (.ref a) (.int (i : Int) u)) Q E s :=
  sub_ord N hm hys (by omega) (by omega) h hs
end
end Mine
end
section
open PySem PySem.W PyProof.Rows PySem.Builtin
namespace Mine
set_option Elab.async false
set_option pp.deepTerms false
set_option pp.maxSteps 3000
set_option maxRecDepth 100000
local macro_rules | `(tactic| walk_at "call ref") => `(tactic| (k_here; (with_reducible show wpAny _ _ (call (Value.ref 90) _) _ _ _); k_dflt (refine wpAny_call ?_; refine' replies5 ?a ?b ?c ?B ?F ?X ?N ?T ?e ?f ?_; (case a => k_asm); (case b => k_asm); (case c => k_asm); (case B => k_asm); (case F => k_asm); (case X => k_asm); (case N => k_asm); (case T => k_asm); (case e => rfl); (case f => rfl)); intro h' l' k' T' nm' st' rp' t1' t2' t3' hok' F' N' l1 g0 g1 g2 g3 g4; (try dsimp only); (try k_lt l1)))
local macro_rules | `(tactic| walk_at "call ref") => `(tactic| (k_here; (with_reducible show wpAny _ _ (call (Value.ref 83) _) _ _ _); k_dflt (refine wpAny_call ?_; refine' paren_rep ?r ?B ?F ?X ?N ?T ?e ?f ?_; (case r => exact rep_ok (‹∀ i, i < 5 → RowOk _ _ _› _ (by decide))); (case B => k_asm); (case F => k_asm); (case X => k_asm); (case N => k_asm); (case T => k_asm); (case e => rfl); (case f => rfl)); intro h' tk' k' F' N'; (try dsimp only)))
local macro_rules | `(tactic| walk_at "call ref") => `(tactic| (k_here; (with_reducible show wpAny _ _ (call (Value.ref 83) _) _ _ _); k_dflt (refine wpAny_call ?_; refine' paren_rep1 ?r ?B ?F ?X ?N ?T ?e ?f ?_; (case r => exact rep_ok (‹∀ i, i < 5 → RowOk _ _ _› _ (by decide))); (case B => k_asm); (case F => k_asm); (case X => k_asm); (case N => k_asm); (case T => k_asm); (case e => rfl); (case f => rfl)); intro h' tk' k' F' N'; (try dsimp only)))
local macro_rules | `(tactic| walk_at "call ref") => `(tactic| (k_here; (with_reducible show wpAny _ _ (call (Value.ref 70) _) _ _ _); k_dflt (refine wpAny_call ?_; refine' parse_rep ?r ?B ?F ?X ?N ?T ?e ?f ?_; (case r => exact (‹∀ i, i < 5 → RowOk _ _ _› _ (by decide))); (case B => k_asm); (case F => k_asm); (case X => k_asm); (case N => k_asm); (case T => k_asm); (case e => rfl); (case f => rfl)); intro h' tk' k' F' N'; (try dsimp only)))
local macro_rules | `(tactic| walk_at "getMethod str") => `(tactic| (k_here; k_dflt (refine meth_encode ?_)))
local macro_rules | `(tactic| walk_at "call builtin:str.encode") => `(tactic| (k_here; k_dflt (refine' encode_rep ?r ?_; (case r => exact rep_ok (‹∀ i, i < 5 → RowOk _ _ _› _ (by decide)))); intro tk' k'))
theorem ne_int_same {prog : Program} {w : World} {A : Around} {E : Value → Shared → Prop} {s : Shared} {x y : Int} {t u : Tok} {Q : Value → Shared → Prop} (hxy : x = y) (h : Q (.bool false) s) : wpAny (model prog w) A (compareOp .NotEq (.int x t) (.int y u)) Q E s := by
  refine PyProof.Rows.ne_int ?_
  have : (x != y) = false := by subst hxy; simp
  rw [this]; exact h
local macro_rules | `(tactic| walk_at "compareOp NotEq int int") => `(tactic| (k_here; k_dflt (refine' ne_int_same ?a ?_; (case a => rfl))))
local macro_rules | `(tactic| walk_at "compareOp NotEq str str") => `(tactic| (k_here; k_dflt (refine' ne_same ?a ?_; (case a => rfl))))
def LatePart : Prop := True
local macro_rules | `(tactic| walk_at "call builtin:str.encode") => `(tactic| (k_here; (have z9 : LatePart := by with_reducible assumption); clear z9; k_dflt (refine' encode_rep ?r ?_; (case r => exact rep_ok (‹∀ i, i < 5 → RowOk _ _ _› _ (by first | assumption | exact ord_lt _ _)))); intro tk' k'))
local macro_rules | `(tactic| walk_at "call ref") => `(tactic| (k_here; (have z9 : LatePart := by with_reducible assumption); clear z9; (with_reducible show wpAny _ _ (call (Value.ref 38) _) _ _ _); k_dflt (refine wpAny_call ?_; refine' width_made0 ?m ?i ?sm ?B ?F ?X ?N ?T ?e ?f ?_; (case N => k_asm); (case m => k_mem); (case i => k_asm); (case sm => assumption); (case B => k_asm); (case F => k_asm); (case X => k_asm); (case T => k_asm); (case e => rfl); (case f => rfl)); intro h' tk' k' F' N'; (try dsimp only)))
local macro_rules | `(tactic| walk_at "call ref") => `(tactic| (k_here; (have z9 : LatePart := by with_reducible assumption); clear z9; (with_reducible show wpAny _ _ (call (Value.ref 38) _) _ _ _); k_dflt (refine wpAny_call ?_; refine' width_line ?st ?z _ ?m ?i ?sm ?v ?B ?F ?X ?N ?T ?e ?f ?_; (case N => k_asm); (case st => assumption); (case z => assumption); (case m => k_mem); (case i => k_asm); (case sm => assumption); (case v => assumption); (case B => k_asm); (case F => k_asm); (case X => k_asm); (case T => k_asm); (case e => rfl); (case f => rfl)); intro h' tk' k' F' N'; (try dsimp only)))
local macro_rules | `(tactic| walk_at "call ref") => `(tactic| (k_here; (have z9 : LatePart := by with_reducible assumption); clear z9; (with_reducible show wpAny _ _ (call (Value.ref 83) _) _ _ _); k_dflt (refine wpAny_call ?_; refine' paren_line ?r ?d ?B ?F ?X ?N ?T ?e ?f ?_; (case r => exact rep_ok (‹∀ i, i < 5 → RowOk _ _ _› _ (by first | assumption | exact ord_lt _ _))); (case d => exact line_step _ _ _ (by assumption)); (case B => k_asm); (case F => k_asm); (case X => k_asm); (case N => k_asm); (case T => k_asm); (case e => rfl); (case f => rfl)); intro h' tk' k' F' N'; (try dsimp only)))
local macro_rules | `(tactic| walk_at "subscriptTail") => `(tactic| (k_here; (have z9 : LatePart := by with_reducible assumption); clear z9; (with_reducible show wpAny _ _ (subscriptTail _ _ (Value.ref _) (Value.int _ _)) _ _ _); k_dflt (first
  | (refine' sub_rep ?x ?N ?m4 ?m3 ?m2 ?m1 ?m0 ?_ ?s; (case N => k_asm); (case x => first | assumption | exact ord_lt _ _); (case m4 => k_mem); (case m3 => k_mem); (case m2 => k_mem); (case m1 => k_mem); (case m0 => k_mem); (case s => with_unfolding_all rfl))
  | (refine' sub_talk ?x ?N ?m ?_ ?s; (case N => k_asm); (case x => first | assumption | exact ord_lt _ _); (case m => k_mem); (case s => with_unfolding_all rfl))
  | (refine' sub_ordN ?x ?N ?m ?y ?_ ?s; (case N => k_asm); (case x => assumption); (case m => k_mem); (case y => assumption); (case s => with_unfolding_all rfl); intro ti))))
def aboveL (st : Nat → Int) : Array Value := #[.bool (decide (0 < 0 + st 0)), .bool (decide (0 < 0 + st 0 + st 1)), .bool (decide (0 < 0 + st 0 + st 1 + st 2)), .bool (decide (0 < 0 + st 0 + st 1 + st 2 + st 3)), .bool (decide (0 < 0 + st 0 + st 1 + st 2 + st 3 + st 4))]
def Mid1 (h₀ : Heap) (L : Addr) (s s' : Shared) : Prop :=
  ∃ (h' : Heap) (tk : Nat) (la lt : Addr) (T : Nat → Addr) (nm : Nat → PySem.Str) (st : Nat → Int) (rp : Nat → PySem.Str) (t1 t2 t3 : Nat → Tok) (o1 o2 o3 : Obj) (z : Int) (tz td : Tok) (ov : PySem.Str → Option Value),
    s' = { s with heap := h', toks := tk } ∧ (∀ i, i < 5 → RowOk (nm i) (st i) (rp i)) ∧ (3 ≤ z ∧ z ≤ 6) ∧
    Fr h₀ L h' (fun y => if y = PySem.Str.ofString "depth" then some (.int (0 + st 0 + st 1 + st 2 + st 3 + st 4) td) else if y = PySem.Str.ofString "size" then some (.int z tz) else ov y) ∧
    News h₀ L h' [(la, W.listOf (aboveL st) 5), (T 4, rowO (nm 4) (st 4) (rp 4) (t1 4) (t2 4) (t3 4)), (T 3, rowO (nm 3) (st 3) (rp 3) (t1 3) (t2 3) (t3 3)), (T 2, rowO (nm 2) (st 2) (rp 2) (t1 2) (t2 2) (t3 2)), (T 1, rowO (nm 1) (st 1) (rp 1) (t1 1) (t2 1) (t3 1)), (T 0, rowO (nm 0) (st 0) (rp 0) (t1 0) (t2 0) (t3 0)),
      (lt, W.listOf #[.ref (T 0), .ref (T 1), .ref (T 2), .ref (T 3), .ref (T 4)] 5), (L + 1 + 1 + 1, o3), (L + 1 + 1, o2), (L + 1, o1)] ∧
    o1.data = .cell (some (.ref lt)) ∧ o2.data = .cell (some (.ref la)) ∧ o3.data = .cell none ∧
    (@LT.lt Nat _ (L + 1 + 1 + 1) lt ∧ @LT.lt Nat _ lt (T 0) ∧ @LT.lt Nat _ (T 0) (T 1) ∧ @LT.lt Nat _ (T 1) (T 2) ∧ @LT.lt Nat _ (T 2) (T 3) ∧ @LT.lt Nat _ (T 3) (T 4) ∧ @LT.lt Nat _ (T 4) la)
def Mid2 (w : World) (h₀ : Heap) (L : Addr) (s s' : Shared) : Prop :=
  ∃ (h' : Heap) (tk : Nat) (d lo df lt : Addr) (T : Nat → Addr) (nm : Nat → PySem.Str) (st : Nat → Int) (rp : Nat → PySem.Str) (t1 t2 t3 : Nat → Tok) (o1 o3 od : Obj) (zn : Nat) (tz td tl : Tok) (ov : PySem.Str → Option Value) (ys yf : List Value),
    s' = { s with heap := h', toks := tk } ∧ (∀ i, i < 5 → RowOk (nm i) (st i) (rp i)) ∧ (3 ≤ zn ∧ zn ≤ 6) ∧ IntsAre ys ((ordN st).map fun (k : Nat) => (k : Int)) ∧ yf.length = (frontL (ab st) 5).length ∧
    Fr h₀ L h' (fun y => if y = PySem.Str.ofString "line" then some (.int (lineAt st zn 0) tl) else if y = PySem.Str.ofString "order" then some (.ref lo) else if y = PySem.Str.ofString "front" then some (.ref df) else if y = PySem.Str.ofString "depth" then some (.int (dsum st 5) td) else if y = PySem.Str.ofString "size" then some (.int (zn : Int) tz) else ov y) ∧
    News h₀ L h' [(d, od), (lo, W.listOf ys.toArray 0), (df, W.listOf yf.toArray yf.length), (T 4, rowO (nm 4) (st 4) (rp 4) (t1 4) (t2 4) (t3 4)), (T 3, rowO (nm 3) (st 3) (rp 3) (t1 3) (t2 3) (t3 3)), (T 2, rowO (nm 2) (st 2) (rp 2) (t1 2) (t2 2) (t3 2)), (T 1, rowO (nm 1) (st 1) (rp 1) (t1 1) (t2 1) (t3 1)), (T 0, rowO (nm 0) (st 0) (rp 0) (t1 0) (t2 0) (t3 0)),
      (lt, W.listOf #[.ref (T 0), .ref (T 1), .ref (T 2), .ref (T 3), .ref (T 4)] 5), (L + 1 + 1 + 1, o3), (L + 1, o1)] ∧
    o1.data = .cell (some (.ref lt)) ∧ o3.data = .cell (some (.ref d)) ∧ od.IsDictOf (intKind PySem.Challenge.rw_zd0001_01.row.prog w) [] ∧ PyProof.V.FlatPairs PyData.int [] [] ∧ (d == sysModules) = false ∧
    (@LT.lt Nat _ (L + 1 + 1 + 1) lt ∧ @LT.lt Nat _ lt (T 0) ∧ @LT.lt Nat _ (T 0) (T 1) ∧ @LT.lt Nat _ (T 1) (T 2) ∧ @LT.lt Nat _ (T 2) (T 3) ∧ @LT.lt Nat _ (T 3) (T 4) ∧ @LT.lt Nat _ (T 4) lo ∧ @LT.lt Nat _ lo d ∧ @LT.lt Nat _ df lo) ∧
    (@Ne Nat (T 4) df ∧ @Ne Nat (T 3) df ∧ @Ne Nat (T 2) df ∧ @Ne Nat (T 1) df ∧ @Ne Nat (T 0) df ∧ @Ne Nat lt df ∧ @Ne Nat (L + 1 + 1 + 1) df ∧ @Ne Nat (L + 1) df)
def Mid3 (w : World) (h₀ : Heap) (L : Addr) (s s' : Shared) : Prop :=
  ∃ (h' : Heap) (tk : Nat) (lw d lo df lt : Addr) (T : Nat → Addr) (nm : Nat → PySem.Str) (st : Nat → Int) (rp : Nat → PySem.Str) (t1 t2 t3 : Nat → Tok) (o1 o3 od : Obj) (zn : Nat) (tz td : Tok) (ov : PySem.Str → Option Value) (ys yf ws : List Value) (kvs : List (Int × Value)) (cw : Nat),
    s' = { s with heap := h', toks := tk } ∧ (∀ i, i < 5 → RowOk (nm i) (st i) (rp i)) ∧ (3 ≤ zn ∧ zn ≤ 6) ∧ IntsAre ys ((ordN st).map fun (k : Nat) => (k : Int)) ∧ yf.length = (frontL (ab st) 5).length ∧
    Fr h₀ L h' (fun y => if y = PySem.Str.ofString "widths" then some (.ref lw) else if y = PySem.Str.ofString "order" then some (.ref lo) else if y = PySem.Str.ofString "front" then some (.ref df) else if y = PySem.Str.ofString "depth" then some (.int (dsum st 5) td) else if y = PySem.Str.ofString "size" then some (.int (zn : Int) tz) else ov y) ∧
    News h₀ L h' [(lw, W.listOf ws.toArray cw), (d, od), (lo, W.listOf ys.toArray 0), (df, W.listOf yf.toArray yf.length), (T 4, rowO (nm 4) (st 4) (rp 4) (t1 4) (t2 4) (t3 4)), (T 3, rowO (nm 3) (st 3) (rp 3) (t1 3) (t2 3) (t3 3)), (T 2, rowO (nm 2) (st 2) (rp 2) (t1 2) (t2 2) (t3 2)), (T 1, rowO (nm 1) (st 1) (rp 1) (t1 1) (t2 1) (t3 1)), (T 0, rowO (nm 0) (st 0) (rp 0) (t1 0) (t2 0) (t3 0)),
      (lt, W.listOf #[.ref (T 0), .ref (T 1), .ref (T 2), .ref (T 3), .ref (T 4)] 5), (L + 1 + 1 + 1, o3), (L + 1, o1)] ∧
    o1.data = .cell (some (.ref lt)) ∧ o3.data = .cell (some (.ref d)) ∧ od.IsDictOf (intKind PySem.Challenge.rw_zd0001_01.row.prog w) kvs ∧ LineKvs st zn 6 kvs ∧ (d == sysModules) = false ∧
    IntsAre ws [0, wAt st zn 0, wAt st zn 1, wAt st zn 2, wAt st zn 3, wAt st zn 4, wAt st zn 5] ∧
    (@LT.lt Nat _ (L + 1 + 1 + 1) lt ∧ @LT.lt Nat _ lt (T 0) ∧ @LT.lt Nat _ (T 0) (T 1) ∧ @LT.lt Nat _ (T 1) (T 2) ∧ @LT.lt Nat _ (T 2) (T 3) ∧ @LT.lt Nat _ (T 3) (T 4) ∧ @LT.lt Nat _ (T 4) lo ∧ @LT.lt Nat _ lo d ∧ @LT.lt Nat _ df lo ∧ @LT.lt Nat _ d lw) ∧
    (@Ne Nat (T 4) df ∧ @Ne Nat (T 3) df ∧ @Ne Nat (T 2) df ∧ @Ne Nat (T 1) df ∧ @Ne Nat (T 0) df ∧ @Ne Nat lt df ∧ @Ne Nat (L + 1 + 1 + 1) df ∧ @Ne Nat (L + 1) df)
def Mid4 (h₀ : Heap) (L : Addr) (s s' : Shared) : Prop :=
  ∃ (h' : Heap) (tk : Nat) (lb lo lt : Addr) (T : Nat → Addr) (nm : Nat → PySem.Str) (st : Nat → Int) (rp : Nat → PySem.Str) (t1 t2 t3 : Nat → Tok) (o1 : Obj) (td : Tok) (ov : PySem.Str → Option Value) (ys : List Value),
    s' = { s with heap := h', toks := tk } ∧ (∀ i, i < 5 → RowOk (nm i) (st i) (rp i)) ∧ IntsAre ys ((ordN st).map fun (k : Nat) => (k : Int)) ∧
    Fr h₀ L h' (fun y => if y = PySem.Str.ofString "back" then some (.ref lb) else if y = PySem.Str.ofString "order" then some (.ref lo) else if y = PySem.Str.ofString "depth" then some (.int (dsum st 5) td) else ov y) ∧
    News h₀ L h' [(lb, W.listOf #[] 0), (lo, W.listOf ys.toArray 0), (T 4, rowO (nm 4) (st 4) (rp 4) (t1 4) (t2 4) (t3 4)), (T 3, rowO (nm 3) (st 3) (rp 3) (t1 3) (t2 3) (t3 3)), (T 2, rowO (nm 2) (st 2) (rp 2) (t1 2) (t2 2) (t3 2)), (T 1, rowO (nm 1) (st 1) (rp 1) (t1 1) (t2 1) (t3 1)), (T 0, rowO (nm 0) (st 0) (rp 0) (t1 0) (t2 0) (t3 0)),
      (lt, W.listOf #[.ref (T 0), .ref (T 1), .ref (T 2), .ref (T 3), .ref (T 4)] 5), (L + 1, o1)] ∧
    o1.data = .cell (some (.ref lt)) ∧
    (@LT.lt Nat _ (L + 1 + 1 + 1) lt ∧ @LT.lt Nat _ lt (T 0) ∧ @LT.lt Nat _ (T 0) (T 1) ∧ @LT.lt Nat _ (T 1) (T 2) ∧ @LT.lt Nat _ (T 2) (T 3) ∧ @LT.lt Nat _ (T 3) (T 4) ∧ @LT.lt Nat _ (T 4) lo ∧ @LT.lt Nat _ lo lb)
local macro_rules | `(tactic| walk_at "setItem ref int") => `(tactic| (k_here; (have z9 : LatePart := by with_reducible assumption); clear z9; k_dflt (refine' set_line ?F ?N ?U ?d ?k ?n ?e ?_; (case F => k_asm); (case N => k_asm); (case U => k_updF); (case d => k_asm); (case k => assumption); (case n => omega); (case e => omega)); intro h' o' kvs' F' N' hd' hk'))
local macro_rules | `(tactic| walk_at "call builtin:len") => `(tactic| (k_here; (have z9 : LatePart := by with_reducible assumption); clear z9; (with_reducible show wpAny _ _ (call (Value.builtin "len") [Value.ref _]) _ _ _); k_dflt (refine' len_front ?N ?l ?f ?h ?_; (case N => k_asm); (case l => k_mem); (case f => assumption); (case h => assumption)); intro tl' kl'))
local macro_rules | `(tactic| walk_at "binaryOp Add ref ref") => `(tactic| (k_here; (have z9 : LatePart := by with_reducible assumption); clear z9; (with_reducible show wpAny _ _ (binaryOp Operator.Add (Value.ref _) (Value.ref _)) _ _ _); k_dflt (refine' add_small ?F ?N ?a ?b ?i ?j ?z ?_; (case F => k_asm); (case N => k_asm); (case a => k_mem); (case b => k_mem); (case i => first | assumption | exact .cons _ _ .nil); (case j => first | assumption | exact .cons _ _ .nil); (case z => ((simp only [List.length_append, List.length_replicate, List.length_cons, List.length_nil]); omega))); intro D' h' ws' hI' F' N' l1; (try k_lt l1)))
local macro_rules | `(tactic| walk_at "compareOp NotEq ref ref") => `(tactic| (k_here; (have z9 : LatePart := by with_reducible assumption); clear z9; (with_reducible show wpAny _ _ (compareOp CmpOp.NotEq (Value.ref _) (Value.ref _)) _ _ _); k_dflt (refine' ne_ints_same ?N ?a ?b ?i ?j ?u ?e ?_; (case N => k_asm); (case a => k_mem); (case b => k_mem); (case i => assumption); (case j => assumption); (case u => units_room); (case e => assumption))))
local macro_rules | `(tactic| walk_at "call ref") => `(tactic| (k_here; (have z9 : LatePart := by with_reducible assumption); clear z9; (with_reducible show wpAny _ _ (call (Value.ref 38) _) _ _ _); k_dflt (refine wpAny_call ?_; refine' width_lessK ?st ?z ?m ?i ?sm ?v ?B ?F ?X ?N ?T ?e ?f ?_; (case N => k_asm); (case st => assumption); (case z => assumption); (case m => k_mem); (case i => k_asm); (case sm => assumption); (case v => assumption); (case B => k_asm); (case F => k_asm); (case X => k_asm); (case T => k_asm); (case e => rfl); (case f => rfl)); intro h' tk' k' F' N'; (try dsimp only)))
local macro_rules | `(tactic| walk_at "binaryOp Mult ref int") => `(tactic| (k_here; (have z9 : LatePart := by with_reducible assumption); clear z9; (with_reducible show wpAny _ _ (binaryOp Operator.Mult (Value.ref _) (Value.int _ _)) _ _ _); k_dflt (refine' mul_one ?F ?N ?l ?lo ?hi ?_; (case F => k_asm); (case N => k_asm); (case l => k_mem); (case lo => omega); (case hi => omega)); intro D' h' ws' hI' hl' F' N' l1; (try k_lt l1)))
local macro_rules | `(tactic| walk_at "call ref") => `(tactic| (k_here; (have z9 : LatePart := by with_reducible assumption); clear z9; (with_reducible show wpAny _ _ (call (Value.ref 83) [Value.bytes _ _]) _ _ _); k_dflt (refine wpAny_call ?_; refine' paren_rep1 ?r ?B ?F ?X ?N ?T ?e ?f ?_; (case r => exact rep_ok (‹∀ i, i < 5 → RowOk _ _ _› _ (by assumption))); (case B => k_asm); (case F => k_asm); (case X => k_asm); (case N => k_asm); (case T => k_asm); (case e => rfl); (case f => rfl)); intro h' tk' k' F' N'; (try dsimp only)))
local macro_rules | `(tactic| walk_at "compareOp NotEq ref ref") => `(tactic| (k_here; (have z9 : LatePart := by with_reducible assumption); clear z9; (with_reducible show wpAny _ _ (compareOp CmpOp.NotEq (Value.ref _) (Value.ref _)) _ _ _); k_dflt (refine' ne_ints_is ?N ?a ?b ?i ?j ?u ?e ?_; (case N => k_asm); (case a => k_mem); (case b => k_mem); (case i => assumption); (case j => exact .nil); (case u => units_room); (case e => assumption))))
local macro_rules | `(tactic| walk_at "compareOp Eq ref ref") => `(tactic| (k_here; (have z9 : LatePart := by with_reducible assumption); clear z9; (with_reducible show wpAny _ _ (compareOp CmpOp.Eq (Value.ref _) (Value.ref _)) _ _ _); k_dflt (refine' eq_ints_same ?N ?a ?b ?i ?j ?u ?e ?_; (case N => k_asm); (case a => k_mem); (case b => k_mem); (case i => assumption); (case j => exact .cons _ _ (.cons _ _ (.cons _ _ (.cons _ _ (.cons _ _ .nil))))); (case u => units_room); (case e => rfl))))
local macro_rules | `(tactic| walk_at "call builtin:list.pop") => `(tactic| (k_here; (have z9 : LatePart := by with_reducible assumption); clear z9; k_dflt (first
  | (refine' pop_front ?F ?N ?U ?z ?_; (case F => k_asm); (case N => k_asm); (case U => k_upd); (case z => assumption))
  | (refine' pop_end ?F ?N ?U ?z ?_; (case F => k_asm); (case N => k_asm); (case U => k_upd); (case z => assumption))); intro h' F' N'; (try dsimp only [List.nil_append, List.cons_append] at N')))
set_option rowWalk.seconds 0
set_option maxHeartbeats 40000000 in
theorem law : PySem.Challenge.rw_zd0001_01.Holds := by
  apply hd
  k_go0
  (all_goals try k_fold)
  (with_reducible rename Fr _ _ _ _ => F0)
  refine' cut_fr F0 _ 5 Mid1 ?first ?second
  case first =>
    repeat' ((fail_if_success (with_reducible show wpAny _ _ (exec (Stmt.For _ _ _ _ _) _) _ _ _)); first | (k_unfold; (try dsimp only)) | (k_end; kc_close) | walk1 | (dsimp only; walk1) | (leave1; walk_say "STEP leave1"; try dsimp only))
    (with_reducible rename Fr _ _ _ _ => F8)
    with_unfolding_all refine' For_turns F8 ?_
    repeat' (first | (k_unfold; (try dsimp only)) | (k_end; kc_close) | walk1 | (dsimp only; walk1))
    (with_reducible rename Fr _ _ _ _ => Fz)
    (with_reducible rename News _ _ _ _ => Nz)
    (try dsimp only)
    refine' wpAny_execs_nil ⟨rfl, _, _, ?u1zla, ?u1zlt, ?u1zT, ?u1znm, ?u1zst, ?u1zrp, ?u1zt1, ?u1zt2, ?u1zt3, ?u1zo1, ?u1zo2, ?u1zo3, ?u1zz, ?u1ztz, ?u1ztd, ?u1zov, rfl, ?u1zhok, ?u1zhz, Fr_as Fz (name_map ?u1za (name_map ?u1zb rfl)), news_add (list_is ?u1zm1 ?u1ze1 ?u1ze2) Nz (news_add ?u1zm2 Nz (news_add ?u1zm3 Nz (news_add ?u1zm4 Nz (news_add ?u1zm5 Nz (news_add ?u1zm6 Nz (news_add (list_is ?u1zm7 ?u1ze3 ?u1ze4) Nz (news_add ?u1zm8 Nz (news_add ?u1zm9 Nz (news_add ?u1zma Nz News.nil))))))))), ?u1zd1, ?u1zd2, ?u1zd3, ?u1zlt9⟩
    case u1zhok => assumption
    case u1za => exact rfl
    case u1zb => exact rfl
    case u1zhz => exact size_bound _
    case u1zm8 => k_mem
    case u1zm9 => k_mem
    case u1zma => k_mem
    case u1zd1 => assumption
    case u1zd2 => assumption
    case u1zd3 => assumption
    case u1zm1 => k_mem
    case u1ze1 => rfl
    case u1ze2 => rfl
    case u1zm7 => k_mem
    case u1ze3 => rfl
    case u1ze4 => rfl
    case u1zm2 => k_mem
    case u1zm3 => k_mem
    case u1zm4 => k_mem
    case u1zm5 => k_mem
    case u1zm6 => k_mem
    case u1zlt9 => refine ⟨?_, ?_, ?_, ?_, ?_, ?_, ?_⟩ <;> omega
  case second =>
    rintro s' ⟨h', tk, la, lt, T, nm, st, rp, t1, t2, t3, o1, o2, o3, z, tz, td, ov, rfl, hok, hz, F', N', d1, d2, d3, hlt⟩
    clear F0
    (with_reducible rename World => w9)
    refine' cut_fr F' _ 4 (Mid2 w9) ?first2 ?second2
    case first2 =>
      obtain ⟨zn, rfl⟩ := Int.eq_ofNat_of_zero_le (Int.le_trans (show (0 : Int) ≤ 3 by decide) hz.1)
      repeat' ((fail_if_success (with_reducible show wpAny _ _ (exec (Stmt.Assign _ (Expr.ListComp _ _ _ _) _) _) _ _ _)); first | (k_unfold; (try dsimp only)) | (k_end; kc_close) | walk1 | (dsimp only; walk1))
      refine' assign_compR F' rfl ?u2zsw ?u2zclos ?u2zcell ?u2zkind ?u2znames ?u2zx ?u2zy ?u2zp ?u2zh
      case u2zsw => with_unfolding_all rfl
      case u2zclos => with_unfolding_all rfl
      case u2zcell => decide
      case u2zkind => rfl
      case u2znames => decide
      case u2zx => rfl
      case u2zy => rfl
      case u2zp => rfl
      repeat' ((fail_if_success (with_reducible show wpAny _ _ (call _ _) _ _ _)); first | (k_unfold; (try dsimp only)) | (k_end; kc_close) | walk1 | (dsimp only; walk1))
      (with_reducible rename Fr _ _ _ _ => Fr9)
      (with_reducible rename News _ _ _ _ => Nr9)
      refine range3_rows Fr9 Nr9 (by decide) fun hr tkr t9 u9 v9 R9 Fa Na _ => ?_
      refine ⟨_, 4, -1, -1, _, _, _, 5, _, rfl, rfl, Fa, Na, R9, by decide +kernel, by decide +kernel, by rw [PySem.sizeLine_eq]; decide, fun g => compT_ints (fun i => 4 + (i : Int) * -1) (fun i => ab st (4 - i)) 5 ?u2ztest ?u2zelm ?u2zfin 5 0 [] [] rfl .nil rfl⟩
      case u2ztest =>
        intro i v I oI C oC D m₂ h2 tk2 ys E' Q hi hP hns hv F2 N2 off ne hQ
        obtain ⟨tv, rfl⟩ := hP
        clear Fr9 Nr9 R9 Fa Na
        repeat' (first | (k_unfold; (try dsimp only)) | (k_end; kc_close) | walk1 | (dsimp only; walk1))
        all_goals first
          | (have e9 : i = 4 := by omega
             subst e9; exact hQ _ _ (by assumption) (by assumption))
          | (have e9 : i = 3 := by omega
             subst e9; exact hQ _ _ (by assumption) (by assumption))
          | (have e9 : i = 2 := by omega
             subst e9; exact hQ _ _ (by assumption) (by assumption))
          | (have e9 : i = 1 := by omega
             subst e9; exact hQ _ _ (by assumption) (by assumption))
          | (have e9 : i = 0 := by omega
             subst e9; exact hQ _ _ (by assumption) (by assumption))
      case u2zelm =>
        intro i v I oI C oC D m₂ h2 tk2 ys E' Q hi hP hns hv F2 N2 off ne hQ
        obtain ⟨tv, rfl⟩ := hP
        clear Fr9 Nr9 R9 Fa Na
        repeat' (first | (k_unfold; (try dsimp only)) | (k_end; kc_close) | walk1 | (dsimp only; walk1))
        exact hQ _ _ _ (by assumption) (by assumption)
      case u2zfin =>
        intro ys hys D h3 tk3 F3 N3 off3
        rw [coll_front] at hys
        clear Fr9 Nr9 R9 Fa Na
        repeat' ((fail_if_success (with_reducible show wpAny _ _ (eval (Expr.ListComp _ _ _ _) _) _ _ _)); first | (k_unfold; (try dsimp only)) | (k_end; kc_close) | walk1 | (dsimp only; walk1))
        (with_reducible rename Fr _ _ _ _ => F4)
        refine' LCt.ListComp_T F4 ?u2yclos ?u2ycell ?u2ykind ?u2ynames ?u2yx ?u2yh
        case u2yclos => with_unfolding_all rfl
        case u2ycell => decide
        case u2ykind => rfl
        case u2ynames => decide
        case u2yx => rfl
        repeat' ((fail_if_success (with_reducible show wpAny _ _ (call _ _) _ _ _)); first | (k_unfold; (try dsimp only)) | (k_end; kc_close) | walk1 | (dsimp only; walk1))
        (with_reducible rename Fr _ _ _ _ => Fr9)
        (with_reducible rename News _ _ _ _ => Nr9)
        refine range1_rows Fr9 Nr9 fun hr tkr t9 u9 v9 R9 Fa Na _ => ?_
        refine LCt.CompSrcT.range rfl Fa Na R9 (by decide +kernel) (n := 5) (by decide +kernel) (by rw [PySem.sizeLine_eq]; decide) fun g => compT_ints (fun i => 0 + (i : Int)) (fun i => !ab st i) 5 ?u2ytest ?u2yelm ?u2yfin 5 0 [] [] rfl .nil rfl
        case u2ytest =>
          intro i v I oI C oC D m₂ h2 tk2 ys E' Q hi hP hns hv F2 N2 off ne hQ
          obtain ⟨tv, rfl⟩ := hP
          clear Fr9 Nr9 R9 Fa Na
          repeat' (first | (k_unfold; (try dsimp only)) | (k_end; kc_close) | walk1 | (dsimp only; walk1))
          all_goals first
            | (have e9 : i = 4 := by omega
               subst e9; exact hQ _ _ (by assumption) (by assumption))
            | (have e9 : i = 3 := by omega
               subst e9; exact hQ _ _ (by assumption) (by assumption))
            | (have e9 : i = 2 := by omega
               subst e9; exact hQ _ _ (by assumption) (by assumption))
            | (have e9 : i = 1 := by omega
               subst e9; exact hQ _ _ (by assumption) (by assumption))
            | (have e9 : i = 0 := by omega
               subst e9; exact hQ _ _ (by assumption) (by assumption))
        case u2yelm =>
          intro i v I oI C oC D m₂ h2 tk2 ys E' Q hi hP hns hv F2 N2 off ne hQ
          obtain ⟨tv, rfl⟩ := hP
          clear Fr9 Nr9 R9 Fa Na
          repeat' (first | (k_unfold; (try dsimp only)) | (k_end; kc_close) | walk1 | (dsimp only; walk1))
          exact hQ _ _ _ (by assumption) (by assumption)
        case u2yfin =>
          intro ys2 hys2 D2 h4 tk4 F5 N5 off5
          rw [coll_back1] at hys2
          clear Fr9 Nr9 R9 Fa Na
          change News _ _ _ ((D2, W.listOf ys2.toArray ys2.length) :: (D, W.listOf ys.toArray ys.length) :: _) at N5
          have hfb := fb_len (ab st) 5
          have hf5 : (List.map (fun (k : Nat) => (k : Int)) (frontL (ab st) 5)).length ≤ 5 := by rw [List.length_map]; omega
          have hb5 : (List.map (fun (k : Nat) => (k : Int)) (backL (ab st) 5)).length ≤ 5 := by rw [List.length_map]; omega
          repeat' ((fail_if_success (with_reducible show wpAny _ _ (eval (Expr.ListComp _ _ _ _) _) _ _ _)); first | (k_unfold; (try dsimp only)) | (k_end; kc_close) | walk1 | (dsimp only; walk1))
          (with_reducible rename Fr _ _ _ _ => F6)
          (with_reducible rename News _ _ _ _ => N6)
          refine' LCg.ListComp_U F6 ?u2xclos ?u2xcell ?u2xkind ?u2xnames ?u2xx ?u2xh
          case u2xclos => with_unfolding_all rfl
          case u2xcell => decide
          case u2xkind => rfl
          case u2xnames => decide
          case u2xx => rfl
          repeat' ((fail_if_success (with_reducible show LCg.CompSrc _ _ _ _ _ _ _ _ _ _ _ _ _ _)); first | (k_unfold; (try dsimp only)) | (k_end; kc_close) | walk1 | (dsimp only; walk1))
          (with_reducible rename Fr _ _ _ _ => Fr9)
          (with_reducible rename News _ _ _ _ => Nr9)
          have hlen9 : ys.length = (frontL (ab st) 5).length := by rw [hys.length, List.length_map]
          refine LCg.CompSrc.ledger rfl Fr9 Nr9 (by first | k_mem | (simp only [List.mem_cons]; simp)) (its := ys.toArray) (k := ys.length) (by rw [List.size_toArray, PySem.sizeLine_eq]; omega) fun g => comp_ints (.inr ⟨_, by k_mem, rfl, _, rfl⟩) (fun i => st ((frontL (ab st) 5).getD i 0)) ys.toArray.size ?u2xelm ?u2xfin ys.toArray.size 0 [] [] rfl .nil rfl
          case u2xelm =>
            intro i v I oI C oC D m₂ h2 tk2 ys E' Q hi hP hns hv F2 N2 off ne hQ
            have hx : ∃ t, v = Value.int (((frontL (ab st) 5).getD i 0 : Nat) : Int) t := by
              rw [← getD_cast]
              exact ints_getD hys (by simpa using hP)
            obtain ⟨tv, rfl⟩ := hx
            have hx5 : (frontL (ab st) 5).getD i 0 < 5 := getD_lt (fun k hk => mem_front hk) i
            generalize (frontL (ab st) 5).getD i 0 = x9 at hv hx5 hQ ⊢
            clear Fr9 Nr9
            repeat' (first | (k_unfold; (try dsimp only)) | (k_end; kc_close) | walk1 | (dsimp only; walk1))
            all_goals first
              | (have e9 : x9 = 0 := by omega
                 subst e9; exact hQ _ _ _ (by assumption) (by assumption))
              | (have e9 : x9 = 1 := by omega
                 subst e9; exact hQ _ _ _ (by assumption) (by assumption))
              | (have e9 : x9 = 2 := by omega
                 subst e9; exact hQ _ _ _ (by assumption) (by assumption))
              | (have e9 : x9 = 3 := by omega
                 subst e9; exact hQ _ _ _ (by assumption) (by assumption))
              | (have e9 : x9 = 4 := by omega
                 subst e9; exact hQ _ _ _ (by assumption) (by assumption))
          case u2xfin =>
            intro ys3 hys3 D3 h5 tk5 F7 N7 off7
            have hn9 : ys.toArray.size = (frontL (ab st) 5).length := by rw [List.size_toArray]; exact hlen9
            rw [hn9, coll_all (frontL (ab st) 5) st (frontL (ab st) 5).length 0 (by omega), List.drop_zero] at hys3
            clear Fr9 Nr9
            simp only [LCg.Off1, and_true] at off3 off5 off7
            have hs5 : (List.map st (frontL (ab st) 5)).length ≤ 5 := by rw [List.length_map]; omega
            repeat' (first | (k_unfold; (try dsimp only)) | (k_end; kc_close) | walk1 | (dsimp only; walk1))
            (try dsimp only)
            (with_reducible rename Fr _ _ _ _ => Fz)
            (with_reducible rename News _ _ _ _ => Nz)
            refine' wpAny_execs_nil ⟨rfl, _, _, ?u2zdd, ?u2zlo, D, lt, T, nm, st, rp, t1, t2, t3, o1, ?u2zo3, ?u2zod, zn, tz, td, ?u2ztl, ?u2zov, ?u2zys, ys, rfl, hok, ⟨by omega, by omega⟩, ord_ints ?u2zhys, hlen9, Fr_as Fz (name_map ?u2za (name_map ?u2zb (name_map ?u2zc (name_map ?u2zd (name_map ?u2ze rfl))))), ?u2zn, d1, ?u2zd3, ?u2zhid, ?u2zhfid, ?u2zsm, ?u2zo, ?u2zne⟩
            case u2za =>
              refine line_val ?_
              exact if_pos rfl
            case u2zb => exact rfl
            case u2zc => exact rfl
            case u2zd => exact rfl
            case u2ze => exact rfl
            case u2zhys => assumption
            case u2zd3 => assumption
            case u2zhid => k_asm
            case u2zhfid => assumption
            case u2zsm => assumption
            case u2zn =>
              repeat refine news_add (by k_mem) Nz ?_
              exact News.nil
            case u2zo =>
              obtain ⟨q1, q2, q3, q4, q5, q6, q7⟩ := hlt
              exact ⟨q1, q2, q3, q4, q5, q6, by omega, by omega, by omega⟩
            case u2zne =>
              obtain ⟨_, e4, e3, e2, e1, e0, el, e13, _, e11⟩ := off3
              exact ⟨e4, e3, e2, e1, e0, el, e13, e11⟩
    case second2 =>
      clear F' N' hlt d1 d2 d3 hok hz
      have mrk : LatePart := trivial
      rintro s' ⟨h', tk, d, lo, df, lt, T, nm, st, rp, t1, t2, t3, o1, o3, od, zn, tz, td, tl, ov, ys, yf, rfl, hok, hz, hys, hyf, F', N', d1, d3, hid, hfid, hsm, hlt, hne⟩
      refine' cut_fr F' _ 4 (Mid3 w9) ?first3 ?second3
      case first3 =>
        have hst9 := row_st hok
        have hk0 := LineKvs.nil st zn
        (with_reducible rename Shared => s9)
        repeat' ((fail_if_success (with_reducible show wpAny _ _ (exec (Stmt.For _ _ _ _ _) _) _ _ _)); first | (k_unfold; (try dsimp only)) | (k_end; kc_close) | walk1 | (dsimp only; walk1))
        (with_reducible rename Fr _ _ _ _ => F8)
        refine' For_invVF F8 rfl rfl ?_
        repeat' ((fail_if_success (with_reducible show wpAny _ _ (pyIter _) _ _ _)); first | (k_unfold; (try dsimp only)) | (k_end; kc_close) | walk1 | (dsimp only; walk1))
        (with_reducible rename Fr _ _ _ _ => Fb)
        (with_reducible rename News _ _ _ _ => Nb)
        (with_reducible rename IsRange _ _ _ _ _ _ _ _ => Rb)
        refine' iter_rangeJ (n := 5) rfl Fb Nb Rb (by decide) (lJ _ _ st zn _ _ _ _) ?u3zh0 ?u3zturn ?u3zdone
        case u3zh0 =>
          refine' lJ_start ?u3zq1 ?u3zq2 ?u3zq3 ?u3zq4
          case u3zq4 => exact rfl
          case u3zq1 => exact .cons _ _ (.cons _ _ .nil)
          case u3zq2 => assumption
          case u3zq3 => assumption
        case u3zturn =>
          intro I oI i ti m₁ news₁ h₁ tk₁ hcls hi hJ hoff F₁ N₁
          obtain ⟨ws, cw, od2, kvs2, tl2, op, hws, hd2, hk2, rfl, rfl⟩ := hJ
          have hwl : ws.length ≤ 7 := by rw [hws.length, wsL_len]; omega
          have hIw := hoff _ (List.mem_cons_self ..)
          have hId := hoff _ (List.mem_cons_of_mem _ (List.mem_cons_self ..))
          have hIw2 := Ne.symm hIw
          have hId2 := Ne.symm hId
          clear Fb Nb Rb hid hk0
          dsimp only at hIw hId hIw2 hId2
          repeat' (first | (k_unfold; (try dsimp only)) | (k_end; kc_close) | walk1 | (dsimp only; walk1))
          exact place_turn hoff hws (by assumption) (by assumption) (by assumption) (by assumption) rfl
        case u3zdone =>
          intro hd1 tkd md newsd Fd Nd hJ
          obtain ⟨ws, cw, od2, kvs2, tl2, op, hws, hd2, hk2, rfl, rfl⟩ := hJ
          clear Fb Nb Rb hid hk0
          (try dsimp only)
          refine' wpAny_execs_nil ⟨rfl, _, _, ?u3zlw, d, lo, df, lt, T, nm, st, rp, t1, t2, t3, o1, o3, ?u3zod, zn, tz, td, _, ys, yf, ?u3zws, ?u3zkvs, ?u3zcw, rfl, hok, hz, hys, hyf, Fr_as Fd (name_map ?u3za (name_map ?u3zb (name_map ?u3zc (name_map ?u3zd (name_map ?u3ze rfl))))), ?u3zn, d1, d3, hd2, hk2, hsm, hws, ?u3zo, hne⟩
          case u3za => exact rfl
          case u3zb => exact rfl
          case u3zc => exact rfl
          case u3zd => exact rfl
          case u3ze => exact rfl
          case u3zn => exact Nd
          case u3zo =>
            obtain ⟨q1, q2, q3, q4, q5, q6, q7, q8, q9⟩ := hlt
            exact ⟨q1, q2, q3, q4, q5, q6, q7, q8, q9, by omega⟩
      case second3 =>
        clear F' N' hid hfid hys hyf d1 d3 hsm hlt hne hok hz
        rintro s' ⟨h', tk, lw, d, lo, df, lt, T, nm, st, rp, t1, t2, t3, o1, o3, od, zn, tz, td, ov, ys, yf, ws, kvs, cw, rfl, hok, hz, hys, hyf, F', N', d1, d3, hid, hkv, hsm, hws, hlt, hne⟩
        refine' cut_fr F' _ 3 Mid4 ?first4 ?second4
        case first4 =>
          have hst9 := row_st hok
          have hfb := fb_len (ab st) 5
          obtain ⟨f9, hf9⟩ : ∃ f, (frontL (ab st) 5).length = f := ⟨_, rfl⟩
          rw [hf9] at hyf hfb
          have hf5 : f9 ≤ 5 := by omega
          have hw9 := widths_eq st zn f9 hf9 hf5
          repeat' ((fail_if_success (with_reducible show wpAny _ _ (eval (Expr.DictComp _ _ _ _ _) _) _ _ _)); first | (k_unfold; (try dsimp only)) | (k_end; kc_close) | walk1 | (dsimp only; walk1))
          (with_reducible rename Fr _ _ _ _ => F9)
          (with_reducible rename News _ _ _ _ => N9)
          refine' less_comp (f := lineAt st zn) (n := 6) F9 N9 (modules_low (Top.nolimit (by k_asm))) rfl ?u4ymem hid hkv (by decide) hsm ?u4ycm d3 ?u4ycl ?u4yclos ?u4ycell ?u4ykind ?u4ynames ?u4yx ?u4yfree ?u4yb1 ?u4yb3 ?u4yout ?u4yfin
          case u4ymem => k_mem
          case u4ycm => k_mem
          case u4yclos => with_unfolding_all rfl
          case u4ycl => rfl
          case u4ycell => decide
          case u4ykind => rfl
          case u4ynames => decide
          case u4yx => rfl
          case u4yfree => (intro C; with_unfolding_all rfl)
          case u4yb1 => decide
          case u4yb3 => decide
          case u4yout =>
            walk1
            exact ⟨rfl, rfl⟩
          case u4yfin =>
            intro D8 o8 h8 tk8 kvs8 F8 N8 l8 hsm8 hd8 hf8
            k_lt l8
            clear F9 N9
            repeat' (first | (k_unfold; (try dsimp only)) | (k_end; kc_close) | walk1 | (dsimp only; walk1))
            (with_reducible rename Fr _ _ _ _ => Fz)
            (with_reducible rename News _ _ _ _ => Nz)
            refine' wpAny_execs_nil ⟨rfl, _, _, ?u4zlb, lo, lt, T, nm, st, rp, t1, t2, t3, o1, td, _, ys, rfl, hok, hys, Fr_as Fz (name_map ?u4za (name_map ?u4zb (name_map ?u4zc rfl))), ?u4zn, d1, ?u4zo⟩
            case u4za => exact rfl
            case u4zb => exact rfl
            case u4zc => exact rfl
            case u4zn =>
              repeat refine news_add (by k_mem) Nz ?_
              exact News.nil
            case u4zo => refine ⟨?_, ?_, ?_, ?_, ?_, ?_, ?_, ?_⟩ <;> omega
        case second4 =>
          clear F' N' hys hyf d1 d3 hid hkv hsm hws hlt hne hok hz
          rintro s' ⟨h', tk, lb, lo, lt, T, nm, st, rp, t1, t2, t3, o1, td, ov, ys, rfl, hok, hys, F', N', d1, hlt⟩
          repeat' ((fail_if_success (with_reducible show wpAny _ _ (exec (Stmt.While _ _ _ _) _) _ _ _)); first | (k_unfold; (try dsimp only)) | (k_end; kc_close) | walk1 | (dsimp only; walk1))
          (with_reducible rename Shared => s9)
          (with_reducible rename Fr _ _ _ _ => F9)
          (with_reducible rename News _ _ _ _ => N9)
          refine' While_inv2 (wJ st lb lo (fun y => if y = PySem.Str.ofString "back" then some (.ref lb) else if y = PySem.Str.ofString "order" then some (.ref lo) else if y = PySem.Str.ofString "depth" then some (.int (dsum st 5) td) else ov y) [(T 4, rowO (nm 4) (st 4) (rp 4) (t1 4) (t2 4) (t3 4)), (T 3, rowO (nm 3) (st 3) (rp 3) (t1 3) (t2 3) (t3 3)), (T 2, rowO (nm 2) (st 2) (rp 2) (t1 2) (t2 2) (t3 2)), (T 1, rowO (nm 1) (st 1) (rp 1) (t1 1) (t2 1) (t3 1)), (T 0, rowO (nm 0) (st 0) (rp 0) (t1 0) (t2 0) (t3 0)), (lt, W.listOf #[.ref (T 0), .ref (T 1), .ref (T 2), .ref (T 3), .ref (T 4)] 5), (s9.heap.objs.size + 1, o1)]) (n₀ := 5) F9 N9 ?u5wJ0 ?u5wturn ?u5wE
          case u5wJ0 => exact ⟨Nat.le_refl 5, ys, [], 0, 0, td, _, hys, .nil, wMap_start (by simp [show PySem.Str.ofString "depth" ≠ PySem.Str.ofString "back" by decide +kernel, show PySem.Str.ofString "depth" ≠ PySem.Str.ofString "order" by decide +kernel]), rfl⟩
          case u5wturn =>
            rintro n m₁ news₁ h₁ tk₁ F₁ N₁ ⟨hn5, ys1, bs1, co, cb, td1, ot, hys1, hbs1, rfl, rfl⟩
            clear F9 N9
            cases n with
            | zero =>
              have e8 : (!decide (restL st 0 = ([] : List Int))) = false := rfl
              repeat' (first | (k_unfold; (try dsimp only)) | (k_end; kc_close) | walk1 | (dsimp only; walk1))
            | succ k =>
              have hk5 : k < 5 := by omega
              have e8 : (!decide (restL st (k + 1) = ([] : List Int))) = true := by
                have := restL_len st (k + 1)
                cases e : restL st (k + 1) with
                | nil => rw [e] at this; cases this
                | cons a l => simp
              have hbl : bs1.length ≤ 5 := by rw [hbs1.length]; exact doneL_len _
              have hrl : (restL st k).length ≤ 5 := by rw [restL_len]; omega
              by_cases hp : 0 < dsum st (k + 1)
              · rw [restL_pos hp] at hys1 e8
                obtain ⟨tq, vs, rfl, hr⟩ := ints_cons_inv hys1
                have hrz : vs.length ≤ 100 := by rw [hr.length]; omega
                repeat' (first | (k_unfold; (try dsimp only)) | (k_end; kc_close) | walk1 | (dsimp only; walk1))
                exact while_turn hk5 hr hbs1 (by assumption) (by assumption) rfl
              · rw [restL_neg hp] at hys1 e8
                obtain ⟨rq, tq, rfl, hr⟩ := ints_snoc_inv hys1
                have hrz : rq.length ≤ 100 := by rw [hr.length]; omega
                repeat' (first | (k_unfold; (try dsimp only)) | (k_end; kc_close) | walk1 | (dsimp only; walk1))
                exact while_turn hk5 hr hbs1 (by assumption) (by assumption) rfl
          case u5wE => passes_own
end Mine
end
set_option maxHeartbeats 8000000 in
theorem PySem.Challenge.cw_zd0001_01_holds : PySem.Challenge.rw_zd0001_01.Holds := by
  exact Mine.law
