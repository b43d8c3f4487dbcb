import PyProof.Rows.All
import Wide.All
import OpenK.AllK
import Wide.FinOn
import Lean
import PySem.Challenge.RW_ku0037_01
set_option Elab.async false
section
open PySem PySem.W PyProof.Rows
set_option maxRecDepth 100000
set_option maxHeartbeats 8000000
namespace Mine
open_top hd for PySem.Challenge.rw_ku0037_01
end Mine
end
section
open PySem PySem.W PyProof.Rows PySem.Calls
set_option maxRecDepth 100000
namespace Mine

section
variable {prog : Program} {w : World} {A A₀ : Around} {E : Value → Shared → Prop} {s : Shared} {K : Frag} {L : Addr} {h₀ base : Heap} {m mg mb : Str → Option Value} {own rest : List (Addr × Obj)} {p : Program} {loose : List Str} {mean : ExcName → Option Value}

/-- a call's ground, with the ledger parted: `own` goes into the callee's ledger, `rest` is kept. -/
theorem code_defP {env : Env} {outer : List Env} {R : Result → Shared → Prop} {name qual : Str} {params : Arguments} {body : List Stmt} {scope : Scope} {dV kV doc pm cdv ct oc : Value} {an od : Option Addr} {osl : Array (Option Value)} {f : Addr} {args : Args} {binds : List (Str × Value)}
    (B : Below A₀ base outer h₀) (F : Fr h₀ L s.heap m) (X₀ : K.In h₀) (N : News h₀ L s.heap own) (Nr : News h₀ L s.heap rest) (hoff : ∀ q ∈ rest, q.1 ∉ own.map (·.1)) (T : Top p loose mean mg mb h₀) (hA : A.frames = some (env :: outer)) (hf : env.frame = some L) (hke : env.scope.kind = .function)
    (ho : K.lookup f = some ⟨oc, od, .func (fnOf name qual params body scope dV kV doc pm an cdv ct), osl⟩) (hcd : codeIn K cdv qual = true) (hroom : A.depth < recursionLimit)
    (hbind : BindsTo s (fnOf name qual params body scope dV kV doc pm an cdv ct) args binds) (hloc : ∀ y ∈ binds, scope.names.lookup y.1 = some .local)
    (h : ∀ g L' h₁, (∀ b o, s.heap.get? b = some o → b ∉ own.map (·.1) → g.get? b = some o) → Fr h₀ L g m → Fr g L' h₁ (fun y => binds.reverse.lookup y) → News g L' h₁ own → Below A base (env :: outer) g → K.In g → Top p loose mean mg mb g →
      wpAny (model prog w) (A.deeper (envOf qual scope L' f cdv)) (execs body (envOf qual scope L' f cdv))
        (fun fl s' => LeaveK h₀ L m g (fun r s'' => News h₀ L s''.heap rest → R r s'') (match fl with | .ret v => v | _ => .none) s')
        (fun e s' => wpAny (model prog w) (A.deeper (envOf qual scope L' f cdv)) (leaving (envOf qual scope L' f cdv) e) (fun _ s'' => R (.error e) s'') (fun e' s'' => R (.error e') s'') s')
        { s with heap := h₁, toks := s.toks + binds.length })
    (hco : scope.isCoroutine = false) (hgen : scope.isGenerator = false) (hk : scope.kind = .function)
    (hcell : ∀ x ∈ scope.names, x.2 ≠ .cell) : codeAny (model prog w) A (.call (.ref f) args) R s := by
  obtain ⟨FG, BG, st, lv⟩ := groundX (R := fun r s'' => News h₀ L s''.heap rest → R r s'') B F N hA hf hke
  refine codeAny_call_def (fd := fnOf name qual params body scope dV kV doc pm an cdv ct) (body := body) (binds := binds) hroom ((X₀.keeps F.keep) _ _ ho) rfl (T.nolimit.keeps F.keep) (codeRec_of (X₀.keeps F.keep) hcd) rfl hbind hcell hloc (fun h₁ hns hk₁ => ?_) hco hgen hk
  refine wpAny_mono (h _ s.heap.objs.size h₁ (fun b o e n => hideAll_get _ e n) FG ⟨hns, fun b o e => hk₁ b o (of_hideAll _ e), Nat.le_of_eq (hideAll_size _ _)⟩
    (fun p hp => ⟨hk₁ _ _ (N p hp).1, Nat.ne_of_lt (Heap.lt_size (N p hp).1), hideAll_none _ (List.mem_map_of_mem hp)⟩) BG (X₀.keeps st) (T.keeps st)) (fun fl s' hl => ?_) fun _ _ y => y
  refine lv _ _ hl ?_
  obtain ⟨L', m', news', F', _, _⟩ := hl
  intro q hq
  exact ⟨F'.keep _ _ (hideAll_get _ (Nr q hq).1 (hoff q hq)), (Nr q hq).2⟩
end
end Mine
end
section
open PySem PySem.W PyProof.Rows PySem.Calls
set_option maxRecDepth 100000
namespace Mine
theorem plainAttrs_pat : PlainAttrs "re.Pattern" :=
  ⟨⟨"object.__getattribute__", by rw [typeLookup_type, builtinLookup_eq_fast]; kernel_rfl, by decide +kernel⟩, by rw [typeLookup_type, builtinLookup_eq_fast]; kernel_rfl⟩
theorem owner_pat : Manifest.owners.lookup (String.ofList ['n', 'r', 'e', 't', 't', 'a', 'P', '.', 'e', 'r'].reverse) = some Manifest.sig_re_Pattern := by kernel_rfl
theorem slot_pat_sub : Slot "re.Pattern" "sub" "re.Pattern.sub" :=
  .of (owner := "re.Pattern") (n := "sub") (by rw [typeLookup_type, builtinLookup_eq_fast]; kernel_rfl) (by decide +kernel) (by decide +kernel) (by decide +kernel)
    (by first | exact .inl (by decide +kernel) | exact .inr (by decide +kernel)) (by rw [isSubtype_type]; kernel_rfl)
theorem type_pat_sub : typeOf (.builtin "re.Pattern.sub") = pure (.type "method_descriptor") := by show builtinType _ = _; rw [builtinType_eq_fast]; kernel_rfl
theorem entry_pat_sub : entryFor table "re.Pattern.sub" = some Builtin.«re.Pattern.sub» := entryFor_of_tree (by kernel_rfl)
theorem entry_pat_loop : entryFor table "re.Pattern.sub.loop" = some Builtin.«re.Pattern.sub.loop» := entryFor_of_tree (by kernel_rfl)
theorem args_pat_sub (a b c : Value) : argsOk "re.Pattern.sub" ⟨[a, b, c], []⟩ := by
  unfold argsOk; rw [signature?_of (id := "re.Pattern.sub") (n := ['b', 'u', 's']) (by kernel_rfl) owner_pat]; kernel_rfl

theorem plainAttrs_match : PlainAttrs "re.Match" :=
  ⟨⟨"object.__getattribute__", by rw [typeLookup_type, builtinLookup_eq_fast]; kernel_rfl, by decide +kernel⟩, by rw [typeLookup_type, builtinLookup_eq_fast]; kernel_rfl⟩
theorem owner_match : Manifest.owners.lookup (String.ofList ['h', 'c', 't', 'a', 'M', '.', 'e', 'r'].reverse) = some Manifest.sig_re_Match := by kernel_rfl
theorem slot_match_group : Slot "re.Match" "group" "re.Match.group" :=
  .of (owner := "re.Match") (n := "group") (by rw [typeLookup_type, builtinLookup_eq_fast]; kernel_rfl) (by decide +kernel) (by decide +kernel) (by decide +kernel)
    (by first | exact .inl (by decide +kernel) | exact .inr (by decide +kernel)) (by rw [isSubtype_type]; kernel_rfl)
theorem type_match_group : typeOf (.builtin "re.Match.group") = pure (.type "method_descriptor") := by show builtinType _ = _; rw [builtinType_eq_fast]; kernel_rfl
theorem entry_match_group : entryFor table "re.Match.group" = some Builtin.«re.Match.group» := entryFor_of_tree (by kernel_rfl)
theorem args_match_group (a b : Value) : argsOk "re.Match.group" ⟨[a, b], []⟩ := by
  unfold argsOk; rw [signature?_of (id := "re.Match.group") (n := ['p', 'u', 'o', 'r', 'g']) (by kernel_rfl) owner_match]; kernel_rfl
end Mine
end
section
open PySem
set_option maxRecDepth 100000
namespace Mine
open PySem.Unicode PySem.UnicodeData

theorem shifted_mem (c v : Nat) : ∀ l : List (Nat × Nat × Nat), shifted l c = some v → ∃ e ∈ l, e.1 ≤ c ∧ c ≤ e.2.1 ∧ v = e.2.2 + (c - e.1)
  | [], h => by cases h
  | (x, y, t) :: r, h => by
    unfold shifted at h
    by_cases h1 : c < x
    · rw [if_pos h1] at h; cases h
    · rw [if_neg h1] at h
      by_cases h2 : c ≤ y
      · rw [if_pos h2] at h; cases h
        exact ⟨_, .head _, Nat.not_lt.mp h1, h2, rfl⟩
      · rw [if_neg h2] at h
        obtain ⟨e, he, q⟩ := shifted_mem c v r h
        exact ⟨e, .tail _ he, q⟩

def okOne (e : Nat × Nat × Nat) : Bool := (e.1 == 65 && e.2.1 == 90 && e.2.2 == 97) || (decide (128 ≤ e.1) && (decide (128 ≤ e.2.2) || (e.1 == e.2.1 && (e.2.2 == 105 || e.2.2 == 107))))
theorem oneLower_ok : oneLower.all okOne = true := by decide +kernel
theorem several_eq : severalLower = [(304, [105, 775])] := by decide +kernel
theorem first_eq : ∃ r, oneLower = (65, 90, 97) :: r := ⟨_, rfl⟩

theorem low_big {c : Nat} (h : 128 ≤ c) : 128 ≤ simpleLower c ∨ simpleLower c = 105 ∨ simpleLower c = 107 := by
  unfold simpleLower lowerOf image
  rw [several_eq]
  by_cases h3 : c = 304
  · subst h3; exact .inr (.inl rfl)
  · have e : List.lookup c [(304, [105, 775])] = none := by
      rw [List.lookup_cons]
      have : (c == 304) = false := by simpa using h3
      rw [this]; rfl
    rw [e]
    show 128 ≤ (shifted oneLower c).getD c ∨ (shifted oneLower c).getD c = 105 ∨ (shifted oneLower c).getD c = 107
    cases hs : shifted oneLower c with
    | none => exact .inl h
    | some v =>
      obtain ⟨⟨x, y, t⟩, he, h1, h2, hv⟩ := shifted_mem c v _ hs
      have hk := List.all_eq_true.mp oneLower_ok _ he
      simp only [okOne, Bool.or_eq_true, Bool.and_eq_true, beq_iff_eq, decide_eq_true_eq] at hk h1 h2 hv
      show 128 ≤ v ∨ v = 105 ∨ v = 107
      omega
theorem low_small {c : Nat} (h : c < 128) : simpleLower c = if 65 ≤ c ∧ c ≤ 90 then c + 32 else c := by
  have : ∀ c, c < 128 → simpleLower c = if 65 ≤ c ∧ c ≤ 90 then c + 32 else c := by decide +kernel
  exact this c h

def hexC (c : Nat) : Bool := decide (48 ≤ c ∧ c ≤ 57) || decide (97 ≤ c ∧ c ≤ 102) || decide (65 ≤ c ∧ c ≤ 70)
def hexU (c : Nat) : Bool := (decide (48 ≤ Sre.lowerUni c) && decide (Sre.lowerUni c ≤ 57)) || (decide (97 ≤ Sre.lowerUni c) && decide (Sre.lowerUni c ≤ 102))
theorem hexU_eq (c : Nat) : hexU c = hexC c := by
  rw [Bool.eq_iff_iff]
  unfold hexU hexC Sre.lowerUni
  simp only [Bool.or_eq_true, Bool.and_eq_true, decide_eq_true_eq]
  by_cases h : c < 128
  · rw [low_small h]; split <;> omega
  · have := low_big (c := c) (by omega); omega
theorem low_eq {c k : Nat} (hk : k = 97 ∨ k = 116 ∨ k = 120) : (Sre.lowerUni c == k) = true ↔ c = k ∨ c + 32 = k := by
  rw [beq_iff_eq]
  unfold Sre.lowerUni
  by_cases h : c < 128
  · rw [low_small h]; split <;> omega
  · have := low_big (c := c) (by omega); omega
end Mine
end
section
open PySem PySem.W PyProof.Rows PySem.Calls
set_option maxRecDepth 100000
namespace Mine
open PySem.Builtin.Re

theorem runFor_done {m : Sre.M} (h : m.outcome.isSome = true) : ∀ n, m.runFor n = m
  | 0 => rfl
  | n + 1 => by rw [Sre.M.runFor, if_pos h]
theorem runFor_add (a b : Nat) : ∀ m : Sre.M, m.runFor (a + b) = (m.runFor a).runFor b := by
  induction a with
  | zero => intro m; rw [Nat.zero_add]; rfl
  | succ a ih =>
    intro m
    rw [Nat.succ_add]
    by_cases h : m.outcome.isSome = true
    · rw [runFor_done h, runFor_done h, runFor_done h]
    · rw [Sre.M.runFor, if_neg h, ih, Sre.M.runFor, if_neg h]

section
variable {M : Model} {A : Around} {E : Value → Shared → Prop} {s : Shared}
theorem wp_drive {Q : Sre.M → Shared → Prop} {m' : Sre.M} (hd : m'.outcome.isSome = true) (hQ : Q m' s) :
    ∀ (turns n : Nat) (m : Sre.M), m.runFor n = m' → n ≤ 4 * turns → 0 < turns → wpAny M A (reDrive turns m) Q E s := by
  intro turns
  induction turns with
  | zero => intro n m _ _ h; exact absurd h (Nat.lt_irrefl _)
  | succ t ih =>
    intro n m hr hn _
    show wpAny M A (if (m.runFor 4).outcome.isSome then pure (m.runFor 4) else (do rule "sre.turn"; reDrive t (m.runFor 4))) Q E s
    by_cases h4 : (m.runFor 4).outcome.isSome = true
    · rw [if_pos h4]
      have e : m.runFor 4 = m' := by
        rcases Nat.le_total n 4 with h | h
        · obtain ⟨k, e⟩ := Nat.exists_eq_add_of_le h
          rw [e, runFor_add n k m, hr, runFor_done hd]
        · obtain ⟨k, rfl⟩ := Nat.exists_eq_add_of_le h
          rw [runFor_add, runFor_done h4] at hr
          exact hr
      rw [e]
      exact wpAny_pure hQ
    · rw [if_neg h4]
      have hlt : 4 < n := by
        rcases Nat.lt_or_ge 4 n with h | h
        · exact h
        · obtain ⟨k, e⟩ := Nat.exists_eq_add_of_le h
          exfalso; apply h4
          rw [e, runFor_add, hr, runFor_done hd]; exact hd
      obtain ⟨k, rfl⟩ := Nat.exists_eq_add_of_le (Nat.le_of_lt hlt)
      rw [runFor_add] at hr
      exact wpAny_bind (wpAny_rule (ih k _ hr (by omega) (by omega)))

theorem wp_rules {c : Nat → Bool} {t : Nat → String} {Q : PUnit → Shared → Prop} (hQ : Q ⟨⟩ s) : ∀ l : List Nat,
    wpAny M A (forIn l PUnit.unit (fun i _ => (if c i = true then (do rule (t i); pure (ForInStep.yield PUnit.unit)) else pure (ForInStep.yield PUnit.unit)) : Nat → PUnit → Sem (ForInStep PUnit))) Q E s
  | [] => by rw [List.forIn_nil]; exact wpAny_pure hQ
  | i :: l => by
    rw [List.forIn_cons]
    refine wpAny_bind ?_
    by_cases h : c i = true
    · rw [if_pos h]
      exact wpAny_bind (wpAny_rule (wpAny_pure (wp_rules hQ l)))
    · rw [if_neg h]
      exact wpAny_pure (wp_rules hQ l)

theorem wp_runToEnd {Q : Option Sre.M → Shared → Prop} {m m' : Sre.M} {n : Nat} (hr : m.runFor n = m') (hn : n ≤ 4 * 2 ^ 64) {r : Option Sre.M}
    (ho : (m'.outcome = some .matched ∧ r = some m') ∨ (m'.outcome = some .failed ∧ r = none)) (hQ : Q r s) : wpAny M A (reRunToEnd m) Q E s := by
  unfold reRunToEnd
  refine wpAny_bind (wp_drive (m' := m') (by rcases ho with h | h <;> rw [h.1] <;> rfl) ?_ _ n m hr hn (by decide))
  refine wpAny_bind (wp_rules ?_ _)
  rcases ho with ⟨h, rfl⟩ | ⟨h, rfl⟩ <;> rw [h] <;> exact wpAny_pure hQ
end
end Mine
end
section
open PySem PySem.W PyProof.Rows PySem.Calls
set_option maxRecDepth 100000
namespace Mine
open PySem.Builtin.Re
def CODE : Array Nat := #[14, 8, 1, 13, 4294967295, 1, 1, 32, 0, 16, 32, 40, 97, 40, 116, 16, 32, 16, 48, 40, 120, 24, 13, 6, 16, 39, 8, 22, 48, 57, 22, 97, 102, 0, 1, 17, 0, 24, 6, 1, 4294967295, 16, 62, 1, 17, 1, 6, 5, 1]

def Ev (n : Nat) (m : Sre.M) (P : Sre.M → Prop) : Prop := ∃ k, k ≤ n ∧ P (m.runFor k)
theorem Ev.now {m : Sre.M} {P : Sre.M → Prop} {n : Nat} (h : P m) : Ev n m P := ⟨0, Nat.zero_le _, h⟩
theorem Ev.step {m m₂ : Sre.M} {P : Sre.M → Prop} {n : Nat} (h : m.outcome = none) (e : m.step = m₂) (x : Ev n m₂ P) : Ev (n + 1) m P := by
  obtain ⟨k, hk, hp⟩ := x
  refine ⟨k + 1, Nat.succ_le_succ hk, ?_⟩
  rw [Sre.M.runFor, h, e]; exact hp
theorem Ev.mono {m : Sre.M} {P : Sre.M → Prop} {n n' : Nat} (x : Ev n m P) (h : n ≤ n') : Ev n' m P := let ⟨k, hk, hp⟩ := x; ⟨k, Nat.le_trans hk h, hp⟩

/-- how many signs from p on, at most k, fit q -/
def cnt (q : Nat → Bool) (a : Array Nat) : Nat → Nat → Nat
  | 0, _ => 0
  | k + 1, p => if q (a.getD p 0) then cnt q a k (p + 1) + 1 else 0
theorem cnt_le (q : Nat → Bool) (a : Array Nat) : ∀ k p, cnt q a k p ≤ k
  | 0, _ => Nat.le_refl _
  | k + 1, p => by unfold cnt; split; exact Nat.succ_le_succ (cnt_le q a k _); exact Nat.zero_le _
theorem cnt_all (q : Nat → Bool) (a : Array Nat) : ∀ k p j, j < cnt q a k p → q (a.getD (p + j) 0) = true
  | 0, _, _, h => absurd h (Nat.not_lt_zero _)
  | k + 1, p, j, h => by
    unfold cnt at h
    split at h
    · rename_i hq
      cases j with
      | zero => exact hq
      | succ j => have := cnt_all q a k (p + 1) j (by omega); rw [show p + (j + 1) = p + 1 + j by omega]; exact this
    · exact absurd h (Nat.not_lt_zero _)
theorem cnt_stop (q : Nat → Bool) (a : Array Nat) : ∀ k p, cnt q a k p < k → q (a.getD (p + cnt q a k p) 0) = false
  | 0, _, h => absurd h (Nat.not_lt_zero _)
  | k + 1, p, h => by
    by_cases hq : q (a.getD p 0) = true
    · have e : cnt q a (k + 1) p = cnt q a k (p + 1) + 1 := by rw [cnt, if_pos hq]
      rw [e] at h ⊢
      have := cnt_stop q a k (p + 1) (by omega)
      rw [show p + (cnt q a k (p + 1) + 1) = p + 1 + cnt q a k (p + 1) by omega]; exact this
    · have e : cnt q a (k + 1) p = 0 := by rw [cnt, if_neg hq]
      rw [e]; simpa using hq
theorem run_cnt {code a : Array Nat} {i : Nat} {q : Nat → Bool} (hq : ∀ c sn, ∃ sn', Sre.accepts code i c sn = .ok (q c, sn')) : ∀ k p f sn, ∃ sn', Sre.run code a i k p f sn = .ok (f + cnt q a k p, sn')
  | 0, p, f, sn => ⟨sn, rfl⟩
  | k + 1, p, f, sn => by
    obtain ⟨s1, h1⟩ := hq (a.getD p 0) sn
    unfold Sre.run cnt
    rw [h1]
    by_cases h : q (a.getD p 0) = true
    · obtain ⟨s2, h2⟩ := run_cnt hq k (p + 1) (f + 1) s1
      refine ⟨s2, ?_⟩
      show (if q (a.getD p 0) = true then _ else _) = _
      rw [if_pos h, if_pos h, h2]
      congr 2; omega
    · refine ⟨s1, ?_⟩
      show (if q (a.getD p 0) = true then _ else _) = _
      rw [if_neg h, if_neg h]; rfl

def S (a : Array Nat) (st h pc pos : Nat) (om : Bool) (mk : Array (Option Nat)) (lm li : Int) (fr : List Sre.Frame) (wt : Nat) (ans : Option Bool) (oc : Option Sre.Outcome) (sn : Sre.Seen) : Sre.M :=
  { code := CODE, text := a, lim := a.size, start := st, lastStart := a.size, pc := pc, pos := pos, handed := h, outermost := om, marks := mk, lastmark := lm, lastindex := li, frames := fr, weight := wt, answer := ans, seen := sn, outcome := oc }
section
variable {a : Array Nat} {st h pos wt n : Nat} {om : Bool} {mk : Array (Option Nat)} {lm li : Int} {fr : List Sre.Frame} {sn : Sre.Seen} {P : Sre.M → Prop}
theorem st9 : (S a st h 9 pos om mk lm li fr wt none none sn).step = if pos ≥ a.size then S a st h 9 pos om mk lm li fr wt (some false) none (sn.add 16) else
    if (a.getD pos 0 == 32) = true then S a st h 11 (pos + 1) om mk lm li fr wt none none (sn.add 16) else S a st h 9 pos om mk lm li fr wt (some false) none (sn.add 16) := by
  by_cases h1 : pos ≥ a.size
  · rw [if_pos h1]
    show (if pos ≥ a.size then _ else _) = _
    rw [if_pos h1]; rfl
  · rw [if_neg h1]
    show (if pos ≥ a.size then _ else _) = _
    rw [if_neg h1]
    show (match (Except.ok ((a.getD pos 0 == 32), sn.add 16) : Except String (Bool × Sre.Seen)) with | .error why => _ | .ok (false, seen) => _ | .ok (true, seen) => _) = _
    cases (a.getD pos 0 == 32) <;> rfl
theorem ev9 (hy : pos < a.size → (a.getD pos 0 == 32) = true → ∀ sn, Ev n (S a st h 11 (pos + 1) om mk lm li fr wt none none sn) P)
    (hn : ¬(pos < a.size ∧ (a.getD pos 0 == 32) = true) → ∀ sn, Ev n (S a st h 9 pos om mk lm li fr wt (some false) none sn) P) : Ev (n + 1) (S a st h 9 pos om mk lm li fr wt none none sn) P := by
  refine Ev.step rfl st9 ?_
  by_cases h1 : pos ≥ a.size
  · rw [if_pos h1]; exact hn (fun q => by omega) _
  · rw [if_neg h1]
    by_cases h2 : (a.getD pos 0 == 32) = true
    · rw [if_pos h2]; exact hy (by omega) h2 _
    · rw [if_neg h2]; exact hn (fun q => h2 q.2) _

theorem st11 : (S a st h 11 pos om mk lm li fr wt none none sn).step = if pos ≥ a.size then S a st h 11 pos om mk lm li fr wt (some false) none (sn.add 40) else
    if (Sre.lowerUni (a.getD pos 0) == 97) = true then S a st h 13 (pos + 1) om mk lm li fr wt none none (sn.add 40) else S a st h 11 pos om mk lm li fr wt (some false) none (sn.add 40) := by
  by_cases h1 : pos ≥ a.size
  · rw [if_pos h1]
    show (if pos ≥ a.size then _ else _) = _
    rw [if_pos h1]; rfl
  · rw [if_neg h1]
    show (if pos ≥ a.size then _ else _) = _
    rw [if_neg h1]
    show (match (Except.ok ((Sre.lowerUni (a.getD pos 0) == 97), sn.add 40) : Except String (Bool × Sre.Seen)) with | .error why => _ | .ok (false, seen) => _ | .ok (true, seen) => _) = _
    cases (Sre.lowerUni (a.getD pos 0) == 97) <;> rfl
theorem ev11 (hy : pos < a.size → (Sre.lowerUni (a.getD pos 0) == 97) = true → ∀ sn, Ev n (S a st h 13 (pos + 1) om mk lm li fr wt none none sn) P)
    (hn : ¬(pos < a.size ∧ (Sre.lowerUni (a.getD pos 0) == 97) = true) → ∀ sn, Ev n (S a st h 11 pos om mk lm li fr wt (some false) none sn) P) : Ev (n + 1) (S a st h 11 pos om mk lm li fr wt none none sn) P := by
  refine Ev.step rfl st11 ?_
  by_cases h1 : pos ≥ a.size
  · rw [if_pos h1]; exact hn (fun q => by omega) _
  · rw [if_neg h1]
    by_cases h2 : (Sre.lowerUni (a.getD pos 0) == 97) = true
    · rw [if_pos h2]; exact hy (by omega) h2 _
    · rw [if_neg h2]; exact hn (fun q => h2 q.2) _

theorem st13 : (S a st h 13 pos om mk lm li fr wt none none sn).step = if pos ≥ a.size then S a st h 13 pos om mk lm li fr wt (some false) none (sn.add 40) else
    if (Sre.lowerUni (a.getD pos 0) == 116) = true then S a st h 15 (pos + 1) om mk lm li fr wt none none (sn.add 40) else S a st h 13 pos om mk lm li fr wt (some false) none (sn.add 40) := by
  by_cases h1 : pos ≥ a.size
  · rw [if_pos h1]
    show (if pos ≥ a.size then _ else _) = _
    rw [if_pos h1]; rfl
  · rw [if_neg h1]
    show (if pos ≥ a.size then _ else _) = _
    rw [if_neg h1]
    show (match (Except.ok ((Sre.lowerUni (a.getD pos 0) == 116), sn.add 40) : Except String (Bool × Sre.Seen)) with | .error why => _ | .ok (false, seen) => _ | .ok (true, seen) => _) = _
    cases (Sre.lowerUni (a.getD pos 0) == 116) <;> rfl
theorem ev13 (hy : pos < a.size → (Sre.lowerUni (a.getD pos 0) == 116) = true → ∀ sn, Ev n (S a st h 15 (pos + 1) om mk lm li fr wt none none sn) P)
    (hn : ¬(pos < a.size ∧ (Sre.lowerUni (a.getD pos 0) == 116) = true) → ∀ sn, Ev n (S a st h 13 pos om mk lm li fr wt (some false) none sn) P) : Ev (n + 1) (S a st h 13 pos om mk lm li fr wt none none sn) P := by
  refine Ev.step rfl st13 ?_
  by_cases h1 : pos ≥ a.size
  · rw [if_pos h1]; exact hn (fun q => by omega) _
  · rw [if_neg h1]
    by_cases h2 : (Sre.lowerUni (a.getD pos 0) == 116) = true
    · rw [if_pos h2]; exact hy (by omega) h2 _
    · rw [if_neg h2]; exact hn (fun q => h2 q.2) _

theorem st15 : (S a st h 15 pos om mk lm li fr wt none none sn).step = if pos ≥ a.size then S a st h 15 pos om mk lm li fr wt (some false) none (sn.add 16) else
    if (a.getD pos 0 == 32) = true then S a st h 17 (pos + 1) om mk lm li fr wt none none (sn.add 16) else S a st h 15 pos om mk lm li fr wt (some false) none (sn.add 16) := by
  by_cases h1 : pos ≥ a.size
  · rw [if_pos h1]
    show (if pos ≥ a.size then _ else _) = _
    rw [if_pos h1]; rfl
  · rw [if_neg h1]
    show (if pos ≥ a.size then _ else _) = _
    rw [if_neg h1]
    show (match (Except.ok ((a.getD pos 0 == 32), sn.add 16) : Except String (Bool × Sre.Seen)) with | .error why => _ | .ok (false, seen) => _ | .ok (true, seen) => _) = _
    cases (a.getD pos 0 == 32) <;> rfl
theorem ev15 (hy : pos < a.size → (a.getD pos 0 == 32) = true → ∀ sn, Ev n (S a st h 17 (pos + 1) om mk lm li fr wt none none sn) P)
    (hn : ¬(pos < a.size ∧ (a.getD pos 0 == 32) = true) → ∀ sn, Ev n (S a st h 15 pos om mk lm li fr wt (some false) none sn) P) : Ev (n + 1) (S a st h 15 pos om mk lm li fr wt none none sn) P := by
  refine Ev.step rfl st15 ?_
  by_cases h1 : pos ≥ a.size
  · rw [if_pos h1]; exact hn (fun q => by omega) _
  · rw [if_neg h1]
    by_cases h2 : (a.getD pos 0 == 32) = true
    · rw [if_pos h2]; exact hy (by omega) h2 _
    · rw [if_neg h2]; exact hn (fun q => h2 q.2) _

theorem st17 : (S a st h 17 pos om mk lm li fr wt none none sn).step = if pos ≥ a.size then S a st h 17 pos om mk lm li fr wt (some false) none (sn.add 16) else
    if (a.getD pos 0 == 48) = true then S a st h 19 (pos + 1) om mk lm li fr wt none none (sn.add 16) else S a st h 17 pos om mk lm li fr wt (some false) none (sn.add 16) := by
  by_cases h1 : pos ≥ a.size
  · rw [if_pos h1]
    show (if pos ≥ a.size then _ else _) = _
    rw [if_pos h1]; rfl
  · rw [if_neg h1]
    show (if pos ≥ a.size then _ else _) = _
    rw [if_neg h1]
    show (match (Except.ok ((a.getD pos 0 == 48), sn.add 16) : Except String (Bool × Sre.Seen)) with | .error why => _ | .ok (false, seen) => _ | .ok (true, seen) => _) = _
    cases (a.getD pos 0 == 48) <;> rfl
theorem ev17 (hy : pos < a.size → (a.getD pos 0 == 48) = true → ∀ sn, Ev n (S a st h 19 (pos + 1) om mk lm li fr wt none none sn) P)
    (hn : ¬(pos < a.size ∧ (a.getD pos 0 == 48) = true) → ∀ sn, Ev n (S a st h 17 pos om mk lm li fr wt (some false) none sn) P) : Ev (n + 1) (S a st h 17 pos om mk lm li fr wt none none sn) P := by
  refine Ev.step rfl st17 ?_
  by_cases h1 : pos ≥ a.size
  · rw [if_pos h1]; exact hn (fun q => by omega) _
  · rw [if_neg h1]
    by_cases h2 : (a.getD pos 0 == 48) = true
    · rw [if_pos h2]; exact hy (by omega) h2 _
    · rw [if_neg h2]; exact hn (fun q => h2 q.2) _

theorem st19 : (S a st h 19 pos om mk lm li fr wt none none sn).step = if pos ≥ a.size then S a st h 19 pos om mk lm li fr wt (some false) none (sn.add 40) else
    if (Sre.lowerUni (a.getD pos 0) == 120) = true then S a st h 21 (pos + 1) om mk lm li fr wt none none (sn.add 40) else S a st h 19 pos om mk lm li fr wt (some false) none (sn.add 40) := by
  by_cases h1 : pos ≥ a.size
  · rw [if_pos h1]
    show (if pos ≥ a.size then _ else _) = _
    rw [if_pos h1]; rfl
  · rw [if_neg h1]
    show (if pos ≥ a.size then _ else _) = _
    rw [if_neg h1]
    show (match (Except.ok ((Sre.lowerUni (a.getD pos 0) == 120), sn.add 40) : Except String (Bool × Sre.Seen)) with | .error why => _ | .ok (false, seen) => _ | .ok (true, seen) => _) = _
    cases (Sre.lowerUni (a.getD pos 0) == 120) <;> rfl
theorem ev19 (hy : pos < a.size → (Sre.lowerUni (a.getD pos 0) == 120) = true → ∀ sn, Ev n (S a st h 21 (pos + 1) om mk lm li fr wt none none sn) P)
    (hn : ¬(pos < a.size ∧ (Sre.lowerUni (a.getD pos 0) == 120) = true) → ∀ sn, Ev n (S a st h 19 pos om mk lm li fr wt (some false) none sn) P) : Ev (n + 1) (S a st h 19 pos om mk lm li fr wt none none sn) P := by
  refine Ev.step rfl st19 ?_
  by_cases h1 : pos ≥ a.size
  · rw [if_pos h1]; exact hn (fun q => by omega) _
  · rw [if_neg h1]
    by_cases h2 : (Sre.lowerUni (a.getD pos 0) == 120) = true
    · rw [if_pos h2]; exact hy (by omega) h2 _
    · rw [if_neg h2]; exact hn (fun q => h2 q.2) _

def gb (pc : Nat) (c : Int) (p : Nat) (om : Bool) (lm li : Int) : Sre.Frame := { wait := .giveBack, pc := pc, pos := p, outermost := om, count := c, kept := { lastmark := lm, lastindex := li, whole := false, marks := #[] } }
theorem acc25 (c : Nat) (sn : Sre.Seen) : ∃ sn', Sre.accepts CODE 25 c sn = .ok (hexC c, sn') := by
  rw [← hexU_eq]
  show ∃ sn', Sre.inSet CODE (Sre.lowerUni c) 49 27 true sn = _
  unfold hexU
  generalize Sre.lowerUni c = u
  show ∃ sn', (if (decide (48 ≤ u) && decide (u ≤ 57)) = true then Except.ok (true, _) else Sre.inSet CODE u 48 30 true _) = _
  cases h1 : (decide (48 ≤ u) && decide (u ≤ 57)) with
  | true => exact ⟨_, rfl⟩
  | false =>
    show ∃ sn', (if (decide (97 ≤ u) && decide (u ≤ 102)) = true then Except.ok (true, _) else Sre.inSet CODE u 47 33 true _) = _
    cases h2 : (decide (97 ≤ u) && decide (u ≤ 102)) with
    | true => exact ⟨_, rfl⟩
    | false => exact ⟨_, rfl⟩
theorem acc41 (c : Nat) (sn : Sre.Seen) : ∃ sn', Sre.accepts CODE 41 c sn = .ok (c == 62, sn') := ⟨sn, rfl⟩

theorem ev21 (hw : wt ≤ 10) {r : Nat} (hr : r = cnt hexC a (min 16 (a.size - pos)) pos)
    (hy : 6 ≤ r → ∀ sn, Ev n (S a st (pos + r) 35 (pos + r) om mk lm li (gb 21 r (pos + r) om lm li :: fr) (wt + 1) none none sn) P)
    (hn : r < 6 → ∀ sn, Ev n (S a st h 21 pos om mk lm li fr wt (some false) none sn) P) : Ev (n + 1) (S a st h 21 pos om mk lm li fr wt none none sn) P := by
  by_cases h1 : (6 : Int) > (a.size : Int) - pos
  · refine Ev.step (m₂ := S a st h 21 pos om mk lm li fr wt (some false) none (sn.add 24)) rfl ?_ (hn ?_ _)
    · show (if (6 : Int) > (a.size : Int) - pos then _ else _) = _
      rw [if_pos h1]; rfl
    · have := cnt_le hexC a (min 16 (a.size - pos)) pos
      omega
  · obtain ⟨s1, hs⟩ := run_cnt (code := CODE) (a := a) acc25 (min 16 ((a.size : Int) - pos).toNat) pos 0 ((sn.add 24).add 39)
    have e : ((a.size : Int) - pos).toNat = a.size - pos := by omega
    rw [e, Nat.zero_add, ← hr] at hs
    by_cases h2 : r < 6
    · refine Ev.step (m₂ := S a st h 21 pos om mk lm li fr wt (some false) none s1) rfl ?_ (hn h2 _)
      show (if (6 : Int) > (a.size : Int) - pos then _ else match Sre.run CODE a 25 (min 16 ((a.size : Int) - pos).toNat) pos 0 ((sn.add 24).add 39) with | .error why => _ | .ok (n, seen) => _) = _
      rw [if_neg h1, e, hs]
      show (if r < 6 then _ else _) = _
      rw [if_pos h2]; rfl
    · refine Ev.step (m₂ := S a st (pos + r) 35 (pos + r) om mk lm li (gb 21 r (pos + r) om lm li :: fr) (wt + 1) none none s1) rfl ?_ (hy (by omega) _)
      show (if (6 : Int) > (a.size : Int) - pos then _ else match Sre.run CODE a 25 (min 16 ((a.size : Int) - pos).toNat) pos 0 ((sn.add 24).add 39) with | .error why => _ | .ok (n, seen) => _) = _
      rw [if_neg h1, e, hs]
      show (if r < 6 then _ else _) = _
      rw [if_neg h2]
      show (if wt + 1 + 0 > 16777216 then _ else _) = _
      rw [if_neg (by omega)]; rfl
theorem ev35 (hl : -1 ≤ lm) (hy : ∀ sn, Ev n (S a st h 37 pos om (mk.setIfInBounds 0 (some pos)) (max lm 0) li fr wt none none sn) P) : Ev (n + 1) (S a st h 35 pos om mk lm li fr wt none none sn) P := by
  refine Ev.step (m₂ := S a st h 37 pos om (mk.setIfInBounds 0 (some pos)) (max lm 0) li fr wt none none (sn.add 17)) rfl ?_ (hy _)
  show ({ S a st h 37 pos om ((if ((0 : Nat) : Int) ≤ lm + 1 then mk else _).setIfInBounds 0 (some pos)) (max lm ((0 : Nat) : Int)) li fr wt none none (sn.add 17) with } : Sre.M) = _
  rw [if_pos (by show (0 : Int) ≤ lm + 1; omega)]; rfl
theorem ev37 (hw : wt ≤ 10) {z : Nat} (hz : z = cnt (· == 62) a (min 4294967295 (a.size - pos)) pos)
    (hy : 1 ≤ z → ∀ sn, Ev n (S a st (pos + z) 44 (pos + z) om mk lm li (gb 37 z (pos + z) om lm li :: fr) (wt + 1) none none sn) P)
    (hn : z < 1 → ∀ sn, Ev n (S a st h 37 pos om mk lm li fr wt (some false) none sn) P) : Ev (n + 1) (S a st h 37 pos om mk lm li fr wt none none sn) P := by
  by_cases h1 : (1 : Int) > (a.size : Int) - pos
  · refine Ev.step (m₂ := S a st h 37 pos om mk lm li fr wt (some false) none (sn.add 24)) rfl ?_ (hn ?_ _)
    · show (if (1 : Int) > (a.size : Int) - pos then _ else _) = _
      rw [if_pos h1]; rfl
    · have := cnt_le (· == 62) a (min 4294967295 (a.size - pos)) pos
      omega
  · obtain ⟨s1, hs⟩ := run_cnt (code := CODE) (a := a) acc41 (min 4294967295 ((a.size : Int) - pos).toNat) pos 0 ((sn.add 24).add 16)
    have e : ((a.size : Int) - pos).toNat = a.size - pos := by omega
    rw [e, Nat.zero_add, ← hz] at hs
    by_cases h2 : z < 1
    · refine Ev.step (m₂ := S a st h 37 pos om mk lm li fr wt (some false) none s1) rfl ?_ (hn h2 _)
      show (if (1 : Int) > (a.size : Int) - pos then _ else match Sre.run CODE a 41 (min 4294967295 ((a.size : Int) - pos).toNat) pos 0 ((sn.add 24).add 16) with | .error why => _ | .ok (n, seen) => _) = _
      rw [if_neg h1, e, hs]
      show (if z < 1 then _ else _) = _
      rw [if_pos h2]; rfl
    · refine Ev.step (m₂ := S a st (pos + z) 44 (pos + z) om mk lm li (gb 37 z (pos + z) om lm li :: fr) (wt + 1) none none s1) rfl ?_ (hy (by omega) _)
      show (if (1 : Int) > (a.size : Int) - pos then _ else match Sre.run CODE a 41 (min 4294967295 ((a.size : Int) - pos).toNat) pos 0 ((sn.add 24).add 16) with | .error why => _ | .ok (n, seen) => _) = _
      rw [if_neg h1, e, hs]
      show (if z < 1 then _ else _) = _
      rw [if_neg h2]
      show (if wt + 1 + 0 > 16777216 then _ else _) = _
      rw [if_neg (by omega)]; rfl
theorem ev44 (hl : 0 ≤ lm) (hy : ∀ sn, Ev n (S a st h 46 pos om (mk.setIfInBounds 1 (some pos)) (max lm 1) 1 fr wt none none sn) P) : Ev (n + 1) (S a st h 44 pos om mk lm li fr wt none none sn) P := by
  refine Ev.step (m₂ := S a st h 46 pos om (mk.setIfInBounds 1 (some pos)) (max lm 1) 1 fr wt none none (sn.add 17)) rfl ?_ (hy _)
  have e1 : (S a st h 44 pos om mk lm li fr wt none none sn).step = Sre.M.mark (S a st h 44 pos om mk lm li fr wt none none (sn.add 17)) 1 := rfl
  rw [e1]
  unfold Sre.M.mark
  rw [if_pos (by show (1 : Int) ≤ lm + 1; omega)]
  rfl
def EndAt (a : Array Nat) (q : Nat) : Prop := q = a.size ∨ (q + 1 = a.size ∧ a.getD q 0 = 10)
theorem ev46 (hy : EndAt a pos → ∀ sn, Ev n (S a st h 48 pos om mk lm li fr wt none none sn) P) (hn : ¬EndAt a pos → ∀ sn, Ev n (S a st h 46 pos om mk lm li fr wt (some false) none sn) P) : Ev (n + 1) (S a st h 46 pos om mk lm li fr wt none none sn) P := by
  have e : (EndAt a pos) ↔ (pos == a.size || (pos + 1 == a.size && a.getD pos 0 == 10)) = true := by
    unfold EndAt; simp only [Bool.or_eq_true, Bool.and_eq_true, beq_iff_eq]
  by_cases h1 : (pos == a.size || (pos + 1 == a.size && a.getD pos 0 == 10)) = true
  · refine Ev.step (m₂ := S a st h 48 pos om mk lm li fr wt none none ((sn.add 6).add 48)) rfl ?_ (hy (e.mpr h1) _)
    show (if (pos == a.size || (pos + 1 == a.size && a.getD pos 0 == 10)) = true then _ else _) = _
    rw [if_pos h1]; rfl
  · refine Ev.step (m₂ := S a st h 46 pos om mk lm li fr wt (some false) none ((sn.add 6).add 48)) rfl ?_ (hn (fun q => h1 (e.mp q)) _)
    show (if (pos == a.size || (pos + 1 == a.size && a.getD pos 0 == 10)) = true then _ else _) = _
    rw [if_neg h1]; rfl
theorem ev48 (hy : ∀ sn, Ev n (S a st pos 48 pos om mk lm li fr wt (some true) none sn) P) : Ev (n + 1) (S a st h 48 pos om mk lm li fr wt none none sn) P := by
  refine Ev.step (m₂ := S a st pos 48 pos om mk lm li fr wt (some true) none (sn.add 1)) rfl ?_ (hy _)
  show (if (om && (false && _ || false && _)) = true then _ else _) = _
  rw [if_neg (by simp)]; rfl

/-- an answer goes up -/
theorem ev_gbT {pc pc' p : Nat} {c lm' li' : Int} {om' : Bool} {sn : Sre.Seen} (hy : ∀ sn, Ev n (S a st h pc' p om' mk lm li fr (wt - 1) (some true) none sn) P) :
    Ev (n + 1) (S a st h pc pos om mk lm li (gb pc' c p om' lm' li' :: fr) wt (some true) none sn) P :=
  Ev.step (m₂ := S a st h pc' p om' mk lm li fr (wt - 1) (some true) none sn) rfl rfl (hy _)
theorem ev_gbF21 {pc p c : Nat} {lm' li' : Int} {om' : Bool} {sn : Sre.Seen} (hw : wt ≤ 10) (h1 : 1 ≤ wt)
    (hy : 7 ≤ c → ∀ sn, Ev n (S a st (p - 1) 35 (p - 1) om' mk lm' li' (gb 21 ((c : Int) - 1) (p - 1) om' lm' li' :: fr) wt none none sn) P)
    (hn : c < 7 → ∀ sn, Ev n (S a st h 21 p om' mk lm' li' fr (wt - 1) (some false) none sn) P) :
    Ev (n + 1) (S a st h pc pos om mk lm li (gb 21 c p om' lm' li' :: fr) wt (some false) none sn) P := by
  by_cases h2 : c < 7
  · refine Ev.step (m₂ := S a st h 21 p om' mk lm' li' fr (wt - 1) (some false) none sn) rfl ?_ (hn h2 _)
    show (if (c : Int) - 1 < ((6 : Nat) : Int) then _ else _) = _
    rw [if_pos (by omega)]; rfl
  · refine Ev.step (m₂ := S a st (p - 1) 35 (p - 1) om' mk lm' li' (gb 21 ((c : Int) - 1) (p - 1) om' lm' li' :: fr) wt none none sn) rfl ?_ (hy (by omega) _)
    show (if (c : Int) - 1 < ((6 : Nat) : Int) then _ else _) = _
    rw [if_neg (by omega)]
    show (if wt - 1 + 1 + 0 > 16777216 then _ else _) = _
    rw [if_neg (by omega)]
    have e : wt - 1 + 1 + 0 = wt := by omega
    show ({ S a st (p - 1) 35 (p - 1) om' mk lm' li' (gb 21 ((c : Int) - 1) (p - 1) om' lm' li' :: fr) (wt - 1 + 1 + 0) none none sn with } : Sre.M) = _
    rw [e]
theorem ev_gbF37 {pc p c : Nat} {lm' li' : Int} {om' : Bool} {sn : Sre.Seen} (hw : wt ≤ 10) (h1 : 1 ≤ wt)
    (hy : 2 ≤ c → ∀ sn, Ev n (S a st (p - 1) 44 (p - 1) om' mk lm' li' (gb 37 ((c : Int) - 1) (p - 1) om' lm' li' :: fr) wt none none sn) P)
    (hn : c < 2 → ∀ sn, Ev n (S a st h 37 p om' mk lm' li' fr (wt - 1) (some false) none sn) P) :
    Ev (n + 1) (S a st h pc pos om mk lm li (gb 37 c p om' lm' li' :: fr) wt (some false) none sn) P := by
  by_cases h2 : c < 2
  · refine Ev.step (m₂ := S a st h 37 p om' mk lm' li' fr (wt - 1) (some false) none sn) rfl ?_ (hn h2 _)
    show (if (c : Int) - 1 < ((1 : Nat) : Int) then _ else _) = _
    rw [if_pos (by omega)]; rfl
  · refine Ev.step (m₂ := S a st (p - 1) 44 (p - 1) om' mk lm' li' (gb 37 ((c : Int) - 1) (p - 1) om' lm' li' :: fr) wt none none sn) rfl ?_ (hy (by omega) _)
    show (if (c : Int) - 1 < ((1 : Nat) : Int) then _ else _) = _
    rw [if_neg (by omega)]
    show (if wt - 1 + 1 + 0 > 16777216 then _ else _) = _
    rw [if_neg (by omega)]
    have e : wt - 1 + 1 + 0 = wt := by omega
    show ({ S a st (p - 1) 44 (p - 1) om' mk lm' li' (gb 37 ((c : Int) - 1) (p - 1) om' lm' li' :: fr) (wt - 1 + 1 + 0) none none sn with } : Sre.M) = _
    rw [e]
def ns (s : Nat) (om : Bool) : Sre.Frame := { wait := .nextStart, pc := 9, pos := s, outermost := om }
theorem ev_nsT {pc s : Nat} {om' : Bool} {sn : Sre.Seen} (hy : ∀ sn, Ev n (S a st h 9 s om' mk lm li [] (wt - 1) (some true) none sn) P) :
    Ev (n + 1) (S a st h pc pos om mk lm li [ns s om'] wt (some true) none sn) P :=
  Ev.step (m₂ := S a st h 9 s om' mk lm li [] (wt - 1) (some true) none sn) rfl rfl (hy _)
theorem ev_nsF {pc s : Nat} {om' : Bool} {sn : Sre.Seen} (hw : wt = 1)
    (hy : s < a.size → ∀ sn, Ev n (S a (s + 1) (s + 1) 9 (s + 1) false mk (-1) (-1) [ns (s + 1) false] 1 none none sn) P)
    (hn : ¬s < a.size → ∀ sn, Ev n (S a st h 9 s om' mk lm li [] 0 (some false) none sn) P) :
    Ev (n + 1) (S a st h pc pos om mk lm li [ns s om'] wt (some false) none sn) P := by
  subst hw
  by_cases h1 : s < a.size
  · refine Ev.step (m₂ := S a (s + 1) (s + 1) 9 (s + 1) false mk (-1) (-1) [ns (s + 1) false] 1 none none sn) rfl ?_ (hy h1 _)
    show (if s < a.size then _ else _) = _
    rw [if_pos h1]; rfl
  · refine Ev.step (m₂ := S a st h 9 s om' mk lm li [] 0 (some false) none sn) rfl ?_ (hn h1 _)
    show (if s < a.size then _ else _) = _
    rw [if_neg h1]; rfl
theorem ev_end {pc : Nat} {b : Bool} {sn : Sre.Seen} (hy : P (S a st h pc pos om mk lm li [] wt (some b) (some (if b then .matched else .failed)) sn)) :
    Ev 1 (S a st h pc pos om mk lm li [] wt (some b) none sn) P := ⟨1, Nat.le_refl _, hy⟩
end
end Mine
end
section
open PySem PySem.W PyProof.Rows PySem.Calls
set_option maxRecDepth 100000
namespace Mine
open PySem.Builtin.Re

/-- an address' lead and its k figures at s -/
def AddrAt (a : Array Nat) (s k : Nat) : Prop :=
  a.getD s 0 = 32 ∧ (a.getD (s + 1) 0 = 97 ∨ a.getD (s + 1) 0 = 65) ∧ (a.getD (s + 2) 0 = 116 ∨ a.getD (s + 2) 0 = 84) ∧ a.getD (s + 3) 0 = 32 ∧ a.getD (s + 4) 0 = 48 ∧
    (a.getD (s + 5) 0 = 120 ∨ a.getD (s + 5) 0 = 88) ∧ ∀ j, j < k → hexC (a.getD (s + 6 + j) 0) = true
def Dec (a : Array Nat) (s k m : Nat) : Prop := 6 ≤ k ∧ k ≤ 16 ∧ 1 ≤ m ∧ AddrAt a s k ∧ (∀ j, j < m → a.getD (s + 6 + k + j) 0 = 62) ∧ EndAt a (s + 6 + k + m)

theorem lt_of_ne {a : Array Nat} {p : Nat} (h : a.getD p 0 ≠ 0) : p < a.size := by
  rcases Nat.lt_or_ge p a.size with h1 | h1
  · exact h1
  · exfalso; apply h; simp [Array.getD, Nat.not_lt.mpr h1]
theorem hex_lt {a : Array Nat} {p : Nat} (h : hexC (a.getD p 0) = true) : p < a.size := lt_of_ne fun q => by rw [q] at h; cases h

section
variable {a : Array Nat} {P : Sre.M → Prop}

def Fl (a : Array Nat) (P : Sre.M → Prop) (s : Nat) (om0 : Bool) (n : Nat) : Prop :=
  ∀ h pc pos om mk lm li sn, mk.size = 2 → Ev n (S a s h pc pos om mk lm li [ns s om0] 1 (some false) none sn) P

theorem loop_d {s p n : Nat} {fr : List Sre.Frame} {om : Bool} {lm0 li0 : Int} (hl0 : 0 ≤ lm0)
    (nxt : ∀ h pc pos om mk lm li sn, mk.size = 2 → Ev n (S a s h pc pos om mk lm li fr 2 (some false) none sn) P) :
    ∀ (d : Nat) (h : Nat) (mk : Array (Option Nat)) (lm li : Int) (sn : Sre.Seen), 1 ≤ d → (∀ d', 1 ≤ d' → d' ≤ d → ¬EndAt a (p + d')) → mk.size = 2 → 0 ≤ lm →
      Ev (n + 3 * d) (S a s h 44 (p + d) om mk lm li (gb 37 d (p + d) om lm0 li0 :: fr) 3 none none sn) P
  | 0, _, _, _, _, _, h1, _, _, _ => absurd h1 (by omega)
  | d + 1, h, mk, lm, li, sn, _, hne, hmk, hlm => by
    refine Ev.mono (ev44 (n := n + 3 * d + 2) hlm fun sn => ?_) (by omega)
    refine ev46 (n := n + 3 * d + 1) (fun q => absurd q (hne _ (by omega) (Nat.le_refl _))) fun _ sn => ?_
    refine ev_gbF37 (n := n + 3 * d) (by omega) (by omega) (fun hd sn => ?_) fun hd sn => ?_
    · have e1 : p + (d + 1) - 1 = p + d := by omega
      have e2 : ((d + 1 : Nat) : Int) - 1 = ((d : Nat) : Int) := by omega
      rw [e1, e2]
      exact loop_d hl0 nxt d _ _ _ _ _ (by omega) (fun d' h1 h2 => hne d' h1 (by omega)) (by simpa using hmk) hl0
    · have e : d = 0 := by omega
      subst e
      exact Ev.mono (nxt _ _ _ _ _ _ _ _ (by simpa using hmk)) (by omega)

def Cc (a : Array Nat) : Nat := 3 * a.size + 3
theorem loop_c {s n : Nat} {om om0 : Bool} {li0 : Int} (hno : ∀ k m, ¬Dec a s k m) (nxt : Fl a P s om0 n) :
    ∀ (c : Nat) (h : Nat) (mk : Array (Option Nat)) (lm li : Int) (sn : Sre.Seen), 6 ≤ c → c ≤ 16 → AddrAt a s c → mk.size = 2 → -1 ≤ lm →
      Ev (n + Cc a * (c - 5)) (S a s h 35 (s + 6 + c) om mk lm li (gb 21 c (s + 6 + c) om (-1) li0 :: [ns s om0]) 2 none none sn) P
  | 0, _, _, _, _, _, h1, _, _, _, _ => absurd h1 (by omega)
  | c + 1, h, mk, lm, li, sn, h6, h16, hA, hmk, hlm => by
    have up : ∀ h pc pos om1 mk lm li sn, mk.size = 2 →
        Ev (n + Cc a * (c - 5) + 1) (S a s h pc pos om1 mk lm li (gb 21 ((c + 1 : Nat) : Int) (s + 6 + (c + 1)) om (-1) li0 :: [ns s om0]) 2 (some false) none sn) P := by
      intro h pc pos om1 mk lm li sn hmk
      refine ev_gbF21 (by omega) (by omega) (fun hc sn => ?_) fun hc sn => ?_
      · have e1 : s + 6 + (c + 1) - 1 = s + 6 + c := by omega
        have e2 : ((c + 1 : Nat) : Int) - 1 = ((c : Nat) : Int) := by omega
        rw [e1, e2]
        exact loop_c hno nxt c _ _ _ _ _ (by omega) (by omega) ⟨hA.1, hA.2.1, hA.2.2.1, hA.2.2.2.1, hA.2.2.2.2.1, hA.2.2.2.2.2.1, fun j hj => hA.2.2.2.2.2.2 j (by omega)⟩ hmk (by omega)
      · exact Ev.mono (nxt _ _ _ _ _ _ _ _ hmk) (by omega)
    have hsz : Cc a * (c + 1 - 5) = Cc a * (c - 5) + Cc a := by
      have : c + 1 - 5 = (c - 5) + 1 := by omega
      rw [this, Nat.mul_succ]
    have hzle := cnt_le (· == 62) a (min 4294967295 (a.size - (s + 6 + (c + 1)))) (s + 6 + (c + 1))
    have hall := cnt_all (· == 62) a (min 4294967295 (a.size - (s + 6 + (c + 1)))) (s + 6 + (c + 1))
    generalize hz : cnt (· == 62) a (min 4294967295 (a.size - (s + 6 + (c + 1)))) (s + 6 + (c + 1)) = z at hzle hall
    have hzs : 3 * z ≤ 3 * a.size := by omega
    refine Ev.mono (n := (n + Cc a * (c - 5) + 1 + 3 * z) + 1 + 1) ?_ (by rw [hsz]; unfold Cc; omega)
    refine ev35 hlm fun sn => ?_
    refine ev37 (by omega) hz.symm (fun h1 sn => ?_) fun h1 sn => ?_
    · refine loop_d (p := s + 6 + (c + 1)) (by omega) up z _ _ _ _ _ h1 (fun d' h2 h3 hE => hno (c + 1) d' ⟨h6, h16, h2, hA, fun j hj => ?_, hE⟩) (by simpa using hmk) (by omega)
      have := hall j (by omega)
      simpa using this
    · exact Ev.mono (up _ _ _ _ _ _ _ _ (by simpa using hmk)) (by omega)

def Bc (a : Array Nat) : Nat := 7 + Cc a * 11
theorem att_fail {s n h : Nat} {om om0 : Bool} {mk : Array (Option Nat)} {sn : Sre.Seen} (hno : ∀ k m, ¬Dec a s k m) (nxt : Fl a P s om0 n) (hmk : mk.size = 2) :
    Ev (n + Bc a) (S a s h 9 s om mk (-1) (-1) [ns s om0] 1 none none sn) P := by
  refine Ev.mono (n := (n + Cc a * 11) + 1 + 1 + 1 + 1 + 1 + 1 + 1) ?_ (by unfold Bc; omega)
  have nx : ∀ i h pc pos om sn, Ev (n + i) (S a s h pc pos om mk (-1) (-1) [ns s om0] 1 (some false) none sn) P := fun i h pc pos om sn => Ev.mono (nxt _ _ _ _ _ _ _ _ hmk) (by omega)
  refine ev9 (fun _ h1 sn => ?_) fun _ sn => Ev.mono (nx 0 _ _ _ _ _) (by omega)
  refine ev11 (fun _ h2 sn => ?_) fun _ sn => Ev.mono (nx 0 _ _ _ _ _) (by omega)
  refine ev13 (fun _ h3 sn => ?_) fun _ sn => Ev.mono (nx 0 _ _ _ _ _) (by omega)
  refine ev15 (fun _ h4 sn => ?_) fun _ sn => Ev.mono (nx 0 _ _ _ _ _) (by omega)
  refine ev17 (fun _ h5 sn => ?_) fun _ sn => Ev.mono (nx 0 _ _ _ _ _) (by omega)
  refine ev19 (fun _ h6 sn => ?_) fun _ sn => Ev.mono (nx 0 _ _ _ _ _) (by omega)
  have hall := cnt_all hexC a (min 16 (a.size - (s + 1 + 1 + 1 + 1 + 1 + 1))) (s + 1 + 1 + 1 + 1 + 1 + 1)
  have hle := cnt_le hexC a (min 16 (a.size - (s + 1 + 1 + 1 + 1 + 1 + 1))) (s + 1 + 1 + 1 + 1 + 1 + 1)
  generalize hr : cnt hexC a (min 16 (a.size - (s + 1 + 1 + 1 + 1 + 1 + 1))) (s + 1 + 1 + 1 + 1 + 1 + 1) = r at hall hle
  refine ev21 (by omega) hr.symm (fun h7 sn => ?_) fun _ sn => Ev.mono (nx 0 _ _ _ _ _) (by omega)
  have e : s + 1 + 1 + 1 + 1 + 1 + 1 + r = s + 6 + r := by omega
  rw [e]
  refine Ev.mono (loop_c hno nxt r _ _ _ _ _ h7 (by omega) ⟨by simpa using h1, (by have := (low_eq (.inl rfl)).mp h2; omega), (by have := (low_eq (.inr (.inl rfl))).mp h3; rw [show s + 1 + 1 = s + 2 by omega] at this; omega), by simpa using h4, by simpa using h5, (by have := (low_eq (.inr (.inr rfl))).mp h6; rw [show s + 1 + 1 + 1 + 1 + 1 = s + 5 by omega] at this; omega), fun j hj => by
    have := hall j hj
    rw [show s + 6 + j = s + 1 + 1 + 1 + 1 + 1 + 1 + j by omega]; exact this⟩ hmk (by omega)) ?_
  have : Cc a * (r - 5) ≤ Cc a * 11 := Nat.mul_le_mul_left _ (by omega)
  omega

theorem dec_hex {s k m : Nat} (hD : Dec a s k m) : cnt hexC a (min 16 (a.size - (s + 6))) (s + 6) = k := by
  obtain ⟨h6, h16, h1, hA, hm, hE⟩ := hD
  have hx := hA.2.2.2.2.2.2
  have hlast : s + 6 + k < a.size := lt_of_ne (by have := hm 0 (by omega); rw [Nat.add_zero] at this; rw [this]; decide)
  have hle := cnt_le hexC a (min 16 (a.size - (s + 6))) (s + 6)
  have hall := cnt_all hexC a (min 16 (a.size - (s + 6))) (s + 6)
  have hst := cnt_stop hexC a (min 16 (a.size - (s + 6))) (s + 6)
  generalize cnt hexC a (min 16 (a.size - (s + 6))) (s + 6) = r at hle hall hst
  rcases Nat.lt_trichotomy r k with h | h | h
  · have := hst (by omega)
    rw [hx r h] at this; cases this
  · exact h
  · have := hall k h
    have h0 := hm 0 (by omega)
    rw [Nat.add_zero] at h0
    rw [h0] at this; cases this
theorem dec_marks {s k m : Nat} (hD : Dec a s k m) (hsz : a.size ≤ 4294967295) : cnt (· == 62) a (min 4294967295 (a.size - (s + 6 + k))) (s + 6 + k) = m := by
  obtain ⟨h6, h16, h1, hA, hm, hE⟩ := hD
  have hlast : s + 6 + k + (m - 1) < a.size := lt_of_ne (by rw [hm (m - 1) (by omega)]; decide)
  have hle := cnt_le (· == 62) a (min 4294967295 (a.size - (s + 6 + k))) (s + 6 + k)
  have hall := cnt_all (· == 62) a (min 4294967295 (a.size - (s + 6 + k))) (s + 6 + k)
  have hst := cnt_stop (· == 62) a (min 4294967295 (a.size - (s + 6 + k))) (s + 6 + k)
  generalize cnt (· == 62) a (min 4294967295 (a.size - (s + 6 + k))) (s + 6 + k) = r at hle hall hst
  rcases Nat.lt_trichotomy r m with h | h | h
  · have := hst (by omega)
    rw [hm r h] at this; cases this
  · exact h
  · have := hall m h
    rcases hE with e | ⟨e, e'⟩
    · omega
    · rw [e'] at this; cases this

theorem att_ok {s k m h : Nat} {om om0 : Bool} {mk : Array (Option Nat)} {sn : Sre.Seen} (hD : Dec a s k m) (hsz : a.size ≤ 4294967295)
    (nxt : ∀ sn, P (S a s (s + 6 + k + m) 9 s om0 ((mk.setIfInBounds 0 (some (s + 6 + k))).setIfInBounds 1 (some (s + 6 + k + m))) 1 1 [] 0 (some true) (some .matched) sn)) :
    Ev 20 (S a s h 9 s om mk (-1) (-1) [ns s om0] 1 none none sn) P := by
  have hx := dec_hex hD
  have hmm := dec_marks hD hsz
  obtain ⟨h6, h16, h1, hA, hm, hE⟩ := hD
  have l : ∀ i, i < 6 → s + i < a.size := fun i hi => by
    have := hex_lt (hA.2.2.2.2.2.2 0 (by omega)); omega
  refine Ev.mono (n := 9 + 1 + 1 + 1 + 1 + 1 + 1 + 1) ?_ (by omega)
  refine ev9 (fun _ _ sn => ?_) fun q => absurd ⟨l 0 (by omega), by simpa using hA.1⟩ q
  refine ev11 (fun _ _ sn => ?_) fun q => absurd ⟨l 1 (by omega), (low_eq (.inl rfl)).mpr (by have := hA.2.1; omega)⟩ q
  refine ev13 (fun _ _ sn => ?_) fun q => absurd ⟨l 2 (by omega), (low_eq (.inr (.inl rfl))).mpr (by have := hA.2.2.1; rw [show s + 1 + 1 = s + 2 by omega]; omega)⟩ q
  refine ev15 (fun _ _ sn => ?_) fun q => absurd ⟨l 3 (by omega), by simpa using hA.2.2.2.1⟩ q
  refine ev17 (fun _ _ sn => ?_) fun q => absurd ⟨l 4 (by omega), by simpa using hA.2.2.2.2.1⟩ q
  refine ev19 (fun _ _ sn => ?_) fun q => absurd ⟨l 5 (by omega), (low_eq (.inr (.inr rfl))).mpr (by have := hA.2.2.2.2.2.1; rw [show s + 1 + 1 + 1 + 1 + 1 = s + 5 by omega]; omega)⟩ q
  have e : s + 1 + 1 + 1 + 1 + 1 + 1 = s + 6 := by omega
  rw [e]
  refine ev21 (by omega) hx.symm (fun _ sn => ?_) fun q => absurd h6 (by omega)
  refine ev35 (by omega) fun sn => ?_
  refine ev37 (by omega) hmm.symm (fun _ sn => ?_) fun q => absurd h1 (by omega)
  refine ev44 (by omega) fun sn => ?_
  refine ev46 (fun _ sn => ?_) fun q => absurd hE q
  refine ev48 fun sn => ?_
  refine ev_gbT fun sn => ?_
  refine ev_gbT fun sn => ?_
  refine ev_nsT fun sn => ?_
  exact ev_end (b := true) (nxt sn)

theorem search_no (hno : ∀ s k m, ¬Dec a s k m) (nxt : ∀ m : Sre.M, m.outcome = some .failed → P m) :
    ∀ (j s : Nat), a.size - s = j → s ≤ a.size → ∀ h om om0 mk sn, mk.size = 2 → Ev ((Bc a + 2) * (j + 1)) (S a s h 9 s om mk (-1) (-1) [ns s om0] 1 none none sn) P := by
  intro j
  induction j with
  | zero =>
    intro s hj hs h om om0 mk sn hmk
    refine Ev.mono (n := 2 + Bc a) (att_fail (fun k m => hno s k m) (fun h pc pos om mk lm li sn _ => ?_) hmk) (by omega)
    refine ev_nsF rfl (fun q => absurd q (by omega)) fun _ sn => ?_
    exact ev_end (b := false) (nxt _ rfl)
  | succ j ih =>
    intro s hj hs h om om0 mk sn hmk
    refine Ev.mono (n := ((Bc a + 2) * (j + 1) + 1) + Bc a) (att_fail (fun k m => hno s k m) (fun h pc pos om mk lm li sn hmk => ?_) hmk) ?_
    · exact ev_nsF rfl (fun q sn => ih (s + 1) (by omega) (by omega) _ _ _ _ _ hmk) fun q => absurd q (by omega)
    · have : (Bc a + 2) * (j + 1 + 1) = (Bc a + 2) * (j + 1) + (Bc a + 2) := Nat.mul_succ _ _
      omega

def Hit (s k m : Nat) (x : Sre.M) : Prop := x.outcome = some .matched ∧ x.start = s ∧ x.handed = s + 6 + k + m ∧ x.marks.getD 0 none = some (s + 6 + k) ∧ x.marks.getD 1 none = some (s + 6 + k + m) ∧ x.lastmark = 1 ∧ x.lastindex = 1
theorem search_yes {s k m : Nat} (hD : Dec a s k m) (hsz : a.size ≤ 4294967295) (hno : ∀ s' k m, s' < s → ¬Dec a s' k m) (nxt : ∀ x : Sre.M, Hit s k m x → P x) :
    ∀ (j s' : Nat), s - s' = j → s' ≤ s → ∀ h om om0 mk sn, mk.size = 2 → Ev ((Bc a + 2) * j + 20) (S a s' h 9 s' om mk (-1) (-1) [ns s' om0] 1 none none sn) P := by
  have hlt : s < a.size := by have := hex_lt (hD.2.2.2.1.2.2.2.2.2.2 0 (by have := hD.1; omega)); omega
  intro j
  induction j with
  | zero =>
    intro s' hj hs h om om0 mk sn hmk
    have e : s' = s := by omega
    subst e
    refine Ev.mono (att_ok hD hsz fun sn => nxt _ ⟨rfl, rfl, rfl, ?_, ?_, rfl, rfl⟩) (by omega)
    · show ((mk.setIfInBounds 0 _).setIfInBounds 1 _).getD 0 none = _
      have h0 : 0 < ((mk.setIfInBounds 0 (some (s' + 6 + k))).setIfInBounds 1 (some (s' + 6 + k + m))).size := by simp [hmk]
      simp [Array.getD, hmk]
    · show ((mk.setIfInBounds 0 _).setIfInBounds 1 _).getD 1 none = _
      simp [Array.getD, hmk]
  | succ j ih =>
    intro s' hj hs h om om0 mk sn hmk
    refine Ev.mono (n := ((Bc a + 2) * j + 20 + 1) + Bc a) (att_fail (fun k m => hno s' k m (by omega)) (fun h pc pos om mk lm li sn hmk => ?_) hmk) ?_
    · exact ev_nsF rfl (fun q sn => ih (s' + 1) (by omega) (by omega) _ _ _ _ _ hmk) fun q => absurd q (by omega)
    · have : (Bc a + 2) * (j + 1) = (Bc a + 2) * j + (Bc a + 2) := Nat.mul_succ _ _
      omega
end

theorem forSearch_eq {a : Array Nat} {p : Nat} (h : 13 ≤ a.size - p) (hp : p ≤ a.size) : ∃ sn, Sre.forSearch CODE a 1 p a.size false = S a p p 9 p true (Array.replicate 2 none) (-1) (-1) [ns p true] 1 none none sn := by
  refine ⟨({} : Sre.Seen).add 14, ?_⟩
  show (if (decide (p > a.size) || decide (a.size - p < 13)) = true then _ else _) = _
  rw [if_neg (by simp; omega)]
  rfl
theorem forSearch_short {a : Array Nat} {p : Nat} (h : a.size - p < 13) : ((Sre.forSearch CODE a 1 p a.size false).runFor 1).outcome = some .failed := by
  have e : Sre.forSearch CODE a 1 p a.size false = Sre.M.say { code := CODE, text := a, lim := a.size, start := p, pc := 9, pos := p, handed := p, marks := Array.replicate 2 none, mustAdvance := false, seen := ({} : Sre.Seen).add 14 } false := by
    show (if (decide (p > a.size) || decide (a.size - p < 13)) = true then _ else _) = _
    rw [if_pos (by simp; omega)]
    rfl
  rw [e]; rfl

theorem bound_ok {a : Array Nat} (hsz : a.size ≤ 1100) {j : Nat} (hj : j ≤ a.size + 1) : (Bc a + 2) * j + 20 ≤ 4 * 2 ^ 64 := by
  have h1 : Bc a + 2 ≤ 40000 := by unfold Bc Cc; omega
  have h2 : (Bc a + 2) * j ≤ 40000 * 1101 := Nat.mul_le_mul h1 (by omega)
  have : (4 : Nat) * 2 ^ 64 = 73786976294838206464 := by decide
  omega

theorem search_none {a : Array Nat} (hsz : a.size ≤ 1100) (hno : ∀ s k m, ¬Dec a s k m) : ∃ n m', (Sre.forSearch CODE a 1 0 a.size false).runFor n = m' ∧ n ≤ 4 * 2 ^ 64 ∧ m'.outcome = some .failed := by
  by_cases h : 13 ≤ a.size - 0
  · obtain ⟨sn, e⟩ := forSearch_eq h (Nat.zero_le _)
    obtain ⟨k, hk, hp⟩ := search_no (P := fun x => x.outcome = some .failed) hno (fun _ h => h) (a.size - 0) 0 rfl (Nat.zero_le _) 0 true true (Array.replicate 2 none) sn (by simp)
    exact ⟨k, _, rfl, Nat.le_trans hk (Nat.le_trans (Nat.le_add_right _ 20) (bound_ok hsz (by omega))), by rw [e]; exact hp⟩
  · exact ⟨1, _, rfl, by decide, forSearch_short (by omega)⟩
theorem search_some {a : Array Nat} {s k m : Nat} (hsz : a.size ≤ 1100) (hD : Dec a s k m) (hno : ∀ s' k m, s' < s → ¬Dec a s' k m) : ∃ n m', (Sre.forSearch CODE a 1 0 a.size false).runFor n = m' ∧ n ≤ 4 * 2 ^ 64 ∧ Hit s k m m' := by
  have hlt : s + 6 + k + m ≤ a.size := by rcases hD.2.2.2.2.2 with e | e <;> omega
  have h6 := hD.1
  have h1 := hD.2.2.1
  obtain ⟨sn, e⟩ := forSearch_eq (a := a) (p := 0) (by omega) (Nat.zero_le _)
  obtain ⟨i, hk, hp⟩ := search_yes (P := Hit s k m) hD (by omega) hno (fun _ h => h) (s - 0) 0 rfl (Nat.zero_le _) 0 true true (Array.replicate 2 none) sn (by simp)
  exact ⟨i, _, rfl, Nat.le_trans hk (bound_ok hsz (by omega)), by rw [e]; exact hp⟩
end Mine
end
section
open PySem PySem.W PyProof.Rows PySem.Calls
set_option maxRecDepth 100000
namespace Mine
open PySem.Builtin.Re
def ICODE : Array Nat := #[14, 4, 0, 0, 0, 6, 1, 5, 5, 0, 6, 6, 1, 1]

def T (a : Array Nat) (st h pc pos : Nat) (om mu : Bool) (fr : List Sre.Frame) (wt : Nat) (ans : Option Bool) (oc : Option Sre.Outcome) (sn : Sre.Seen) : Sre.M :=
  { code := ICODE, text := a, lim := a.size, start := st, lastStart := a.size, mustAdvance := mu, pc := pc, pos := pos, handed := h, outermost := om, marks := #[], lastmark := -1, lastindex := -1, frames := fr, weight := wt, answer := ans, seen := sn, outcome := oc }
def BegAt (a : Array Nat) (p : Nat) : Prop := p = 0 ∨ a.getD (p - 1) 0 = 10
def EolAt (a : Array Nat) (p : Nat) : Prop := p = a.size ∨ a.getD p 0 = 10
def LineAt (a : Array Nat) (p : Nat) : Prop := BegAt a p ∧ ¬EolAt a p
def nsI (s : Nat) (om : Bool) : Sre.Frame := { wait := .nextStart, pc := 5, pos := s, outermost := om }
def lnI (s : Nat) (om : Bool) : Sre.Frame := { wait := .lookNot, pc := 7, pos := s, outermost := om, kept := { lastmark := -1, lastindex := -1, whole := false, marks := #[] } }
section
variable {a : Array Nat} {st h pos wt n : Nat} {om mu : Bool} {fr : List Sre.Frame} {sn : Sre.Seen} {P : Sre.M → Prop}
theorem ei5 (hy : BegAt a pos → ∀ sn, Ev n (T a st h 7 pos om mu fr wt none none sn) P) (hn : ¬BegAt a pos → ∀ sn, Ev n (T a st h 5 pos om mu fr wt (some false) none sn) P) : Ev (n + 1) (T a st h 5 pos om mu fr wt none none sn) P := by
  have e : (BegAt a pos) ↔ (pos == 0 || a.getD (pos - 1) 0 == 10) = true := by
    unfold BegAt; simp only [Bool.or_eq_true, beq_iff_eq]
  by_cases h1 : (pos == 0 || a.getD (pos - 1) 0 == 10) = true
  · refine Ev.step (m₂ := T a st h 7 pos om mu fr wt none none ((sn.add 6).add 44)) rfl ?_ (hy (e.mpr h1) _)
    show (if (pos == 0 || a.getD (pos - 1) 0 == 10) = true then _ else _) = _
    rw [if_pos h1]; rfl
  · refine Ev.step (m₂ := T a st h 5 pos om mu fr wt (some false) none ((sn.add 6).add 44)) rfl ?_ (hn (fun q => h1 (e.mp q)) _)
    show (if (pos == 0 || a.getD (pos - 1) 0 == 10) = true then _ else _) = _
    rw [if_neg h1]; rfl
theorem ei7 (hw : wt ≤ 10) (hy : ∀ sn, Ev n (T a st pos 10 pos false mu (lnI pos om :: fr) (wt + 1) none none sn) P) : Ev (n + 1) (T a st h 7 pos om mu fr wt none none sn) P := by
  refine Ev.step (m₂ := T a st pos 10 pos false mu (lnI pos om :: fr) (wt + 1) none none (sn.add 5)) rfl ?_ (hy _)
  show (if wt + 1 + 0 > 16777216 then _ else _) = _
  rw [if_neg (by omega)]; rfl
theorem ei10 (hy : EolAt a pos → ∀ sn, Ev n (T a st h 12 pos om mu fr wt none none sn) P) (hn : ¬EolAt a pos → ∀ sn, Ev n (T a st h 10 pos om mu fr wt (some false) none sn) P) : Ev (n + 1) (T a st h 10 pos om mu fr wt none none sn) P := by
  have e : (EolAt a pos) ↔ (pos == a.size || a.getD pos 0 == 10) = true := by
    unfold EolAt; simp only [Bool.or_eq_true, beq_iff_eq]
  by_cases h1 : (pos == a.size || a.getD pos 0 == 10) = true
  · refine Ev.step (m₂ := T a st h 12 pos om mu fr wt none none ((sn.add 6).add 49)) rfl ?_ (hy (e.mpr h1) _)
    show (if (pos == a.size || a.getD pos 0 == 10) = true then _ else _) = _
    rw [if_pos h1]; rfl
  · refine Ev.step (m₂ := T a st h 10 pos om mu fr wt (some false) none ((sn.add 6).add 49)) rfl ?_ (hn (fun q => h1 (e.mp q)) _)
    show (if (pos == a.size || a.getD pos 0 == 10) = true then _ else _) = _
    rw [if_neg h1]; rfl
theorem ei12 (hy : ∀ sn, Ev n (T a st pos 12 pos false mu fr wt (some true) none sn) P) : Ev (n + 1) (T a st h 12 pos false mu fr wt none none sn) P :=
  Ev.step (m₂ := T a st pos 12 pos false mu fr wt (some true) none (sn.add 1)) rfl rfl (hy _)
theorem ei13 (hy : (om && mu && pos == st) = false → ∀ sn, Ev n (T a st pos 13 pos om mu fr wt (some true) none sn) P) (hn : (om && mu && pos == st) = true → ∀ sn, Ev n (T a st h 13 pos om mu fr wt (some false) none sn) P) :
    Ev (n + 1) (T a st h 13 pos om mu fr wt none none sn) P := by
  have e : (om && (false && pos != a.size || mu && pos == st)) = (om && mu && pos == st) := by cases om <;> cases mu <;> simp
  cases h1 : (om && mu && pos == st) with
  | true =>
    refine Ev.step (m₂ := T a st h 13 pos om mu fr wt (some false) none (sn.add 1)) rfl ?_ (hn h1 _)
    show (if (om && (false && pos != a.size || mu && pos == st)) = true then _ else _) = _
    rw [e, h1, if_pos rfl]; rfl
  | false =>
    refine Ev.step (m₂ := T a st pos 13 pos om mu fr wt (some true) none (sn.add 1)) rfl ?_ (hy h1 _)
    show (if (om && (false && pos != a.size || mu && pos == st)) = true then _ else _) = _
    rw [e, h1, if_neg (by simp)]; rfl
theorem ei_lnT {pc p : Nat} {om' : Bool} (hy : ∀ sn, Ev n (T a st h 7 p om' mu fr (wt - 1) (some false) none sn) P) : Ev (n + 1) (T a st h pc pos om mu (lnI p om' :: fr) wt (some true) none sn) P :=
  Ev.step (m₂ := T a st h 7 p om' mu fr (wt - 1) (some false) none sn) rfl rfl (hy _)
theorem ei_lnF {pc p : Nat} {om' : Bool} (hy : ∀ sn, Ev n (T a st h 13 p om' mu fr (wt - 1) none none sn) P) : Ev (n + 1) (T a st h pc pos om mu (lnI p om' :: fr) wt (some false) none sn) P :=
  Ev.step (m₂ := T a st h 13 p om' mu fr (wt - 1) none none sn) rfl rfl (hy _)
theorem ei_nsT {pc s : Nat} {om' : Bool} (hy : ∀ sn, Ev n (T a st h 5 s om' mu [] (wt - 1) (some true) none sn) P) : Ev (n + 1) (T a st h pc pos om mu [nsI s om'] wt (some true) none sn) P :=
  Ev.step (m₂ := T a st h 5 s om' mu [] (wt - 1) (some true) none sn) rfl rfl (hy _)
theorem ei_nsF {pc s : Nat} {om' : Bool} (hw : wt = 1)
    (hy : s < a.size → ∀ sn, Ev n (T a (s + 1) (s + 1) 5 (s + 1) false false [nsI (s + 1) false] 1 none none sn) P)
    (hn : ¬s < a.size → ∀ sn, Ev n (T a st h 5 s om' mu [] 0 (some false) none sn) P) : Ev (n + 1) (T a st h pc pos om mu [nsI s om'] wt (some false) none sn) P := by
  subst hw
  by_cases h1 : s < a.size
  · refine Ev.step (m₂ := T a (s + 1) (s + 1) 5 (s + 1) false false [nsI (s + 1) false] 1 none none sn) rfl ?_ (hy h1 _)
    show (if s < a.size then _ else _) = _
    rw [if_pos h1]; rfl
  · refine Ev.step (m₂ := T a st h 5 s om' mu [] 0 (some false) none sn) rfl ?_ (hn h1 _)
    show (if s < a.size then _ else _) = _
    rw [if_neg h1]; rfl
theorem ei_end {pc : Nat} {b : Bool} (hy : P (T a st h pc pos om mu [] wt (some b) (some (if b then .matched else .failed)) sn)) :
    Ev 1 (T a st h pc pos om mu [] wt (some b) none sn) P := ⟨1, Nat.le_refl _, hy⟩

/-- one try at s -/
theorem try_line {s : Nat} (hit : LineAt a s → (om && mu) = false → ∀ sn, P (T a s s 5 s om mu [] 0 (some true) (some .matched) sn))
    (miss : ¬(LineAt a s ∧ (om && mu) = false) → ∀ h pc pos om' sn, Ev n (T a s h pc pos om' mu [nsI s om] 1 (some false) none sn) P) :
    Ev (n + 9) (T a s h 5 s om mu [nsI s om] 1 none none sn) P := by
  refine Ev.mono (n := (n + 7) + 1) ?_ (by omega)
  refine ei5 (fun hb sn => ?_) fun hb sn => Ev.mono (miss (fun q => hb q.1.1) _ _ _ _ _) (by omega)
  refine Ev.mono (n := (n + 5) + 1 + 1) ?_ (by omega)
  refine ei7 (by omega) fun sn => ?_
  refine ei10 (fun he sn => ?_) fun he sn => ?_
  · refine Ev.mono (n := (n + 2) + 1 + 1) ?_ (by omega)
    refine ei12 fun sn => ?_
    refine ei_lnT fun sn => Ev.mono (miss (fun q => q.1.2 he) _ _ _ _ _) (by omega)
  · refine Ev.mono (n := (n + 2) + 1 + 1) ?_ (by omega)
    refine ei_lnF fun sn => ?_
    refine ei13 (fun hm sn => ?_) fun hm sn => ?_
    · refine Ev.mono (n := 1 + 1) ?_ (by omega)
      refine ei_nsT fun sn => ?_
      exact ei_end (b := true) (hit ⟨hb, he⟩ (by simpa using hm) _)
    · exact Ev.mono (miss (fun q => by have := q.2; rw [this] at hm; simp at hm) _ _ _ _ _) (by omega)

theorem line_yes {p : Nat} (hD : LineAt a p) (hsz : p < a.size) (nxt : ∀ x : Sre.M, x.outcome = some .matched → x.start = p → x.handed = p → P x) :
    ∀ (j s : Nat), p - s = j → s ≤ p → (∀ i, s ≤ i → i < p → ¬LineAt a i) → ∀ h sn, Ev (10 * (j + 1)) (T a s h 5 s false false [nsI s false] 1 none none sn) P := by
  intro j
  induction j with
  | zero =>
    intro s hj hs _ h sn
    have e : s = p := by omega
    subst e
    exact Ev.mono (try_line (n := 1) (fun _ _ sn => nxt _ rfl rfl rfl) fun q => absurd ⟨hD, rfl⟩ q) (by omega)
  | succ j ih =>
    intro s hj hs hno h sn
    refine Ev.mono (n := (10 * (j + 1) + 1) + 9) (try_line (fun q => absurd q (hno s (Nat.le_refl _) (by omega))) fun _ h pc pos om' sn => ?_) (by omega)
    exact ei_nsF rfl (fun _ sn => ih (s + 1) (by omega) (by omega) (fun i h1 h2 => hno i (by omega) h2) _ _) fun q => absurd q (by omega)
theorem line_no (nxt : ∀ x : Sre.M, x.outcome = some .failed → P x) :
    ∀ (j s : Nat), a.size - s = j → s ≤ a.size → (∀ i, s ≤ i → ¬LineAt a i) → ∀ h sn, Ev (10 * (j + 1) + 2) (T a s h 5 s false false [nsI s false] 1 none none sn) P := by
  intro j
  induction j with
  | zero =>
    intro s hj hs hno h sn
    refine Ev.mono (n := 2 + 9) (try_line (fun q => absurd q (hno s (Nat.le_refl _))) fun _ h pc pos om' sn => ?_) (by omega)
    exact ei_nsF rfl (fun q => absurd q (by omega)) fun _ sn => ei_end (b := false) (nxt _ rfl)
  | succ j ih =>
    intro s hj hs hno h sn
    refine Ev.mono (n := (10 * (j + 1) + 2 + 1) + 9) (try_line (fun q => absurd q (hno s (Nat.le_refl _))) fun _ h pc pos om' sn => ?_) (by omega)
    exact ei_nsF rfl (fun _ sn => ih (s + 1) (by omega) (by omega) (fun i h1 => hno i (by omega)) _ _) fun q => absurd q (by omega)
end

theorem forLine_eq {a : Array Nat} {p : Nat} {mu : Bool} (hp : p ≤ a.size) : ∃ sn, Sre.forSearch ICODE a 0 p a.size mu = T a p p 5 p true mu [nsI p true] 1 none none sn := by
  refine ⟨({} : Sre.Seen).add 14, ?_⟩
  show (if (decide (p > a.size) || decide (a.size - p < 0)) = true then _ else _) = _
  rw [if_neg (by simp; omega)]
  rfl
/-- the first line's start from p on; with mu, the one at p itself does not count -/
theorem searchLine_some {a : Array Nat} {p s : Nat} {mu : Bool} (hsz : a.size ≤ 1100) (hD : LineAt a p) (hlt : p < a.size) (hs : s ≤ p) (hmu : mu = true → s < p) (hno : ∀ i, s ≤ i → i < p → ¬(LineAt a i ∧ ¬(mu = true ∧ i = s))) :
    ∃ n m', (Sre.forSearch ICODE a 0 s a.size mu).runFor n = m' ∧ n ≤ 4 * 2 ^ 64 ∧ m'.outcome = some .matched ∧ m'.start = p ∧ m'.handed = p := by
  obtain ⟨sn, e⟩ := forLine_eq (a := a) (p := s) (mu := mu) (by omega)
  have key : Ev (10 * (p - s + 1) + 11) (T a s s 5 s true mu [nsI s true] 1 none none sn) fun x => x.outcome = some .matched ∧ x.start = p ∧ x.handed = p := by
    by_cases h1 : s = p
    · have hm : mu = false := by cases mu with | false => rfl | true => exact absurd (hmu rfl) (by omega)
      subst h1
      refine Ev.mono (try_line (n := 1) (fun _ _ sn => ⟨rfl, rfl, rfl⟩) fun q => absurd ⟨hD, by rw [hm]; rfl⟩ q) (by omega)
    · refine Ev.mono (n := (10 * (p - (s + 1) + 1) + 1) + 9) (try_line (fun q hm => ?_) fun _ h pc pos om' sn => ?_) (by omega)
      · have := hno s (Nat.le_refl _) (by omega)
        exact absurd ⟨q, fun r => by rw [r.1] at hm; cases hm⟩ this
      · refine ei_nsF rfl (fun _ sn => ?_) fun q => absurd q (by omega)
        exact line_yes hD hlt (fun x h1 h2 h3 => ⟨h1, h2, h3⟩) _ (s + 1) rfl (by omega) (fun i h2 h3 q => hno i (by omega) h3 ⟨q, fun r => by omega⟩) _ _
  obtain ⟨k, hk, hp⟩ := key
  have : (4 : Nat) * 2 ^ 64 = 73786976294838206464 := by decide
  exact ⟨k, _, rfl, by omega, by rw [e]; exact hp⟩
theorem searchLine_none {a : Array Nat} {s : Nat} {mu : Bool} (hsz : a.size ≤ 1100) (hs : s ≤ a.size) (hno : ∀ i, s ≤ i → ¬(LineAt a i ∧ ¬(mu = true ∧ i = s))) :
    ∃ n m', (Sre.forSearch ICODE a 0 s a.size mu).runFor n = m' ∧ n ≤ 4 * 2 ^ 64 ∧ m'.outcome = some .failed := by
  obtain ⟨sn, e⟩ := forLine_eq (a := a) (p := s) (mu := mu) hs
  have key : Ev (10 * (a.size - s + 1) + 20) (T a s s 5 s true mu [nsI s true] 1 none none sn) fun x => x.outcome = some .failed := by
    refine Ev.mono (n := (10 * (a.size - s + 1) + 3) + 9) (try_line (fun q hm => ?_) fun _ h pc pos om' sn => ?_) (by omega)
    · exact absurd ⟨q, fun r => by rw [r.1] at hm; cases hm⟩ (hno s (Nat.le_refl _))
    · refine ei_nsF rfl (fun h1 sn => ?_) fun _ sn => Ev.mono (ei_end (b := false) rfl) (by omega)
      exact Ev.mono (line_no (fun x h => h) _ (s + 1) rfl (by omega) (fun i h2 q => hno i (by omega) ⟨q, fun r => by omega⟩) _ _) (by omega)
  obtain ⟨k, hk, hp⟩ := key
  have : (4 : Nat) * 2 ^ 64 = 73786976294838206464 := by decide
  exact ⟨k, _, rfl, by omega, by rw [e]; exact hp⟩
end Mine
end
section
open PySem PySem.W PyProof.Rows PySem.Calls
set_option maxRecDepth 100000
namespace Mine

theorem EndAt.unq {a : Array Nat} {q q' : Nat} (h : EndAt a q) (h' : EndAt a q') (h1 : 1 ≤ q) (h1' : 1 ≤ q') (e : a.getD (q - 1) 0 = 62) (e' : a.getD (q' - 1) 0 = 62) : q = q' := by
  rcases h with h | ⟨h, g⟩ <;> rcases h' with h' | ⟨h', g'⟩
  · omega
  · rw [show q - 1 = q' by omega] at e; omega
  · rw [show q' - 1 = q by omega] at e'; omega
  · omega
theorem Dec.last {a : Array Nat} {s k m : Nat} (h : Dec a s k m) : a.getD (s + 6 + k + m - 1) 0 = 62 := by
  have := h.2.2.2.2.1 (m - 1) (by have := h.2.2.1; omega)
  rw [show s + 6 + k + m - 1 = s + 6 + k + (m - 1) by have := h.2.2.1; omega]; exact this
theorem Dec.hexLast {a : Array Nat} {s k m : Nat} (h : Dec a s k m) : hexC (a.getD (s + 6 + k - 1) 0) = true := by
  have h1 := h.1
  have := h.2.2.2.1.2.2.2.2.2.2 (k - 1) (by omega)
  rw [show s + 6 + k - 1 = s + 6 + (k - 1) by omega]; exact this
theorem Dec.start_unq {a : Array Nat} {s k m s' k' m' : Nat} (h : Dec a s k m) (h' : Dec a s' k' m') : s = s' := by
  have q := EndAt.unq h.2.2.2.2.2 h'.2.2.2.2.2 (by have := h.1; omega) (by have := h'.1; omega) h.last h'.last
  have e : s + 6 + k = s' + 6 + k' := by
    rcases Nat.lt_trichotomy (s + 6 + k) (s' + 6 + k') with g | g | g
    · have := h.2.2.2.2.1 (s' + 6 + k' - 1 - (s + 6 + k)) (by have := h'.2.2.1; omega)
      rw [show s + 6 + k + (s' + 6 + k' - 1 - (s + 6 + k)) = s' + 6 + k' - 1 by omega] at this
      have x := h'.hexLast
      rw [this] at x; cases x
    · exact g
    · have := h'.2.2.2.2.1 (s + 6 + k - 1 - (s' + 6 + k')) (by have := h.2.2.1; omega)
      rw [show s' + 6 + k' + (s + 6 + k - 1 - (s' + 6 + k')) = s + 6 + k - 1 by omega] at this
      have x := h.hexLast
      rw [this] at x; cases x
  rcases Nat.lt_trichotomy s s' with g | g | g
  · have x := h.2.2.2.1.2.2.2.2.2.2 (s' + 5 - (s + 6)) (by omega)
    rw [show s + 6 + (s' + 5 - (s + 6)) = s' + 5 by omega] at x
    rcases h'.2.2.2.1.2.2.2.2.2.1 with y | y <;> (rw [y] at x; cases x)
  · exact g
  · have x := h'.2.2.2.1.2.2.2.2.2.2 (s + 5 - (s' + 6)) (by omega)
    rw [show s' + 6 + (s + 5 - (s' + 6)) = s + 5 by omega] at x
    rcases h.2.2.2.1.2.2.2.2.2.1 with y | y <;> (rw [y] at x; cases x)

/-- what stripid makes of x -/
def StripTo (x y : Str) : Prop :=
  (∃ s k m, Dec x.cps s k m ∧ y.cps.toList = x.cps.toList.take s ++ x.cps.toList.drop (s + 6 + k)) ∨ ((∀ s k m, ¬Dec x.cps s k m) ∧ y = x)

/-- the address that ends at e, if there is one; r is its length (0: none) -/
def SizeIs (a : Array Nat) (e : Nat) (r : Int) : Prop :=
  (r = 0 ∧ ∀ p k, 6 ≤ k → k ≤ 16 → p + 6 + k = e → ¬AddrAt a p k) ∨ (∃ p k, 6 ≤ k ∧ k ≤ 16 ∧ p + 6 + k = e ∧ AddrAt a p k ∧ r = k + 6)

theorem getD_toList (a : Array Nat) (i : Nat) : a.toList.getD i 0 = a.getD i 0 := by
  simp [List.getD, Array.getD, Array.getElem?_toList]
  split <;> simp [*]

theorem item_eq {x : Str} {i : Int} (h0 : 0 ≤ i) (h1 : i < (x.length : Int)) : Txt.item x i = ⟨#[x.cps.getD i.toNat 0]⟩ := by
  have hlt : i.toNat < x.cps.size := by have : x.length = x.cps.size := rfl; omega
  have e : Txt.charAt x i = some (x.cps.getD i.toNat 0) := by
    have e1 : seqIndex? i x.length = some i.toNat := by
      unfold seqIndex?
      have hn : ¬ i < 0 := by omega
      simp [hn, h0, h1]
    unfold Txt.charAt
    rw [e1]
    show x.cps[i.toNat]? = _
    simp [hlt, Array.getD]
  unfold Txt.item
  rw [e]; rfl
abbrev HEX : Str := Str.ofString "0123456789abcdefABCDEF"
abbrev inStr (x y : Str) : Bool := !(PySem.Builtin.Str.occurrences x y 0 x.length 1).isEmpty
theorem inStr_one {x : Str} {i : Int} {y : Str} (h0 : 0 ≤ i) (h1 : i < (x.length : Int)) : inStr y (Txt.item x i) = decide (x.cps.getD i.toNat 0 ∈ y.cps.toList) := by
  unfold inStr
  rw [item_eq h0 h1, StrLaws.found_one]
theorem mem_hex (c : Nat) : decide (c ∈ HEX.cps.toList) = hexC c := by
  have e : HEX.cps.toList = [48, 49, 50, 51, 52, 53, 54, 55, 56, 57, 97, 98, 99, 100, 101, 102, 65, 66, 67, 68, 69, 70] := by decide +kernel
  rw [e]
  by_cases h : c < 128
  · have : ∀ c, c < 128 → decide (c ∈ [48, 49, 50, 51, 52, 53, 54, 55, 56, 57, 97, 98, 99, 100, 101, 102, 65, 66, 67, 68, 69, 70]) = hexC c := by decide +kernel
    exact this c h
  · have h1 : hexC c = false := by
      cases q : hexC c with
      | false => rfl
      | true => unfold hexC at q; simp only [Bool.or_eq_true, decide_eq_true_eq] at q; omega
    rw [h1]
    apply decide_eq_false
    intro q
    have hb : ∀ x ∈ [48, 49, 50, 51, 52, 53, 54, 55, 56, 57, 97, 98, 99, 100, 101, 102, 65, 66, 67, 68, 69, 70], x < 128 := by decide
    exact h (hb c q)
def sizeTest (t : Str) (e : Int) (k : Int) : Bool := if k < 17 then (if k < e then inStr HEX (Txt.item t (e - 1 - k)) else false) else false
theorem sizeTest_eq {t : Str} {e : Nat} (he : e ≤ t.length) {j : Nat} : sizeTest t e j = (decide (j < 17) && decide (j < e) && hexC (t.cps.getD (e - 1 - j) 0)) := by
  unfold sizeTest
  by_cases h1 : j < 17
  · rw [if_pos (by omega)]
    by_cases h2 : j < e
    · rw [if_pos (by omega), inStr_one (by omega) (by omega), mem_hex]
      have : ((e : Int) - 1 - (j : Int)).toNat = e - 1 - j := by omega
      rw [this]; simp [h1, h2]
    · rw [if_neg (by omega)]; simp [h1, h2]
  · rw [if_neg (by omega)]; simp [h1]

/-- the run of figures that the loop counts -/
def RunIs (t : Str) (e k : Nat) : Prop := k ≤ 17 ∧ (∀ j, j < k → hexC (t.cps.getD (e - 1 - j) 0) = true) ∧ k ≤ e ∧ (k < 17 → k < e → hexC (t.cps.getD (e - 1 - k) 0) = false)
theorem runIs_of {t : Str} {e : Nat} {k : Int} (hall : ∀ j, 0 ≤ j → j < k → sizeTest t e j = true) (hst : sizeTest t e k = false) (h0 : 0 ≤ k) (h17 : k ≤ 17) (he : e ≤ t.length) : ∃ n : Nat, k = n ∧ RunIs t e n := by
  obtain ⟨n, rfl⟩ := Int.eq_ofNat_of_zero_le h0
  have g : ∀ j, j < n → j < 17 ∧ j < e ∧ hexC (t.cps.getD (e - 1 - j) 0) = true := fun j hj => by
    have := hall j (by omega) (by omega)
    rw [sizeTest_eq he] at this
    simpa [and_assoc] using this
  refine ⟨n, rfl, by omega, fun j hj => (g j (by omega)).2.2, ?_, fun a b => ?_⟩
  · show n ≤ e
    rcases Nat.eq_zero_or_pos n with h | h
    · omega
    · have := (g (n - 1) (by omega)).2.1; omega
  · have := hst
    rw [sizeTest_eq he] at this
    have ha : n < 17 := a
    have hb : n < e := b
    simpa [ha, hb] using this

theorem addr_hex {a : Array Nat} {p k e : Nat} (h : AddrAt a p k) (he : p + 6 + k = e) : ∀ j, j < k → hexC (a.getD (e - 1 - j) 0) = true := fun j hj => by
  have := h.2.2.2.2.2.2 (k - 1 - j) (by omega)
  rw [show e - 1 - j = p + 6 + (k - 1 - j) by omega]; exact this
theorem addr_x {a : Array Nat} {p k e : Nat} (h : AddrAt a p k) (he : p + 6 + k = e) : hexC (a.getD (e - 1 - k) 0) = false := by
  rw [show e - 1 - k = p + 5 by omega]
  rcases h.2.2.2.2.2.1 with q | q <;> (rw [q]; rfl)
theorem run_addr {t : Str} {e k p k' : Nat} (hr : RunIs t e k) (h' : AddrAt t.cps p k') (he : p + 6 + k' = e) (h16 : k' ≤ 16) : k' = k := by
  obtain ⟨a1, a2, a3, a4⟩ := hr
  rcases Nat.lt_trichotomy k k' with h | h | h
  · have := addr_hex h' he k h
    rw [a4 (by omega) (by omega)] at this; cases this
  · exact h.symm
  · have := a2 k' h
    rw [addr_x h' he] at this; cases this
theorem size_short {t : Str} {e k : Nat} (hr : RunIs t e k) (h : k < 6 ∨ 16 < k ∨ e < k + 6) : SizeIs t.cps e 0 := by
  refine .inl ⟨rfl, fun p k' h6 h16 he hA => ?_⟩
  have := run_addr hr hA he h16
  omega
theorem size_miss {t : Str} {e k : Nat} (hr : RunIs t e k) (h6 : 6 ≤ k) (he : k + 6 ≤ e)
    (h : ∀ p, p + 6 + k = e → ¬AddrAt t.cps p k) : SizeIs t.cps e 0 := by
  refine .inl ⟨rfl, fun p k' h6 h16 he' hA => ?_⟩
  have := run_addr hr hA he' h16
  subst this
  exact h p he' hA
theorem size_hit {t : Str} {e k : Nat} (hr : RunIs t e k) (h6 : 6 ≤ k) (h16 : k ≤ 16) (he : k + 6 ≤ e)
    (h0 : inStr (Str.ofString " ") (Txt.item t ((e : Int) - k - 6 + 0)) = true) (h1 : inStr (Str.ofString "aA") (Txt.item t ((e : Int) - k - 6 + 1)) = true)
    (h2 : inStr (Str.ofString "tT") (Txt.item t ((e : Int) - k - 6 + 2)) = true) (h3 : inStr (Str.ofString " ") (Txt.item t ((e : Int) - k - 6 + 3)) = true)
    (h4 : inStr (Str.ofString "0") (Txt.item t ((e : Int) - k - 6 + 4)) = true) (h5 : inStr (Str.ofString "xX") (Txt.item t ((e : Int) - k - 6 + 5)) = true) (hl : e ≤ t.length) : SizeIs t.cps e (k + 6) := by
  have w : ∀ (i : Nat) (y : Str), i < 6 → inStr y (Txt.item t ((e : Int) - k - 6 + i)) = decide (t.cps.getD (e - k - 6 + i) 0 ∈ y.cps.toList) := fun i y hi => by
    rw [inStr_one (by omega) (by omega)]
    have : ((e : Int) - k - 6 + i).toNat = e - k - 6 + i := by omega
    rw [this]
  refine .inr ⟨e - k - 6, k, h6, h16, by omega, ⟨?_, ?_, ?_, ?_, ?_, ?_, fun j hj => ?_⟩, rfl⟩
  · have := (w 0 _ (by omega)).symm.trans h0
    have e1 : (Str.ofString " ").cps.toList = [32] := by decide +kernel
    rw [e1] at this; simpa using this
  · have := (w 1 _ (by omega)).symm.trans h1
    have e1 : (Str.ofString "aA").cps.toList = [97, 65] := by decide +kernel
    rw [e1] at this; simpa using this
  · have := (w 2 _ (by omega)).symm.trans h2
    have e1 : (Str.ofString "tT").cps.toList = [116, 84] := by decide +kernel
    rw [e1] at this; simpa using this
  · have := (w 3 _ (by omega)).symm.trans h3
    have e1 : (Str.ofString " ").cps.toList = [32] := by decide +kernel
    rw [e1] at this; simpa using this
  · have := (w 4 _ (by omega)).symm.trans h4
    have e1 : (Str.ofString "0").cps.toList = [48] := by decide +kernel
    rw [e1] at this; simpa using this
  · have := (w 5 _ (by omega)).symm.trans h5
    have e1 : (Str.ofString "xX").cps.toList = [120, 88] := by decide +kernel
    rw [e1] at this; simpa using this
  · have := hr.2.1 (k - 1 - j) (by omega)
    rw [show e - k - 6 + 6 + j = e - 1 - (k - 1 - j) by omega]; exact this
theorem size_miss_at {t : Str} {e k : Nat} (hr : RunIs t e k) (h6 : 6 ≤ k) (he : k + 6 ≤ e) (hl : e ≤ t.length) (i : Nat) (j : Int) (y : Str) (hi : i < 6) (hj : j = i)
    (h : (PySem.Builtin.Str.occurrences y (Txt.item t ((e : Int) - k - 6 + j)) 0 y.length 1).isEmpty = true)
    (hy : ∀ p, p + 6 + k = e → AddrAt t.cps p k → t.cps.getD (p + i) 0 ∈ y.cps.toList) : SizeIs t.cps e 0 := by
  subst hj
  refine size_miss hr h6 he fun p hp hA => ?_
  have := hy p hp hA
  have h' : inStr y (Txt.item t ((e : Int) - k - 6 + i)) = false := by unfold inStr; rw [h]; rfl
  rw [inStr_one (by omega) (by omega)] at h'
  rw [show ((e : Int) - k - 6 + i).toNat = p + i by omega] at h'
  exact of_decide_eq_false h' this
theorem inStr_true {x y : Str} (h : (PySem.Builtin.Str.occurrences x y 0 x.length 1).isEmpty = false) : inStr x y = true := by unfold inStr; rw [h]; rfl
theorem strsAre_snoc {y : Str} {t : Tok} : ∀ {vs : List Value} {ys : List Str}, StrsAre vs ys → StrsAre (vs ++ [.str y t]) (ys ++ [y])
  | _, _, .nil => .cons y t .nil
  | _, _, .cons z u r => .cons z u (strsAre_snoc r)
theorem str_ext {x y : Str} (h : x.cps.toList = y.cps.toList) : x = y := by
  cases x; cases y; simp at h; rw [h]
end Mine
end
section
open PySem PySem.W PyProof.Rows PySem.Calls
set_option maxRecDepth 100000
namespace Mine

inductive Ch : List Str → Str → Prop
  | one (x : Str) : Ch [x] x
  | snoc {ts : List Str} {x y : Str} : Ch ts x → StripTo x y → Ch (ts ++ [y]) y

def TL (x₀ tl : Str) : Prop := (tl.cps.toList = [10] ∧ 1 ≤ x₀.cps.size ∧ x₀.cps.getD (x₀.cps.size - 1) 0 = 10) ∨ (tl.cps.toList = [] ∧ (x₀.cps.size = 0 ∨ x₀.cps.getD (x₀.cps.size - 1) 0 ≠ 10))

structure WI (x₀ tl : Str) (e M : Nat) (ts : List Str) : Prop where
  tail : TL x₀ tl
  ch : ∃ x, Ch ts x ∧ x.cps.toList = x₀.cps.toList.take e ++ List.replicate M 62 ++ tl.cps.toList
  le : e + M + tl.cps.size ≤ x₀.cps.size
  m0 : M = 0 → e + tl.cps.size = x₀.cps.size
  cnt : ts.length + e ≤ x₀.cps.size + 1
  short : ∀ y ∈ ts, y.length ≤ x₀.length

theorem size_of {x : Str} {l : List Nat} (h : x.cps.toList = l) : x.cps.size = l.length := by rw [← h]; simp
theorem at_of {x : Str} {l : List Nat} (h : x.cps.toList = l) (i : Nat) : x.cps.getD i 0 = l.getD i 0 := by rw [← h, getD_toList]
theorem getD_take {l : List Nat} {e i : Nat} (h : i < e) : (l.take e).getD i 0 = l.getD i 0 := by
  simp [List.getD, h]

section
variable {x₀ x tl : Str} {e M : Nat}
/-- the signs of a text of the walk -/
theorem sg1 (h : x.cps.toList = x₀.cps.toList.take e ++ List.replicate M 62 ++ tl.cps.toList) (he : e ≤ x₀.cps.size) {i : Nat} (hi : i < e) : x.cps.getD i 0 = x₀.cps.getD i 0 := by
  have hl : (x₀.cps.toList.take e).length = e := by simp; omega
  rw [at_of h, ← getD_toList, List.append_assoc, List.getD, List.getElem?_append_left (by omega), ← List.getD]
  exact getD_take hi
theorem sg2 (h : x.cps.toList = x₀.cps.toList.take e ++ List.replicate M 62 ++ tl.cps.toList) (he : e ≤ x₀.cps.size) {i : Nat} (hi : e ≤ i) (hi2 : i < e + M) : x.cps.getD i 0 = 62 := by
  have hl : (x₀.cps.toList.take e).length = e := by simp; omega
  rw [at_of h, List.append_assoc, List.getD, List.getElem?_append_right (by omega), List.getElem?_append_left (by simp; omega), hl]
  rw [List.getElem?_replicate, if_pos (by omega)]; rfl
theorem sg3 (h : x.cps.toList = x₀.cps.toList.take e ++ List.replicate M 62 ++ tl.cps.toList) (he : e ≤ x₀.cps.size) : x.cps.size = e + M + tl.cps.size := by
  rw [size_of h]; simp; omega
theorem sg4 (h : x.cps.toList = x₀.cps.toList.take e ++ List.replicate M 62 ++ tl.cps.toList) (he : e ≤ x₀.cps.size) (i : Nat) : x.cps.getD (e + M + i) 0 = tl.cps.getD i 0 := by
  have hl : (x₀.cps.toList.take e ++ List.replicate M 62).length = e + M := by simp; omega
  rw [at_of h, List.getD, List.getElem?_append_right (by omega), hl, ← getD_toList, List.getD]
  congr 2; omega
end

theorem AddrAt.congr {a b : Array Nat} {p k : Nat} (h : ∀ i, i < p + 6 + k → a.getD i 0 = b.getD i 0) (hk : 6 ≤ k) (hA : AddrAt a p k) : AddrAt b p k := by
  obtain ⟨h0, h1, h2, h3, h4, h5, h6⟩ := hA
  refine ⟨?_, ?_, ?_, ?_, ?_, ?_, fun j hj => ?_⟩
  · rw [← h p (by omega)]; exact h0
  · rw [← h (p + 1) (by omega)]; exact h1
  · rw [← h (p + 2) (by omega)]; exact h2
  · rw [← h (p + 3) (by omega)]; exact h3
  · rw [← h (p + 4) (by omega)]; exact h4
  · rw [← h (p + 5) (by omega)]; exact h5
  · rw [← h (p + 6 + j) (by omega)]; exact h6 j hj

theorem WI.start {x₀ tl : Str} (h : TL x₀ tl) (he : tl.cps.size ≤ x₀.cps.size) : WI x₀ tl (x₀.cps.size - tl.cps.size) 0 [x₀] := by
  refine ⟨h, ⟨x₀, .one x₀, ?_⟩, by omega, fun _ => by omega, by simp; omega, fun y hy => by rw [List.mem_singleton.mp hy]; exact Nat.le_refl _⟩
  rcases h with ⟨h, h1, h2⟩ | ⟨h, _⟩
  · have hs : tl.cps.size = 1 := by rw [size_of h]; rfl
    rw [hs, h]
    have e1 := List.take_append_drop (x₀.cps.size - 1) x₀.cps.toList
    have e2 : x₀.cps.toList.drop (x₀.cps.size - 1) = [10] := by
      apply List.ext_getElem?
      intro i
      rw [List.getElem?_drop]
      rw [← getD_toList] at h2
      cases i with
      | zero =>
        have hlt : x₀.cps.size - 1 < x₀.cps.toList.length := by simp; omega
        rw [List.getD, List.getElem?_eq_getElem hlt] at h2
        rw [Nat.add_zero, List.getElem?_eq_getElem hlt]
        simpa using h2
      | succ i => simp; omega
    rw [e2] at e1
    simpa using e1.symm
  · have hs : tl.cps.size = 0 := by rw [size_of h]; rfl
    rw [hs, h]
    simp only [Nat.sub_zero, List.replicate_zero, List.append_nil]
    exact (List.take_of_length_le (by simp)).symm
theorem WI.mark {x₀ tl : Str} {e M : Nat} {ts : List Str} (h : WI x₀ tl e M ts) (h1 : 1 ≤ e) (hg : x₀.cps.getD (e - 1) 0 = 62) : WI x₀ tl (e - 1) (M + 1) ts := by
  obtain ⟨x, hc, hx⟩ := h.ch
  have hle := h.le
  refine ⟨h.tail, ⟨x, hc, ?_⟩, by omega, fun q => by omega, by have := h.cnt; omega, h.short⟩
  rw [hx]
  have e1 : x₀.cps.toList.take e = x₀.cps.toList.take (e - 1) ++ [62] := by
    have hlt : e - 1 < x₀.cps.toList.length := by simp; omega
    have := List.take_succ_eq_append_getElem hlt
    rw [show e - 1 + 1 = e by omega] at this
    rw [this]
    congr 1
    rw [← getD_toList, List.getD, List.getElem?_eq_getElem hlt] at hg
    simpa using hg
  rw [e1, List.replicate_succ]
  simp
theorem WI.addr {x₀ tl y : Str} {e M p k : Nat} {ts : List Str} (h : WI x₀ tl e M ts) (hM : 1 ≤ M) (h6 : 6 ≤ k) (h16 : k ≤ 16) (he : p + 6 + k = e) (hA : AddrAt x₀.cps p k)
    (hy : y.cps.toList = x₀.cps.toList.take p ++ List.replicate M 62 ++ tl.cps.toList) : WI x₀ tl p M (ts ++ [y]) := by
  obtain ⟨x, hc, hx⟩ := h.ch
  have hle := h.le
  have hxe : e ≤ x₀.cps.size := by omega
  have htl : tl.cps.size ≤ 1 := by rcases h.tail with ⟨t, _⟩ | ⟨t, _⟩ <;> rw [size_of t] <;> simp
  refine ⟨h.tail, ⟨y, .snoc hc (.inl ⟨p, k, M, ⟨h6, h16, hM, ?_, fun j hj => ?_, ?_⟩, ?_⟩), hy⟩, by omega, fun q => by omega, by have := h.cnt; simp; omega, fun z hz => ?_⟩
  · exact hA.congr (fun i hi => (sg1 hx hxe (by omega)).symm) h6
  · exact sg2 hx hxe (by omega) (by omega)
  · have hs := sg3 hx hxe
    rcases h.tail with ⟨t, _⟩ | ⟨t, _⟩
    · have ht : tl.cps.size = 1 := by rw [size_of t]; rfl
      refine .inr ⟨by omega, ?_⟩
      have := sg4 hx hxe 0
      rw [Nat.add_zero] at this
      rw [he, this, at_of t]; rfl
    · have ht : tl.cps.size = 0 := by rw [size_of t]; rfl
      exact .inl (by omega)
  · rw [hy, hx]
    have hp : p ≤ e := by omega
    have e1 : (x₀.cps.toList.take e ++ List.replicate M 62 ++ tl.cps.toList).take p = x₀.cps.toList.take p := by
      rw [List.append_assoc, List.take_append_of_le_length (by simp; omega), List.take_take, Nat.min_eq_left hp]
    have e2 : (x₀.cps.toList.take e ++ List.replicate M 62 ++ tl.cps.toList).drop (p + 6 + k) = List.replicate M 62 ++ tl.cps.toList := by
      rw [he, List.append_assoc]
      have : (x₀.cps.toList.take e).length = e := by simp; omega
      exact List.drop_left' this
    rw [e1, e2, List.append_assoc]
  · rcases List.mem_append.mp hz with hz | hz
    · exact h.short z hz
    · rw [List.mem_singleton.mp hz]
      have := sg3 hy (by omega)
      show y.cps.size ≤ x₀.cps.size
      omega
theorem WI.stop {x₀ tl : Str} {e M : Nat} {ts : List Str} (h : WI x₀ tl e M ts) (hs : e = 0 ∨ (x₀.cps.getD (e - 1) 0 ≠ 62 ∧ (M = 0 ∨ ∀ p k, 6 ≤ k → k ≤ 16 → p + 6 + k = e → ¬AddrAt x₀.cps p k))) : ∃ x, Ch ts x ∧ StripTo x x := by
  obtain ⟨x, hc, hx⟩ := h.ch
  refine ⟨x, hc, .inr ⟨fun s k m hD => ?_, rfl⟩⟩
  have hle := h.le
  have hxe : e ≤ x₀.cps.size := by omega
  have hsz := sg3 hx hxe
  have hD6 := hD.1
  have hDm := hD.2.2.1
  have hlast := hD.last
  have hhex := hD.hexLast
  -- where the marks end
  have hq : s + 6 + k + m = e + M := by
    rcases h.tail with ⟨t, _, _⟩ | ⟨t, hn⟩
    · have ht : tl.cps.size = 1 := by rw [size_of t]; rfl
      have h10 : x.cps.getD (e + M) 0 = 10 := by
        have := sg4 hx hxe 0
        rw [Nat.add_zero] at this
        rw [this, at_of t]; rfl
      rcases hD.2.2.2.2.2 with q | ⟨q, _⟩
      · rw [show s + 6 + k + m - 1 = e + M by omega, h10] at hlast; cases hlast
      · omega
    · have ht : tl.cps.size = 0 := by rw [size_of t]; rfl
      rcases hD.2.2.2.2.2 with q | ⟨q, q10⟩
      · omega
      · exfalso
        rcases Nat.eq_zero_or_pos M with hM | hM
        · have he := h.m0 hM
          rw [sg1 hx hxe (by omega)] at q10
          rcases hn with hn | hn
          · omega
          · apply hn
            rw [show x₀.cps.size - 1 = s + 6 + k + m by omega]; exact q10
        · rw [sg2 hx hxe (by omega) (by omega)] at q10; cases q10
  rcases hs with hs | ⟨hs, hs2⟩
  · subst hs
    have h0 := hD.2.2.2.1.1
    rw [sg2 hx hxe (by omega) (by omega)] at h0
    cases h0
  · have he1 : 1 ≤ e := by
      rcases Nat.eq_zero_or_pos e with h0 | h0
      · subst h0
        have h0 := hD.2.2.2.1.1
        rw [sg2 hx hxe (by omega) (by omega)] at h0
        cases h0
      · exact h0
    have hm : m = M := by
      rcases Nat.lt_trichotomy m M with g | g | g
      · rw [sg2 hx hxe (by omega) (by omega)] at hhex; cases hhex
      · exact g
      · exfalso
        have := hD.2.2.2.2.1 (m - M - 1) (by omega)
        rw [sg1 hx hxe (by omega)] at this
        rw [show s + 6 + k + (m - M - 1) = e - 1 by omega] at this
        exact hs this
    subst hm
    rcases hs2 with hs2 | hs2
    · omega
    · exact hs2 s k hD.1 hD.2.1 (by omega) (hD.2.2.2.1.congr (fun i hi => sg1 hx hxe (by omega)) hD.1)

/-- what _law_walk hands back -/
def Walked (x₀ : Str) (ts : List Str) : Prop := (∃ x, Ch ts x ∧ StripTo x x) ∧ ts.length ≤ x₀.length + 1 ∧ ∀ y ∈ ts, y.length ≤ x₀.length
theorem WI.walked {x₀ tl : Str} {e M : Nat} {ts : List Str} (h : WI x₀ tl e M ts) (hs : e = 0 ∨ (x₀.cps.getD (e - 1) 0 ≠ 62 ∧ (M = 0 ∨ ∀ p k, 6 ≤ k → k ≤ 16 → p + 6 + k = e → ¬AddrAt x₀.cps p k))) : Walked x₀ ts :=
  ⟨h.stop hs, by have := h.cnt; show ts.length ≤ x₀.cps.size + 1; omega, h.short⟩

inductive Pairs : List Str → List Str → Prop
  | nil : Pairs [] []
  | cons {x y : Str} {xs ys : List Str} : StripTo x y → Pairs xs ys → Pairs (x :: xs) (y :: ys)
theorem Pairs.snoc {x y : Str} {xs ys : List Str} (h : Pairs xs ys) (g : StripTo x y) : Pairs (xs ++ [x]) (ys ++ [y]) := by
  induction h with
  | nil => exact .cons g .nil
  | cons a _ ih => exact .cons a ih
theorem Ch.ne {ts : List Str} {x : Str} (h : Ch ts x) : ts ≠ [] := by cases h <;> simp
theorem Ch.last {ts : List Str} {x : Str} (h : Ch ts x) : ts.drop (ts.length - 1) = [x] := by cases h <;> simp
theorem Ch.pairs {ts : List Str} {x : Str} (h : Ch ts x) : ∀ {z : Str}, StripTo x z → Pairs ts (ts.drop 1 ++ [z]) := by
  induction h with
  | one x => intro z g; exact .cons g .nil
  | snoc hc hs ih =>
    intro z g
    have := (ih hs).snoc g
    rw [List.drop_append_of_le_length (by have := hc.ne; cases hts : ‹List Str› <;> simp_all)]
    exact this
theorem Walked.pairs {x₀ : Str} {ts : List Str} (h : Walked x₀ ts) : Pairs ts (ts.drop 1 ++ ts.drop (ts.length - 1)) := by
  obtain ⟨⟨x, hc, hs⟩, _⟩ := h
  rw [hc.last]; exact hc.pairs hs

theorem range_pick (a : Array Nat) (lo : Nat) : ∀ k, lo + k ≤ a.size → ((List.range k).map (fun i => lo + i)).filterMap (fun i => a[i]?) = (a.toList.drop lo).take k
  | 0, _ => by simp
  | k + 1, h => by
    rw [List.range_succ, List.map_append, List.filterMap_append, range_pick a lo k (by omega)]
    have hlt : k < (a.toList.drop lo).length := by simp; omega
    rw [List.take_succ_eq_append_getElem hlt]
    congr 1
    have : lo + k < a.size := by omega
    simp [this]
theorem sliceRange_one (lo hi : Nat) (h : lo ≤ hi) : sliceRange (lo : Int) (hi : Int) 1 = (List.range (hi - lo)).map (fun i => lo + i) := by
  unfold sliceRange
  rw [if_pos (by decide)]
  by_cases h1 : (lo : Int) < (hi : Int)
  · rw [if_pos h1]
    have e : (((hi : Int) - lo + 1 - 1) / 1).toNat = hi - lo := by rw [Int.ediv_one]; omega
    dsimp only
    rw [e]
    apply List.map_congr_left
    intro i _
    show ((lo : Int) + 1 * (i : Int)).toNat = lo + i
    omega
  · rw [if_neg h1]
    have : hi - lo = 0 := by omega
    rw [this]; rfl
theorem slice_of {x : Str} {l u : Option Int} {lo hi : Nat} (h : lo ≤ hi) (hh : hi ≤ x.cps.size) (e : Builtin.Str.strSliceIndices l u 1 x.length = sliceRange (lo : Int) (hi : Int) 1) :
    (Txt.slice x l u).cps.toList = (x.cps.toList.drop lo).take (hi - lo) := by
  have hl : x.length = x.cps.size := rfl
  unfold Txt.slice
  rw [e, sliceRange_one lo hi h]
  split
  · rename_i q
    have hq : hi - lo = x.cps.size := by simpa [hl] using q
    have : lo = 0 := by omega
    subst this
    rw [List.drop_zero, List.take_of_length_le (by simp; omega)]
  · exact range_pick x.cps lo (hi - lo) (by omega)
theorem slice_to {x : Str} {e : Nat} (h : e ≤ x.cps.size) : (Txt.slice x none (some (e : Int))).cps.toList = x.cps.toList.take e := by
  have hl : x.length = x.cps.size := rfl
  rw [slice_of (lo := 0) (hi := e) (Nat.zero_le _) h]
  · simp
  · unfold Builtin.Str.strSliceIndices
    simp only [show (1 : Int) > 0 by decide, if_true]
    rw [if_neg (by omega)]
    congr 1
    omega
theorem slice_last (x : Str) : (Txt.slice x (some (-1)) none).cps.toList = x.cps.toList.drop (x.cps.size - 1) := by
  have hl : x.length = x.cps.size := rfl
  rw [slice_of (lo := x.cps.size - 1) (hi := x.cps.size) (by omega) (Nat.le_refl _)]
  · rw [List.take_of_length_le (by simp)]
  · unfold Builtin.Str.strSliceIndices
    simp only [show (1 : Int) > 0 by decide, if_true, show (-1 : Int) < 0 by decide]
    congr 1
    omega
theorem nl_eq : (Str.ofString "\n").cps.toList = [10] := by decide +kernel
theorem drop_last (a : Array Nat) : (a.toList.drop (a.size - 1) = [10]) ↔ (1 ≤ a.size ∧ a.getD (a.size - 1) 0 = 10) := by
  constructor
  · intro h
    have h1 : (a.toList.drop (a.size - 1)).length = 1 := by rw [h]; rfl
    simp at h1
    have h2 : (a.toList.drop (a.size - 1))[0]? = some 10 := by rw [h]; rfl
    rw [List.getElem?_drop, Nat.add_zero] at h2
    refine ⟨by omega, ?_⟩
    rw [← getD_toList, List.getD, h2]; rfl
  · intro ⟨h1, h2⟩
    apply List.ext_getElem?
    intro i
    rw [List.getElem?_drop]
    rw [← getD_toList] at h2
    cases i with
    | zero =>
      have hlt : a.size - 1 < a.toList.length := by simp; omega
      rw [List.getD, List.getElem?_eq_getElem hlt] at h2
      rw [Nat.add_zero, List.getElem?_eq_getElem hlt]
      simpa using h2
    | succ i => simp; omega
theorem str_eq_iff {x y : Str} : x = y ↔ x.cps.toList = y.cps.toList := by
  cases x; cases y; simp
theorem tl_nl {x : Str} (h : (Txt.slice x (some (-1)) none == Str.ofString "\n") = true) : TL x (Str.ofString "\n") ∧ 1 ≤ x.cps.size := by
  have h1 := str_eq_iff.mp (beq_iff_eq.mp h)
  rw [slice_last, nl_eq] at h1
  have h2 := (drop_last _).mp h1
  exact ⟨.inl ⟨nl_eq, h2⟩, h2.1⟩
theorem tl_no {x : Str} (h : (Txt.slice x (some (-1)) none == Str.ofString "\n") = false) : TL x (Str.ofString "") := by
  refine .inr ⟨by decide +kernel, ?_⟩
  by_cases h0 : x.cps.size = 0
  · exact .inl h0
  · refine .inr fun q => ?_
    have : Txt.slice x (some (-1)) none = Str.ofString "\n" := by
      rw [str_eq_iff, slice_last, nl_eq, drop_last]
      exact ⟨by omega, q⟩
    rw [this] at h
    simp at h
end Mine
end
section
open PySem PySem.W PyProof.Rows PySem.Calls
set_option maxRecDepth 100000
set_option maxHeartbeats 8000000
namespace Mine
local macro_rules | `(tactic| walk_at "mine enter") => `(tactic| (refine wpAny_call ?_; k_dflt (refine' code_defP (own := []) ?k1 ?k2 ?k3 ?k4 ?kR ?kO ?k5 ?kA ?kF ?kK ?k6 ?k7 ?k8 ?k9 ?kB ?_ ?c2 ?c3 ?c4 ?c5; (case kA => exact rfl); (case kF => exact rfl); (case kK => assumption); (case k1 => k_asm); (case k2 => k_asm); (case k3 => k_asm); (case k4 => exact News.nil); (case kR => assumption); (case kO => exact fun _ _ q => nomatch q); (case k5 => k_asm); (case k6 => k_is); (case k7 => k_is); (case k8 => ktr_room); (case k9 => exact BindsTo.of_eq rfl); (case c5 => decide); (case kB => exact locs rfl); (case c2 => exact rfl); (case c3 => exact rfl); (case c4 => exact rfl); k_whole; intro g' L' h' GS' FG' F' N' B' X' T'; (try dsimp only); (try k_lift B'); (try k_fold))))
set_option hygiene false in
local macro_rules | `(tactic| walk_at "exec While BoolOp") => `(tactic| ((rename Fr _ _ _ _ => F'); (rename News _ _ _ _ => N'); (with_reducible apply While_up_aug (c := sizeTest text e) (K := 17)); (case F => with_unfolding_all exact F'); (case Nw => with_unfolding_all exact N'); (case hmi => with_unfolding_all rfl); (case' done => intros); (case stop => exact ⟨by omega, by unfold sizeTest; rw [if_neg (by omega)]⟩); (case' gturn => intros); (case' gtest => intros)))

abbrev SizeClaim (w : World) (loose : List Str) (mean : ExcName → Option Value) (mg mb : Str → Option Value) (news : List (Addr × Obj)) (text : Str) (e : Nat) (t0 t1 : Tok) : Prop :=
  ∀ (dp un : Nat) (gd : Option (List Code)) (cn : Str) (cs : Scope) (a : Addr) (ccd : Value) (cl : List (Str × Addr)) (outer : List Env) (A₀ : Around) (base h₀ : Heap) (L : Addr) (m : Str → Option Value) (s : Shared) (Q E : Value → Shared → Prop),
    Below A₀ base outer h₀ → Fr h₀ L s.heap m → (hd.heap_39 w.params).In h₀ → News h₀ L s.heap news → Top topProg loose mean mg mb h₀ → cs.kind = .function → dp + 1 < recursionLimit → un + 8 < cLine →
    text.length ≤ 1100 → 0 < e → e ≤ text.length →
    (∀ (r : Int) (t : Tok) (h' : Heap) (tk' : Nat), SizeIs text.cps e r → Fr h₀ L h' m → News h₀ L h' news → Q (.int r t) { s with heap := h', toks := tk' }) →
      wpAny (model PySem.Challenge.rw_ku0037_01.row.prog w) (ktrTop dp un gd cn cs L a ccd cl outer) (call (.ref 155) [.str text t0, .int (e : Int) t1]) Q E s
theorem size_c (w : World) (loose : List Str) (mean : ExcName → Option Value) (mg mb : Str → Option Value) (news : List (Addr × Obj)) (text : Str) (e : Nat) (t0 t1 : Tok) :
    SizeClaim w loose mean mg mb news text e t0 t1 := by
  dsimp only [SizeClaim]
  k_fill
  intros; rename_i hlen hpos hle hret
  walk_at "mine enter"
  k_steps
  all_goals (try (exact ⟨_, _, rfl, fun _ _ e => e⟩))
  all_goals (try (unfold sizeTest; (first | rw [if_pos (by assumption)] | rw [if_neg (by assumption)]) <;> (first | rw [if_pos (by assumption)] | rw [if_neg (by assumption)] | rfl) <;> (first | rfl | (simp only [inStr, HEX] at *; simp [*]))))
  all_goals (obtain ⟨n, hn, hR⟩ := runIs_of (t := text) (e := e) (by assumption) (by assumption) (by assumption) (by assumption) hle; subst hn; refine hret _ _ _ _ ?_ (by assumption) (by assumption))
  all_goals first
    | exact size_short hR (.inl (by omega))
    | exact size_short hR (.inr (.inl (by omega)))
    | exact size_short hR (.inr (.inr (by omega)))
    | exact size_hit hR (by omega) (by omega) (by omega) (inStr_true (by assumption)) (inStr_true (by assumption)) (inStr_true (by assumption)) (inStr_true (by assumption)) (inStr_true (by assumption)) (inStr_true (by assumption)) hle
    | exact size_miss_at hR (by omega) (by omega) hle 0 0 (Str.ofString " ") (by omega) rfl (by assumption) fun p _ hA => by rw [Nat.add_zero, hA.1]; decide +kernel
    | exact size_miss_at hR (by omega) (by omega) hle 1 1 (Str.ofString "aA") (by omega) rfl (by assumption) fun p _ hA => by rcases hA.2.1 with q | q <;> rw [q] <;> decide +kernel
    | exact size_miss_at hR (by omega) (by omega) hle 2 2 (Str.ofString "tT") (by omega) rfl (by assumption) fun p _ hA => by rcases hA.2.2.1 with q | q <;> rw [q] <;> decide +kernel
    | exact size_miss_at hR (by omega) (by omega) hle 3 3 (Str.ofString " ") (by omega) rfl (by assumption) fun p _ hA => by rw [hA.2.2.2.1]; decide +kernel
    | exact size_miss_at hR (by omega) (by omega) hle 4 4 (Str.ofString "0") (by omega) rfl (by assumption) fun p _ hA => by rw [hA.2.2.2.2.1]; decide +kernel
    | exact size_miss_at hR (by omega) (by omega) hle 5 5 (Str.ofString "xX") (by omega) rfl (by assumption) fun p _ hA => by rcases hA.2.2.2.2.2.1 with q | q <;> rw [q] <;> decide +kernel
end Mine
end
section
open PySem PySem.W PyProof.Rows PySem.Calls
set_option maxRecDepth 100000
set_option maxHeartbeats 8000000
namespace Mine
set_option hygiene false in
local macro_rules | `(tactic| walk_at "mine enter") => `(tactic| (refine wpAny_call ?_; k_dflt (refine' code_defP (own := []) ?k1 ?k2 ?k3 ?k4 ?kR ?kO ?k5 ?kA ?kF ?kK ?k6 ?k7 ?k8 ?k9 ?kB ?_ ?c2 ?c3 ?c4 ?c5; (case kA => exact rfl); (case kF => exact rfl); (case kK => assumption); (case k1 => k_asm); (case k2 => k_asm); (case k3 => k_asm); (case k4 => exact News.nil); (case kR => assumption); (case kO => exact fun _ _ q => nomatch q); (case k5 => k_asm); (case k6 => k_is); (case k7 => k_is); (case k8 => ktr_room); (case k9 => exact BindsTo.of_eq rfl); (case c5 => decide); (case kB => exact locs rfl); (case c2 => exact rfl); (case c3 => exact rfl); (case c4 => exact rfl); k_whole; intro g' L' h' GS' FG' F' N' B' X' T'; (try dsimp only); (try k_lift B'); (try k_fold))))
def Hold (P : Prop) : Prop := P
theorem Hold.out {P : Prop} (h : Hold P) : P := h
theorem Hold.in {P : Prop} (h : P) : Hold P := h
local macro_rules | `(tactic| walk_at "last exec While") => `(tactic| ((with_reducible show wpAny _ _ (exec (Stmt.While _ _ _ _) _) _ _ _); refine Hold.out ?_))

abbrev WalkClaim (w : World) (loose : List Str) (mean : ExcName → Option Value) (mg mb : Str → Option Value) (news : List (Addr × Obj)) (x : Str) (t0 : Tok) : Prop :=
  ∀ (dp un : Nat) (gd : Option (List Code)) (cn : Str) (cs : Scope) (a : Addr) (ccd : Value) (cl : List (Str × Addr)) (outer : List Env) (A₀ : Around) (base h₀ : Heap) (L : Addr) (m : Str → Option Value) (s : Shared) (Q E : Value → Shared → Prop),
    Below A₀ base outer h₀ → Fr h₀ L s.heap m → (hd.heap_39 w.params).In h₀ → News h₀ L s.heap news → Top topProg loose mean mg mb h₀ → cs.kind = .function → dp + 3 < recursionLimit → un + 20 < cLine →
    x.length ≤ 1100 →
    (∀ (l : Addr) (vs : List Value) (ts : List Str) (c : Nat) (h' : Heap) (tk' : Nat), StrsAre vs ts → Walked x ts → Fr h₀ L h' m → News h₀ L h' ((l, W.listOf vs.toArray c) :: news) → Q (.ref l) { s with heap := h', toks := tk' }) →
      wpAny (model PySem.Challenge.rw_ku0037_01.row.prog w) (ktrTop dp un gd cn cs L a ccd cl outer) (call (.ref 162) [.str x t0]) Q E s
structure WS where
  e : Nat
  te : Tok
  sg : Str
  tm : Tok
  M : Nat
  vs : List Value
  ts : List Str
  c : Nat
def WP (text tl : Str) (c : WS) : Prop := StrsAre c.vs c.ts ∧ c.sg.cps.toList = List.replicate c.M 62 ∧ WI text tl c.e c.M c.ts
abbrev wLed (l : Addr) (c : WS) : List (Addr × Obj) := [(l, W.listOf c.vs.toArray c.c)]
abbrev wPs (text tl : Str) (t0 tt : Tok) (l : Addr) (c : WS) : List (Str × Value) := [(Str.ofString "end", Value.int (c.e : Int) c.te), (Str.ofString "marks", .str c.sg c.tm), (Str.ofString "text", .str text t0), (Str.ofString "tail", .str tl tt), (Str.ofString "texts", .ref l)]
abbrev wFa (_ : WS) : Prop := True
abbrev wSt : List Str := [Str.ofString "size"]
abbrev wMu (c : WS) : Nat := c.e
section
variable {prog : Program} {w : World} {A : Around} {E : Value → Shared → Prop} {Q : Flow → Shared → Prop} {s : Shared} {env : Env} {h₀ : Heap} {L : Addr}
theorem while_walk {test : Expr} {body : List Stmt} {pos : Pos} {m₀ : Str → Option Value} {text tl : Str} {l : Addr} {e : Int} {t0 tt te tm : Tok} (e0 : Nat)
    (F : Fr h₀ L s.heap m₀) (N : News h₀ L s.heap [(l, W.listOf #[.str text t0] 0)]) (h1 : m₀ (Str.ofString "end") = some (.int e te)) (h2 : m₀ (Str.ofString "marks") = some (.str (Str.ofString "") tm))
    (h3 : m₀ (Str.ofString "text") = some (.str text t0)) (h4 : m₀ (Str.ofString "tail") = some (.str tl tt)) (h5 : m₀ (Str.ofString "texts") = some (.ref l)) (he : e = (e0 : Int)) (hw : WI text tl e0 0 [text])
    (turn : ∀ (e : Nat) (te : Tok) (sg : Str) (tm : Tok) (M : Nat) (vs : List Value) (ts : List Str) (c : Nat) (u : Str → Option Value) (h : Heap) (tk : Nat), StrsAre vs ts → sg.cps.toList = List.replicate M 62 → WI text tl e M ts →
      Fr h₀ L h (fun z => if z = Str.ofString "end" then some (Value.int (e : Int) te) else if z = Str.ofString "marks" then some (.str sg tm) else if z = Str.ofString "text" then some (.str text t0) else if z = Str.ofString "tail" then some (.str tl tt) else if z = Str.ofString "texts" then some (.ref l) else if wSt.contains z = true then u z else m₀ z) →
      News h₀ L h [(l, W.listOf vs.toArray c)] →
      wpAny (model prog w) A (isTrue test env (eval test env)) (fun b s₂ =>
        if b = true then wpAny (model prog w) A (execs body env) (KswPost h₀ L s (wLed l) (wPs text tl t0 tt l) wFa wSt m₀ (WP text tl) wMu Q ⟨e, te, sg, tm, M, vs, ts, c⟩) E s₂ else Q .next s₂) E { s with heap := h, toks := tk })
    (hE : PassesOwn (model prog w) A env E := by passes_own) :
    wpAny (model prog w) A (exec (.While test body [] pos) env) Q E s := by
  refine ksw_while (wLed l) (wPs text tl t0 tt l) wFa wSt (WP text tl) wMu ⟨e0, te, Str.ofString "", tm, 0, [.str text t0], [text], 0⟩ F N trivial ?_ ⟨.cons _ _ .nil, (by decide +kernel : (Str.ofString "").cps.toList = []), hw⟩ (fun c u h tk _ hp F' N' => ?_) hE
  · subst he
    intro p hp
    simp only [wPs, List.mem_cons, List.not_mem_nil, or_false] at hp
    rcases hp with rfl | rfl | rfl | rfl | rfl
    · exact h1
    · exact h2
    · exact h3
    · exact h4
    · exact h5
  · obtain ⟨e, te, sg, tm, M, vs, ts, c⟩ := c
    exact turn e te sg tm M vs ts c u h tk hp.1 hp.2.1 hp.2.2 F' N'
theorem end_walk {m₀ m' : Str → Option Value} {text tl : Str} {l : Addr} {t0 tt : Tok} {c : WS} {h' : Heap} {tk : Nat} {news' : List (Addr × Obj)} {e' : Int} (e : Nat) {te tm : Tok} {sg : Str} (M : Nat) {vs : List Value} (ts : List Str) {k : Nat}
    {arr : Array Value} (F : Fr h₀ L h' m') (N : News h₀ L h' news') (hn : (l, W.listOf arr k) ∈ news') (harr : arr = vs.toArray) (h1 : m' (Str.ofString "end") = some (.int e' te)) (h2 : m' (Str.ofString "marks") = some (.str sg tm))
    (h3 : m' (Str.ofString "text") = some (.str text t0)) (h4 : m' (Str.ofString "tail") = some (.str tl tt)) (h5 : m' (Str.ofString "texts") = some (.ref l))
    (hr : ∀ z, z ≠ Str.ofString "end" → z ≠ Str.ofString "marks" → z ≠ Str.ofString "text" → z ≠ Str.ofString "tail" → z ≠ Str.ofString "texts" → z ≠ Str.ofString "size" → m' z = m₀ z) (he : e' = (e : Int)) (hlt : e < c.e)
    (hv : StrsAre vs ts) (hs : sg.cps.toList = List.replicate M 62) (hw : WI text tl e M ts) :
    KswEnd h₀ L s (wLed l) (wPs text tl t0 tt l) wFa wSt m₀ (WP text tl) wMu c { s with heap := h', toks := tk } := by
  subst he harr
  refine ksw_end ⟨e, te, sg, tm, M, vs, ts, k⟩ F N (fun p hp => by rw [List.mem_singleton.mp hp]; exact hn) trivial ?_ (fun z hz hs => ?_) ⟨hv, hs, hw⟩ hlt
  · intro p hp
    simp only [wPs, List.mem_cons, List.not_mem_nil, or_false] at hp
    rcases hp with rfl | rfl | rfl | rfl | rfl
    · exact h1
    · exact h2
    · exact h3
    · exact h4
    · exact h5
  · refine hr z (hz _ (.head _)) (hz _ (.tail _ (.head _))) (hz _ (.tail _ (.tail _ (.head _)))) (hz _ (.tail _ (.tail _ (.tail _ (.head _))))) (hz _ (.tail _ (.tail _ (.tail _ (.tail _ (.head _)))))) fun q => ?_
    rw [q] at hs
    revert hs
    decide +kernel
end
local macro_rules | `(tactic| walk_at "KswEnd") => `(tactic| ((with_reducible show KswEnd _ _ _ _ _ _ _ _ _ _ _ _); refine Hold.out ?_))
set_option hygiene false in
local macro_rules | `(tactic| walk_at "call ref") => `(tactic| (k_here; (with_reducible show wpAny _ _ (call (Value.ref 155) [Value.str _ _, Value.int _ _]) _ _ _); k_dflt (refine' size_c _ _ _ _ _ _ _ _ _ _ _ _ _ _ _ _ _ _ _ _ _ _ _ _ _ _ _ ?k1 ?k2 ?k3 ?k4 ?k5 ?k6 ?k7 ?k8 ?k9 ?k10 ?k11 ?_; (case k1 => k_asm); (case k2 => k_asm); (case k3 => k_asm); (case k4 => k_asm); (case k5 => k_asm); (case k6 => exact rfl); (case k7 => ktr_room); (case k8 => ktr_units); (case k9 => assumption); (case k10 => omega); (case k11 => assumption)); intro r9 t9 h9 tk9 hsz9 F9 N9))
theorem wi_facts {x₀ tl : Str} {e M : Nat} {ts : List Str} {sg : Str} {vs : List Value} (h : WI x₀ tl e M ts) (hs : sg.cps.toList = List.replicate M 62) (hv : StrsAre vs ts) (hx : x₀.length ≤ 1100) : e ≤ x₀.length ∧ sg.length ≤ 1100 ∧ vs.length ≤ 1101 ∧ tl.length ≤ 1 := by
  have h1 := h.le
  have h2 := size_of hs
  have h3 := h.cnt
  have h4 := hv.length
  have hx' : x₀.cps.size ≤ 1100 := hx
  have htl : tl.cps.size ≤ 1 := by rcases h.tail with ⟨t, _⟩ | ⟨t, _⟩ <;> rw [size_of t] <;> simp
  rw [List.length_replicate] at h2
  refine ⟨by show e ≤ x₀.cps.size; omega, by show sg.cps.size ≤ 1100; omega, by omega, htl⟩
theorem news_one {h₀ h : Heap} {L : Addr} {p : Addr × Obj} {news : List (Addr × Obj)} (N : News h₀ L h [p]) (N' : News h₀ L h news) : News h₀ L h (p :: news) := fun q hq => by
  rcases List.mem_cons.mp hq with rfl | hq
  · exact N _ (.head _)
  · exact N' q hq
theorem wst_no {z : Str} (h : z ≠ Str.ofString "size") : (wSt.contains z = true) = False := by
  simp [wSt, h]
theorem gt_true {text : Str} {e : Nat} (h : (Txt.item text ((e : Int) - 1) == Str.ofString ">") = true) (h0 : 0 < (e : Int)) (hle : e ≤ text.length) : text.cps.getD (e - 1) 0 = 62 := by
  have h1 := str_eq_iff.mp (beq_iff_eq.mp h)
  rw [item_eq (by omega) (by omega)] at h1
  have e1 : ((e : Int) - 1).toNat = e - 1 := by omega
  have e2 : (Str.ofString ">").cps.toList = [62] := by decide +kernel
  rw [e1, e2] at h1
  simpa using h1
theorem gt_false {text : Str} {e : Nat} (h : (Txt.item text ((e : Int) - 1) == Str.ofString ">") = false) (h0 : 0 < (e : Int)) (hle : e ≤ text.length) : text.cps.getD (e - 1) 0 ≠ 62 := by
  intro q
  have : Txt.item text ((e : Int) - 1) = Str.ofString ">" := by
    rw [str_eq_iff, item_eq (by omega) (by omega)]
    have e1 : ((e : Int) - 1).toNat = e - 1 := by omega
    have e2 : (Str.ofString ">").cps.toList = [62] := by decide +kernel
    rw [e1, e2, q]
  rw [this] at h; simp at h
theorem gt_snoc {sg : Str} {M : Nat} (hs : sg.cps.toList = List.replicate M 62) : (sg ++ Str.ofString ">").cps.toList = List.replicate (M + 1) 62 := by
  have e2 : (Str.ofString ">").cps.toList = [62] := by decide +kernel
  show (sg.cps ++ (Str.ofString ">").cps).toList = _
  rw [Array.toList_append, hs, e2, List.replicate_succ']
theorem marks_no {sg : Str} {M : Nat} (hs : sg.cps.toList = List.replicate M 62) (h : (sg != Str.ofString "") = false) : M = 0 := by
  have h1 : sg = Str.ofString "" := by simpa using h
  rw [h1] at hs
  have e2 : (Str.ofString "").cps.toList = [] := by decide +kernel
  rw [e2] at hs
  cases M with
  | zero => rfl
  | succ n => simp [List.replicate_succ] at hs
theorem marks_yes {sg : Str} {M : Nat} (hs : sg.cps.toList = List.replicate M 62) (h : (sg != Str.ofString "") = true) : 1 ≤ M := by
  cases M with
  | zero =>
    exfalso
    have : sg = Str.ofString "" := by
      rw [str_eq_iff, hs]; decide +kernel
    rw [this] at h; simp at h
  | succ n => omega
theorem size_zero {a : Array Nat} {e : Nat} {r : Int} (h : SizeIs a e r) (h0 : r = 0) : ∀ p k, 6 ≤ k → k ≤ 16 → p + 6 + k = e → ¬AddrAt a p k := by
  rcases h with ⟨_, h⟩ | ⟨p, k, h6, _, _, _, h⟩
  · exact h
  · omega
theorem size_some {a : Array Nat} {e : Nat} {r : Int} (h : SizeIs a e r) (h0 : r ≠ 0) : ∃ p k, 6 ≤ k ∧ k ≤ 16 ∧ p + 6 + k = e ∧ AddrAt a p k ∧ (e : Int) - r = (p : Int) := by
  rcases h with ⟨h, _⟩ | ⟨p, k, h6, h16, he, hA, h⟩
  · exact absurd h h0
  · exact ⟨p, k, h6, h16, he, hA, by omega⟩
theorem cut_eq {text sg tl : Str} {M p : Nat} (hs : sg.cps.toList = List.replicate M 62) (hp : p ≤ text.cps.size) : (Txt.slice text none (some (p : Int)) ++ sg ++ tl).cps.toList = text.cps.toList.take p ++ List.replicate M 62 ++ tl.cps.toList := by
  show ((Txt.slice text none (some (p : Int))).cps ++ sg.cps ++ tl.cps).toList = _
  rw [Array.toList_append, Array.toList_append, hs, slice_to hp]

theorem walk_c (w : World) (loose : List Str) (mean : ExcName → Option Value) (mg mb : Str → Option Value) (news : List (Addr × Obj)) (text : Str) (t0 : Tok) :
    WalkClaim w loose mean mg mb news text t0 := by
  dsimp only [WalkClaim]
  k_fill
  intro dp un gd cn cs a ccd cl outer A₀ base h₀ L m s Q E hB hF hK hN hT hcs hdp hun hlen hret
  walk_at "mine enter"
  k_steps
  all_goals (refine Hold.in ?_; rename Fr _ _ _ _ => FF; rename News _ _ _ _ => NN)
  all_goals first
    | (rename (_ = true) => hsl
       obtain ⟨htl, hn1⟩ := tl_nl hsl
       have hn1' : (Str.ofString "\n").cps.size = 1 := by decide +kernel
       have hw0 := WI.start htl (by omega)
       rw [hn1'] at hw0
       refine while_walk (text.cps.size - 1) FF NN rfl rfl rfl rfl rfl (by show ((text.cps.size : Nat) : Int) - 1 = _; omega) hw0 fun e te sg tm M vs ts c u hh tkk hv hs hw FF' NN' => ?_)
    | (rename (_ = false) => hsl
       have htl := tl_no hsl
       have hn1' : (Str.ofString "").cps.size = 0 := by decide +kernel
       have hw0 := WI.start htl (by omega)
       rw [hn1'] at hw0
       refine while_walk text.cps.size FF NN rfl rfl rfl rfl rfl (by show ((text.cps.size : Nat) : Int) - 0 = _; omega) hw0 fun e te sg tm M vs ts c u hh tkk hv hs hw FF' NN' => ?_)
  all_goals (
    clear FF NN
    obtain ⟨hle, hsg, hvs, htl1⟩ := wi_facts hw hs hv hlen
    k_steps)
  all_goals (try refine Hold.in ?_)
  all_goals (rename Fr _ _ _ _ => FE)
  all_goals first
    | (rename News _ _ _ _ => NE
       have hg := gt_true (text := text) (e := e) (by assumption) (by assumption) hle
       exact end_walk (e - 1) (M + 1) ts FE NE (.head _) rfl rfl rfl rfl rfl rfl (by intro z h1 h2 h3 h4 h5 h6; simp only [h1, h2, h3, h4, h5, if_false, wst_no h6]) (by omega) (by show e - 1 < e; omega) hv (gt_snoc hs) (hw.mark (by omega) hg))
    | (rename News _ _ _ _ => NE
       obtain ⟨p, k, h6, h16, hpe, hA, hep⟩ := size_some (by assumption) (by assumption)
       rw [hep] at NE
       refine end_walk p M (ts ++ [Txt.slice text none (some (p : Int)) ++ sg ++ _]) FE NE (.head _) (List.push_toArray ..) rfl rfl rfl rfl rfl (by intro z h1 h2 h3 h4 h5 h6; simp only [h1, h2, h3, h4, h5, if_false, h6, wst_no h6]) hep (by show p < e; omega) (strsAre_snoc hv) hs (hw.addr (marks_yes hs (by assumption)) h6 h16 hpe hA (cut_eq hs (by have : e ≤ text.cps.size := hle; omega))))
    | exact hret _ vs ts c _ _ hv (hw.walked (.inr ⟨gt_false (by assumption) (by assumption) hle, .inr (size_zero (by assumption) (by assumption))⟩)) FE (news_one (by assumption) (by assumption))
    | exact hret _ vs ts c _ _ hv (hw.walked (.inr ⟨gt_false (by assumption) (by assumption) hle, .inl (marks_no hs (by assumption))⟩)) FE (news_one (by assumption) (by assumption))
    | exact hret _ vs ts c _ _ hv (hw.walked (.inl (by omega))) FE (news_one (by assumption) (by assumption))
end Mine
end
section
open PySem PySem.W PyProof.Rows PySem.Calls
set_option maxRecDepth 100000
namespace Mine
open PySem.Builtin.Re PySem.Builtin

theorem look_fn_call : typeLookup (.type "function") (Str.ofString "__call__") = pure (some (.builtin "function.__call__")) := by rw [typeLookup_type, builtinLookup_eq_fast]; kernel_rfl
theorem look_str_call : typeLookup (.type "str") (Str.ofString "__call__") = pure none := by rw [typeLookup_type, builtinLookup_eq_fast]; kernel_rfl
theorem plain_loop : plainId "re.Pattern.sub.loop" = true := by decide +kernel
theorem sub_str_bytearray : isSubtype (.type "str") (.type "bytearray") = pure false := by rw [isSubtype_type]; kernel_rfl

section
variable {prog : Program} {w : World} {A : Around} {E : Value → Shared → Prop} {s : Shared} {h₀ : Heap} {L : Addr} {m : Str → Option Value} {news rest : List (Addr × Obj)}

theorem push_head {D : Addr} {its : Array Value} {n : Nat} {x : Value} {Q : Unit → Shared → Prop}
    (F : Fr h₀ L s.heap m) (N : News h₀ L s.heap ((D, { cls := .type "list", data := .seq its n }) :: rest)) (hap : ∀ p ∈ rest, p.1 ≠ D)
    (h : ∀ h', Fr h₀ L h' m → News h₀ L h' ((D, { cls := .type "list", data := .seq (its.push x) (n + 1) }) :: rest) → Q () { s with heap := h' })
    (hsz : its.size ≤ sizeLine := by size_fits) : wpAny (model prog w) A (updateSeq D (·.push x)) Q E s := by
  have ho := N.get (.head _)
  refine wpAny_updateSeq ho rfl (h _ (F.change (Heap.SameBut.update ..) (N _ (.head _)).2.1 (N _ (.head _)).2.2) (N.setHead hap (Heap.SameBut.update ..) ?_))
  rw [Heap.get?_update_self _ ho (by rw [mapSeq_push]; rfl), mapSeq_push]

/-- a pattern as it lies -/
structure PatAt (h : Heap) (pat : Addr) (code : Array Nat) (g : Nat) : Prop where
  out : ∃ vs cd items n op oc, h.get? pat = some op ∧ op.cls = .type "re.Pattern" ∧ op.data = .fields vs ∧ vs.getD 5 .none = .ref cd ∧ reRawNat (vs.getD 6 .none) = 0 ∧ reRawNat (vs.getD 2 .none) = g ∧
    h.get? cd = some oc ∧ oc.data = .seq items n ∧ (items.map reRawOf).map (·.toNat) = code

theorem PatAt.keeps {h h' : Heap} {pat : Addr} {code : Array Nat} {g : Nat} (P : PatAt h pat code g) (k : ∀ b o, h.get? b = some o → h'.get? b = some o) : PatAt h' pat code g := by
  obtain ⟨vs, cd, items, n, op, oc, a, b, c, d, e, f, i, j, l⟩ := P.out
  exact ⟨vs, cd, items, n, op, oc, k _ _ a, b, c, d, e, f, k _ _ i, j, l⟩

theorem wp_whole {pat : Addr} {code : Array Nat} {g : Nat} {x : Str} {t : Tok} {Q : ReTarget → Shared → Prop} (P : PatAt s.heap pat code g)
    (h : Q { pattern := .ref pat, string := .str x t, code := code, text := x.cps, kind := 0, groups := g, pos := 0, lim := x.cps.size } s) : wpAny (model prog w) A (reWholeTarget (.ref pat) (.str x t)) Q E s := by
  obtain ⟨vs, cd, items, n, op, oc, a, b, c, d, e, f, i, j, l⟩ := P.out
  unfold reWholeTarget
  refine wpAny_bind (wpAny_fieldsOf a c ?_)
  refine wpAny_bind (m := reTextOf (.str x t)) ?_
  unfold reTextOf
  refine wpAny_bind (m := asStr? (.str x t)) (wpAny_pure (wpAny_pure ?_))
  dsimp only
  rw [e, d, f]
  show wpAny _ _ (do reNoCollectionInside (.str x t) 0; let r ← reRawItems (.ref cd); pure _) _ _ _
  refine wpAny_bind (wpAny_pure ?_)
  refine wpAny_bind (m := reRawItems (.ref cd)) ?_
  unfold reRawItems
  refine wpAny_bind (wpAny_seqItems i j ?_)
  refine wpAny_pure (wpAny_pure ?_)
  show Q { pattern := _, string := _, code := (items.map reRawOf).map (·.toNat), text := _, kind := _, groups := _, pos := _, lim := _ } s
  rw [l]; exact h

theorem wp_slice {text : Array Nat} {b e : Nat} {Q : Value → Shared → Prop} (hsz : text.size ≤ 1100) (h : ∀ t tk, Q (.str ⟨text.extract b e⟩ t) { s with toks := tk }) :
    wpAny (model prog w) A (reSlice text 0 b e) Q E s := by
  show wpAny _ _ (mkStr ⟨text.extract b e⟩) Q E s
  refine wpAny_mkStr (h _ _) ?_
  show (text.extract b e).size ≤ sizeLine
  rw [Array.size_extract, sizeLine_eq]; omega

/-- entering re.Pattern.sub with a callable -/
theorem sub_start_call {pat f : Addr} {code : Array Nat} {g : Nat} {x : Str} {t : Tok} {of : Obj} {R : Result → Shared → Prop} (P : PatAt s.heap pat code g) (hf : s.heap.get? f = some of) (hfc : of.cls = .type "function")
    (F : Fr h₀ L s.heap m) (N : News h₀ L s.heap news)
    (h : ∀ h' D, Fr h₀ L h' m → News h₀ L h' ((D, { cls := .type "list", data := .seq #[] 0 }) :: news) → (∀ p ∈ news, p.1 ≠ D) →
      codeAny (model prog w) A (.builtin "re.Pattern.sub.loop" ⟨[.ref pat, .str x t, .ref f, rawInt 1, rawInt 0, rawInt 0, rawInt 0, rawInt 0, .bool false, .ref D, .bool false], []⟩) R { s with heap := h' }) :
    codeAny (model prog w) A (.call (.builtin "re.Pattern.sub") ⟨[.ref pat, .ref f, .str x t], []⟩) R s := by
  obtain ⟨vs, cd, items, n, op, oc, a, b, c, d, e, f', i, j, l⟩ := id P.out
  refine codeAny_call_builtin slot_pat_sub.plain entry_pat_sub (slot_pat_sub.check _ _ _ _ _ _ _ _ ⟨op, a, b⟩ (args_pat_sub _ _ _) ?_)
  unfold Builtin.«re.Pattern.sub» reSubstitute
  dsimp only
  refine wpAny_bind (m := reNamed "re.Pattern.sub" "sub" ["repl", "string", "count"] 2 [.ref f, .str x t] []) (wpAny_of_eq (a := [some (.ref f), some (.str x t), none]) rfl ?_)
  dsimp only
  refine wpAny_bind (wpAny_pure ?_)
  refine wpAny_bind (wpAny_specialOf ⟨of, hf, hfc⟩ look_fn_call ?_)
  simp only [Option.isSome_some, if_true]
  refine wpAny_bind (wpAny_pure ?_)
  refine wpAny_bind (wpAny_pure ?_)
  refine wpAny_bind (wpAny_holding (wp_whole P ?_))
  dsimp only
  show wpAny _ _ (do reNotHeld "re.Pattern.sub" (.str x t); let D ← newList []; again (.builtin "re.Pattern.sub.loop" ⟨[.ref pat, .str x t, .ref f, rawInt 1, rawInt 0, rawInt 0, rawInt 0, rawInt 0, .bool false, D, .bool false], []⟩)) _ _ _
  refine wpAny_bind (m := reNotHeld "re.Pattern.sub" (.str x t)) ?_
  unfold reNotHeld
  refine wpAny_bind (wpAny_isInstance (typeIs_str _ _ _) sub_str_bytearray ?_)
  show wpAny _ _ (pure ()) _ _ _
  refine wpAny_pure ?_
  refine wpAny_bind (newList_N F N (fun h' F' N' => ?_))
  refine wpAny_pure ⟨plainId_quiet plain_loop _, ?_⟩
  exact h h' _ F' N' fun p hp => Nat.ne_of_lt (Heap.lt_size (N p hp).1)

theorem join_empty (ys : List Str) : (Txt.join ⟨#[]⟩ ys).cps.toList = (ys.map (·.cps.toList)).flatten := by
  unfold Txt.join PySem.Builtin.Str.glued
  cases ys with
  | nil => rfl
  | cons y r =>
    show ((r.foldl (fun acc p => acc ++ #[] ++ p.cps) y.cps)).toList = y.cps.toList ++ (r.map (·.cps.toList)).flatten
    generalize y.cps = acc
    induction r generalizing acc with
    | nil => simp
    | cons z r ih => rw [List.foldl_cons, ih]; simp

theorem str_empty_size {z : Str} (h : z.cps.toList = []) : z = ⟨#[]⟩ := by
  cases z with
  | mk c => simp at h; subst h; rfl

theorem wp_tail {x : Str} {D : Addr} {ps : List Value} {c : Nat} {ys : List Str} {g : List Nat} {Kf : Value → Sem Fin} {Q : Fin → Shared → Prop} (hsz : x.cps.size ≤ 1100) (F : Fr h₀ L s.heap m) (N : News h₀ L s.heap ((D, { cls := .type "list", data := .seq ps.toArray c }) :: rest))
    (hys : StrsAre ps ys) (hsum : (ys.map (·.length)).sum ≤ 10000) (hg : (ys.map (·.cps.toList)).flatten = g)
    (h : ∀ z tk t', z.cps.toList = g → wpAny (model prog w) A (Kf (.str z tk)) Q E { s with toks := t' }) :
    wpAny (model prog w) A (do
      let joiner ← reSlice x.cps 0 0 0
      let items ← seqItems? (.ref D)
      if (items.getD #[]).isEmpty = true then (do let text ← pure joiner; Kf text) else (do let text ← call (.builtin (if (0 == 0) = true then "str.join" else "bytes.join")) [joiner, .ref D]; Kf text)) Q E s := by
  subst hg
  refine wpAny_bind (wp_slice hsz fun t tk => ?_)
  refine wpAny_bind (wpAny_seqItems (N.get (.head _)) rfl ?_)
  have e : (⟨x.cps.extract 0 0⟩ : Str) = ⟨#[]⟩ := by simp
  rw [e]
  by_cases he : ps = []
  · subst he
    cases hys
    rw [if_pos (by rfl)]
    exact wpAny_bind (wpAny_pure (h _ _ _ rfl))
  · rw [if_neg (by simpa using he), if_pos (by rfl)]
    refine wpAny_bind (join_list (ys := ys) ⟨_, N.get (.head _), rfl, c, rfl⟩ (by simpa using hys) ?_ fun t' k => h _ _ _ (join_empty ys))
    show _ + _ * 0 ≤ _
    omega

/-- one turn of the loop that finds nothing more -/
theorem loop_end {pat : Addr} {code : Array Nat} {g : Nat} {x : Str} {t : Tok} {repl : Value} {way n dn st : Nat} {must : Bool} {D : Addr} {ps : List Value} {c : Nat} {ys : List Str} {k : Nat} {m' : Sre.M} {R : Result → Shared → Prop}
    (P : PatAt s.heap pat code g) (hw : way = 1 ∨ (way = 0 ∧ ∃ r u, repl = .str r u)) (hsz : x.cps.size ≤ 1100) (hr : (Sre.forSearch code x.cps g st x.cps.size must).runFor k = m') (hk : k ≤ 4 * 2 ^ 64) (ho : m'.outcome = some .failed)
    (F : Fr h₀ L s.heap m) (N : News h₀ L s.heap ((D, { cls := .type "list", data := .seq ps.toArray c }) :: rest)) (hap : ∀ p ∈ rest, p.1 ≠ D) (hys : StrsAre ps ys) (hlen : ps.length ≤ 1100) (hsum : (ys.map (·.length)).sum ≤ 5000)
    (h : ∀ z tk h' t', z.cps.toList = (ys.map (·.cps.toList)).flatten ++ x.cps.toList.drop dn → Fr h₀ L h' m → News h₀ L h' rest → R (.ok (.ret (.str z tk))) { s with heap := h', toks := t' }) :
    codeAny (model prog w) A (.builtin "re.Pattern.sub.loop" ⟨[.ref pat, .str x t, repl, rawInt way, rawInt 0, rawInt n, rawInt dn, rawInt st, .bool must, .ref D, .bool false], []⟩) R s := by
  refine codeAny_builtin entry_pat_loop ?_
  unfold Builtin.«re.Pattern.sub.loop»
  dsimp only [rawInt]
  refine wpAny_bind (wp_whole P ?_)
  have lit : ∀ Q : PUnit → Shared → Prop, (way : Int) == 0 → Q ⟨⟩ s → wpAny (model prog w) (A.under (.builtin "re.Pattern.sub.loop" ⟨[.ref pat, .str x t, repl, .int way 0, .int 0 0, .int n 0, .int dn 0, .int st 0, .bool must, .ref D, .bool false], []⟩)) (reLiteralCannotBeTurned repl) Q (fun e s' => R (.error e) s') s := by
    intro Q hq hQ
    rcases hw with rfl | ⟨rfl, r, u, rfl⟩
    · cases hq
    · unfold reLiteralCannotBeTurned
      refine wpAny_bind (m := asStr? (.str r u)) (wpAny_pure ?_)
      show wpAny _ _ (pure ()) _ _ _
      exact wpAny_pure hQ
  split
  all_goals first | refine wpAny_bind (lit _ (by assumption) ?_) | skip
  all_goals (
    refine wpAny_bind ?_
    rw [if_neg (by simp)]
    unfold reNextFound
    refine wp_runToEnd (m' := m') (n := k) hr hk (.inr ⟨ho, rfl⟩) ?_
    dsimp only
    simp only [Int.toNat_natCast]
    by_cases hd : dn < x.cps.size
    · rw [if_pos hd]
      refine wpAny_bind (wp_slice hsz fun t1 tk1 => ?_)
      refine wpAny_bind (push_head F N hap (fun h1 F1 N1 => ?_) (by rw [List.size_toArray, sizeLine_eq]; omega))
      have e1 : ps.toArray.push (Value.str ⟨x.cps.extract dn x.cps.size⟩ t1) = (ps ++ [Value.str ⟨x.cps.extract dn x.cps.size⟩ t1]).toArray := by simp
      rw [e1] at N1
      refine wp_tail (ys := ys ++ [⟨x.cps.extract dn x.cps.size⟩]) hsz F1 N1 (strsAre_snoc hys) ?_ rfl fun z tk t' hz => ?_
      · have : (⟨x.cps.extract dn x.cps.size⟩ : Str).length ≤ 1100 := by
          show (x.cps.extract _ _).size ≤ _
          rw [Array.size_extract]; omega
        simp only [List.map_append, List.map_cons, List.map_nil, List.sum_append, List.sum_cons, List.sum_nil]
        omega
      · rw [if_neg (by simp)]
        refine wpAny_pure (h z tk _ _ (hz.trans ?_) F1 fun q hq => N1 q (.tail _ hq))
        simp
        exact List.take_of_length_le (by simp)
    · rw [if_neg hd]
      refine wp_tail hsz F N hys (by omega) rfl fun z tk t' hz => ?_
      rw [if_neg (by simp)]
      refine wpAny_pure (h z tk _ _ (hz.trans ?_) F fun q hq => N q (.tail _ hq))
      rw [List.drop_eq_nil_of_le (by simp; omega)]; simp)

/-- the match object's fields -/
def matchObj (x : Str) (t : Tok) (pat tp : Addr) (n : Nat) : Obj := { cls := .type "re.Match", data := .fields #[.str x t, .ref pat, rawInt 0, rawInt n, rawInt 1, .ref tp] }
def spansObj (a b c d : Nat) : Obj := { cls := .type "tuple", data := .seq #[rawInt a, rawInt b, rawInt c, rawInt d] }
theorem wp_match {x : Str} {t : Tok} {pat : Addr} {m' : Sre.M} {b e : Nat} {Q : Value → Shared → Prop} (h1 : m'.marks.getD 0 none = some b) (h2 : m'.marks.getD 1 none = some e) (hl : m'.lastmark = 1) (hi : m'.lastindex = 1) (hbe : b ≤ e) (F : Fr h₀ L s.heap m) (N : News h₀ L s.heap news)
    (h : ∀ tp mo h', Fr h₀ L h' m → News h₀ L h' ((mo, matchObj x t pat tp x.cps.size) :: (tp, spansObj m'.start m'.handed b e) :: news) → (∀ p ∈ news, p.1 < tp) → tp < mo → Q (.ref mo) { s with heap := h' }) :
    wpAny (model prog w) A (reNewMatch (.ref pat) (.str x t) 1 0 x.cps.size m') Q E s := by
  unfold reNewMatch
  have e0 : (List.range 1) = [0] := rfl
  simp only [e0, List.flatMap_cons, List.flatMap_nil, List.any_cons, List.any_nil, hl, h1, h2, Nat.mul_zero, Nat.zero_add]
  have e1 : ((1 : Nat) : Int) ≤ 1 := Int.le_refl _
  rw [if_neg (by simp; omega)]
  simp only [if_pos e1, hi, List.append_nil]
  refine wpAny_bind (newTuple_N F N (fun h1 F1 N1 => ?_))
  have lt : ∀ p ∈ news, p.1 < s.heap.objs.size := fun p hp => Heap.lt_size (N p hp).1
  refine wpAny_newObj_type (h s.heap.objs.size h1.objs.size _ (F1.push _) (News.push F1 N1 (matchObj x t pat s.heap.objs.size x.cps.size)) lt (Heap.lt_size (N1 _ (.head _)).1))

theorem extract_all (a : Array Nat) (b : Nat) : (a.extract b a.size).toList = a.toList.drop b := by
  simp
  exact List.take_of_length_le (by simp)

/-- one turn of the loop that finds the address, with a callable -/
theorem loop_hit {pat f : Addr} {code : Array Nat} {x : Str} {t : Tok} {D : Addr} {k : Nat} {m' : Sre.M} {p b e : Nat} {R : Result → Shared → Prop}
    (P : PatAt s.heap pat code 1) (hsz : x.cps.size ≤ 1100) (hr : (Sre.forSearch code x.cps 1 0 x.cps.size false).runFor k = m') (hk : k ≤ 4 * 2 ^ 64) (ho : m'.outcome = some .matched)
    (hst : m'.start = p) (hhd : m'.handed = e) (h1 : m'.marks.getD 0 none = some b) (h2 : m'.marks.getD 1 none = some e) (hl : m'.lastmark = 1) (hi : m'.lastindex = 1) (hpb : p < b) (hbe : b ≤ e)
    (F : Fr h₀ L s.heap m) (N : News h₀ L s.heap ((D, { cls := .type "list", data := .seq #[] 0 }) :: rest)) (hap : ∀ q ∈ rest, q.1 ≠ D)
    (h : ∀ tp mo h' tk (ps : List Value) c ys, Fr h₀ L h' m → News h₀ L h' ((mo, matchObj x t pat tp x.cps.size) :: (tp, spansObj p e b e) :: (D, { cls := .type "list", data := .seq ps.toArray c }) :: rest) → D < tp → tp < mo → (∀ q ∈ rest, q.1 < tp) →
      StrsAre ps ys → (ys.map (·.cps.toList)).flatten = x.cps.toList.take p → (ys.map (·.length)).sum ≤ 1100 → ps.length ≤ 1 →
      wpAny (model prog w) (A.under (.builtin "re.Pattern.sub.loop" ⟨[.ref pat, .str x t, .ref f, rawInt 1, rawInt 0, rawInt 0, rawInt 0, rawInt 0, .bool false, .ref D, .bool false], []⟩)) (call (.ref f) [.ref mo])
        (fun v s' => (∃ z u h'' tk'' rest', v = .str z u ∧ s' = { s with heap := h'', toks := tk'' } ∧ Fr h₀ L h'' m ∧ News h₀ L h'' ((D, { cls := .type "list", data := .seq ps.toArray c }) :: rest') ∧ (∀ q ∈ rest', q.1 ≠ D) ∧ z.length ≤ 1100 ∧
          ∀ h3 tk3 c3, Fr h₀ L h3 m → News h₀ L h3 ((D, { cls := .type "list", data := .seq (ps ++ [Value.str z u]).toArray c3 }) :: rest') →
            codeAny (model prog w) A (.builtin "re.Pattern.sub.loop" ⟨[.ref pat, .str x t, .ref f, rawInt 1, rawInt 0, rawInt 1, rawInt e, rawInt e, .bool false, .ref D, .bool false], []⟩) R { s with heap := h3, toks := tk3 }))
        (fun e s' => R (.error e) s') { s with heap := h', toks := tk }) :
    codeAny (model prog w) A (.builtin "re.Pattern.sub.loop" ⟨[.ref pat, .str x t, .ref f, rawInt 1, rawInt 0, rawInt 0, rawInt 0, rawInt 0, .bool false, .ref D, .bool false], []⟩) R s := by
  refine codeAny_builtin entry_pat_loop ?_
  unfold Builtin.«re.Pattern.sub.loop»
  dsimp only [rawInt]
  refine wpAny_bind (wp_whole P ?_)
  rw [if_neg (by decide)]
  refine wpAny_bind ?_
  rw [if_neg (by simp)]
  unfold reNextFound
  refine wp_runToEnd (m' := m') (n := k) hr hk (.inl ⟨ho, rfl⟩) ?_
  dsimp only
  have key : ∀ (h1 : Heap) (tk : Nat) (ps : List Value) (c : Nat) (ys : List Str), Fr h₀ L h1 m → News h₀ L h1 ((D, { cls := .type "list", data := .seq ps.toArray c }) :: rest) → StrsAre ps ys → (ys.map (·.cps.toList)).flatten = x.cps.toList.take p → (ys.map (·.length)).sum ≤ 1100 → ps.length ≤ 1 →
      wpAny (model prog w) (A.under (.builtin "re.Pattern.sub.loop" ⟨[.ref pat, .str x t, .ref f, rawInt 1, rawInt 0, rawInt 0, rawInt 0, rawInt 0, .bool false, .ref D, .bool false], []⟩)) (do
        let found ← reNewMatch (.ref pat) (.str x t) 1 0 x.cps.size m'
        let item ← holding [found] (if ((1 : Int) == 1) = true then call (.ref f) [found] else do reExpand (.ref f) (← reFound found))
        if (item != .none) = true then do
          updateSeq D fun y => y.push item
          again (.builtin "re.Pattern.sub.loop" ⟨[.ref pat, .str x t, .ref f, rawInt 1, rawInt 0, .int (0 + 1) 0, rawInt m'.handed, rawInt m'.handed, .bool (m'.handed == m'.start), .ref D, .bool false], []⟩)
        else again (.builtin "re.Pattern.sub.loop" ⟨[.ref pat, .str x t, .ref f, rawInt 1, rawInt 0, .int (0 + 1) 0, rawInt m'.handed, rawInt m'.handed, .bool (m'.handed == m'.start), .ref D, .bool false], []⟩))
        (fun fin s' => match fin with | .done f => R (.ok f) s' | .again c' => c'.quiet = true ∧ codeAny (model prog w) A c' R s') (fun e s' => R (.error e) s') { s with heap := h1, toks := tk } := by
    intro h1' tk ps c ys F1 N1 y1 y2 y3 y4
    refine wpAny_bind (wp_match h1 h2 hl hi hbe F1 N1 fun tp mo h' F' N' l1 l2 => ?_)
    refine wpAny_bind (wpAny_holding ?_)
    rw [if_pos (by rfl)]
    rw [hst, hhd] at N'
    refine wpAny_mono (h tp mo h' tk ps c ys F' N' (l1 _ (.head _)) l2 (fun q hq => l1 q (.tail _ hq)) y1 y2 y3 y4) (fun v s' hv => ?_) fun _ _ e => e
    obtain ⟨z, u, h'', tk'', rest', rfl, rfl, F2, N2, hap2, hz, go⟩ := hv
    rw [if_pos (by rfl)]
    refine wpAny_bind (push_head F2 N2 hap2 (fun h3 F3 N3 => ?_) (by rw [List.size_toArray, sizeLine_eq]; omega))
    have e1 : ps.toArray.push (Value.str z u) = (ps ++ [Value.str z u]).toArray := by simp
    rw [e1] at N3
    have e2 : (m'.handed == m'.start) = false := by rw [hst, hhd]; simp; omega
    rw [e2, hhd]
    exact wpAny_pure ⟨plainId_quiet plain_loop _, go h3 tk'' _ F3 N3⟩
  by_cases hd : (0 : Int).toNat < m'.start
  · rw [if_pos hd]
    refine wpAny_bind (wp_slice hsz fun t1 tk1 => ?_)
    refine wpAny_bind (push_head F N hap (fun h1 F1 N1 => ?_) (by rw [sizeLine_eq]; exact Nat.zero_le _))
    rw [if_neg (by decide)]
    refine key h1 tk1 [Value.str ⟨x.cps.extract 0 m'.start⟩ t1] 1 [⟨x.cps.extract 0 m'.start⟩] F1 N1 (.cons _ _ .nil) ?_ ?_ (Nat.le_refl _)
    · rw [hst]; simp
    · show (x.cps.extract 0 m'.start).size + 0 ≤ 1100
      rw [Array.size_extract]; omega
  · rw [if_neg hd, if_neg (by decide)]
    refine key s.heap s.toks [] 0 [] F N .nil ?_ (by simp) (by simp)
    have : p = 0 := by rw [hst] at hd; simpa using hd
    rw [this]; rfl
end
end Mine
end
section
open PySem PySem.W PyProof.Rows PySem.Calls
set_option maxRecDepth 100000
namespace Mine
open PySem.Builtin.Re PySem.Builtin

section
variable {prog : Program} {w : World} {A : Around} {E : Value → Shared → Prop} {s : Shared} {h₀ : Heap} {L : Addr} {m : Str → Option Value} {news rest : List (Addr × Obj)}

theorem getMethod_group {M : Model} {mo tp pat : Addr} {x : Str} {t : Tok} {n : Nat} {pl : Sem Bool} {Q : Value × List Value → Shared → Prop} (N : News h₀ L s.heap news) (hm : (mo, matchObj x t pat tp n) ∈ news)
    (h : Q (.builtin "re.Match.group", [.ref mo]) s) : wpAny M A (getMethod (.ref mo) (Str.ofString "group") pl) Q E s :=
  getMethod_builtin ⟨_, N.get hm, rfl⟩ plainAttrs_match slot_match_group type_match_group (fun b q => by cases q; exact ⟨_, N.get hm, rfl⟩) h

theorem wp_groupText {X : ReFound} {g : Nat} {d : Value} {x : Str} {t : Tok} {b e' : Nat} {Q : Value → Shared → Prop} (hsz : x.cps.size ≤ 1100) (hf : X.fields.getD 0 .none = .str x t) (hb : X.spans.getD (2 * g) (-1) = (b : Int)) (he : X.spans.getD (2 * g + 1) (-1) = (e' : Int))
    (h : ∀ u tk, Q (.str ⟨x.cps.extract b e'⟩ u) { s with toks := tk }) : wpAny (model prog w) A (reGroupText X g d) Q E s := by
  unfold reGroupText
  rw [hb, he, hf]
  dsimp only
  rw [if_neg (by simp)]
  refine wpAny_bind (m := reTextOf (.str x t)) ?_
  unfold reTextOf
  refine wpAny_bind (m := asStr? (.str x t)) (wpAny_pure (wpAny_pure ?_))
  exact wp_slice hsz h

theorem call_group {mo tp pat : Addr} {x : Str} {t t1 : Tok} {n p e b e' : Nat} {Q : Value → Shared → Prop} (hsz : x.cps.size ≤ 1100) (N : News h₀ L s.heap news) (hm : (mo, matchObj x t pat tp n) ∈ news) (ht : (tp, spansObj p e b e') ∈ news)
    (h : ∀ u tk, Q (.str ⟨x.cps.extract b e'⟩ u) { s with toks := tk }) : wpAny (model prog w) A (call (.builtin "re.Match.group") [.ref mo, .int 1 t1]) Q E s := by
  refine wpAny_call_entry slot_match_group ⟨_, N.get hm, rfl⟩ entry_match_group ?_ (args_match_group _ _)
  unfold Builtin.«re.Match.group»
  refine wpAny_bind (m := noKeywords "Match.group" _) (wpAny_pure ?_)
  dsimp only
  refine wpAny_bind (m := reFound (.ref mo)) ?_
  unfold reFound
  refine wpAny_bind (wpAny_fieldsOf (N.get hm) rfl ?_)
  refine wpAny_bind (m := reRawItems (.ref tp)) ?_
  unfold reRawItems
  refine wpAny_bind (wpAny_seqItems (N.get ht) rfl ?_)
  refine wpAny_pure (wpAny_pure ?_)
  refine wpAny_bind (m := reGroupNumber _ _) ?_
  unfold reGroupNumber
  refine wpAny_bind (m := asInt? (.int 1 t1)) (wpAny_pure ?_)
  dsimp only
  rw [if_pos (by rfl)]
  refine wpAny_bind (m := asIndex (.int 1 t1)) ?_
  unfold asIndex
  refine wpAny_bind (m := asInt? (.int 1 t1)) (wpAny_pure ?_)
  refine wpAny_pure ?_
  rw [if_neg (by simp)]
  refine wpAny_pure ?_
  exact wpAny_bind (wp_groupText (g := 1) (b := b) (e' := e') hsz rfl (by simp [reRawOf, rawInt]) (by simp [reRawOf, rawInt]) fun u tk => wpAny_pure ⟨_, rfl, h u tk⟩)
end
end Mine
end
section
open PySem PySem.W PyProof.Rows PySem.Calls
set_option maxRecDepth 100000
set_option maxHeartbeats 8000000
namespace Mine
local macro_rules | `(tactic| walk_at "mine pad 3") => `(tactic| skip)
local macro_rules | `(tactic| walk_at "mine pad 4") => `(tactic| skip)
local macro_rules | `(tactic| walk_at "mine pad 5") => `(tactic| skip)
abbrev lamq : Str := Str.ofString "stripid" ++ Str.ofString ".<locals>." ++ Str.ofString "<lambda>"
abbrev lamPos : Pos := { line := 12, col := 27, endLine := 12, endCol := 62 }
def LamOk (g : Heap) (ps : Array Value) (c' : Addr) (ex : List (Addr × Obj)) : Prop :=
  (∃ oc vs t, ex = [(c', oc)] ∧ oc.data = .fields vs ∧ vs[1]? = some (.str lamq t) ∧ c' ≠ 52) ∨ (ex = [] ∧ ps = #[rawInt 12, rawInt 27, .ref c'] ∧ g.CodeRec (.ref c') lamq)
section
variable {prog : Program} {w : World} {A A₀ : Around} {E : Value → Shared → Prop} {s : Shared} {base h₀ g : Heap} {outer : List Env} {L : Addr} {m mg mb : Str → Option Value} {news rest ex : List (Addr × Obj)} {p : Program} {loose : List Str} {mean : ExcName → Option Value}

theorem LamOk.rec {c' : Addr} {h : Heap} {ps : Array Value} (x : LamOk g ps c' ex) (F : Fr g L h m) (N : News g L h ex) : h.CodeRec (.ref c') lamq := by
  rcases x with ⟨oc, vs, t, rfl, h1, h2, _⟩ | ⟨rfl, _, c, oc, vs, t, e, h1, h2⟩
  · exact ⟨c', oc, vs, t, rfl, N.get (.head _), h1, h2⟩
  · exact ⟨c, oc, vs, t, e, F.keep _ _ h1, h2⟩

theorem extract_drop (a : Array Nat) (b j : Nat) : (a.extract b (b + j)).toList ++ a.toList.drop (b + j) = a.toList.drop b := by
  have h := List.take_append_drop j (a.toList.drop b)
  rw [List.drop_drop] at h
  rw [← h]
  simp
theorem empty_add (z : Str) : Str.ofString "" ++ z = z := by
  have e : Str.ofString "" = ⟨#[]⟩ := by decide +kernel
  rw [e]
  apply str_ext
  show (#[] ++ z.cps).toList = _
  simp
theorem extract_len {a : Array Nat} {b e : Nat} (h : a.size ≤ 1100) : (⟨a.extract b e⟩ : Str).length ≤ 1100 := by
  show (a.extract b e).size ≤ 1100
  rw [Array.size_extract]; omega
theorem extract_pos {a : Array Nat} {b e : Nat} (h : b < e) (he : e ≤ a.size) : 1 ≤ (⟨a.extract b e⟩ : Str).length := by
  show 1 ≤ (a.extract b e).size
  rw [Array.size_extract]; omega
theorem lam_made {M : Model} {cs : Scope} {params : Arguments} {body : Expr} {scope : Scope} {ps : Array Value} {Q : Value → Shared → Prop} (F : Fr g L s.heap m) (N : News g L s.heap [(52, tabObj ps)]) (T : Top p loose mean mg mb g) (C : CodeHd g 56 52)
    (hdef : defaultsOf params (envX (Str.ofString "stripid") cs L 57 (.ref 56) []) = ([], [])) (hcl : closureFor scope (envX (Str.ofString "stripid") cs L 57 (.ref 56) []) = pure [])
    (hps : ps = #[] ∨ ∃ c, ps = #[rawInt 12, rawInt 27, .ref c] ∧ g.CodeRec (.ref c) lamq)
    (h : ∀ f c' ctv ex h' tk, LamOk g ps c' ex → Fr g L h' m → News g L h' ((f, kla_obj (Str.ofString "<lambda>") lamq params body scope [] ((mg "__name__").getD .none) c' ctv) :: (52, tabObj #[rawInt 12, rawInt 27, .ref c']) :: ex) → 52 < f → (∀ q ∈ ex, q.1 < f) →
      Q (.ref f) { s with heap := h', toks := tk }) :
    wpAny M A (eval (.Lambda params body scope lamPos) (envX (Str.ofString "stripid") cs L 57 (.ref 56) [])) Q E s := by
  refine kla_eval hdef ?_
  rcases hps with rfl | ⟨c, rfl, hc⟩
  · refine kla_nest F N T C rfl (UpdF.head (fun _ q => nomatch q)) trivial rfl hcl fun f c' oc vs t ctv h' tk F' N' d1 d2 l1 l2 => ?_
    refine h f c' ctv [(c', oc)] h' tk (.inl ⟨oc, vs, t, rfl, d1, d2, Nat.ne_of_gt (l1 _ (.head _))⟩) F' (fun q hq => N' q ?_) (Nat.lt_trans (l1 _ (.head _)) l2) (fun q hq => by rw [List.mem_singleton.mp hq]; exact l2)
    rcases List.mem_cons.mp hq with rfl | hq
    · exact .head _
    · rcases List.mem_cons.mp hq with rfl | hq
      · exact .tail _ (.tail _ (.head _))
      · rw [List.mem_singleton.mp hq]; exact .tail _ (.head _)
  · refine kla_hit (c' := c) F N T C rfl (.head _) (by simp [TriplesOk, rawInt]) (by simp [codeAmong, rawInt]) hcl fun f ctv h' tk F' N' l1 => ?_
    exact h f c ctv [] h' tk (.inr ⟨rfl, rfl, hc⟩) F' N' (l1 _ (.head _)) (fun _ q => nomatch q)
end
local macro_rules | `(tactic| walk_at "getMethod ref") => `(tactic| (k_here; (with_reducible show wpAny _ _ (getMethod (Value.ref _) (Str.ofString "group") _) _ _ _); k_dflt (refine' getMethod_group ?k1 ?k2 ?_; (case k1 => k_asm); (case k2 => k_mem); k_whole)))
local macro_rules | `(tactic| walk_at "call builtin:re.Match.group") => `(tactic| (k_here; k_dflt (refine' call_group ?k0 ?k1 ?k2 ?k3 ?_; (case k0 => assumption); (case k1 => k_asm); (case k2 => k_mem); (case k3 => k_mem); k_whole); intro u9 tk9))
abbrev lamParams : Arguments := { posonlyargs := [], args := [{ arg := Str.ofString "_m", annotation := none, pos := { line := 12, col := 34, endLine := 12, endCol := 36 } }], vararg := none, kwonlyargs := [], kw_defaults := [], kwarg := none, defaults := [] }
abbrev lamBody : Expr := ((Expr.Constant (Const.str (Str.ofString "")) 0 { line := 12, col := 38, endLine := 12, endCol := 40 }).BinOp Operator.Add (Expr.BoolOp BoolOp.Or [((Expr.Name (Str.ofString "_m") { line := 12, col := 44, endLine := 12, endCol := 46 }).Attribute (Str.ofString "group") { line := 12, col := 44, endLine := 12, endCol := 52 }).Call [Expr.Constant (Const.int 1) 0 { line := 12, col := 53, endLine := 12, endCol := 54 }] [] { line := 12, col := 44, endLine := 12, endCol := 55 }, Expr.Constant (Const.str (Str.ofString "")) 0 { line := 12, col := 59, endLine := 12, endCol := 61 }] { line := 12, col := 44, endLine := 12, endCol := 61 }) { line := 12, col := 38, endLine := 12, endCol := 62 })
abbrev lamScope : Scope := { kind := ScopeKind.function, names := [(Str.ofString "_m", NameKind.local)], isGenerator := false, isCoroutine := false }
abbrev lamObj (pm : Value) (c' : Addr) (ctv : Value) : Obj := kla_obj (Str.ofString "<lambda>") lamq lamParams lamBody lamScope [] pm c' ctv

/-- the callable, called with a match -/
theorem lam_call (w : World) (loose : List Str) (mean : ExcName → Option Value) (mg mb : Str → Option Value) :
  ∀ (env : Env) (outer : List Env) (A A₀ : Around) (base g : Heap) (L : Addr) (m : Str → Option Value) (s : Shared) (f mo tp c' pat D : Addr) (pm ctv : Value) (x : Str) (t : Tok) (n p e b e' : Nat) (ps : List Value) (cc : Nat) (rest ex : List (Addr × Obj)) (Q E : Value → Shared → Prop)
    (_ : Below A₀ base outer g) (_ : A.frames = some (env :: outer)) (_ : env.frame = some L) (_ : env.scope.kind = .function) (_ : A.depth + 1 < recursionLimit) (_ : A.units + 8 < cLine)
    (_ : Fr g L s.heap m) (_ : (hd.heap_39 w.params).In g) (_ : Top topProg loose mean mg mb g)
    (_ : News g L s.heap ((mo, matchObj x t pat tp n) :: (tp, spansObj p e b e') :: (D, { cls := .type "list", data := .seq ps.toArray cc }) :: (f, lamObj pm c' ctv) :: rest)) (_ : s.heap.CodeRec (.ref c') lamq)
    (hsz : x.cps.size ≤ 1100) (hbe : b < e') (hes : e' ≤ x.cps.size)
    (_ : ∀ u h' tk', Fr g L h' m → News g L h' ((mo, matchObj x t pat tp n) :: (tp, spansObj p e b e') :: (D, { cls := .type "list", data := .seq ps.toArray cc }) :: (f, lamObj pm c' ctv) :: rest) → Q (.str ⟨x.cps.extract b e'⟩ u) { s with heap := h', toks := tk' }),
    wpAny (model PySem.Challenge.rw_ku0037_01.row.prog w) A (call (.ref f) [.ref mo]) Q E s := by
  k_fill
  intro env outer A A₀ base g L m s f mo tp c' pat D pm ctv x t n p e b e' ps cc rest ex Q E hB hAf hfr hke hdep hun hF hK hT hN hrec hsz hbe hes hret
  refine wpAny_call ?_
  k_dflt (refine' kla_code ?k1 ?k2 ?k3 ?k4 ?k5 ?kA ?kF ?kK ?k6 ?k7 ?k8 ?k9 ?kB ?_ ?c2 ?c3 ?c4 ?c5; (case kA => assumption); (case kF => assumption); (case kK => assumption); (case k1 => k_asm); (case k2 => k_asm); (case k3 => k_asm); (case k4 => k_asm); (case k5 => k_asm); (case k6 => k_mem); (case k7 => exact hrec); (case k8 => omega); (case k9 => exact rfl); (case c5 => decide); (case kB => exact locs rfl); (case c2 => exact rfl); (case c3 => exact rfl); (case c4 => exact rfl); k_whole; intro g' L' h' FG' F' N' B' X' T'; (try dsimp only); (try k_lift B'); (try k_fold))
  k_steps
  have hz1 : (⟨x.cps.extract b e'⟩ : Str).length ≤ 1100 := extract_len hsz
  have hz2 : 1 ≤ (⟨x.cps.extract b e'⟩ : Str).length := extract_pos hbe hes
  generalize (⟨x.cps.extract b e'⟩ : Str) = z at hz1 hz2 hret ⊢
  refine KXt.truthy_pos hz2 hz1 (by omega) fun k => ?_
  rw [if_pos rfl]
  k_steps
  rw [empty_add]
  exact hret _ _ _ (by assumption) (by assumption)

theorem in1_at (A : Around) (args : Args) : A.under (.builtin "re.Pattern.sub.loop" args) = A.in1 := Around.under_plainId plain_loop _
theorem pat50 {h₀ h : Heap} {w : World} (X : (hd.heap_39 w.params).In h₀) (k : ∀ b o, h₀.get? b = some o → h.get? b = some o) : PatAt h 50 CODE 1 :=
  ⟨_, _, _, _, _, _, k _ _ (X 50 _ rfl), rfl, rfl, rfl, rfl, rfl, k _ _ (X 49 _ rfl), rfl, by decide +kernel⟩

/-- the whole call of the pattern's sub with the callable -/
theorem sub_all (w : World) (loose : List Str) (mean : ExcName → Option Value) (mg mb : Str → Option Value)
    (env : Env) (outer : List Env) (A A₀ : Around) (base g : Heap) (L : Addr) (m : Str → Option Value) (s : Shared) (f c' : Addr) (pm ctv : Value) (x y : Str) (t : Tok) (ex : List (Addr × Obj)) (ps₀ : Array Value) (Q E : Value → Shared → Prop)
    (hB : Below A₀ base outer g) (hAf : A.frames = some (env :: outer)) (hfr : env.frame = some L) (hke : env.scope.kind = .function) (hdep : A.depth + 1 < recursionLimit) (hun : A.units + 12 < cLine)
    (hF : Fr g L s.heap m) (hK : (hd.heap_39 w.params).In g) (hT : Top topProg loose mean mg mb g) (hl : LamOk g ps₀ c' ex)
    (hN : News g L s.heap ((f, lamObj pm c' ctv) :: (52, tabObj #[rawInt 12, rawInt 27, .ref c']) :: ex)) (hsz : x.cps.size ≤ 1100) (hxy : StripTo x y)
    (hret : ∀ u h' tk', Fr g L h' m → News g L h' ((52, tabObj #[rawInt 12, rawInt 27, .ref c']) :: ex) → Q (.str y u) { s with heap := h', toks := tk' }) :
    wpAny (model PySem.Challenge.rw_ku0037_01.row.prog w) A (call (.builtin "re.Pattern.sub") [.ref 50, .ref f, .str x t]) Q E s := by
  refine wpAny_call (sub_start_call (pat50 hK hF.keep) (hN.get (.head _)) rfl hF hN fun h1 D F1 N1 hD => ?_)
  have P1 : PatAt h1 50 CODE 1 := pat50 hK F1.keep
  rcases hxy with ⟨p, k, mm, hDec, hy⟩ | ⟨hno, rfl⟩
  · obtain ⟨n, m', hr, hn, hit⟩ := search_some hsz hDec fun s' k' m2 hs' h' => absurd (Dec.start_unq h' hDec) (by omega)
    obtain ⟨ho, hst, hhd, hm0, hm1, hlm, hli⟩ := hit
    have hD6 := hDec.1
    have hDm := hDec.2.2.1
    have hE : p + 6 + k + mm ≤ x.cps.size := by rcases hDec.2.2.2.2.2 with e | e <;> omega
    have hshort : x.cps.size - (p + 6 + k + mm) < 13 := by rcases hDec.2.2.2.2.2 with e | e <;> omega
    refine loop_hit (s := { s with heap := h1 }) P1 hsz hr hn ho hst hhd hm0 hm1 hlm hli (by omega) (by omega) F1 N1 hD fun tp mo h2 tk ps cc ys F2 N2 l1 l2 l3 y1 y2 y3 y4 => ?_
    rw [in1_at]
    have hrec : h2.CodeRec (.ref c') lamq := hl.rec F2 fun q hq => N2 q (.tail _ (.tail _ (.tail _ (.tail _ (.tail _ hq)))))
    refine lam_call w loose mean mg mb env outer A.in1 A₀ base g L m _ f mo tp c' 50 D pm ctv x t x.cps.size p (p + 6 + k + mm) (p + 6 + k) (p + 6 + k + mm) ps cc _ [] _ _ hB hAf hfr hke (by simpa using hdep) (by simp; omega) F2 hK hT N2 hrec hsz (by omega) hE fun u h3 tk3 F3 N3 => ?_
    refine ⟨_, u, h3, tk3, _, rfl, rfl, F3, fun q hq => N3 q (.tail _ (.tail _ hq)), hD, extract_len hsz, fun h4 tk4 c4 F4 N4 => ?_⟩
    refine loop_end (way := 1) (n := 1) (dn := p + 6 + k + mm) (st := p + 6 + k + mm) (s := { s with heap := h4, toks := tk4 }) (pat50 hK F4.keep) (.inl rfl) hsz rfl (by decide) (forSearch_short hshort) F4 N4 hD (strsAre_snoc y1) ?_ ?_ fun z u h5 t5 hz F5 N5 => ?_
    · rw [List.length_append]; simp; omega
    · have := extract_len (a := x.cps) (b := p + 6 + k) (e := p + 6 + k + mm) hsz
      simp only [List.map_append, List.map_cons, List.map_nil, List.sum_append, List.sum_cons, List.sum_nil]
      omega
    · have ez : z = y := by
        apply str_ext
        rw [hz, hy, List.map_append, List.flatten_append, y2]
        simp only [List.map_cons, List.map_nil, List.flatten_cons, List.flatten_nil, List.append_nil, List.append_assoc]
        congr 1
        exact extract_drop x.cps (p + 6 + k) mm
      rw [ez]
      exact hret _ _ _ F5 fun q hq => N5 q (.tail _ hq)
  · obtain ⟨n, m', hr, hn, ho⟩ := search_none hsz hno
    refine loop_end (way := 1) (n := 0) (dn := 0) (st := 0) (s := { s with heap := h1 }) P1 (.inl rfl) hsz hr hn ho F1 N1 hD .nil (by simp) (by simp) fun z u h5 t5 hz F5 N5 => ?_
    have ez : z = y := by
      apply str_ext
      rw [hz]; simp
    rw [ez]
    exact hret _ _ _ F5 fun q hq => N5 q (.tail _ hq)
end Mine
end
section
open PySem PySem.W PyProof.Rows PySem.Calls
set_option maxRecDepth 100000
set_option maxHeartbeats 8000000
namespace Mine
local macro_rules | `(tactic| walk_at "mine pad 3") => `(tactic| skip)
local macro_rules | `(tactic| walk_at "mine pad 4") => `(tactic| skip)
local macro_rules | `(tactic| walk_at "mine pad 5") => `(tactic| skip)
local macro_rules | `(tactic| walk_at "mine pad 6") => `(tactic| skip)
theorem getMethod_pat {M : Model} {A : Around} {E : Value → Shared → Prop} {s : Shared} {K : Frag} {h₀ : Heap} {L a : Addr} {m : Str → Option Value} {cls : Value} {d : Option Addr} {dt : Data} {sl : Array (Option Value)} {pl : Sem Bool} {Q : Value × List Value → Shared → Prop}
    (F : Fr h₀ L s.heap m) (X : K.In h₀) (e : K.lookup a = some ⟨cls, d, dt, sl⟩) (hc : cls = .type "re.Pattern") (hd : d = none) (h : Q (.builtin "re.Pattern.sub", [.ref a]) s) :
    wpAny M A (getMethod (.ref a) (Str.ofString "sub") pl) Q E s := by
  subst hc hd
  have ho := (X.keeps F.keep) _ _ e
  exact getMethod_builtin ⟨_, ho, rfl⟩ plainAttrs_pat slot_pat_sub type_pat_sub (fun b q => by cases q; exact ⟨_, ho, rfl⟩) h

local macro_rules | `(tactic| walk_at "getMethod ref") => `(tactic| (k_here; (with_reducible show wpAny _ _ (getMethod (Value.ref _) (Str.ofString "sub") _) _ _ _); k_dflt (refine' getMethod_pat ?k1 ?k2 ?k3 ?k4 ?k5 ?_; (case k1 => k_asm); (case k2 => k_asm); (case k3 => k_is); (case k4 => rfl); (case k5 => rfl); k_whole)))
set_option hygiene false in
local macro_rules | `(tactic| walk_at "mine enter 57") => `(tactic| (refine wpAny_call ?_; k_dflt (refine' code_defP (own := [(52, tabObj _)]) ?k1 ?k2 ?k3 ?k4 ?kR ?kO ?k5 ?kA ?kF ?kK ?k6 ?k7 ?k8 ?k9 ?kB ?_ ?c2 ?c3 ?c4 ?c5; (case kA => exact rfl); (case kF => exact rfl); (case kK => assumption); (case k1 => k_asm); (case k2 => k_asm); (case k3 => k_asm); (case k4 => assumption); (case kR => assumption); (case kO => assumption); (case k5 => k_asm); (case k6 => k_is); (case k7 => k_is); (case k8 => ktr_room); (case k9 => exact BindsTo.of_eq rfl); (case c5 => decide); (case kB => exact locs rfl); (case c2 => exact rfl); (case c3 => exact rfl); (case c4 => exact rfl); k_whole; intro g' L' h' GS' FG' F' N' B' X' T'; (try dsimp only); (try k_lift B'); (try k_fold))))

abbrev StripClaim (w : World) (loose : List Str) (mean : ExcName → Option Value) (mg mb : Str → Option Value) (rest : List (Addr × Obj)) (ps : Array Value) (x y : Str) (t0 : Tok) : Prop :=
  ∀ (dp un : Nat) (gd : Option (List Code)) (cn : Str) (cs : Scope) (a : Addr) (ccd : Value) (cl : List (Str × Addr)) (outer : List Env) (A₀ : Around) (base h₀ : Heap) (L : Addr) (m : Str → Option Value) (s : Shared) (Q E : Value → Shared → Prop),
    Below A₀ base outer h₀ → Fr h₀ L s.heap m → (hd.heap_39 w.params).In h₀ → CodeHd base 56 52 → News h₀ L s.heap [(52, tabObj ps)] → News h₀ L s.heap rest → (∀ q ∈ rest, q.1 ∉ ([(52, tabObj ps)] : List (Addr × Obj)).map (·.1)) →
    (ps = #[] ∨ ∃ c, ps = #[rawInt 12, rawInt 27, .ref c] ∧ s.heap.CodeRec (.ref c) lamq ∧ c ≠ 52) → Top topProg loose mean mg mb h₀ → cs.kind = .function → dp + 3 < recursionLimit → un + 20 < cLine → x.length ≤ 1100 → StripTo x y →
    (∀ (c' : Addr) (ex : List (Addr × Obj)) (t : Tok) (h' : Heap) (tk' : Nat), ((ex = [] ∧ ps = #[rawInt 12, rawInt 27, .ref c']) ∨ ∃ oc vs u, ex = [(c', oc)] ∧ oc.data = .fields vs ∧ vs[1]? = some (.str lamq u) ∧ c' ≠ 52 ∧ ∀ q ∈ rest, q.1 ≠ c') →
      Fr h₀ L h' m → News h₀ L h' ((52, tabObj #[rawInt 12, rawInt 27, .ref c']) :: ex) → News h₀ L h' rest → Q (.str y t) { s with heap := h', toks := tk' }) →
      wpAny (model PySem.Challenge.rw_ku0037_01.row.prog w) (ktrTop dp un gd cn cs L a ccd cl outer) (call (.ref 57) [.str x t0]) Q E s
theorem strip_c (w : World) (loose : List Str) (mean : ExcName → Option Value) (mg mb : Str → Option Value) (rest : List (Addr × Obj)) (ps : Array Value) (x y : Str) (t0 : Tok) :
    StripClaim w loose mean mg mb rest ps x y t0 := by
  dsimp only [StripClaim]
  k_fill
  intro dp un gd cn cs a ccd cl outer A₀ base h₀ L m s Q E hB hF hK hC hN hR hO hTab hT hcs hdp hun hlen hxy hret
  walk_at "mine enter 57"
  have hC' : CodeHd g' 56 52 := CodeHd.keeps hC B'.stays
  have hps : ps = #[] ∨ ∃ c, ps = #[rawInt 12, rawInt 27, .ref c] ∧ g'.CodeRec (.ref c) lamq := by
    rcases hTab with h | ⟨c, h, ⟨c₂, oc, vs, t, e, h1, h2, h3⟩, hne⟩
    · exact .inl h
    · cases e
      exact .inr ⟨c, h, c, oc, vs, t, rfl, GS' _ _ h1 (fun q => hne (List.mem_singleton.mp q)), h2, h3⟩
  have hRg : ∀ q ∈ rest, g'.get? q.1 = some q.2 := fun q hq => GS' _ _ (hR q hq).1 (hO q hq)
  k_steps
  refine lam_made F' N' T' hC' rfl rfl hps fun f c' ctv ex h2 tk2 hl F2 N2 l1 l2 => ?_
  k_steps
  refine sub_all w loose mean mg mb _ _ _ _ base g' L' _ _ f c' _ ctv x y t0 ex ps _ _ B' rfl rfl rfl (by show dp + 1 + 1 < _; omega) (by show un + 3 + 12 < _; omega) F2 X' T' hl N2 hlen hxy fun u h3 tk3 F3 N3 => ?_
  k_steps
  have kN' : News h₀ L h3 ((52, tabObj #[rawInt 12, rawInt 27, .ref c']) :: ex) := by assumption
  have kR' : News h₀ L h3 rest := by assumption
  have kF' : Fr h₀ L h3 m := by assumption
  refine hret c' ex u h3 tk3 ?_ kF' kN' kR'
  rcases hl with ⟨oc', vs, t, rfl, h1, h2, h3⟩ | ⟨rfl, hp, _⟩
  · refine .inr ⟨oc', vs, t, rfl, h1, h2, h3, fun q hq e => ?_⟩
    have z := (N3 (c', oc') (.tail _ (.head _))).2.2
    rw [← e, hRg q hq] at z
    cases z
  · exact .inl ⟨rfl, hp⟩
end Mine
end
section
open PySem PySem.W PyProof.Rows PySem.Calls
set_option maxRecDepth 100000
set_option maxHeartbeats 8000000
namespace Mine
local macro_rules | `(tactic| walk_at "mine pad 2") => `(tactic| skip)
local macro_rules | `(tactic| walk_at "mine pad 3") => `(tactic| skip)
local macro_rules | `(tactic| walk_at "mine pad 4") => `(tactic| skip)
local macro_rules | `(tactic| walk_at "mine pad 5") => `(tactic| skip)
local macro_rules | `(tactic| walk_at "mine pad 6") => `(tactic| skip)
local macro_rules | `(tactic| walk_at "mine pad 7") => `(tactic| skip)
local macro_rules | `(tactic| walk_at "call ref") => `(tactic| ((with_reducible show wpAny _ _ (call (Value.ref 57) [Value.str _ _]) _ _ _); refine Hold.out ?_))
abbrev fitsScope : Scope := { kind := ScopeKind.function, names := [(Str.ofString "text", NameKind.local), (Str.ofString "texts", NameKind.local), (Str.ofString "_law_walk", NameKind.globalImplicit)], isGenerator := false, isCoroutine := false, more := [(Str.ofString "fast", Const.str (Str.ofString "text")), (Str.ofString "fast", Const.str (Str.ofString "texts")), (Str.ofString "fast", Const.str (Str.ofString "one"))] }
abbrev fitsEnv (L : Addr) : Env := envOf (Str.ofString "_law_fits") fitsScope L 167 (Value.ref 166)
abbrev fcScope : Scope := { kind := ScopeKind.function, names := [(Str.ofString ".0", NameKind.local), (Str.ofString "one", NameKind.local), (Str.ofString "stripid", NameKind.globalImplicit)], isGenerator := false, isCoroutine := false }
abbrev fcElt : Expr := (Expr.Name (Str.ofString "stripid") { line := 119, col := 12, endLine := 119, endCol := 19 }).Call [Expr.Name (Str.ofString "one") { line := 119, col := 20, endLine := 119, endCol := 23 }] [] { line := 119, col := 12, endLine := 119, endCol := 24 }
/-- what is known of the table of the code object of stripid, over the ground g: as it was (ps₀), or with a callable's code made since -/
def PsOk (g : Heap) (ps₀ ps : Array Value) (ex : List (Addr × Obj)) : Prop :=
  (ps = ps₀ ∧ ex = [] ∧ (ps₀ = #[] ∨ ∃ c, ps₀ = #[rawInt 12, rawInt 27, .ref c] ∧ g.CodeRec (.ref c) lamq)) ∨
    ∃ c oc vs t, ps = #[rawInt 12, rawInt 27, .ref c] ∧ ex = [(c, oc)] ∧ oc.data = .fields vs ∧ vs[1]? = some (.str lamq t) ∧ c ≠ 52
theorem PsOk.rec {g h : Heap} {L : Addr} {m : Str → Option Value} {ps₀ ps : Array Value} {ex : List (Addr × Obj)} (x : PsOk g ps₀ ps ex) (F : Fr g L h m) (h52 : g.get? 52 = none) (N : News g L h ex) :
    ps = #[] ∨ ∃ c, ps = #[rawInt 12, rawInt 27, .ref c] ∧ h.CodeRec (.ref c) lamq ∧ c ≠ 52 := by
  rcases x with ⟨rfl, _, h1 | ⟨c, h1, c₂, oc, vs, t, e, a, b, d⟩⟩ | ⟨c, oc, vs, t, h1, rfl, a, b, d⟩
  · exact .inl h1
  · cases e
    exact .inr ⟨c, h1, ⟨c, oc, vs, t, rfl, F.keep _ _ a, b, d⟩, fun q => by rw [q, h52] at a; cases a⟩
  · exact .inr ⟨c, h1, ⟨c, oc, vs, t, rfl, N.get (.head _), a, b⟩, d⟩
theorem PsOk.off {g : Heap} {ps₀ ps : Array Value} {ex : List (Addr × Obj)} (x : PsOk g ps₀ ps ex) : ∀ q ∈ ex, q.1 ≠ 52 := by
  rcases x with ⟨_, rfl, _⟩ | ⟨c, oc, vs, t, _, rfl, a, b, d⟩
  · exact fun _ h => nomatch h
  · intro q hq
    rw [List.mem_singleton.mp hq]; exact d

/-- one element of the comprehension -/
theorem elt_c (w : World) (loose : List Str) (mean : ExcName → Option Value) (mg mb : Str → Option Value) :
  ∀ (dp un : Nat) (gd : Option (List Code)) (cn : Str) (cs : Scope) (a : Addr) (ccd : Value) (cl : List (Str × Addr)) (outer : List Env) (A₀ : Around) (base g : Heap) (Lc L : Addr) (m m₂ : Str → Option Value) (s : Shared) (E : Value → Shared → Prop)
    (I C D l : Addr) (oI oC : Obj) (ys vs : List Value) (cc : Nat) (ps₀ ps : Array Value) (ex : List (Addr × Obj)) (x y : Str) (t : Tok) (Rest : Value → List (Addr × Obj) → Prop),
    Below (ktrTop dp un gd cn cs Lc a ccd cl outer) base (envX cn cs Lc a ccd cl :: outer) g → Fr g L s.heap m → (hd.heap_39 w.params).In g → CodeHd base 56 52 → Top topProg loose mean mg mb g → cs.kind = .function → dp + 5 < recursionLimit → un + 30 < cLine →
    LCg.NsObj oC m₂ → m₂ (Str.ofString "one") = some (.str x t) →
    News g L s.heap ((I, oI) :: (C, oC) :: (D, LCg.lst ys) :: (l, W.listOf vs.toArray cc) :: (52, tabObj ps) :: ex) → LCg.Off3 I C D ((l, W.listOf vs.toArray cc) :: (52, tabObj ps) :: ex) → ((@Ne Nat I C) ∧ (@Ne Nat I D) ∧ (@Ne Nat C D)) → PsOk g ps₀ ps ex → x.length ≤ 1100 → StripTo x y →
    (∀ ps' ex' u, PsOk g ps₀ ps' ex' → Rest (.str y u) ((l, W.listOf vs.toArray cc) :: (52, tabObj ps') :: ex')) →
    wpAny (model PySem.Challenge.rw_ku0037_01.row.prog w) ((ktrTop dp un gd cn cs Lc a ccd cl outer).deeper (fitsEnv L)) (eval fcElt (compEnvC fcScope [] C (fitsEnv L)))
      (LCg.CompEnd g L m s I oI C oC D (LCg.lst ys) (LCg.SrcAt g l vs.toArray) Rest) E s := by
  k_fill
  intro dp un gd cn cs a ccd cl outer A₀ base g Lc L m m₂ s E I C D l oI oC ys vs cc ps₀ ps ex x y t Rest hB hF hK hC hT hcs hdp hun hNs hx hN hoff hne hps hlen hxy hret
  k_steps
  refine Hold.in ?_
  have off := hoff.mem
  have h52 : g.get? 52 = none := (hN _ (.tail _ (.tail _ (.tail _ (.tail _ (.head _)))))).2.2
  have hl52 : l ≠ 52 := fun q => by
    have h1 := hN.get (.tail _ (.tail _ (.tail _ (.head _))))
    have h2 := hN.get (.tail _ (.tail _ (.tail _ (.tail _ (.head _)))))
    rw [q, h2] at h1
    cases h1
  have Nex : News g L s.heap ex := fun q hq => hN q (.tail _ (.tail _ (.tail _ (.tail _ (.tail _ hq)))))
  have o52 := off (52, tabObj ps) (.tail _ (.head _))
  refine strip_c w loose mean mg mb ((I, oI) :: (C, oC) :: (D, LCg.lst ys) :: (l, W.listOf vs.toArray cc) :: ex) ps x y t (dp + 1) (un + 3) gd (Str.ofString "_law_fits") fitsScope 167 (.ref 166) [] (envX cn cs Lc a ccd cl :: outer) _ base g L m s _ _ hB hF hK hC (fun q hq => by rw [List.mem_singleton.mp hq]; exact hN _ (.tail _ (.tail _ (.tail _ (.tail _ (.head _)))))) (fun q hq => ?_) (fun q hq => ?_) (hps.rec hF h52 Nex) hT rfl (by omega) (by omega) hlen hxy
    fun c' ex2 u h2 tk2 hex F2 N2 R2 => ?_
  · rcases List.mem_cons.mp hq with rfl | hq
    · exact hN _ (.head _)
    · rcases List.mem_cons.mp hq with rfl | hq
      · exact hN _ (.tail _ (.head _))
      · rcases List.mem_cons.mp hq with rfl | hq
        · exact hN _ (.tail _ (.tail _ (.head _)))
        · rcases List.mem_cons.mp hq with rfl | hq
          · exact hN _ (.tail _ (.tail _ (.tail _ (.head _))))
          · exact Nex q hq
  · intro q52
    have e52 : q.1 = 52 := List.mem_singleton.mp q52
    rcases List.mem_cons.mp hq with rfl | hq
    · exact o52.1 e52.symm
    · rcases List.mem_cons.mp hq with rfl | hq
      · exact o52.2.1 e52.symm
      · rcases List.mem_cons.mp hq with rfl | hq
        · exact o52.2.2 e52.symm
        · rcases List.mem_cons.mp hq with rfl | hq
          · exact hl52 e52
          · exact hps.off q hq e52
  · have main : ∀ ex', News g L h2 ex' → (∀ q ∈ ex', q.1 ≠ I ∧ q.1 ≠ C ∧ q.1 ≠ D) → PsOk g ps₀ #[rawInt 12, rawInt 27, .ref c'] ex' →
        LCg.CompEnd g L m s I oI C oC D (LCg.lst ys) (LCg.SrcAt g l vs.toArray) Rest (.str y u) { s with heap := h2, toks := tk2 } := by
      intro ex' Ne oe hp'
      refine ⟨h2, tk2, (l, W.listOf vs.toArray cc) :: (52, tabObj #[rawInt 12, rawInt 27, .ref c']) :: ex', rfl, F2, fun q hq => ?_, LCg.Off3.of fun q hq => ?_, .inr ⟨_, .head _, rfl, cc, rfl⟩, hret _ _ _ hp'⟩
      · rcases List.mem_cons.mp hq with rfl | hq
        · exact R2 _ (.head _)
        · rcases List.mem_cons.mp hq with rfl | hq
          · exact R2 _ (.tail _ (.head _))
          · rcases List.mem_cons.mp hq with rfl | hq
            · exact R2 _ (.tail _ (.tail _ (.head _)))
            · rcases List.mem_cons.mp hq with rfl | hq
              · exact R2 _ (.tail _ (.tail _ (.tail _ (.head _))))
              · rcases List.mem_cons.mp hq with rfl | hq
                · exact N2 _ (.head _)
                · exact Ne q hq
      · rcases List.mem_cons.mp hq with rfl | hq
        · exact off _ (.head _)
        · rcases List.mem_cons.mp hq with rfl | hq
          · exact o52
          · exact oe q hq
    rcases hex with ⟨rfl, hp⟩ | ⟨oc, ws, v, rfl, d1, d2, d3, d4⟩
    · refine main ex (fun q hq => R2 q (.tail _ (.tail _ (.tail _ (.tail _ hq))))) (fun q hq => off q (.tail _ (.tail _ hq))) ?_
      rw [← hp]; exact hps
    · refine main [(c', oc)] (fun q hq => N2 q (.tail _ hq)) (fun q hq => ?_) (.inr ⟨c', oc, ws, v, rfl, rfl, d1, d2, d3⟩)
      rw [List.mem_singleton.mp hq]
      exact ⟨fun e => d4 _ (.head _) e.symm, fun e => d4 _ (.tail _ (.head _)) e.symm, fun e => d4 _ (.tail _ (.tail _ (.head _))) e.symm⟩

theorem Pairs.at {xs ys : List Str} (h : Pairs xs ys) : ∀ (i : Nat) (x : Str), xs[i]? = some x → ∃ y, ys[i]? = some y ∧ StripTo x y := by
  induction h with
  | nil => intro i x h; simp at h
  | cons a _ ih =>
    intro i x h
    cases i with
    | zero => simp at h; subst h; exact ⟨_, rfl, a⟩
    | succ i => exact ih i x (by simpa using h)
theorem Pairs.len {xs ys : List Str} (h : Pairs xs ys) : xs.length = ys.length := by
  induction h with
  | nil => rfl
  | cons _ _ ih => simp [ih]
theorem StrsAre.at' : ∀ {vs : List Value} {ts : List Str}, StrsAre vs ts → ∀ (i : Nat) (v : Value), vs[i]? = some v → ∃ x t, ts[i]? = some x ∧ v = .str x t
  | _, _, .nil, i, v, h => by simp at h
  | _, _, .cons y t r, 0, v, h => by simp at h; exact ⟨y, t, rfl, h.symm⟩
  | _, _, .cons y t r, i + 1, v, h => StrsAre.at' r i v (by simpa using h)

theorem comp_rest (w : World) (loose : List Str) (mean : ExcName → Option Value) (mg mb : Str → Option Value)
    (dp un : Nat) (gd : Option (List Code)) (cn : Str) (cs : Scope) (a : Addr) (ccd : Value) (cl : List (Str × Addr)) (outer : List Env) (base g : Heap) (Lc L : Addr) (m : Str → Option Value) (s : Shared)
    (l : Addr) (vs : List Value) (cc : Nat) (ts us : List Str) (Fin : List Value → List (Addr × Obj) → Prop)
    (hB : Below (ktrTop dp un gd cn cs Lc a ccd cl outer) base (envX cn cs Lc a ccd cl :: outer) g) (hK : (hd.heap_39 w.params).In g) (hC : CodeHd base 56 52) (hT : Top topProg loose mean mg mb g) (hcs : cs.kind = .function) (hdp : dp + 5 < recursionLimit) (hun : un + 30 < cLine)
    (hv : StrsAre vs ts) (hp : Pairs ts us) (hlen : ∀ y ∈ ts, y.length ≤ 1100)
    (ps₀ : Array Value) (fin : ∀ ys ps ex, StrsAre ys us → PsOk g ps₀ ps ex → Fin ys ((l, W.listOf vs.toArray cc) :: (52, tabObj ps) :: ex)) :
    ∀ (j i : Nat) (ys : List Value) (ps : Array Value) (ex : List (Addr × Obj)), i + j = ts.length → StrsAre ys (us.take i) → PsOk g ps₀ ps ex →
      LCg.CompRest PySem.Challenge.rw_ku0037_01.row.prog w ((ktrTop dp un gd cn cs Lc a ccd cl outer).deeper (fitsEnv L)) g L m (fitsEnv L) fcElt (Str.ofString "one") fcScope [] s (LCg.SrcAt g l vs.toArray) (fun i v => vs.toArray[i]? = some v) Fin j i ys ((l, W.listOf vs.toArray cc) :: (52, tabObj ps) :: ex) := by
  intro j
  induction j with
  | zero =>
    intro i ys ps ex hi hy hps
    refine LCg.CompRest.zero (fin ys ps ex ?_ hps)
    rw [List.take_of_length_le (by rw [← hp.len]; omega)] at hy
    exact hy
  | succ j ih =>
    intro i ys ps ex hi hy hps
    refine LCg.CompRest.succ ?_
    intro v I oI C oC D m₂ h tk E' hvi hNs hx F N off ne
    obtain ⟨x, t, hxi, rfl⟩ := StrsAre.at' hv i v (by simpa using hvi)
    obtain ⟨y, hyi, hxy⟩ := hp.at i x hxi
    refine elt_c w loose mean mg mb dp un gd cn cs a ccd cl outer (ktrTop dp un gd cn cs Lc a ccd cl outer) base g Lc L m m₂ { s with heap := h, toks := tk } E' I C D l oI oC ys vs cc ps₀ ps ex x y t _ hB F hK hC hT hcs hdp hun hNs hx N off ne hps (hlen x (List.mem_of_getElem? hxi)) hxy fun ps' ex' u hps' => ?_
    refine ih (i + 1) _ _ _ (by omega) ?_ hps'
    rw [List.take_add_one, hyi]
    exact strsAre_snoc hy
end Mine
end
section
open PySem PySem.W PyProof.Rows PySem.Calls PySem.SeqAt
set_option maxRecDepth 100000
set_option maxHeartbeats 8000000
namespace Mine
local macro_rules | `(tactic| walk_at "mine pad 5") => `(tactic| skip)
local macro_rules | `(tactic| walk_at "mine pad 6") => `(tactic| skip)
local macro_rules | `(tactic| walk_at "mine pad 7") => `(tactic| skip)
local macro_rules | `(tactic| walk_at "mine pad 8") => `(tactic| skip)
theorem pick1 (vs : List Value) : kms_pick vs (some 1) none = vs.drop 1 := by
  unfold kms_pick kms_lo kms_hi
  simp only [if_neg (show ¬ ((1 : Int) < 0) by decide)]
  rw [show (1 : Int).toNat = 1 from rfl, kmk_drop_min, List.take_of_length_le (by rw [List.length_drop]; omega)]
theorem pickL (vs : List Value) : kms_pick vs (some (-1)) none = vs.drop (vs.length - 1) := by
  unfold kms_pick kms_lo kms_hi
  simp only [if_pos (show ((-1 : Int) < 0) by decide)]
  rw [show (-(-1 : Int)).toNat = 1 from rfl, List.take_of_length_le (by rw [List.length_drop]; omega)]
theorem strs_append : ∀ {vs ws : List Value} {ss us : List Str}, StrsAre vs ss → StrsAre ws us → StrsAre (vs ++ ws) (ss ++ us)
  | _, _, _, _, .nil, h => h
  | _, _, _, _, .cons y t h, g => .cons y t (strs_append h g)
theorem eq_strs {prog : Program} {w : World} {A : Around} {E : Value → Shared → Prop} {s : Shared} {l b : Addr} {vs ws : List Value} {us : List Str} {Q : Value → Shared → Prop} (hl : s.heap.IsList l vs.toArray) (hb : s.heap.IsList b ws.toArray) (hv : StrsAre vs us) (hw : StrsAre ws us) (hu : A.units < cLine)
    (h : Q (.bool true) s) : wpAny (model prog w) A (compareOp .Eq (.ref l) (.ref b)) Q E s := by
  refine eq_listAt (e := fun _ => true) hl hb (by rw [List.size_toArray, List.size_toArray, hv.length, hw.length]) hu (fun j h1 h2 => ?_) ?_
  · rw [List.size_toArray] at h1 h2
    rw [List.getElem_toArray, List.getElem_toArray]
    have e : ∀ {vs ws : List Value} {us : List Str}, StrsAre vs us → StrsAre ws us → ∀ (j : Nat) (h1 : j < vs.length) (h2 : j < ws.length), EqAt A.in1 s vs[j] ws[j] true := by
      intro vs ws us hv
      induction hv generalizing ws with
      | nil => intro _ j h1; exact absurd h1 (Nat.not_lt_zero _)
      | cons y t h ih =>
        intro hw
        cases hw with
        | cons _ t2 h2 =>
          intro j h1 h3
          cases j with
          | zero =>
            have := EqAt.str_str (A := A.in1) (s := s) y t y t2
            rw [beq_self_eq_true] at this
            exact this
          | succ j => exact ih h2 j (Nat.lt_of_succ_lt_succ h1) (Nat.lt_of_succ_lt_succ h3)
    exact e hv hw j h1 h2
  · rw [List.all_eq_true.2 (fun _ _ => rfl)]
    exact h
set_option hygiene false in
local macro_rules | `(tactic| walk_at "compareOp Eq ref ref") => `(tactic| ((with_reducible show wpAny _ _ (compareOp .Eq (Value.ref _) (Value.ref _)) _ _ _); refine Hold.out ?_))
theorem listN {h₀ h : Heap} {L l : Addr} {news : List (Addr × Obj)} {its : Array Value} {c : Nat} (N : News h₀ L h news) (m : (l, W.listOf its c) ∈ news) : h.IsList l its := ⟨W.listOf its c, (N _ m).1, rfl, c, rfl⟩
set_option hygiene false in
local macro_rules | `(tactic| walk_at "mine enter 167") => `(tactic| (refine wpAny_call ?_; k_dflt (refine' code_defP (own := [(52, tabObj _)]) ?k1 ?k2 ?k3 ?k4 ?kR ?kO ?k5 ?kA ?kF ?kK ?k6 ?k7 ?k8 ?k9 ?kB ?_ ?c2 ?c3 ?c4 ?c5; (case kA => exact rfl); (case kF => exact rfl); (case kK => assumption); (case k1 => k_asm); (case k2 => k_asm); (case k3 => k_asm); (case k4 => assumption); (case kR => assumption); (case kO => assumption); (case k5 => k_asm); (case k6 => k_is); (case k7 => k_is); (case k8 => ktr_room); (case k9 => exact BindsTo.of_eq rfl); (case c5 => decide); (case kB => exact locs rfl); (case c2 => exact rfl); (case c3 => exact rfl); (case c4 => exact rfl); k_whole; intro g' L' h' GS' FG' F' N' B' X' T'; (try dsimp only); (try k_lift B'); (try k_fold))))
set_option hygiene false in
local macro_rules | `(tactic| walk_at "call ref") => `(tactic| (k_here; (with_reducible show wpAny _ _ (call (Value.ref 162) [Value.str _ _]) _ _ _); k_dflt (refine' walk_c _ _ _ _ _ _ _ _ _ _ _ _ _ _ _ _ _ _ _ _ _ _ _ _ _ ?k1 ?k2 ?k3 ?k4 ?k5 ?k6 ?k7 ?k8 ?k9 ?_; (case k1 => k_asm); (case k2 => k_asm); (case k3 => k_asm); (case k4 => k_asm); (case k5 => k_asm); (case k6 => exact rfl); (case k7 => ktr_room); (case k8 => ktr_units); (case k9 => assumption)); intro l9 vs9 ts9 c9 h9 tk9 hv9 hw9 F9 N9))
local macro_rules | `(tactic| walk_at "eval ListComp") => `(tactic| ((with_reducible show wpAny _ _ (eval (Expr.ListComp _ _ _ _) _) _ _ _); refine Hold.out ?_))

/-- the table of the code object of stripid: empty, or with its one callable's code (at c) -/
def TabOk (ps : Array Value) (c : Addr) (oc : Obj) : Prop := ps = #[] ∨ (ps = #[rawInt 12, rawInt 27, .ref c] ∧ ∃ vs t, oc.data = .fields vs ∧ vs[1]? = some (.str lamq t))
abbrev FitsClaim (w : World) (loose : List Str) (mean : ExcName → Option Value) (mg mb : Str → Option Value) (rest : List (Addr × Obj)) (ps : Array Value) (c : Addr) (oc : Obj) (x : Str) (t0 : Tok) : Prop :=
  ∀ (dp un : Nat) (gd : Option (List Code)) (cn : Str) (cs : Scope) (a : Addr) (ccd : Value) (cl : List (Str × Addr)) (outer : List Env) (A₀ : Around) (base h₀ : Heap) (L : Addr) (m : Str → Option Value) (s : Shared) (Q E : Value → Shared → Prop),
    Below A₀ base outer h₀ → Fr h₀ L s.heap m → (hd.heap_39 w.params).In h₀ → CodeHd base 56 52 → News h₀ L s.heap [(52, tabObj ps)] → News h₀ L s.heap rest → (∀ q ∈ rest, q.1 ∉ ([(52, tabObj ps)] : List (Addr × Obj)).map (·.1)) →
    (c, oc) ∈ rest → TabOk ps c oc → Top topProg loose mean mg mb h₀ → cs.kind = .function → dp + 8 < recursionLimit → un + 100 < cLine → x.length ≤ 1100 →
    (∀ (ps' : Array Value) (c' : Addr) (oc' : Obj) (h' : Heap) (tk' : Nat), TabOk ps' c' oc' → c' ≠ 52 → ((c' = c ∧ oc' = oc) ∨ ∀ q ∈ rest, q.1 ≠ c') → Fr h₀ L h' m → News h₀ L h' ((52, tabObj ps') :: (c', oc') :: rest) → Q (.bool true) { s with heap := h', toks := tk' }) →
      wpAny (model PySem.Challenge.rw_ku0037_01.row.prog w) (ktrTop dp un gd cn cs L a ccd cl outer) (call (.ref 167) [.str x t0]) Q E s
theorem fits_c (w : World) (loose : List Str) (mean : ExcName → Option Value) (mg mb : Str → Option Value) (rest : List (Addr × Obj)) (ps : Array Value) (c : Addr) (oc : Obj) (x : Str) (t0 : Tok) :
    FitsClaim w loose mean mg mb rest ps c oc x t0 := by
  dsimp only [FitsClaim]
  k_fill
  intro dp un gd cn cs a ccd cl outer A₀ base h₀ L m s Q E hB hF hK hC hN hR hO hcm hTab hT hcs hdp hun hlen hret
  walk_at "mine enter 167"
  have hps : ps = #[] ∨ ∃ c, ps = #[rawInt 12, rawInt 27, .ref c] ∧ g'.CodeRec (.ref c) lamq := by
    rcases hTab with h | ⟨h, vs, t, h1, h2⟩
    · exact .inl h
    · exact .inr ⟨c, h, c, oc, vs, t, rfl, GS' _ _ (hR _ hcm).1 (hO _ hcm), h1, h2⟩
  k_steps
  refine Hold.in ?_
  rename Fr _ _ _ _ => FF
  rename News _ _ _ _ => NN
  have hx1 : x.length ≤ 1100 := hlen
  have hl9 : ts9.length ≤ x.length + 1 := hw9.2.1
  have hvl := hv9.length
  refine LCg.ListComp_U FF rfl (by decide) rfl (by decide) rfl ?_
  refine ld FF rfl ?_
  refine LCg.CompSrc.ledger rfl FF NN (.head _) (by rw [List.size_toArray, sizeLine_eq]; omega) fun gg => ?_
  rw [List.size_toArray, hv9.length]
  refine comp_rest w loose mean mg mb dp un gd cn cs a ccd cl outer base g' L L' _ _ l9 vs9 c9 ts9 _ _ B' X' hC T' hcs (by omega) (by omega) hv9 hw9.pairs (fun y hy => Nat.le_trans (hw9.2.2 y hy) hx1) ps (fun ys ps' ex' hys hps' => ?_) ts9.length 0 [] ps [] (by omega) .nil (.inl ⟨rfl, rfl, hps⟩)
  intro D h3 tk3 F3 N3 o1
  clear FF NN
  dsimp only
  k_steps
  rename Fr _ _ _ _ => FF
  rename News _ _ _ _ => NN
  k_fold
  dsimp only at NN ⊢
  refine add_arrays (its := slicePick vs9.toArray (some 1) none none) (its2 := slicePick vs9.toArray (some (-1)) none none) FF NN ⟨_, (NN _ (.tail _ (.head _))).1, rfl, 0, rfl⟩ ⟨_, (NN _ (.head _)).1, rfl, 0, rfl⟩ (fun h6 F6 N6 => ?_) (by simp only [kms_pick_eq, pick1, pickL, List.size_toArray, List.length_drop, sizeLine_eq]; omega)
  simp only [kms_pick_eq, pick1, pickL] at N6
  clear FF NN
  k_steps
  refine Hold.in ?_
  refine eq_strs (vs := ys) (us := ts9.drop 1 ++ ts9.drop (ts9.length - 1)) (listN N6 (.tail _ (.tail _ (.tail _ (.head _))))) ⟨_, (N6 _ (.head _)).1, rfl, 0, rfl⟩ hys ?h1 (by ktr_units) ?_
  case h1 =>
    rw [hvl]
    exact strs_append (hv9.drop' 1) (hv9.drop' _)
  k_steps
  rename Fr _ _ _ _ => FF
  have NR : News h₀ L h6 rest := by assumption
  rename News h₀ L _ (_ :: _) => kN
  have NK : News h₀ L h6 ((52, tabObj ps') :: ex') := fun q hq => kN q (.tail _ (.tail _ (.tail _ (.tail _ (.tail _ hq)))))
  rcases hps' with ⟨h1, h2, _⟩ | ⟨c', oc', h2⟩
  · subst h1 h2
    refine hret _ c oc _ _ hTab (fun h => hO _ hcm (by rw [h]; exact .head _)) (.inl ⟨rfl, rfl⟩) FF fun q hq => ?_
    simp only [List.mem_cons] at hq
    rcases hq with h | h | h
    · exact NK q (by rw [h]; exact .head _)
    · exact NR q (by rw [h]; exact hcm)
    · exact NR q h
  · obtain ⟨vs, t, h1, h2, h3, h4, h5⟩ := h2
    subst h2
    refine hret _ c' oc' _ _ (.inr ⟨h1, vs, t, h3, h4⟩) h5 (.inr fun q hq e => by
      have z := (N6 (c', oc') (.tail _ (.tail _ (.tail _ (.tail _ (.tail _ (.tail _ (.head _))))))) ).2.2
      rw [← e, GS' _ _ (hR q hq).1 (hO q hq)] at z
      cases z) FF fun q hq => ?_
    simp only [List.mem_cons] at hq
    rcases hq with h | h | h
    · exact NK q (by rw [h]; exact .head _)
    · exact NK q (by rw [h]; exact .tail _ (.head _))
    · exact NR q h
end Mine
end
section
open PySem PySem.W PyProof.Rows PySem.Calls
set_option maxRecDepth 100000
namespace Mine
open PySem.Builtin.Re PySem.Builtin

def indL : Bool → List Nat → List Nat
  | _, [] => []
  | b, c :: r => (if (b && c != 10) = true then [32, 32] else []) ++ c :: indL (c == 10) r
def begB (a : Array Nat) (q : Nat) : Bool := q == 0 || a.getD (q - 1) 0 == 10
def lineB (a : Array Nat) (q : Nat) : Bool := begB a q && !(q == a.size || a.getD q 0 == 10)
theorem lineB_iff (a : Array Nat) (q : Nat) : lineB a q = true ↔ LineAt a q := by
  unfold lineB begB LineAt BegAt EolAt
  simp
/-- what is still to come at q; with b = false the place q itself gets no blanks any more -/
def Rst (a : Array Nat) (q : Nat) (b : Bool) : List Nat := indL (b && begB a q) (a.toList.drop q)
theorem drop_cons {a : Array Nat} {q : Nat} (h : q < a.size) : a.toList.drop q = a.getD q 0 :: a.toList.drop (q + 1) := by
  rw [List.drop_eq_getElem_cons (by simpa using h)]
  congr 1
  simp [Array.getD, h]
theorem Rst_step {a : Array Nat} {q : Nat} (b : Bool) (h : q < a.size) : Rst a q b = (if (b && lineB a q) = true then [32, 32] else []) ++ a.getD q 0 :: Rst a (q + 1) true := by
  unfold Rst
  rw [drop_cons h]
  rw [indL]
  have e1 : begB a (q + 1) = (a.getD q 0 == 10) := by unfold begB; simp
  have e2 : (b && begB a q && a.getD q 0 != 10) = (b && lineB a q) := by
    unfold lineB
    have : (q == a.size) = false := by simp; omega
    rw [this, Bool.false_or, Bool.and_assoc]; rfl
  rw [e2, e1, Bool.true_and]
theorem Rst_end {a : Array Nat} {q : Nat} {b : Bool} (h : a.size ≤ q) : Rst a q b = [] := by
  unfold Rst
  rw [List.drop_eq_nil_of_le (by simpa using h)]
  rfl
theorem Rst_run {a : Array Nat} : ∀ (j q p : Nat) (b : Bool), p - q = j → q ≤ p → p ≤ a.size → (∀ i, q ≤ i → i < p → ¬(lineB a i = true ∧ (b = true ∨ i ≠ q))) →
    Rst a q b = (a.toList.drop q).take (p - q) ++ Rst a p (b || decide (q < p)) := by
  intro j
  induction j with
  | zero =>
    intro q p b hj hq hp _
    have e : q = p := by omega
    subst e
    simp
  | succ j ih =>
    intro q p b hj hq hp hno
    have hlt : q < a.size := by omega
    rw [Rst_step b hlt]
    have e0 : (b && lineB a q) = false := by
      cases hb : b with
      | false => rfl
      | true =>
        cases hl : lineB a q with
        | false => rfl
        | true => exact absurd ⟨hl, .inl hb⟩ (hno q (Nat.le_refl _) (by omega))
    rw [e0, if_neg (by decide), ih (q + 1) p true (by omega) (by omega) hp fun i h1 h2 h3 => hno i (by omega) h2 ⟨h3.1, .inr (by omega)⟩]
    rw [drop_cons hlt, show p - q = (p - (q + 1)) + 1 by omega, List.take_succ_cons, decide_eq_true (show q < p by omega), Bool.or_true, Bool.true_or]
    rfl
theorem Rst_hit {a : Array Nat} {p : Nat} (h : lineB a p = true) (hp : p < a.size) : Rst a p true = [32, 32] ++ Rst a p false := by
  rw [Rst_step true hp, Rst_step false hp, h]; rfl
theorem least {P : Nat → Prop} : ∀ n, P n → ∃ k, P k ∧ ∀ i, i < k → ¬P i := by
  intro n
  induction n using Nat.strongRecOn with
  | ind n ih =>
    intro hn
    by_cases h : ∃ i, i < n ∧ P i
    · obtain ⟨i, h1, h2⟩ := h
      exact ih i h1 h2
    · exact ⟨n, hn, fun i h1 h2 => h ⟨i, h1, h2⟩⟩
theorem sum_len (ys : List Str) : (ys.map (·.length)).sum = (ys.map (·.cps.toList)).flatten.length := by
  induction ys with
  | nil => rfl
  | cons y r ih =>
    rw [List.map_cons, List.sum_cons, ih, List.map_cons, List.flatten_cons, List.length_append]
    rfl

section
variable {prog : Program} {w : World} {A : Around} {E : Value → Shared → Prop} {s : Shared} {h₀ : Heap} {L : Addr} {m : Str → Option Value} {news rest : List (Addr × Obj)}

/-- entering re.Pattern.sub with a text that holds no backslash -/
theorem sub_start_text {pat : Addr} {code : Array Nat} {g : Nat} {x r : Str} {t u : Tok} {R : Result → Shared → Prop} (P : PatAt s.heap pat code g) (hr : r.cps.contains 92 = false)
    (F : Fr h₀ L s.heap m) (N : News h₀ L s.heap news)
    (h : ∀ h' D, Fr h₀ L h' m → News h₀ L h' ((D, { cls := .type "list", data := .seq #[] 0 }) :: news) → (∀ p ∈ news, p.1 ≠ D) →
      codeAny (model prog w) A (.builtin "re.Pattern.sub.loop" ⟨[.ref pat, .str x t, .str r u, rawInt 0, rawInt 0, rawInt 0, rawInt 0, rawInt 0, .bool false, .ref D, .bool false], []⟩) R { s with heap := h' }) :
    codeAny (model prog w) A (.call (.builtin "re.Pattern.sub") ⟨[.ref pat, .str r u, .str x t], []⟩) R s := by
  obtain ⟨vs, cd, items, n, op, oc, a, b, c, d, e, f', i, j, l⟩ := id P.out
  refine codeAny_call_builtin slot_pat_sub.plain entry_pat_sub (slot_pat_sub.check _ _ _ _ _ _ _ _ ⟨op, a, b⟩ (args_pat_sub _ _ _) ?_)
  unfold Builtin.«re.Pattern.sub» reSubstitute
  dsimp only
  refine wpAny_bind (m := reNamed "re.Pattern.sub" "sub" ["repl", "string", "count"] 2 [.str r u, .str x t] []) (wpAny_of_eq (a := [some (.str r u), some (.str x t), none]) rfl ?_)
  dsimp only
  refine wpAny_bind (wpAny_pure ?_)
  refine wpAny_bind (wpAny_specialOf (typeIs_str _ _ _) look_str_call ?_)
  simp only [Option.isSome_none, if_neg (show ¬(false = true) by decide)]
  refine wpAny_bind (m := asStr? (.str r u)) (wpAny_pure ?_)
  dsimp only
  simp only [hr, Bool.not_false, if_true]
  refine wpAny_bind (wpAny_pure ?_)
  refine wpAny_bind (wpAny_pure ?_)
  refine wpAny_bind (wpAny_holding (wp_whole P ?_))
  dsimp only
  show wpAny _ _ (do let D ← newList []; again (.builtin "re.Pattern.sub.loop" ⟨[.ref pat, .str x t, .str r u, rawInt 0, rawInt 0, rawInt 0, rawInt 0, rawInt 0, .bool false, D, .bool false], []⟩)) _ _ _
  refine wpAny_bind (newList_N F N (fun h' F' N' => ?_))
  refine wpAny_pure ⟨plainId_quiet plain_loop _, ?_⟩
  exact h h' _ F' N' fun p hp => Nat.ne_of_lt (Heap.lt_size (N p hp).1)

/-- one turn of the loop that finds a line, with a text -/
theorem loop_hit0 {pat : Addr} {code : Array Nat} {g : Nat} {x r : Str} {t u : Tok} {D : Addr} {k n q p : Nat} {must : Bool} {m' : Sre.M} {ps : List Value} {c : Nat} {ys : List Str} {R : Result → Shared → Prop}
    (P : PatAt s.heap pat code g) (hsz : x.cps.size ≤ 1100) (hr : (Sre.forSearch code x.cps g q x.cps.size must).runFor k = m') (hk : k ≤ 4 * 2 ^ 64) (ho : m'.outcome = some .matched)
    (hst : m'.start = p) (hhd : m'.handed = p) (hqp : q ≤ p)
    (F : Fr h₀ L s.heap m) (N : News h₀ L s.heap ((D, { cls := .type "list", data := .seq ps.toArray c }) :: rest)) (hap : ∀ q ∈ rest, q.1 ≠ D) (hys : StrsAre ps ys) (hlen : ps.length ≤ 1100)
    (h : ∀ h' tk (ps' : List Value) c' ys', Fr h₀ L h' m → News h₀ L h' ((D, { cls := .type "list", data := .seq ps'.toArray c' }) :: rest) → StrsAre ps' ys' → (ys'.map (·.cps.toList)).flatten = (ys.map (·.cps.toList)).flatten ++ (x.cps.toList.drop q).take (p - q) ++ r.cps.toList → ps'.length ≤ ps.length + (if q < p then 2 else 1) →
      codeAny (model prog w) A (.builtin "re.Pattern.sub.loop" ⟨[.ref pat, .str x t, .str r u, rawInt 0, rawInt 0, rawInt (n + 1 : Nat), rawInt p, rawInt p, .bool true, .ref D, .bool false], []⟩) R { s with heap := h', toks := tk }) :
    codeAny (model prog w) A (.builtin "re.Pattern.sub.loop" ⟨[.ref pat, .str x t, .str r u, rawInt 0, rawInt 0, rawInt n, rawInt q, rawInt q, .bool must, .ref D, .bool false], []⟩) R s := by
  refine codeAny_builtin entry_pat_loop ?_
  unfold Builtin.«re.Pattern.sub.loop»
  dsimp only [rawInt]
  refine wpAny_bind (wp_whole P ?_)
  rw [if_pos (by decide)]
  refine wpAny_bind (m := reLiteralCannotBeTurned (.str r u)) ?_
  · unfold reLiteralCannotBeTurned
    refine wpAny_bind (m := asStr? (.str r u)) (wpAny_pure ?_)
    show wpAny _ _ (pure ()) _ _ _
    refine wpAny_pure ?_
    refine wpAny_bind ?_
    rw [if_neg (by simp)]
    unfold reNextFound
    refine wp_runToEnd (m' := m') (n := k) hr hk (.inl ⟨ho, rfl⟩) ?_
    dsimp only
    simp only [Int.toNat_natCast, hst, hhd]
    have key : ∀ (h1 : Heap) (tk : Nat) (ps1 : List Value) (c1 : Nat) (ys1 : List Str), Fr h₀ L h1 m → News h₀ L h1 ((D, { cls := .type "list", data := .seq ps1.toArray c1 }) :: rest) → StrsAre ps1 ys1 →
        (ys1.map (·.cps.toList)).flatten = (ys.map (·.cps.toList)).flatten ++ (x.cps.toList.drop q).take (p - q) → ps1.length + 1 ≤ ps.length + (if q < p then 2 else 1) →
        wpAny (model prog w) (A.under (.builtin "re.Pattern.sub.loop" ⟨[.ref pat, .str x t, .str r u, .int (0 : Nat) 0, .int 0 0, .int n 0, .int q 0, .int q 0, .bool must, .ref D, .bool false], []⟩)) (do
          updateSeq D fun y => y.push (Value.str r u)
          again (.builtin "re.Pattern.sub.loop" ⟨[.ref pat, .str x t, .str r u, rawInt 0, rawInt 0, .int ((n : Int) + 1) 0, rawInt p, rawInt p, .bool (p == p), .ref D, .bool false], []⟩))
          (fun fin s' => match fin with | .done f => R (.ok f) s' | .again c' => c'.quiet = true ∧ codeAny (model prog w) A c' R s') (fun e s' => R (.error e) s') { s with heap := h1, toks := tk } := by
      intro h1 tk ps1 c1 ys1 F1 N1 y1 y2 y3
      have hl1 : ps1.length ≤ 1101 := by split at y3 <;> omega
      refine wpAny_bind (push_head F1 N1 hap (fun h3 F3 N3 => ?_) (by rw [List.size_toArray, sizeLine_eq]; omega))
      have e1 : ps1.toArray.push (Value.str r u) = (ps1 ++ [Value.str r u]).toArray := by simp
      rw [e1] at N3
      rw [beq_self_eq_true]
      refine wpAny_pure ⟨plainId_quiet plain_loop _, ?_⟩
      refine h h3 tk _ _ (ys1 ++ [r]) F3 N3 (strsAre_snoc y1) ?_ ?_
      · rw [List.map_append, List.flatten_append, y2]; simp
      · rw [List.length_append]; exact y3
    by_cases hd : q < p
    · rw [if_pos hd]
      refine wpAny_bind (wp_slice hsz fun t1 tk1 => ?_)
      refine wpAny_bind (push_head F N hap (fun h1 F1 N1 => ?_) (by rw [List.size_toArray, sizeLine_eq]; omega))
      rw [if_pos (by decide)]
      refine wpAny_bind (wpAny_pure ?_)
      rw [if_pos (by rfl)]
      have e1 : ps.toArray.push (Value.str ⟨x.cps.extract q p⟩ t1) = (ps ++ [Value.str ⟨x.cps.extract q p⟩ t1]).toArray := by simp
      rw [e1] at N1
      refine key h1 tk1 _ _ (ys ++ [⟨x.cps.extract q p⟩]) F1 N1 (strsAre_snoc hys) ?_ ?_
      · rw [List.map_append, List.flatten_append]; simp
      · rw [if_pos hd, List.length_append]; simp
    · rw [if_neg hd, if_pos (by decide)]
      refine wpAny_bind (wpAny_pure ?_)
      rw [if_pos (by rfl)]
      refine key s.heap s.toks ps c ys F N hys ?_ (by rw [if_neg hd]; omega)
      rw [show p - q = 0 by omega]; simp
end
end Mine
end
section
open PySem PySem.W PyProof.Rows PySem.Calls
set_option maxRecDepth 100000
set_option maxHeartbeats 8000000
namespace Mine
local macro_rules | `(tactic| walk_at "mine pad 3") => `(tactic| skip)
local macro_rules | `(tactic| walk_at "mine pad 4") => `(tactic| skip)
local macro_rules | `(tactic| walk_at "mine pad 5") => `(tactic| skip)
local macro_rules | `(tactic| walk_at "mine pad 6") => `(tactic| skip)
local macro_rules | `(tactic| walk_at "mine pad 7") => `(tactic| skip)
local macro_rules | `(tactic| walk_at "mine pad 8") => `(tactic| skip)
local macro_rules | `(tactic| walk_at "mine pad 9") => `(tactic| skip)
theorem pat62 {h₀ h : Heap} {w : World} (X : (hd.heap_39 w.params).In h₀) (k : ∀ b o, h₀.get? b = some o → h.get? b = some o) : PatAt h 62 ICODE 0 :=
  ⟨_, _, _, _, _, _, k _ _ (X 62 _ rfl), rfl, rfl, rfl, rfl, rfl, k _ _ (X 61 _ rfl), rfl, by decide +kernel⟩
section
variable {prog : Program} {w : World} {A : Around} {E : Value → Shared → Prop} {h₀ : Heap} {L : Addr} {m : Str → Option Value} {rest : List (Addr × Obj)}
theorem ind_loop {pat : Addr} {x r : Str} {t u : Tok} {D : Addr} {R : Result → Shared → Prop} (s₀ : Shared) (hsz : x.cps.size ≤ 400) (hr : r.cps.toList = [32, 32]) (hap : ∀ q ∈ rest, q.1 ≠ D)
    (hP : ∀ h', Fr h₀ L h' m → PatAt h' pat ICODE 0)
    (h : ∀ z tk h' t', z.cps.toList = Rst x.cps 0 true → Fr h₀ L h' m → News h₀ L h' rest → R (.ok (.ret (.str z tk))) { s₀ with heap := h', toks := t' }) :
    ∀ (j q n : Nat) (must : Bool) (ps : List Value) (c : Nat) (ys : List Str) (h1 : Heap) (t1 : Nat), (x.cps.size + (if must then 0 else 1)) - q = j → q ≤ x.cps.size → (must = false → q = 0) → Fr h₀ L h1 m →
      News h₀ L h1 ((D, { cls := .type "list", data := .seq ps.toArray c }) :: rest) → StrsAre ps ys → ps.length ≤ 2 * q + (if must then 1 else 0) → (ys.map (·.cps.toList)).flatten.length ≤ 3 * q + 2 → (ys.map (·.cps.toList)).flatten ++ Rst x.cps q (!must) = Rst x.cps 0 true →
      codeAny (model prog w) A (.builtin "re.Pattern.sub.loop" ⟨[.ref pat, .str x t, .str r u, rawInt 0, rawInt 0, rawInt n, rawInt q, rawInt q, .bool must, .ref D, .bool false], []⟩) R { s₀ with heap := h1, toks := t1 } := by
  intro j
  induction j using Nat.strongRecOn with
  | ind j ih =>
    intro q n must ps c ys h1 t1 hj hq hm0 F1 N1 hys hpl hsum hinv
    by_cases hex : ∃ p, q ≤ p ∧ lineB x.cps p = true ∧ ¬(must = true ∧ p = q)
    · obtain ⟨p₀, hp₀⟩ := hex
      obtain ⟨p, ⟨hqp, hlp, hmp⟩, hleast⟩ := least (P := fun p => q ≤ p ∧ lineB x.cps p = true ∧ ¬(must = true ∧ p = q)) p₀ hp₀
      have hL : LineAt x.cps p := (lineB_iff _ _).1 hlp
      have hplt : p < x.cps.size := by
        rcases Nat.lt_or_ge p x.cps.size with g | g
        · exact g
        · exfalso
          rcases Nat.lt_or_eq_of_le g with g | g
          · have := hL.1
            rcases this with e | e
            · omega
            · rw [Array.getD, dif_neg (by omega)] at e; cases e
          · exact hL.2 (.inl g.symm)
      have hmu : must = true → q < p := fun e => by
        rcases Nat.lt_or_eq_of_le hqp with g | g
        · exact g
        · exact absurd ⟨e, g.symm⟩ hmp
      obtain ⟨k, m', e1, e2, e3, e4, e5⟩ := searchLine_some (a := x.cps) (p := p) (s := q) (mu := must) (by omega) hL hplt hqp hmu fun i h1 h2 h3 => hleast i h2 ⟨h1, (lineB_iff _ _).2 h3.1, h3.2⟩
      refine loop_hit0 (hP _ F1) (by omega) e1 e2 e3 e4 e5 hqp F1 N1 hap hys (by split at hpl <;> omega) fun h2 tk2 ps' c' ys' F2 N2 y1 y2 y3 => ?_
      have hrun := Rst_run (a := x.cps) (p - q) q p (!must) rfl hqp (by omega) fun i i1 i2 i3 => hleast i i2 ⟨i1, i3.1, fun e => by
        rcases i3.2 with g | g
        · rw [e.1] at g; cases g
        · exact g e.2⟩
      have hb : (!must || decide (q < p)) = true := by
        cases hmm : must with
        | false => rfl
        | true => simp [hmu hmm]
      rw [hb, Rst_hit hlp hplt] at hrun
      refine ih _ ?_ p (n + 1) true ps' c' ys' h2 tk2 rfl (by omega) (fun e => by cases e) F2 N2 y1 ?_ ?_ ?_
      · subst hj
        cases hmm : must with
        | false => simp; omega
        | true => have := hmu hmm; simp; omega
      · rw [if_pos rfl]
        cases hmm : must with
        | false =>
          have := hm0 hmm
          rw [hmm] at hpl
          simp at hpl
          split at y3 <;> omega
        | true =>
          have := hmu hmm
          rw [hmm] at hpl
          simp at hpl
          rw [if_pos this] at y3; omega
      · rw [y2, hr, List.length_append, List.length_append, List.length_take]
        simp only [List.length_cons, List.length_nil]
        have : min (p - q) (x.cps.toList.drop q).length ≤ p - q := Nat.min_le_left _ _
        cases hmm : must with
        | false =>
          have h0 := hm0 hmm
          have hl0 : ps.length ≤ 0 := by rw [hmm] at hpl; simp at hpl; simpa [h0] using hpl
          have : ys = [] := by
            cases hys with
            | nil => rfl
            | cons _ _ _ => simp at hl0
          subst this
          simp; omega
        | true => have := hmu hmm; omega
      · rw [y2, hr, ← hinv, hrun]
        simp
    · obtain ⟨k, m', e1, e2, e3⟩ := searchLine_none (a := x.cps) (s := q) (mu := must) (by omega) hq fun i h1 h3 => hex ⟨i, h1, (lineB_iff _ _).2 h3.1, h3.2⟩
      refine loop_end (way := 0) (hP _ F1) (.inr ⟨rfl, r, u, rfl⟩) (by omega) e1 e2 e3 F1 N1 hap hys (by split at hpl <;> omega) (by rw [sum_len]; omega) fun z tk h' t' hz F2 N2 => ?_
      have hrun := Rst_run (a := x.cps) (x.cps.size - q) q x.cps.size (!must) rfl hq (Nat.le_refl _) fun i i1 i2 i3 => hex ⟨i, i1, i3.1, fun e => by
        rcases i3.2 with g | g
        · rw [e.1] at g; cases g
        · exact g e.2⟩
      rw [Rst_end (Nat.le_refl _), List.append_nil, List.take_of_length_le (by simp)] at hrun
      exact h z tk h' t' (by rw [hz, ← hinv, hrun]) F2 N2
end
section
open PySem.Builtin PySem.Builtin.Str PySem.Builtin.Int
theorem mul_int_str {prog : Program} {w : World} {A : Around} {E : Value → Shared → Prop} {s : Shared} {x : Str} {n : Int} {t u : Tok} {Q : Value → Shared → Prop} (hx : 1 ≤ x.length) (hx2 : x.length ≤ 1100) (hn : 2 ≤ n) (hn2 : n ≤ 1100)
    (hz : (⟨(List.replicate n.toNat x.cps).foldl (· ++ ·) #[]⟩ : Str).length ≤ sizeLine)
    (h : ∀ t' k, Q (.str ⟨(List.replicate n.toNat x.cps).foldl (· ++ ·) #[]⟩ t') { s with toks := k }) :
    wpAny (model prog w) A (binaryOp .Mult (.int n u) (.str x t)) Q E s := by
  have hm : x.length * n.toNat ≤ 1210000 := Nat.mul_le_mul hx2 (show n.toNat ≤ 1100 by omega)
  refine lm_binaryOp_repeat_right (T := "str") (U := "int") (by decide) (fun s' => typeIs_int s' n u) (typeIs_str s x t) F.fills_int_mul noFill_str_mul F.slot_int_mul lm_noRepeat_int repeat_str F.slot_int_index.lookup
    (call_gives F.slot_int_mul (typeIs_int s n u) F.entry_int_mul (F.args_int_mul_2 _ _) (AutoIntG3.int___mul___int_str_0 n u x t)
      ⟨rfl, typeIs_str s x t, call_gives F.slot_str_mul (typeIs_str s x t) F.entry_str_mul (F.args_str_mul_2 _ _) (gives_str_mul x n t u ?_ ?_ ?_) ?_⟩)
  · rw [decide_eq_false (by omega), decide_eq_false (by omega)]; rfl
  · intro _ _ g
    have : (1100 : Int) ≤ (2 ^ 63 - 1) / n := (Int.le_ediv_iff_mul_le (by omega)).2 (by omega)
    omega
  · intro _ _
    show decide _ = false
    refine decide_eq_false ?_
    rw [sizeLine_eq]; omega
  · rw [if_neg (by omega), if_neg (by simp; omega)]
    exact ⟨hz, h _ _⟩
end
local macro_rules | `(tactic| walk_at "getMethod ref") => `(tactic| (k_here; (with_reducible show wpAny _ _ (getMethod (Value.ref _) (Str.ofString "sub") _) _ _ _); k_dflt (refine' getMethod_pat ?k1 ?k2 ?k3 ?k4 ?k5 ?_; (case k1 => k_asm); (case k2 => k_asm); (case k3 => k_is); (case k4 => rfl); (case k5 => rfl); k_whole)))
set_option hygiene false in
local macro_rules | `(tactic| walk_at "mine enter 70") => `(tactic| (refine wpAny_call ?_; k_dflt (refine' code_defP (own := []) ?k1 ?k2 ?k3 ?k4 ?kR ?kO ?k5 ?kA ?kF ?kK ?k6 ?k7 ?k8 ?k9 ?kB ?_ ?c2 ?c3 ?c4 ?c5; (case kA => exact rfl); (case kF => exact rfl); (case kK => assumption); (case k1 => k_asm); (case k2 => k_asm); (case k3 => k_asm); (case k4 => exact fun _ h => nomatch h); (case kR => assumption); (case kO => exact fun _ _ h => nomatch h); (case k5 => k_asm); (case k6 => k_is); (case k7 => k_is); (case k8 => ktr_room); (case k9 => exact binds_K (by k_in) rfl (by k_is) rfl rfl rfl); (case c5 => decide); (case kB => exact locs rfl); (case c2 => exact rfl); (case c3 => exact rfl); (case c4 => exact rfl); k_whole; intro g' L' h' GS' FG' F' N' B' X' T'; (try dsimp only); (try k_lift B'); (try k_fold))))
abbrev IndClaim (w : World) (loose : List Str) (mean : ExcName → Option Value) (mg mb : Str → Option Value) (rest : List (Addr × Obj)) (x : Str) (t0 t1 : Tok) : Prop :=
  ∀ (dp un : Nat) (gd : Option (List Code)) (cn : Str) (cs : Scope) (a : Addr) (ccd : Value) (cl : List (Str × Addr)) (outer : List Env) (A₀ : Around) (base h₀ : Heap) (L : Addr) (m : Str → Option Value) (s : Shared) (Q E : Value → Shared → Prop),
    Below A₀ base outer h₀ → Fr h₀ L s.heap m → (hd.heap_39 w.params).In h₀ → News h₀ L s.heap rest → Top topProg loose mean mg mb h₀ → cs.kind = .function → dp + 3 < recursionLimit → un + 20 < cLine → x.length ≤ 400 →
    (∀ (z : Str) (t : Tok) (h' : Heap) (tk' : Nat), z.cps.toList = indL true x.cps.toList → Fr h₀ L h' m → News h₀ L h' rest → Q (.str z t) { s with heap := h', toks := tk' }) →
      wpAny (model PySem.Challenge.rw_ku0037_01.row.prog w) (ktrTop dp un gd cn cs L a ccd cl outer) (call (.ref 70) [.str x t0, .int 2 t1]) Q E s
theorem ind_c (w : World) (loose : List Str) (mean : ExcName → Option Value) (mg mb : Str → Option Value) (rest : List (Addr × Obj)) (x : Str) (t0 t1 : Tok) :
    IndClaim w loose mean mg mb rest x t0 t1 := by
  dsimp only [IndClaim]
  k_fill
  intro dp un gd cn cs a ccd cl outer A₀ base h₀ L m s Q E hB hF hK hR hT hcs hdp hun hlen hret
  walk_at "mine enter 70"
  k_steps
  refine mul_int_str (by decide +kernel) (by decide +kernel) (by decide) (by decide) (by decide +kernel) fun u2 tk2 => ?_
  have hr2 : (⟨(List.replicate (2 : Int).toNat (Str.ofString " ").cps).foldl (· ++ ·) #[]⟩ : Str).cps.toList = [32, 32] := by decide +kernel
  have hr3 : (⟨(List.replicate (2 : Int).toNat (Str.ofString " ").cps).foldl (· ++ ·) #[]⟩ : Str).cps.contains 92 = false := by decide +kernel
  generalize (⟨(List.replicate (2 : Int).toNat (Str.ofString " ").cps).foldl (· ++ ·) #[]⟩ : Str) = r at hr2 hr3 ⊢
  k_steps
  refine wpAny_call (sub_start_text (pat62 X' F'.keep) hr3 F' N' fun h1 D F1 N1 hD => ?_)
  refine ind_loop (rest := []) _ hlen hr2 (fun _ h => nomatch h) (fun h' F => pat62 X' F.keep) (fun z tk h2 t2 hz F2 N2 => ?_) _ 0 0 false [] _ [] h1 _ rfl (Nat.zero_le _) (fun _ => rfl) F1 N1 .nil (by simp) (by simp) rfl
  k_steps
  refine hret _ _ _ _ ?_ (by assumption) (by assumption)
  rw [hz]; rfl
end Mine
end
section
open PySem PySem.W PyProof.Rows PySem.Calls PyProof.V PySem.Spec
set_option maxRecDepth 100000
namespace Mine
section
variable {prog : Program} {w : World} {A : Around} {E : Value → Shared → Prop} {s : Shared} {env : Env} {h₀ : Heap} {x : Str} {body : List Stmt} {Q : Flow → Shared → Prop}
def GLEnd (h₀ : Heap) (L : Addr) (l : Addr) (lo : Obj) (J : (Str → Option Value) → List (Addr × Obj) → Prop) (it : Addr) (oI : Obj) (s₁ : Shared) (Q : Flow → Shared → Prop) (f : Flow) (s₂ : Shared) : Prop :=
  match f with
  | .ret v => Q (.ret v) s₂
  | .brk => Q .next s₂
  | _ => ∃ h' tk m' nx, s₂ = { s₁ with heap := h', toks := tk } ∧ Fr h₀ L h' m' ∧ News h₀ L h' ((it, oI) :: nx) ∧ (∀ q ∈ nx, q.1 ≠ it) ∧ (l, lo) ∈ nx ∧ J m' nx

/-- a loop over a made list of whole numbers, whose ledger may change its addresses from turn to turn -/
theorem iter_GL {l : Addr} {vs : List Value} {ns : List Int} {nn : Nat} {m₀ : Str → Option Value} {news : List (Addr × Obj)} (J : Nat → (Str → Option Value) → List (Addr × Obj) → Prop)
    (hh : A.handled = none) (hl : (l, W.listOf vs.toArray nn) ∈ news) (hi : IntsAre vs ns) (F : Fr h₀ env.locals s.heap m₀) (N : News h₀ env.locals s.heap news) (hj : J 0 m₀ news)
    (turn : ∀ i n t m₁ news₁ h tk it oI, ns[i]? = some n → (∀ q ∈ news₁, q.1 ≠ it) → (l, W.listOf vs.toArray nn) ∈ news₁ → J i m₁ news₁ → Fr h₀ env.locals h (fun y => if y = x then some (.int n t) else m₁ y) → News h₀ env.locals h ((it, oI) :: news₁) →
      wpAny (model prog w) A (execs body env) (GLEnd h₀ env.locals l (W.listOf vs.toArray nn) (J (i + 1)) it oI { s with heap := h, toks := tk } Q) E { s with heap := h, toks := tk })
    (done : ∀ m₁ news₁ h tk, (l, W.listOf vs.toArray nn) ∈ news₁ → J ns.length m₁ news₁ → Fr h₀ env.locals h m₁ → News h₀ env.locals h news₁ → Q .next { s with heap := h, toks := tk }) :
    wpAny (model prog w) A (pyIter (.ref l)) (fun it s₂ => LoopAtV prog w A h₀ env x body Q E it s₂) E s := by
  have hol : s.heap.get? l = some (W.listOf vs.toArray nn) := (N _ hl).1
  have hls : s.heap.IsList l vs.toArray := ⟨_, hol, rfl, nn, rfl⟩
  have hne : l ≠ s.heap.objs.size := Nat.ne_of_lt (Heap.lt_size hol)
  refine wpAny_pyIter_list hls ?_
  have WW := Walks.list (prog := prog) (w := w) hh s.heap.objs.size l hne vs.toArray
  have hlen : vs.toArray.size = ns.length := by simp [hi.length]
  rw [hlen] at WW
  refine ⟨_, _, _, ns.length, _, _, m₀, news, (fun i m nx => (l, W.listOf vs.toArray nn) ∈ nx ∧ J i m nx), rfl, WW, ?_, ?_, ?_, ⟨⟨_, Heap.get?_push_size _ rfl, rfl, rfl⟩, hls.at fun o e => Heap.get?_push_of_some _ e⟩, F.push _, (fun p hp => ⟨Heap.get?_push_of_some _ (N p hp).1, (N p hp).2⟩), ⟨hl, hj⟩, ?_, ?_⟩
  · intro hm
    rcases List.mem_cons.mp hm with e | hm
    · exact absurd F.ns.lt (e ▸ Nat.lt_irrefl _)
    · exact (N _ hl).2.1 ((List.mem_singleton.mp hm).symm)
  · intro b hb
    rw [List.mem_singleton.mp hb]
    exact next_is_new F
  · intro p hp hI
    exact absurd (Heap.lt_size (N p hp).1) ((List.mem_singleton.mp hI) ▸ Nat.lt_irrefl _)
  · rintro i v m₁ news₁ s₁ own ⟨hh', tk', rfl⟩ hin hP ⟨hl₁, hJ⟩ hoff hown hget hfp hst F₁ N₁
    have hI0 : h₀.get? s.heap.objs.size = none := next_is_new F
    obtain ⟨⟨oI, hoI, _⟩, _⟩ := id hst
    have hIown : (s.heap.objs.size, oI) ∈ own := hfp _ (List.mem_cons.mpr (.inl rfl)) hI0 _ hoI
    have hsep : ∀ q ∈ news₁, q.1 ≠ s.heap.objs.size := fun q hq e => hoff q hq (List.mem_singleton.mpr e)
    have hlt' : i < ns.length := hin
    obtain ⟨t, hx⟩ := hi.get i ns[i] (by simp [hlt'])
    have hv : v = .int ns[i] t := by
      have hP' : vs[i]? = some v := by simpa using hP
      rw [hx] at hP'; exact (Option.some.inj hP').symm
    subst hv
    have N₂ : News h₀ env.locals hh' ((s.heap.objs.size, oI) :: news₁) := fun p hp => N₁ p (List.mem_append.mpr ((List.mem_cons.mp hp).elim (fun h => .inl (h ▸ hIown)) .inr))
    have hlo : hh'.get? l = some (W.listOf vs.toArray nn) := (N₁ _ (List.mem_append.mpr (.inr hl₁))).1
    refine wpAny_mono (turn i ns[i] t m₁ news₁ hh' tk' _ oI (by simp [hlt']) hsep hl₁ hJ F₁ N₂) (fun f s₂ p => ?_) fun _ _ e => e
    have fin : (∃ h' tk m' nx, s₂ = { s with heap := h', toks := tk } ∧ Fr h₀ env.locals h' m' ∧ News h₀ env.locals h' ((s.heap.objs.size, oI) :: nx) ∧ (∀ q ∈ nx, q.1 ≠ s.heap.objs.size) ∧ (l, W.listOf vs.toArray nn) ∈ nx ∧ J (i + 1) m' nx) →
        LoopStepU h₀ env.locals [s.heap.objs.size] own (fun m nx => (l, W.listOf vs.toArray nn) ∈ nx ∧ J (i + 1) m nx) { s with heap := hh', toks := tk' } .next s₂ := by
      rintro ⟨h', tk, m', nx, e, F', N', ho, hm⟩
      refine ⟨rfl, h', tk, m', nx, e, F', fun p hp => ?_, fun p hp hI => ho p hp (List.mem_singleton.mp hI), hm⟩
      rcases List.mem_append.mp hp with h | h
      · by_cases hI : p.1 = s.heap.objs.size
        · have h2 : hh'.get? p.1 = some p.2 := hget p h
          rw [hI, hoI] at h2
          have h3 : p = (s.heap.objs.size, oI) := Prod.ext hI (Option.some.inj h2).symm
          rw [h3]
          exact N' _ (.head _)
        · have h1 : p.1 = l := by
            rcases List.mem_cons.mp (hown p h) with h2 | h2
            · exact absurd h2 hI
            · exact List.mem_singleton.mp h2
          have h2 : hh'.get? p.1 = some p.2 := hget p h
          rw [h1, hlo] at h2
          have h3 : p = (l, W.listOf vs.toArray nn) := Prod.ext h1 (Option.some.inj h2).symm
          rw [h3]
          exact N' _ (.tail _ hm.1)
      · exact N' p (.tail _ h)
    cases f with
    | ret v => exact .ret p
    | brk => exact .brk p
    | next => exact .next (fin p)
    | cont => exact .cont (fin p)
  · rintro h' tk m' news' F' N' _ ⟨hl', hJ⟩
    exact done m' news' h' tk hl' hJ F' N'
end

/-- the same with the names of the frame: ps tells the held ones, stored those that a turn writes -/
def LawEnd {σ : Type} (h₀ : Heap) (L : Addr) (Led : σ → List (Addr × Obj)) (ps : σ → List (Str × Value)) (x : Str) (stored : List Str) (m₀ : Str → Option Value) (P : Nat → σ → Prop) (i : Nat) (it : Addr) (oI : Obj) (s₁ : Shared) (Q : Flow → Shared → Prop) (f : Flow) (s₂ : Shared) : Prop :=
  match f with
  | .ret v => Q (.ret v) s₂
  | .brk => Q .next s₂
  | _ => ∃ h' tk m' c, s₂ = { s₁ with heap := h', toks := tk } ∧ Fr h₀ L h' m' ∧ News h₀ L h' ((it, oI) :: Led c) ∧ (∀ q ∈ Led c, q.1 ≠ it) ∧ P i c ∧ (∀ p ∈ ps c, m' p.1 = some p.2) ∧ (∀ z, z ≠ x → (∀ p ∈ ps c, z ≠ p.1) → stored.contains z = false → m' z = m₀ z)
section
variable {prog : Program} {w : World} {A : Around} {E : Value → Shared → Prop} {s : Shared} {env : Env} {h₀ : Heap} {x : Str} {body : List Stmt} {Q : Flow → Shared → Prop}
theorem law_list {σ : Type} {l : Addr} {vs : List Value} {ns : List Int} {nn : Nat} {m₀ : Str → Option Value} (Led : σ → List (Addr × Obj)) (ps : σ → List (Str × Value)) (stored : List Str) (P : Nat → σ → Prop) (c₀ : σ)
    (hh : A.handled = none) (hl : ∀ c : σ, (l, W.listOf vs.toArray nn) ∈ Led c) (hi : IntsAre vs ns) (F : Fr h₀ env.locals s.heap m₀) (N : News h₀ env.locals s.heap (Led c₀)) (hk : ∀ p ∈ ps c₀, m₀ p.1 = some p.2) (hp : P 0 c₀)
    (turn : ∀ (c : σ) i n t (u : Str → Option Value) h tk it oI, ns[i]? = some n → (∀ q ∈ Led c, q.1 ≠ it) → P i c →
      Fr h₀ env.locals h (fun y => if y = x then some (.int n t) else kstB (fun z => if stored.contains z then u z else m₀ z) (ps c) y) → News h₀ env.locals h ((it, oI) :: Led c) →
      wpAny (model prog w) A (execs body env) (LawEnd h₀ env.locals Led ps x stored m₀ P (i + 1) it oI { s with heap := h, toks := tk } Q) E { s with heap := h, toks := tk })
    (done : ∀ (c : σ) (u : Str → Option Value) h tk, P ns.length c → Fr h₀ env.locals h (fun y => if y = x then u y else kstB (fun z => if stored.contains z then u z else m₀ z) (ps c) y) → News h₀ env.locals h (Led c) → Q .next { s with heap := h, toks := tk }) :
    wpAny (model prog w) A (pyIter (.ref l)) (fun it s₂ => LoopAtV prog w A h₀ env x body Q E it s₂) E s := by
  refine iter_GL (nn := nn) (fun i m nx => ∃ c, nx = Led c ∧ P i c ∧ (∀ p ∈ ps c, m p.1 = some p.2) ∧ (∀ z, z ≠ x → (∀ p ∈ ps c, z ≠ p.1) → stored.contains z = false → m z = m₀ z)) hh (hl c₀) hi F N ⟨c₀, rfl, hp, hk, fun _ _ _ _ => rfl⟩ ?_ ?_
  · rintro i n t m₁ nx h tk it oI hn hoff _ ⟨c, rfl, hp', h1, h2⟩ F₁ N₁
    refine wpAny_mono (turn c i n t m₁ h tk it oI hn hoff hp' (kst_fr h1 h2 F₁) N₁) (fun f s₂ p => ?_) fun _ _ x => x
    cases f with
    | ret v => exact p
    | brk => exact p
    | next => obtain ⟨h', tk', m', c', e, F', N', o, p1, p2, p3⟩ := p; exact ⟨h', tk', m', _, e, F', N', o, hl c', c', rfl, p1, p2, p3⟩
    | cont => obtain ⟨h', tk', m', c', e, F', N', o, p1, p2, p3⟩ := p; exact ⟨h', tk', m', _, e, F', N', o, hl c', c', rfl, p1, p2, p3⟩
  · rintro m₁ nx h tk _ ⟨c, rfl, hp', h1, h2⟩ F₁ N₁
    exact done c m₁ h tk hp' (kst_frOut h1 h2 F₁) N₁
end
end Mine
end
section
open PySem PySem.W PyProof.Rows
set_option maxRecDepth 100000
namespace Mine
structure LawS where
  x : Str
  t : Tok
  ps : Array Value
  c : Addr
  oc : Obj
abbrev lawStored : List Str := [Str.ofString "x", Str.ofString "lead", Str.ofString "size", Str.ofString "point", Str.ofString "sign", Str.ofString "behind"]
abbrev lawLed (base : List (Addr × Obj)) (c : LawS) : List (Addr × Obj) := (52, tabObj c.ps) :: (c.c, c.oc) :: base
abbrev lawPs (c : LawS) : List (Str × Value) := [(Str.ofString "text", .str c.x c.t)]
def LawI (i : Nat) (c : LawS) : Prop := c.x.length ≤ 2 + 27 * i ∧ TabOk c.ps c.c c.oc ∧ c.c ≠ 52
end Mine
namespace Mine
section
variable {prog : Program} {w : World} {A : Around} {E : Value → Shared → Prop} {s : Shared} {env : Env} {h₀ : Heap} {body : List Stmt} {Q : Flow → Shared → Prop}
theorem law_loop {l l2 l3 x' d' : Addr} {o2 o3 ox od : Obj} {vs : List Value} {ns : List Int} {m₀ : Str → Option Value} {t₀ : Tok} (F : Fr h₀ env.locals s.heap m₀)
    (N : News h₀ env.locals s.heap [(l, W.listOf vs.toArray 0), (l2, o2), (l3, o3), (x', ox), (d', od), (52, tabObj #[])]) (hi : IntsAre vs ns) (hx : l ≠ 52 ∧ x' ≠ 52 ∧ d' ≠ 52) (hh : A.handled = none) (hk : m₀ (Str.ofString "text") = some (.str (Str.ofString "<a") t₀))
    (turn : ∀ (tl : List (Addr × Obj)), tl = [(l, W.listOf vs.toArray 0), (x', ox), (d', od)] → (∀ q ∈ tl, q.1 ≠ 52) → ∀ (x : Str) (t : Tok) (ps : Array Value) (c : Addr) (oc : Obj) (i : Nat) (n : Int) (tn : Tok) (u : Str → Option Value) (h : Heap) (tk : Nat) (it : Addr) (oI : Obj), ns[i]? = some n → c ≠ it → 52 ≠ it → (∀ q ∈ tl, q.1 ≠ it) → x.length ≤ 2 + 27 * i → TabOk ps c oc → c ≠ 52 →
      Fr h₀ env.locals h (fun y => if y = Str.ofString "number" then some (.int n tn) else kstB (fun z => if lawStored.contains z then u z else m₀ z) [(Str.ofString "text", .str x t)] y) →
      News h₀ env.locals h [(it, oI), (52, tabObj ps), (c, oc), (l, W.listOf vs.toArray 0), (x', ox), (d', od)] →
      wpAny (model prog w) A (execs body env) (LawEnd h₀ env.locals (lawLed tl) lawPs (Str.ofString "number") lawStored m₀ LawI (i + 1) it oI { s with heap := h, toks := tk } Q) E { s with heap := h, toks := tk })
    (done : ∀ (x : Str) (t : Tok) (ps : Array Value) (c : Addr) (oc : Obj) (u : Str → Option Value) h tk, x.length ≤ 2 + 27 * ns.length → TabOk ps c oc → c ≠ 52 →
      Fr h₀ env.locals h (fun y => if y = Str.ofString "number" then u y else kstB (fun z => if lawStored.contains z then u z else m₀ z) [(Str.ofString "text", .str x t)] y) →
      News h₀ env.locals h [(52, tabObj ps), (c, oc)] → Q .next { s with heap := h, toks := tk }) :
    wpAny (model prog w) A (pyIter (.ref l)) (fun it s₂ => LoopAtV prog w A h₀ env (Str.ofString "number") body Q E it s₂) E s := by
  refine law_list (nn := 0) (lawLed [(l, W.listOf vs.toArray 0), (x', ox), (d', od)]) lawPs lawStored LawI ⟨Str.ofString "<a", t₀, #[], x', ox⟩ hh (fun c => .tail _ (.tail _ (.head _))) hi F (fun q hq => N q ?_) ?_ ?_ ?_ ?_
  · simp only [lawLed, List.mem_cons, List.not_mem_nil, or_false] at hq ⊢
    rcases hq with h | h | h | h | h <;> simp [h]
  · intro p hp
    rw [List.mem_singleton.mp hp]
    exact hk
  · exact ⟨show (Str.ofString "<a").length ≤ 2 + 27 * 0 by decide +kernel, .inl rfl, hx.2.1⟩
  · rintro ⟨x, t, ps, c, oc⟩ i n tn u h tk it oI hn hoff ⟨h1, h2, h3⟩ F' N'
    refine turn _ rfl ?_ x t ps c oc i n tn u h tk it oI hn (hoff (c, oc) (.tail _ (.head _))) (hoff (52, _) (.head _)) (fun q hq => hoff q (.tail _ (.tail _ hq))) h1 h2 h3 F' N'
    intro q hq
    simp only [List.mem_cons, List.not_mem_nil, or_false] at hq
    rcases hq with h | h | h
    · rw [h]; exact hx.1
    · rw [h]; exact hx.2.1
    · rw [h]; exact hx.2.2
  · rintro ⟨x, t, ps, c, oc⟩ u h tk ⟨h1, h2, h3⟩ F' N'
    refine done x t ps c oc u h tk h1 h2 h3 F' fun q hq => N' q ?_
    simp only [lawLed, List.mem_cons, List.not_mem_nil, or_false] at hq ⊢
    rcases hq with h | h <;> simp [h]
theorem law_end {L it c : Addr} {oI oc : Obj} {tl : List (Addr × Obj)} {ps : Array Value} {x : Str} {t : Tok} {i tk : Nat} {m₀ m' : Str → Option Value} {s₁ : Shared} {h' : Heap} (F : Fr h₀ L h' m') (N : News h₀ L h' ((it, oI) :: (52, tabObj ps) :: (c, oc) :: tl)) (hc : c ≠ it) (h52 : 52 ≠ it) (ho : ∀ q ∈ tl, q.1 ≠ it)
    (hx : x.length ≤ 2 + 27 * (i + 1)) (hT : TabOk ps c oc) (hc52 : c ≠ 52) (hm : m' (Str.ofString "text") = some (.str x t)) (hr : ∀ z, z ≠ Str.ofString "number" → z ≠ Str.ofString "text" → lawStored.contains z = false → m' z = m₀ z) :
    LawEnd h₀ L (lawLed tl) lawPs (Str.ofString "number") lawStored m₀ LawI (i + 1) it oI s₁ Q .next { s₁ with heap := h', toks := tk } := by
  refine ⟨h', tk, m', ⟨x, t, ps, c, oc⟩, rfl, F, N, ?_, ⟨hx, hT, hc52⟩, ?_, ?_⟩
  · intro q hq
    rcases List.mem_cons.mp hq with rfl | hq
    · exact h52
    · rcases List.mem_cons.mp hq with rfl | hq
      · exact hc
      · exact ho q hq
  · intro p hp
    rw [List.mem_singleton.mp hp]
    exact hm
  · exact fun z h1 h2 h3 => hr z h1 (h2 _ (.head _)) h3
/-- a call of _law_fits, with the ledger of the law's loop -/
theorem fits_law (loose : List Str) (mean : ExcName → Option Value) (mg mb : Str → Option Value) {it c : Addr} {oI oc : Obj} {tl : List (Addr × Obj)} {ps : Array Value} {x : Str} {t0 : Tok}
    {dp un : Nat} {gd : Option (List Code)} {cn : Str} {cs : Scope} {a : Addr} {ccd : Value} {cl : List (Str × Addr)} {outer : List Env} {A₀ : Around} {base h₀ : Heap} {L : Addr} {m : Str → Option Value} {s : Shared} {Q E : Value → Shared → Prop}
    (N : News h₀ L s.heap ((it, oI) :: (52, tabObj ps) :: (c, oc) :: tl)) (hB : Below A₀ base outer h₀) (hF : Fr h₀ L s.heap m) (hK : (hd.heap_39 w.params).In h₀) (hC : CodeHd base 56 52) (hT : Top topProg loose mean mg mb h₀) (hcs : cs.kind = .function) (hdp : dp + 8 < recursionLimit) (hun : un + 100 < cLine)
    (hc : c ≠ it) (h52 : 52 ≠ it) (hTab : TabOk ps c oc) (hc52 : c ≠ 52) (ht : ∀ q ∈ tl, q.1 ≠ 52) (hlen : x.length ≤ 1100)
    (h : ∀ (ps' : Array Value) (c' : Addr) (oc' : Obj) (h' : Heap) (tk' : Nat), TabOk ps' c' oc' → c' ≠ 52 → c' ≠ it → Fr h₀ L h' m → News h₀ L h' ((it, oI) :: (52, tabObj ps') :: (c', oc') :: tl) → Q (.bool true) { s with heap := h', toks := tk' }) :
    wpAny (model PySem.Challenge.rw_ku0037_01.row.prog w) (ktrTop dp un gd cn cs L a ccd cl outer) (call (.ref 167) [.str x t0]) Q E s := by
  refine fits_c w loose mean mg mb ((it, oI) :: (c, oc) :: tl) ps c oc x t0 dp un gd cn cs a ccd cl outer A₀ base h₀ L m s Q E hB hF hK hC (fun q hq => N q (.tail _ (by rw [List.mem_singleton.mp hq]; exact .head _))) (fun q hq => N q ?_) ?_ (.tail _ (.head _)) hTab hT hcs hdp hun hlen fun ps' c' oc' h' tk' h1 h2 h3 F' N' => ?_
  · rcases List.mem_cons.mp hq with rfl | hq
    · exact .head _
    · exact .tail _ (.tail _ hq)
  · intro q hq e
    have e : q.1 = 52 := by simpa using e
    rcases List.mem_cons.mp hq with rfl | hq
    · exact h52 e.symm
    · rcases List.mem_cons.mp hq with rfl | hq
      · exact hc52 e
      · exact ht q hq e
  · refine h ps' c' oc' h' tk' h1 h2 ?_ F' fun q hq => N' q ?_
    · rcases h3 with ⟨rfl, _⟩ | h3
      · exact hc
      · exact fun e => h3 _ (.head _) e.symm
    · rcases List.mem_cons.mp hq with rfl | hq
      · exact .tail _ (.tail _ (.head _))
      · rcases List.mem_cons.mp hq with rfl | hq
        · exact .head _
        · rcases List.mem_cons.mp hq with rfl | hq
          · exact .tail _ (.head _)
          · exact .tail _ (.tail _ (.tail _ (.tail _ hq)))
end
end Mine
namespace Mine
section
variable {prog : Program} {w : World} {A : Around} {E : Value → Shared → Prop} {s : Shared}
theorem item_short {value slice : Expr} {l : Addr} {vs : List Value} {ws : List Str} {i : Int} {u : Tok} {Q : Value → Shared → Prop} (b : Nat) (hl : s.heap.IsList l vs.toArray) (hw : StrsAre vs ws) (h0 : 0 ≤ i) (h1 : i < (ws.length : Int)) (hfit : i < 2 ^ 63) (hb : ∀ z ∈ ws, z.length ≤ b)
    (h : ∀ z t', z.length ≤ b → Q (.str z t') s)
    (hs : subscripted slice false (.ref l) (.int i u) = operate [.ref l, .int i u] (getItem (.ref l) (.int i u)) := by with_unfolding_all rfl) :
    wpAny (model prog w) A (subscriptTail value slice (.ref l) (.int i u)) Q E s := by
  refine KTb.item_list hl hw h0 h1 hfit (fun t' hlt => h _ t' (hb _ ?_)) hs
  rw [List.getD_eq_getElem?_getD, List.getElem?_eq_getElem hlt]
  exact List.getElem_mem hlt
end
end Mine
namespace Mine
theorem law_ne {z : Str} (h : lawStored.contains z = false) : z ≠ Str.ofString "x" ∧ z ≠ Str.ofString "lead" ∧ z ≠ Str.ofString "size" ∧ z ≠ Str.ofString "point" ∧ z ≠ Str.ofString "sign" ∧ z ≠ Str.ofString "behind" := by
  simp only [lawStored, List.contains_cons, List.contains_nil, Bool.or_false, Bool.or_eq_false_iff, beq_eq_false_iff_ne, ne_eq] at h
  exact h
end Mine
end
section
open PySem PySem.W PyProof.Rows PySem.Calls
set_option maxRecDepth 100000
set_option maxHeartbeats 8000000
namespace Mine
def fmtZ (k : Nat) (up : Bool) (a : Int) : Str :=
  let sign : List Nat := if decide (a < 0) then [45] else []
  let digits := (Nat.toDigits 16 a.natAbs).map fun c => (if up then c.toUpper else c).toNat
  let width : Int := k
  let other : Int := sign.length + ([] : List Nat).length + ([] : List Nat).length
  let room : Int := width - other
  let ds := if digits.isEmpty then [] else List.replicate (room.toNat - digits.length) 48 ++ digits
  let pad := (width - other - ds.length).toNat
  ⟨(List.replicate 0 48 ++ sign ++ [] ++ List.replicate pad 48 ++ ds ++ [] ++ List.replicate 0 48).toArray⟩
theorem fmtZ_len {k : Nat} {up : Bool} {a : Int} (h0 : 0 ≤ a) (h1 : a < 16 ^ k) (hk : 0 < k) : (fmtZ k up a).length ≤ k := by
  have hd : (Nat.toDigits 16 a.natAbs).length ≤ k := (Nat.length_toDigits_le_iff (by decide) hk).2 (by
    have : ((a.natAbs : Nat) : Int) < ((16 ^ k : Nat) : Int) := by
      rw [Int.natAbs_of_nonneg h0]; push_cast; exact h1
    exact Int.ofNat_lt.mp this)
  show (List.toArray _).size ≤ k
  rw [List.size_toArray, decide_eq_false (show ¬ a < 0 by omega)]
  simp only [List.length_append, List.length_replicate, List.length_nil, Bool.false_eq_true, if_false, Nat.zero_add, Nat.add_zero]
  generalize hD : List.map (fun c => Char.toNat (if up = true then c.toUpper else c)) (Nat.toDigits 16 a.natAbs) = D
  have hD' : D.length ≤ k := by rw [← hD, List.length_map]; exact hd
  split
  · simp only [List.length_nil]; omega
  · simp only [List.length_append, List.length_replicate]; omega
theorem fmt_eq (a : Int) (t u : Tok) : ∀ k : Int, 4 ≤ k → k ≤ 18 → ∀ c : Int, 0 ≤ c → c < 2 →
    ∃ up, Builtin.«int.__format__» ⟨[.int a t, .str (Str.ofString "0" ++ Str.ofString (toString k) ++ Txt.item (Str.ofString "xX") c) u], []⟩ = (do ret (← mkStr (fmtZ k.toNat up a))) := by
  intro k h1 h2 c h3 h4
  have hc : c = 0 ∨ c = 1 := by omega
  have hk : k = 4 ∨ k = 5 ∨ k = 6 ∨ k = 7 ∨ k = 8 ∨ k = 9 ∨ k = 10 ∨ k = 11 ∨ k = 12 ∨ k = 13 ∨ k = 14 ∨ k = 15 ∨ k = 16 ∨ k = 17 ∨ k = 18 := by omega
  rcases hc with rfl | rfl
  · refine ⟨false, ?_⟩
    rcases hk with rfl | rfl | rfl | rfl | rfl | rfl | rfl | rfl | rfl | rfl | rfl | rfl | rfl | rfl | rfl
    all_goals kernel_rfl
  · refine ⟨true, ?_⟩
    rcases hk with rfl | rfl | rfl | rfl | rfl | rfl | rfl | rfl | rfl | rfl | rfl | rfl | rfl | rfl | rfl
    all_goals kernel_rfl
theorem spec_len : ∀ k : Int, 4 ≤ k → k ≤ 18 → ∀ c : Int, 0 ≤ c → c < 2 → ((Str.ofString "0" ++ Str.ofString (toString k) ++ Txt.item (Str.ofString "xX") c).length == 0) = false := by
  intro k h1 h2 c h3 h4
  have hc : c = 0 ∨ c = 1 := by omega
  have hk : k = 4 ∨ k = 5 ∨ k = 6 ∨ k = 7 ∨ k = 8 ∨ k = 9 ∨ k = 10 ∨ k = 11 ∨ k = 12 ∨ k = 13 ∨ k = 14 ∨ k = 15 ∨ k = 16 ∨ k = 17 ∨ k = 18 := by omega
  rcases hc with rfl | rfl
  all_goals
    rcases hk with rfl | rfl | rfl | rfl | rfl | rfl | rfl | rfl | rfl | rfl | rfl | rfl | rfl | rfl | rfl
    all_goals kernel_rfl
section
variable {prog : Program} {w : World} {A : Around} {E : Value → Shared → Prop} {s : Shared}
theorem call_fmt {k c a : Int} {t u : Tok} {Q : Value → Shared → Prop} (h1 : 4 ≤ k) (h2 : k ≤ 18) (h3 : 0 ≤ c) (h4 : c < 2) (h5 : 0 ≤ a) (h6 : a < 16 ^ k.toNat)
    (h : ∀ z t' tk, z.length ≤ 18 → Q (.str z t') { s with toks := tk }) :
    wpAny (model prog w) A (call (.builtin "format") [.int a t, .str (Str.ofString "0" ++ Str.ofString (toString k) ++ Txt.item (Str.ofString "xX") c) u]) Q E s := by
  refine Calls.call_function_entry Flt.kind_format Flt.plain_format Flt.entry_format (Flt.args_format _ _) ?_
  unfold Builtin.«format»
  obtain ⟨up, hg⟩ := fmt_eq a t u k h1 h2 c h3 h4
  have hl := spec_len k h1 h2 c h3 h4
  generalize Str.ofString "0" ++ Str.ofString (toString k) ++ Txt.item (Str.ofString "xX") c = sp at hg hl ⊢
  have hz : (fmtZ k.toNat up a).length ≤ 18 := Nat.le_trans (fmtZ_len h5 h6 (by omega)) (by omega)
  refine wpAny_bind (m := someArgs "format" 1 2 _) (wpAny_pure ?_)
  show wpAny _ _ (typeNameOf (.str sp u) >>= fun specType => (if (sp.length == 0) = true then _ else _)) _ _ s
  rw [hl]
  refine wpAny_bind (wpAny_of_eq (a := "str") rfl ?_)
  show wpAny _ _ (callSpecial? (.int a t) (Str.ofString "__format__") [.str sp u] >>= _) _ _ s
  refine wpAny_bind (wpAny_callSpecial?_slot (name := Str.ofString "__format__") (T := "int") rfl PySem.F.slot_int_format
    (call_gives PySem.F.slot_int_format rfl PySem.F.entry_int_format (PySem.F.args_int_format_2 _ _) (m := .str (fmtZ k.toNat up a)) (.of_eq hg) ⟨Nat.le_trans hz (by rw [sizeLine_eq]; omega), ?_⟩))
  exact wpAny_bind (wpAny_isInstance (T := "str") (b := true) rfl isSubtype_str_str (wpAny_pure ⟨_, rfl, h _ _ _ hz⟩))
end
end Mine
end
section
open PySem PySem.W PyProof.Rows PySem.Calls
set_option maxRecDepth 100000
namespace Mine
def line1 (a : Str) : Str := if (a != Str.ofString "") = true then Str.ofString "  " ++ a else Str.ofString ""
def ln (p : List Nat) : List Nat := if p = [] then [] else 32 :: 32 :: p
theorem line1_list (a : Str) : (line1 a).cps.toList = ln a.cps.toList := by
  have e1 : (Str.ofString "  ").cps.toList = [32, 32] := by decide +kernel
  have e2 : (Str.ofString "").cps.toList = [] := by decide +kernel
  unfold line1 ln
  by_cases h : a.cps.toList = []
  · have ha : a = Str.ofString "" := by rw [str_eq_iff, h, e2]
    rw [if_pos h, ha]
    simp [e2]
  · have ha : (a != Str.ofString "") = true := by
      rw [bne_iff_ne]
      intro q
      rw [q, e2] at h
      exact h rfl
    rw [if_neg h, if_pos ha]
    show ((Str.ofString "  ").cps ++ a.cps).toList = _
    rw [Array.toList_append, e1]; rfl
theorem line1_len (a : Str) : (line1 a).length ≤ a.length + 2 := by
  show (line1 a).cps.size ≤ a.cps.size + 2
  rw [← Array.length_toList, ← Array.length_toList, line1_list]
  unfold ln
  split <;> simp
theorem indF : ∀ (y rest : List Nat), 10 ∉ y → indL false (y ++ rest) = y ++ indL false rest
  | [], _, _ => rfl
  | c :: y, rest, h => by
    have hc : (c == 10) = false := by
      rw [beq_eq_false_iff_ne]
      exact fun e => h (by rw [e]; exact .head _)
    rw [List.cons_append, indL, hc, indF y rest (fun q => h (.tail _ q))]
    rfl
theorem indT (y rest : List Nat) (h : 10 ∉ y) (hr : rest = [] ∨ ∃ r, rest = 10 :: r) : indL true (y ++ rest) = ln y ++ indL true rest := by
  cases y with
  | nil => rfl
  | cons c y =>
    have hc : (c == 10) = false := by
      rw [beq_eq_false_iff_ne]
      exact fun e => h (by rw [e]; exact .head _)
    have hc2 : (c != 10) = true := by rw [bne, hc]; rfl
    rw [List.cons_append, indL, hc, indF y rest (fun q => h (.tail _ q)), hc2]
    have e : indL false rest = indL true rest := by
      rcases hr with rfl | ⟨r, rfl⟩
      · rfl
      · rw [indL, indL]; rfl
    rw [e]
    simp [ln]
theorem ind_lines : ∀ (r : List Str) (y : List Nat), 10 ∉ y → (∀ p ∈ r, 10 ∉ p.cps.toList) →
    indL true (y ++ (r.map fun p => 10 :: p.cps.toList).flatten) = ln y ++ (r.map fun p => 10 :: ln p.cps.toList).flatten
  | [], y, h, _ => by
    have := indT y [] h (.inl rfl)
    simpa [indL] using this
  | p :: r, y, h, hp => by
    rw [List.map_cons, List.flatten_cons, List.cons_append, indT y _ h (.inr ⟨_, rfl⟩), indL]
    have e : ((10 : Nat) == 10) = true := rfl
    rw [e, ind_lines r p.cps.toList (hp p (.head _)) (fun q hq => hp q (.tail _ hq))]
    simp
theorem glue_list (s : Array Nat) : ∀ (r : List Str) (acc : Array Nat), (r.foldl (fun a p => a ++ s ++ p.cps) acc).toList = acc.toList ++ (r.map fun p => s.toList ++ p.cps.toList).flatten
  | [], acc => by simp
  | p :: r, acc => by rw [List.foldl_cons, glue_list s r]; simp
theorem join_nl (y : Str) (r : List Str) : (Txt.join (Str.ofString "\n") (y :: r)).cps.toList = y.cps.toList ++ (r.map fun p => 10 :: p.cps.toList).flatten := by
  have e : (Str.ofString "\n").cps.toList = [10] := by decide +kernel
  have := glue_list (Str.ofString "\n").cps r y.cps
  rw [e] at this
  exact this
theorem sjoin_nl : ∀ (r : List Str) (y : Str), (Str.join (Str.ofString "\n") (y :: r)).cps.toList = y.cps.toList ++ (r.map fun p => 10 :: p.cps.toList).flatten
  | [], y => by simp [Str.join]
  | p :: r, y => by
    have e : (Str.ofString "\n").cps.toList = [10] := by decide +kernel
    have ih := sjoin_nl r p
    show (y.cps ++ (Str.ofString "\n").cps ++ (Str.join (Str.ofString "\n") (p :: r)).cps).toList = _
    rw [Array.toList_append, Array.toList_append, e, ih]
    simp
theorem join_same (l : List Str) : Str.join (Str.ofString "\n") l = Txt.join (Str.ofString "\n") l := by
  cases l with
  | nil => rfl
  | cons y r => rw [str_eq_iff, sjoin_nl, join_nl]
theorem nl_str : Str.ofString "\n" = ⟨#[10]⟩ := by decide +kernel
theorem page_law {x z : Str} (hz : z.cps.toList = indL true x.cps.toList) : Txt.join (Str.ofString "\n") ((Txt.split x (Str.ofString "\n")).map line1) = z := by
  have hfree : ∀ p ∈ Txt.split x (Str.ofString "\n"), 10 ∉ p.cps.toList := by rw [nl_str]; exact StrLaws.split_free x 10
  have hj : Txt.join (Str.ofString "\n") (Txt.split x (Str.ofString "\n")) = x := by rw [← join_same]; exact StrLaws.join_split x (Str.ofString "\n")
  rw [str_eq_iff, hz]
  generalize Txt.split x (Str.ofString "\n") = ps at hfree hj ⊢
  subst hj
  cases ps with
  | nil => rfl
  | cons y r =>
    rw [List.map_cons, join_nl, join_nl, line1_list, ind_lines r _ (hfree y (.head _)) (fun q hq => hfree q (.tail _ hq)), List.map_map]
    congr 3
    funext p
    show 10 :: (line1 p).cps.toList = _
    rw [line1_list]
theorem split_cnt (x : Str) : (Txt.split x (Str.ofString "\n")).length ≤ x.length + 1 := by
  have hj : Txt.join (Str.ofString "\n") (Txt.split x (Str.ofString "\n")) = x := by rw [← join_same]; exact StrLaws.join_split x (Str.ofString "\n")
  generalize Txt.split x (Str.ofString "\n") = ps at hj ⊢
  subst hj
  cases ps with
  | nil => exact Nat.zero_le _
  | cons y r =>
    show _ ≤ (Txt.join (Str.ofString "\n") (y :: r)).cps.size + 1
    rw [← Array.length_toList, join_nl, List.length_append]
    have : r.length ≤ (r.map fun p => 10 :: p.cps.toList).flatten.length := by
      clear y
      induction r with
      | nil => exact Nat.zero_le _
      | cons p r ih => rw [List.map_cons, List.flatten_cons, List.length_append]; simp only [List.length_cons]; omega
    simp only [List.length_cons]; omega
theorem carried_lines : ∀ {as : List Str} {vs : List Value}, CarriedAll vs (List.map (fun a => if (a != Str.ofString "") = true then PyData.str (Str.ofString "  " ++ a) else PyData.str (Str.ofString "")) (List.filter (fun _ => true) as)) → StrsAre vs (as.map line1)
  | [], vs, h => by
    cases h
    exact .nil
  | a :: as, vs, h => by
    rw [List.filter_cons_of_pos rfl, List.map_cons] at h
    generalize hd : (if (a != Str.ofString "") = true then PyData.str (Str.ofString "  " ++ a) else PyData.str (Str.ofString "")) = d at h
    cases h with
    | cons c r =>
      have ih := carried_lines r
      have hd2 : d = PyData.str (line1 a) := by
        rw [← hd]; unfold line1
        split <;> rfl
      subst hd2
      cases c with
      | str y t => exact .cons _ t ih
theorem sum_le {α : Type} (f : α → Nat) (b : Nat) : ∀ (l : List α), (∀ a ∈ l, f a ≤ b) → (l.map f).sum ≤ l.length * b
  | [], _ => by simp
  | a :: l, h => by
    have h1 := h a (.head _)
    have h2 := sum_le f b l (fun q hq => h q (.tail _ hq))
    rw [List.map_cons, List.sum_cons, List.length_cons, Nat.succ_mul]
    omega
theorem indL_len : ∀ (b : Bool) (l : List Nat), (indL b l).length ≤ 3 * l.length
  | _, [] => by simp [indL]
  | b, c :: r => by
    have := indL_len (c == 10) r
    rw [indL, List.length_append, List.length_cons, List.length_cons]
    split <;> simp <;> omega
theorem page_len {x z : Str} (hz : z.cps.toList = indL true x.cps.toList) : z.length ≤ 3 * x.length := by
  show z.cps.size ≤ 3 * x.cps.size
  rw [← Array.length_toList, ← Array.length_toList, hz]
  exact indL_len _ _
section
variable {prog : Program} {w : World} {A : Around} {E : Value → Shared → Prop} {s : Shared}
theorem join_page {D : Addr} {ys : List Value} {l : List (Str × Tok)} {x z : Str} {t : Tok} {Q : Value → Shared → Prop} (hl : s.heap.IsList D ys.toArray)
    (hc : CarriedAll ys (List.map (fun a => if (a != Str.ofString "") = true then PyData.str (Str.ofString "  " ++ a) else PyData.str (Str.ofString "")) (List.filter (fun _ => true) (List.map (fun x => x.fst) l))))
    (hs : List.map (fun x => x.fst) l = Txt.split x (Str.ofString "\n")) (hlen : ∀ a : Str, a ∈ List.map (fun x => x.fst) l → a.length ≤ x.length) (hx : x.length ≤ 353) (hz : z.cps.toList = indL true x.cps.toList)
    (h : ∀ t' k, Q (.str z t') { s with toks := k }) : wpAny (model prog w) A (call (.builtin "str.join") [.str (Str.ofString "\n") t, .ref D]) Q E s := by
  have hv := carried_lines hc
  rw [hs] at hv hlen
  have hcnt := split_cnt x
  have hnl : (Str.ofString "\n").length = 1 := by decide +kernel
  refine join_list hl (by simpa using hv) ?_ fun t' k => by rw [page_law hz]; exact h t' k
  have h1 : (((Txt.split x (Str.ofString "\n")).map line1).map (·.length)).sum ≤ ((Txt.split x (Str.ofString "\n")).map line1).length * 355 := by
    refine sum_le _ _ _ fun a ha => ?_
    obtain ⟨b, hb, rfl⟩ := List.mem_map.mp ha
    have := line1_len b
    have := hlen b hb
    omega
  rw [List.length_map] at h1 ⊢
  rw [hnl]
  omega
end
end Mine
end
section
open PySem PySem.W PyProof.Rows
set_option maxRecDepth 100000
set_option maxHeartbeats 8000000

namespace Mine
local macro_rules | `(tactic| walk_at "mine pad 8") => `(tactic| skip)
local macro_rules | `(tactic| walk_at "mine pad 9") => `(tactic| skip)
local macro_rules | `(tactic| walk_at "mine pad 10") => `(tactic| skip)
local macro_rules | `(tactic| walk_at "pyIter ref") => `(tactic| ((with_reducible show wpAny _ _ (pyIter (Value.ref _)) (fun it s₂ => LoopAtV _ _ _ _ _ _ _ _ _ it s₂) _ _); refine Hold.out ?_))
local macro_rules | `(tactic| walk_at "exec For Name BinOp cons nil") => `(tactic| (k_here; (rename Fr _ _ _ _ => lF'); (with_unfolding_all refine' For_invVF lF' ?k1 ?k2 ?_; (case k1 => exact rfl); (case k2 => exact rfl); k_whole)))
local macro_rules | `(tactic| walk_at "subscriptTail") => `(tactic| (k_here; (with_reducible show wpAny _ _ (subscriptTail (PySem.Expr.List _ _) _ (Value.ref _) (Value.int _ _)) _ _ _); refine Hold.out ?_))
local macro_rules | `(tactic| walk_at "call ref") => `(tactic| (k_here; (with_reducible show wpAny _ _ (call (Value.ref 167) [Value.str _ _]) _ _ _); refine Hold.out ?_))
local macro_rules | `(tactic| walk_at "call ref") => `(tactic| (k_here; (with_reducible show wpAny _ _ (call (Value.ref 70) _) _ _ _); refine Hold.out ?_))
local macro_rules | `(tactic| walk_at "last call builtin:str.join") => `(tactic| ((with_reducible show wpAny _ _ (call (Value.builtin "str.join") [Value.str _ _, Value.ref _]) _ _ _); refine Hold.out ?_))
local macro_rules | `(tactic| walk_at "binaryOp Add str str") => `(tactic| ((with_reducible show wpAny _ _ (binaryOp Operator.Add (Value.str (Str.ofString "  ") _) (Value.str _ _)) _ _ _); refine PyProof.Rows.add_str ?_ (by have hq := (‹∀ a : Str, a ∈ _ → a.length ≤ _› _ ‹_ ∈ _›); have h2 : (Str.ofString "  ").length = 2 := (by decide +kernel); rw [sizeLine_eq]; omega); intro _ _))
theorem law_holds : PySem.Challenge.rw_ku0037_01.Holds := hd (by
  w_strict (k_go0; (all_goals try k_fold); k_steps
            refine Hold.in ?_
            rename Fr _ _ _ _ => FF
            rename News _ _ _ _ => NN
            rename IntsAre _ _ => hI2
            refine' law_loop ?zF ?zN hI2 ?zx ?zh ?zk (fun tl htl ht52 x t ps c oc i n tn u h tk it oI hn hcit h52it htit hlen hTab hc52 F' N' => ?zzt) (fun x t ps c oc u h tk hlen hTab hc52 F' N' => ?zzd)
            case zF => exact FF
            case zN => exact NN
            case zh => exact rfl
            case zk => exact rfl
            case zx => exact ⟨Nat.ne_of_gt (by omega), Nat.ne_of_gt (by omega), Nat.ne_of_gt (by omega)⟩
            all_goals clear FF NN
            case zzd =>
              have hxl : x.length ≤ 353 := by
                have h13 := hlen
                simp only [List.length_append, List.length_cons, List.length_nil, List.length_take] at h13
                omega
              try dsimp only
              k_steps
              refine Hold.in ?_
              refine' ind_c _ _ _ _ _ [(52, tabObj ps), (c, oc)] x _ _ _ _ _ _ _ _ _ _ _ _ _ _ _ _ _ _ _ (by assumption) F' (by assumption) N' (by assumption) rfl (by ktr_room) (by ktr_units) (by omega) (fun z tz hz tkz hze Fz Nz => ?_)
              clear F' N'
              have hzl := page_len hze
              try dsimp only
              k_steps
              refine Hold.in ?_
              rename CarriedAll _ _ => hC
              refine join_page (z := z) (by assumption) hC (by assumption) (by assumption) hxl hze (fun t2 k2 => ?_)
              try dsimp only
              k_steps
              refine Hold.in ?_
              rename Fr _ _ _ _ => F9
              rename News _ _ _ _ => N9
              refine' fits_c _ _ _ _ _ [(c, oc)] ps c oc z _ _ _ _ _ _ _ _ _ _ _ _ _ _ _ _ _ _ (by assumption) F9 (by assumption) (by assumption) (fun q hq => N9 q ?_) (fun q hq => N9 q ?_) ?_ (List.Mem.head _) hTab (by assumption) rfl (by ktr_room) (by ktr_units) (by omega) (fun ps1 c1 oc1 h1 tk1 hT1 h521 _ F1 N1 => ?_)
              · rw [List.mem_singleton.mp hq]
                simp only [List.mem_cons, true_or, or_true]
              · rw [List.mem_singleton.mp hq]
                simp only [List.mem_cons, true_or, or_true]
              · intro q hq e
                rw [List.mem_singleton.mp hq] at e
                exact hc52 (by simpa using e)
              try dsimp only
              clear F9 N9
              k_steps
            case zzt =>
              have hi13 : i < 13 := by
                have := (List.getElem?_eq_some_iff.1 hn).1
                simp only [List.length_append, List.length_cons, List.length_nil] at this
                omega
              have hxl : x.length ≤ 326 := by omega
              dsimp only
              k_steps
              refine Hold.in ?_
              have hx0 : 0 ≤ n.fmod (10 ^ Int.toNat 9) := Int.fmod_nonneg_of_pos _ (by decide)
              have hx1 : n.fmod (10 ^ Int.toNat 9) < 1000000000 := Int.fmod_lt_of_pos _ (by decide)
              clear F' N'
              rename Fr _ _ _ _ => F'
              rename News _ _ _ _ => N'
              generalize n.fmod (10 ^ Int.toNat 9) = xx at hx0 hx1 F' ⊢
              dsimp only at F' N' ⊢
              refine' item_short 6 ?za ?zb ?zc ?zd ?ze ?zf (fun ld tld hld => ?zg)
              case za => exact (listN N' (.head _))
              case zb => repeat constructor
              case zc => exact (fmod_lo _ (by decide))
              case zd => exact (fmod_hi xx (n := 8) (by decide))
              case ze => have := fmod_hi xx (n := 8) (by decide); omega
              case zf => decide +kernel
              k_steps
              refine call_fmt ?ya ?yb ?yc ?yd ?ye ?yf (fun hx thx tkx hhx => ?yg)
              case ya => have := fmod_lo (xx.fdiv 8) (n := 15) (by decide); omega
              case yb => have := fmod_hi (xx.fdiv 8) (n := 15) (by decide); omega
              case yc => exact fmod_lo xx (n := 2) (by decide)
              case yd => exact fmod_hi xx (n := 2) (by decide)
              case ye => exact fmod_lo _ (Int.pow_pos (by decide))
              case yf => exact fmod_hi _ (Int.pow_pos (by decide))
              dsimp only
              k_steps
              refine Hold.in ?_
              have hm0 := fmod_lo (xx.fdiv 120) (n := 3) (by decide)
              have hm1 := fmod_hi (xx.fdiv 120) (n := 3) (by decide)
              rename (_ → (_ : Int) = _) => hkn
              have hy : (x ++ (ld ++ hx) ++ Txt.mul (Str.ofString ">") ((xx.fdiv 120).fmod 3)).length ≤ 2 + 27 * i + 26 := by
                have hmm := hkn hm0
                omega
              rename Fr _ _ _ _ => F9
              rename News _ _ _ _ => N9
              generalize x ++ (ld ++ hx) ++ Txt.mul (Str.ofString ">") ((xx.fdiv 120).fmod 3) = y1 at hy F9 ⊢
              try dsimp only at F9 N9 ⊢
              refine' fits_law (tl := tl) _ _ _ _ (it := it) (oI := oI) (c := c) (oc := oc) (ps := ps) ?xN ?xB F9 ?xK ?xC ?xT rfl ?xd ?xu hcit h52it hTab hc52 ht52 ?xl (fun ps1 c1 oc1 h1 tk1 hT1 h521 hit1 F1 N1 => ?xg)
              case xN =>
                intro q hq
                refine N9 q ?_
                rw [htl] at hq
                simp only [List.mem_cons, List.not_mem_nil, or_false] at hq ⊢
                rcases hq with h | h | h | h | h | h <;> simp [h]
              case xB => assumption
              case xl => omega
              case xC => assumption
              case xK => assumption
              case xT => assumption
              case xd => ktr_room
              case xu => ktr_units
              rw [htl] at N1
              clear F9 N9
              try dsimp only
              k_steps
              all_goals (
                refine Hold.in ?_
                rename Fr _ _ _ _ => F9
                rename News _ _ _ _ => N9
                try dsimp only at F9 N9 ⊢
                refine' item_short 1 (listN N9 (List.Mem.head _)) (.cons _ _ (.cons _ _ (.cons _ _ (.cons _ _ (.cons _ _ (.cons _ _ .nil)))))) ?_ ?_ ?_ ?_ (fun bh tbh hbh => ?_)
                · exact (fmod_lo (xx.fdiv 360) (n := 6) (by decide))
                · exact (fmod_hi (xx.fdiv 360) (n := 6) (by decide))
                · have := fmod_hi (xx.fdiv 360) (n := 6) (by decide)
                  omega
                · intro z hz
                  simp only [List.mem_cons, List.not_mem_nil, or_false] at hz
                  rcases hz with h | h | h | h | h | h <;> subst h <;> first | decide +kernel | exact Nat.le_refl 1
                k_steps)
              all_goals first
                | (with_reducible refine Hold.in ?_
                   rename Fr _ _ _ _ => F9
                   rename News _ _ _ _ => N9
                   have hy2 : (y1 ++ bh).length ≤ 2 + 27 * i + 27 := by omega
                   generalize y1 ++ bh = y2 at hy2 F9 ⊢
                   try dsimp only at F9 N9 ⊢
                   refine' fits_law (tl := tl) _ _ _ _ (it := it) (oI := oI) (c := c1) (oc := oc1) (ps := ps1) (fun q hq => N9 q (?_)) (by assumption) F9 (by assumption) (by assumption) (by assumption) rfl (by ktr_room) (by ktr_units) hit1 h52it hT1 h521 ht52 (by omega) (fun ps2 c2 oc2 h2 tk2 hT2 h522 hit2 F2 N2 => ?_)
                   · rw [htl] at hq
                     simp only [List.mem_cons, List.not_mem_nil, or_false] at hq ⊢
                     rcases hq with h | h | h | h | h | h <;> simp [h]
                   · rw [htl] at N2
                     clear F9 N9
                     try dsimp only
                     k_steps
                     rename Fr _ _ _ _ => F9
                     rename News _ _ _ _ => N9
                     refine law_end (x := y2) F9 (fun q hq => N9 q (by rw [htl] at hq; exact hq)) hit2 h52it htit (by omega) hT2 h522 rfl fun z h1 h2 h3 => ?_
                     have hne := law_ne h3
                     simp only [kstB, h1, h2, h3, hne.1, hne.2.1, hne.2.2.1, hne.2.2.2.1, hne.2.2.2.2.1, hne.2.2.2.2.2, if_false, Bool.false_eq_true])
                | (rename Fr _ _ _ _ => F9
                   rename News _ _ _ _ => N9
                   refine law_end (x := y1) F9 (fun q hq => N9 q ?_) hit1 h52it htit (by omega) hT1 h521 rfl fun z h1 h2 h3 => ?_
                   · rw [htl] at hq
                     simp only [List.mem_cons, List.not_mem_nil, or_false] at hq ⊢
                     rcases hq with h | h | h | h | h | h <;> simp [h]
                   · have hne := law_ne h3
                     simp only [kstB, h1, h2, h3, hne.1, hne.2.1, hne.2.2.1, hne.2.2.2.1, hne.2.2.2.2.1, hne.2.2.2.2.2, if_false, Bool.false_eq_true])
))
end Mine
end
theorem PySem.Challenge.cw_ku0037_01_holds : PySem.Challenge.rw_ku0037_01.Holds := by
  exact Mine.law_holds
