import PyProof.Rows.All
import Wide.All
import OpenK.AllK
import Wide.FinOn
import PySem.Challenge.RW_st0019_01
open PySem PySem.W PyProof.Rows PySem.Calls PySem.Spec
set_option Elab.async false
set_option maxRecDepth 100000
set_option maxHeartbeats 8000000
set_option linter.unusedVariables false
set_option compiler.extract_closed false
namespace Mine
section
open_top hd for PySem.Challenge.rw_st0019_01
end
theorem fill_hd : Mine.hd.heap_39 = Mine.hd.heap_39 ∧ PySem.Challenge.rw_st0019_01 = PySem.Challenge.rw_st0019_01 := by
  k_fill
  w_top off
  exact ⟨rfl, rfl⟩
local macro_rules | `(tactic| walk_at $s:str) => `(tactic| k_extra $s)
section
theorem le_c {a b c : Nat} (h : a ≤ b) (k : Nat.ble b c = true) : a ≤ c := Nat.le_trans h (Nat.le_of_ble_eq_true k)
theorem lt_le_c {a b c : Nat} (h : a < b) (k : Nat.ble b (c + 1) = true) : a ≤ c := Nat.le_of_lt_succ (Nat.lt_of_lt_of_le h (Nat.le_of_ble_eq_true k))
theorem lt_c {a b c : Nat} (h : a < b) (k : Nat.ble b c = true) : a < c := Nat.lt_of_lt_of_le h (Nat.le_of_ble_eq_true k)
theorem le_lt_c {a b c : Nat} (h : a ≤ b) (k : Nat.ble (b + 1) c = true) : a < c := Nat.lt_of_lt_of_le (Nat.lt_succ_of_le h) (Nat.le_of_ble_eq_true k)
theorem room_c {u a c : Nat} (h : u + a < c) (b : Nat) (k : Nat.ble b a = true) : u + b < c := Nat.lt_of_le_of_lt (Nat.add_le_add_left (Nat.le_of_ble_eq_true k) u) h
theorem le_le_c {a i b c : Nat} (h : a ≤ i) (h' : i ≤ b) (k : Nat.ble b c = true) : a ≤ c := le_c (Nat.le_trans h h') k
theorem le_lt_le_c {a i b c : Nat} (h : a ≤ i) (h' : i < b) (k : Nat.ble b (c + 1) = true) : a ≤ c := lt_le_c (Nat.lt_of_le_of_lt h h') k
theorem eq_le_c {a i b c : Nat} (h : a = i) (h' : i ≤ b) (k : Nat.ble b c = true) : a ≤ c := le_c (h ▸ h') k
theorem qe_le_c {a i b c : Nat} (h : i = a) (h' : i ≤ b) (k : Nat.ble b c = true) : a ≤ c := le_c (h ▸ h') k
end
section
theorem nb0 {r : Prop} {a b : Nat} (h : b < a ∧ r) : a ≠ b := Nat.ne_of_gt h.1
theorem nb1 {p0 r : Prop} {a b : Nat} (h : p0 ∧ b < a ∧ r) : a ≠ b := Nat.ne_of_gt h.2.1
theorem nz1 {p0 : Prop} {a b : Nat} (h : p0 ∧ b < a) : a ≠ b := Nat.ne_of_gt h.2
theorem nb2 {p0 p1 r : Prop} {a b : Nat} (h : p0 ∧ p1 ∧ b < a ∧ r) : a ≠ b := Nat.ne_of_gt h.2.2.1
theorem nz2 {p0 p1 : Prop} {a b : Nat} (h : p0 ∧ p1 ∧ b < a) : a ≠ b := Nat.ne_of_gt h.2.2
theorem nb3 {p0 p1 p2 r : Prop} {a b : Nat} (h : p0 ∧ p1 ∧ p2 ∧ b < a ∧ r) : a ≠ b := Nat.ne_of_gt h.2.2.2.1
theorem nz3 {p0 p1 p2 : Prop} {a b : Nat} (h : p0 ∧ p1 ∧ p2 ∧ b < a) : a ≠ b := Nat.ne_of_gt h.2.2.2
theorem nb4 {p0 p1 p2 p3 r : Prop} {a b : Nat} (h : p0 ∧ p1 ∧ p2 ∧ p3 ∧ b < a ∧ r) : a ≠ b := Nat.ne_of_gt h.2.2.2.2.1
theorem nz4 {p0 p1 p2 p3 : Prop} {a b : Nat} (h : p0 ∧ p1 ∧ p2 ∧ p3 ∧ b < a) : a ≠ b := Nat.ne_of_gt h.2.2.2.2
theorem nb5 {p0 p1 p2 p3 p4 r : Prop} {a b : Nat} (h : p0 ∧ p1 ∧ p2 ∧ p3 ∧ p4 ∧ b < a ∧ r) : a ≠ b := Nat.ne_of_gt h.2.2.2.2.2.1
theorem nz5 {p0 p1 p2 p3 p4 : Prop} {a b : Nat} (h : p0 ∧ p1 ∧ p2 ∧ p3 ∧ p4 ∧ b < a) : a ≠ b := Nat.ne_of_gt h.2.2.2.2.2
theorem nb6 {p0 p1 p2 p3 p4 p5 r : Prop} {a b : Nat} (h : p0 ∧ p1 ∧ p2 ∧ p3 ∧ p4 ∧ p5 ∧ b < a ∧ r) : a ≠ b := Nat.ne_of_gt h.2.2.2.2.2.2.1
theorem nz6 {p0 p1 p2 p3 p4 p5 : Prop} {a b : Nat} (h : p0 ∧ p1 ∧ p2 ∧ p3 ∧ p4 ∧ p5 ∧ b < a) : a ≠ b := Nat.ne_of_gt h.2.2.2.2.2.2
theorem nb7 {p0 p1 p2 p3 p4 p5 p6 r : Prop} {a b : Nat} (h : p0 ∧ p1 ∧ p2 ∧ p3 ∧ p4 ∧ p5 ∧ p6 ∧ b < a ∧ r) : a ≠ b := Nat.ne_of_gt h.2.2.2.2.2.2.2.1
theorem nz7 {p0 p1 p2 p3 p4 p5 p6 : Prop} {a b : Nat} (h : p0 ∧ p1 ∧ p2 ∧ p3 ∧ p4 ∧ p5 ∧ p6 ∧ b < a) : a ≠ b := Nat.ne_of_gt h.2.2.2.2.2.2.2
theorem nb8 {p0 p1 p2 p3 p4 p5 p6 p7 r : Prop} {a b : Nat} (h : p0 ∧ p1 ∧ p2 ∧ p3 ∧ p4 ∧ p5 ∧ p6 ∧ p7 ∧ b < a ∧ r) : a ≠ b := Nat.ne_of_gt h.2.2.2.2.2.2.2.2.1
theorem nz8 {p0 p1 p2 p3 p4 p5 p6 p7 : Prop} {a b : Nat} (h : p0 ∧ p1 ∧ p2 ∧ p3 ∧ p4 ∧ p5 ∧ p6 ∧ p7 ∧ b < a) : a ≠ b := Nat.ne_of_gt h.2.2.2.2.2.2.2.2
theorem nb9 {p0 p1 p2 p3 p4 p5 p6 p7 p8 r : Prop} {a b : Nat} (h : p0 ∧ p1 ∧ p2 ∧ p3 ∧ p4 ∧ p5 ∧ p6 ∧ p7 ∧ p8 ∧ b < a ∧ r) : a ≠ b := Nat.ne_of_gt h.2.2.2.2.2.2.2.2.2.1
theorem nz9 {p0 p1 p2 p3 p4 p5 p6 p7 p8 : Prop} {a b : Nat} (h : p0 ∧ p1 ∧ p2 ∧ p3 ∧ p4 ∧ p5 ∧ p6 ∧ p7 ∧ p8 ∧ b < a) : a ≠ b := Nat.ne_of_gt h.2.2.2.2.2.2.2.2.2
theorem nb10 {p0 p1 p2 p3 p4 p5 p6 p7 p8 p9 r : Prop} {a b : Nat} (h : p0 ∧ p1 ∧ p2 ∧ p3 ∧ p4 ∧ p5 ∧ p6 ∧ p7 ∧ p8 ∧ p9 ∧ b < a ∧ r) : a ≠ b := Nat.ne_of_gt h.2.2.2.2.2.2.2.2.2.2.1
theorem nz10 {p0 p1 p2 p3 p4 p5 p6 p7 p8 p9 : Prop} {a b : Nat} (h : p0 ∧ p1 ∧ p2 ∧ p3 ∧ p4 ∧ p5 ∧ p6 ∧ p7 ∧ p8 ∧ p9 ∧ b < a) : a ≠ b := Nat.ne_of_gt h.2.2.2.2.2.2.2.2.2.2
theorem nb11 {p0 p1 p2 p3 p4 p5 p6 p7 p8 p9 p10 r : Prop} {a b : Nat} (h : p0 ∧ p1 ∧ p2 ∧ p3 ∧ p4 ∧ p5 ∧ p6 ∧ p7 ∧ p8 ∧ p9 ∧ p10 ∧ b < a ∧ r) : a ≠ b := Nat.ne_of_gt h.2.2.2.2.2.2.2.2.2.2.2.1
theorem nz11 {p0 p1 p2 p3 p4 p5 p6 p7 p8 p9 p10 : Prop} {a b : Nat} (h : p0 ∧ p1 ∧ p2 ∧ p3 ∧ p4 ∧ p5 ∧ p6 ∧ p7 ∧ p8 ∧ p9 ∧ p10 ∧ b < a) : a ≠ b := Nat.ne_of_gt h.2.2.2.2.2.2.2.2.2.2.2
theorem nb12 {p0 p1 p2 p3 p4 p5 p6 p7 p8 p9 p10 p11 r : Prop} {a b : Nat} (h : p0 ∧ p1 ∧ p2 ∧ p3 ∧ p4 ∧ p5 ∧ p6 ∧ p7 ∧ p8 ∧ p9 ∧ p10 ∧ p11 ∧ b < a ∧ r) : a ≠ b := Nat.ne_of_gt h.2.2.2.2.2.2.2.2.2.2.2.2.1
theorem nz12 {p0 p1 p2 p3 p4 p5 p6 p7 p8 p9 p10 p11 : Prop} {a b : Nat} (h : p0 ∧ p1 ∧ p2 ∧ p3 ∧ p4 ∧ p5 ∧ p6 ∧ p7 ∧ p8 ∧ p9 ∧ p10 ∧ p11 ∧ b < a) : a ≠ b := Nat.ne_of_gt h.2.2.2.2.2.2.2.2.2.2.2.2
end
section
section
open PySem
/-- what is to be shown behind a statement, hidden: the walk of the statement carries its name alone -/
def Hid (R : Flow → Shared → Prop) (f : Flow) (s : Shared) : Prop := R f s
variable {M : Model} {A : Around} {E : Value → Shared → Prop} {s : Shared} {env : Env} {st : Stmt} {rest : List Stmt} {Q : Flow → Shared → Prop}
theorem execs_kont (h : ∀ R : Flow → Shared → Prop, (∀ f s', (match f with | .next => wpAny M A (execs rest env) Q E s' | f => Q f s') → Hid R f s') → wpAny M A (exec st env) (Hid R) E s) : wpAny M A (execs (st :: rest) env) Q E s :=
  wpAny_execs_cons (h _ fun _ _ k => k)
theorem Hid.use {R P : Flow → Shared → Prop} {f : Flow} {s' : Shared} (h : ∀ f s', P f s' → Hid R f s') (k : P f s') : Hid R f s' := h f s' k
end
end
section
open Lean.Parser.Tactic

noncomputable abbrev lo : List Str := looseW Mine.hd.view_39 [Str.ofString "_twin_re_1", Str.ofString "_twin_re_2", Str.ofString "_name_disallowed_re", Str.ofString "_value_disallowed_re"]

theorem stays_hide {b h : Heap} {hid : List Addr} (hb : ∀ a o, b.get? a = some o → h.get? a = some o) (hm : ∀ a ∈ hid, b.get? a = none) :
    ∀ a o, b.get? a = some o → (hideAll h hid).get? a = some o := fun a o e => hideAll_get _ (hb a o e) fun q => by
  rw [hm a q] at e; cases e

/-- a def is entered: the base is the heap itself, but what is hidden -/
theorem enterM {prog : Program} {w : World} {A : Around} {s : Shared} {K : Frag} {b : Heap} {p : Program} {loose : List Str} {mean : ExcName → Option Value} {mg mb : Str → Option Value}
    {R : Result → Shared → Prop} {name qual : Str} {params : Arguments} {body : List Stmt} {scope : Scope} {dV kV doc pm cdv ct oc : Value} {an od : Option Addr} {osl : Array (Option Value)} {f : Addr} {args : Args} {binds : List (Str × Value)}
    (hid : List Addr) (hb : ∀ a o, b.get? a = some o → s.heap.get? a = some o) (hm : ∀ a ∈ hid, b.get? a = none)
    (X : K.In b) (T : Top p loose mean mg mb b)
    (ho : K.lookup f = some ⟨oc, od, .func (fnOf name qual params body scope dV kV doc pm an cdv ct), osl⟩) (hcd : codeIn K cdv qual = true) (hroom : A.depth < recursionLimit)
    (hbind : BindsTo s (fnOf name qual params body scope dV kV doc pm an cdv ct) args binds) (hloc : ∀ y ∈ binds, scope.names.lookup y.1 = some .local)
    (h : ∀ L' h₁, L' = s.heap.objs.size → Fr (hideAll s.heap hid) L' h₁ (fun y => binds.reverse.lookup y) → (∀ a o, s.heap.get? a = some o → h₁.get? a = some o) →
      K.In (hideAll s.heap hid) → Top p loose mean mg mb (hideAll s.heap hid) →
      wpAny (model prog w) (A.deeper (envOf qual scope L' f cdv)) (execs body (envOf qual scope L' f cdv))
        (fun fl s' => R (.ok (.ret (match fl with | .ret v => v | _ => .none))) s')
        (fun e s' => wpAny (model prog w) (A.deeper (envOf qual scope L' f cdv)) (leaving (envOf qual scope L' f cdv) e) (fun _ s'' => R (.error e) s'') (fun e' s'' => R (.error e') s'') s')
        { s with heap := h₁, toks := s.toks + binds.length })
    (hco : scope.isCoroutine = false) (hgen : scope.isGenerator = false) (hk : scope.kind = .function)
    (hcell : ∀ x ∈ scope.names, x.2 ≠ .cell) : codeAny (model prog w) A (.call (.ref f) args) R s := by
  have st := stays_hide hb hm
  refine codeAny_call_def (fd := fnOf name qual params body scope dV kV doc pm an cdv ct) (body := body) (binds := binds) hroom (hb _ _ (X _ _ ho)) rfl (T.nolimit.keeps hb) (codeRec_of (X.keeps hb) hcd) rfl hbind hcell hloc (fun h₁ hns hk₁ => ?_) hco hgen hk
  exact h _ h₁ rfl ⟨hns, fun b o e => hk₁ b o (of_hideAll _ e), Nat.le_of_eq (hideAll_size _ _)⟩ hk₁ (X.keeps st) (T.keeps st)


theorem Fr.keeps' {h₀ h h' : PySem.Heap} {L : Addr} {m : Str → Option Value} (F : Fr h₀ L h m) (hk : ∀ b o, h.get? b = some o → h'.get? b = some o) : Fr h₀ L h' m :=
  ⟨F.ns.at' fun o e => hk _ o e, fun b o e => hk b o (F.keep b o e), F.above⟩
theorem News.keeps' {h₀ h h' : PySem.Heap} {L : Addr} {news : List (Addr × Obj)} (N : News h₀ L h news) (hk : ∀ b o, h.get? b = some o → h'.get? b = some o) : News h₀ L h' news :=
  fun p hp => ⟨hk _ _ (N p hp).1, (N p hp).2⟩

theorem news_fresh {h₀ h h' : PySem.Heap} {L D : Addr} {m : Str → Option Value} {o : Obj} (F : Fr h₀ L h m) (fD : h.get? D = none) (hD : h'.get? D = some o) : News h₀ L h' [(D, o)] := by
  intro p hp
  rw [List.mem_singleton.mp hp]
  refine ⟨hD, ?_, ?_⟩
  · rintro rfl
    obtain ⟨oL, _, _, hL, _⟩ := F.ns
    rw [fD] at hL; cases hL
  · cases q : h₀.get? D with
    | none => rfl
    | some o' => have := F.keep D o' q; rw [fD] at this; cases this
end
section
local macro_rules | `(tactic| omega) => `(tactic| lia)
open PySem.Sre

theorem step_done {m : M} (h : m.outcome.isSome = true) : m.step = m := by
  unfold M.step; rw [if_pos h]
theorem runFor_done {m : M} (h : m.outcome.isSome = true) : ∀ n, M.runFor n m = m
  | 0 => rfl
  | n + 1 => by unfold M.runFor; rw [if_pos h]
theorem runFor_succ (n : Nat) (m : M) : M.runFor (n + 1) m = M.runFor n m.step := by
  show (if m.outcome.isSome = true then m else M.runFor n m.step) = _
  by_cases h : m.outcome.isSome = true
  · rw [if_pos h, step_done h, runFor_done h]
  · rw [if_neg h]
theorem runFor_add : ∀ (a b : Nat) (m : M), M.runFor (a + b) m = M.runFor b (M.runFor a m)
  | 0, b, m => by rw [Nat.zero_add]; rfl
  | a + 1, b, m => by
    rw [show a + 1 + b = (a + b) + 1 from by omega, runFor_succ, runFor_add a b, runFor_succ]

/-- the drive ends where the run ends -/
theorem wpAny_reDrive {M' : Model} {A : Around} {E : Value → Shared → Prop} {s : Shared} {Q : M → Shared → Prop} : ∀ (turns n : Nat) (m : M), (M.runFor n m).outcome.isSome = true → n ≤ 4 * turns → 0 < turns →
    Q (M.runFor n m) s → wpAny M' A (Builtin.Re.reDrive turns m) Q E s
  | 0, _, _, _, _, h0, _ => absurd h0 (Nat.lt_irrefl _)
  | turns + 1, n, m, ho, hn, _, hq => by
    unfold Builtin.Re.reDrive
    show wpAny M' A (if (M.runFor 4 m).outcome.isSome = true then pure (M.runFor 4 m) else (rule "sre.turn" >>= fun _ => Builtin.Re.reDrive turns (M.runFor 4 m))) Q E s
    by_cases h : (M.runFor 4 m).outcome.isSome = true
    · rw [if_pos h]
      have e : M.runFor 4 m = M.runFor n m := by
        rcases Nat.le_total n 4 with hle | hle
        · obtain ⟨k, hk⟩ := Nat.exists_eq_add_of_le hle
          rw [hk, runFor_add, runFor_done ho]
        · obtain ⟨k, rfl⟩ := Nat.exists_eq_add_of_le hle
          rw [runFor_add, runFor_done h]
      rw [e]
      exact wpAny_pure hq
    · rw [if_neg h]
      have h4 : 4 < n := by
        rcases Nat.lt_or_ge 4 n with x | x
        · exact x
        · obtain ⟨k, hk⟩ := Nat.exists_eq_add_of_le x
          exfalso
          apply h
          rw [hk, runFor_add, runFor_done ho]
          exact ho
      have e : M.runFor n m = M.runFor (n - 4) (M.runFor 4 m) := by
        rw [← runFor_add]; congr 1; omega
      refine wpAny_bind (wpAny_rule ?_)
      exact wpAny_reDrive turns (n - 4) _ (e ▸ ho) (by omega) (by omega) (e ▸ hq)

theorem wpAny_rules {M' : Model} {A : Around} {E : Value → Shared → Prop} {s : Shared} {Q : Unit → Shared → Prop} (c : Nat → Bool) (nm : Nat → String) : ∀ (l : List Nat), Q () s →
    wpAny M' A (forIn l PUnit.unit fun i _ => if c i = true then (rule (nm i) >>= fun _ => pure (ForInStep.yield PUnit.unit)) else pure (ForInStep.yield PUnit.unit)) (fun _ s' => Q () s') E s
  | [], h => by simpa using wpAny_pure h
  | i :: l, h => by
    rw [List.forIn_cons]
    refine wpAny_bind ?_
    by_cases hc : c i = true
    · rw [if_pos hc]
      refine wpAny_bind (wpAny_rule (wpAny_pure ?_))
      exact wpAny_rules c nm l h
    · rw [if_neg hc]
      exact wpAny_pure (wpAny_rules c nm l h)

theorem wpAny_reRunToEnd {M' : Model} {A : Around} {E : Value → Shared → Prop} {s : Shared} {Q : Option M → Shared → Prop} {m m' : M} {n : Nat} (hr : M.runFor n m = m') (hn : n ≤ 2 ^ 64)
    (h : (m'.outcome = some .failed ∧ Q none s) ∨ (m'.outcome = some .matched ∧ Q (some m') s)) : wpAny M' A (Builtin.Re.reRunToEnd m) Q E s := by
  unfold Builtin.Re.reRunToEnd
  refine wpAny_bind (wpAny_reDrive (2 ^ 64) n m ?_ (by omega) (by decide) ?_)
  · rw [hr]; rcases h with h | h <;> rw [h.1] <;> rfl
  · rw [hr]
    refine wpAny_bind (wpAny_rules (Q := fun _ s' => wpAny M' A (match m'.outcome with
      | some .matched => pure (some m')
      | some .failed => pure none
      | some (.stuck why) => unsupported s!"_sre:{why}"
      | none => unsupported "internal:sre:no-outcome") Q E s') (fun i => m'.seen.has i) (fun i => Sre.names.getD i "") _ ?_)
    rcases h with h | h <;> rw [h.1] <;> exact wpAny_pure h.2
end
section
local macro_rules | `(tactic| omega) => `(tactic| lia)
open PySem.Sre

abbrev nameCode : Array Nat := #[14, 10, 4, 1, 1, 22, 0, 31, 16, 127, 0, 13, 7, 22, 0, 31, 16, 127, 0, 1]
abbrev valCode : Array Nat := #[14, 14, 4, 1, 1, 9, 4294966783, 0, 0, 2147483648, 0, 0, 0, 0, 0, 13, 11, 9, 4294966783, 0, 0, 2147483648, 0, 0, 0, 0, 0, 1]
abbrev dotCode : Array Nat := #[14, 4, 0, 1, 1, 6, 1, 16, 46, 1]
abbrev nlCode : Array Nat := #[14, 9, 4, 1, 2, 16, 10, 16, 13, 0, 7, 7, 16, 13, 16, 10, 15, 18, 5, 16, 10, 15, 13, 11, 16, 13, 5, 5, 0, 16, 10, 1, 15, 2, 0, 1]

def NotIn (code : Array Nat) (c : Nat) : Prop := ∀ seen, ∃ seen', inSet code c code.size 5 true seen = .ok (false, seen')

theorem admitted_none {m : M} (hset : ∀ q, q < m.lim → NotIn m.code (m.text.getD q 0)) : ∀ fuel s seen, ∃ seen', M.admitted m fuel s seen = .ok (none, seen')
  | 0, _, seen => ⟨seen, rfl⟩
  | fuel + 1, s, seen => by
    unfold M.admitted
    by_cases h : s ≥ m.lim
    · rw [if_pos h]; exact ⟨_, rfl⟩
    · rw [if_neg h]
      obtain ⟨seen', e⟩ := hset s (by omega) seen
      rw [e]
      exact admitted_none hset fuel (s + 1) seen'

theorem said_false {m : M} (h1 : m.outcome = none) (h2 : m.answer = some false) (h3 : m.frames = []) : ∃ m', M.runFor 1 m = m' ∧ m'.outcome = some .failed := by
  refine ⟨_, rfl, ?_⟩
  rw [show (1 : Nat) = 0 + 1 from rfl, runFor_succ]
  show m.step.outcome = _
  unfold M.step
  rw [h1, if_neg (by simp), h2, h3]
  rfl

theorem search_none {code text : Array Nat} {pos lim : Nat} (hf : ∀ m : M, m.code = code → m.hasFirstSet = true)
    (hset : ∀ q, q < lim → NotIn code (text.getD q 0)) : ∃ m', M.runFor 1 (forSearch code text 0 pos lim false) = m' ∧ m'.outcome = some .failed := by
  unfold forSearch
  dsimp only
  split
  · exact said_false rfl rfl rfl
  · unfold M.attemptFrom
    rw [hf _ rfl]
    simp only [Bool.not_true, Bool.false_eq_true, if_false]
    have ha : ∀ {m : M} {fuel s : Nat} {seen : Sre.Seen} {r : Except String (Option Nat × Sre.Seen)}, M.admitted m fuel s seen = r → m.lim = lim → m.code = code → m.text = text → ∃ s', r = .ok (none, s') := by
      rintro m fuel s seen r rfl rfl rfl rfl
      exact admitted_none hset fuel s seen
    split
    · rename_i s seen he
      obtain ⟨s', e'⟩ := ha he rfl rfl rfl
      cases e'
    · exact said_false rfl rfl rfl
    · rename_i why he
      obtain ⟨s', e'⟩ := ha he rfl rfl rfl
      cases e'

theorem first_name (m : M) (h : m.code = nameCode) : m.hasFirstSet = true := by unfold M.hasFirstSet; rw [h]; rfl
theorem first_val (m : M) (h : m.code = valCode) : m.hasFirstSet = true := by unfold M.hasFirstSet; rw [h]; rfl

def nameCh (c : Nat) : Prop := c = 46 ∨ c = 65 ∨ c = 66 ∨ c = 67 ∨ c = 97 ∨ c = 98 ∨ c = 99
theorem notIn_name {c : Nat} (h : nameCh c) : NotIn nameCode c := by
  intro seen
  rcases h with rfl | rfl | rfl | rfl | rfl | rfl | rfl <;> exact ⟨_, rfl⟩
theorem notIn_val : NotIn valCode 9 := by
  intro seen
  exact ⟨_, rfl⟩
end
section
local macro_rules | `(tactic| omega) => `(tactic| lia)
open PySem.Sre PySem.Builtin.Re

theorem slot_search : Slot "re.Pattern" "search" "re.Pattern.search" :=
  .of (owner := "re.Pattern") (n := "search") (by rw [typeLookup_type, builtinLookup_eq_fast]; kernel_rfl) (by decide +kernel) (by decide +kernel) (by decide +kernel)
    (by first | exact .inl (by decide +kernel) | exact .inr (by decide +kernel)) (by rw [isSubtype_type]; kernel_rfl)
theorem entry_search : entryFor table "re.Pattern.search" = some Builtin.«re.Pattern.search» := entryFor_of_tree (by kernel_rfl)
theorem args_search (a b : Value) : argsOk "re.Pattern.search" ⟨[a, b], []⟩ := by unfold argsOk; kernel_rfl
theorem type_search : typeOf (.builtin "re.Pattern.search") = pure (.type "method_descriptor") := by show builtinType _ = _; rw [builtinType_eq_fast]; kernel_rfl
theorem slot_sub : Slot "re.Pattern" "sub" "re.Pattern.sub" :=
  .of (owner := "re.Pattern") (n := "sub") (by rw [typeLookup_type, builtinLookup_eq_fast]; kernel_rfl) (by decide +kernel) (by decide +kernel) (by decide +kernel)
    (by first | exact .inl (by decide +kernel) | exact .inr (by decide +kernel)) (by rw [isSubtype_type]; kernel_rfl)
theorem entry_sub : entryFor table "re.Pattern.sub" = some Builtin.«re.Pattern.sub» := entryFor_of_tree (by kernel_rfl)
theorem entry_subloop : entryFor table "re.Pattern.sub.loop" = some Builtin.«re.Pattern.sub.loop» := entryFor_of_tree (by kernel_rfl)
theorem args_sub (a b c : Value) : argsOk "re.Pattern.sub" ⟨[a, b, c], []⟩ := by unfold argsOk; kernel_rfl
theorem type_sub : typeOf (.builtin "re.Pattern.sub") = pure (.type "method_descriptor") := by show builtinType _ = _; rw [builtinType_eq_fast]; kernel_rfl
theorem plain_pattern : PlainAttrs "re.Pattern" :=
  ⟨⟨"object.__getattribute__", by rw [typeLookup_type, builtinLookup_eq_fast]; kernel_rfl, by decide +kernel⟩, by rw [typeLookup_type, builtinLookup_eq_fast]; kernel_rfl⟩

/-- a compiled pattern in the heap, with its code -/
structure IsPat (h : Heap) (pa : Addr) (code : Array Nat) : Prop where
  at_ : ∃ pt pk fl fk g1 g2 ca gk kk, h.get? pa = some { cls := .type "re.Pattern", data := .fields #[.str pt pk, .int fl fk, .int 0 gk, g1, g2, .ref ca, .int 0 kk] } ∧
    ∃ its n, h.get? ca = some { cls := .type "tuple", data := .seq its n } ∧ its.map (fun v => (reRawOf v).toNat) = code

section
variable {prog : Program} {w : World} {A : Around} {s : Shared} {Q : Value → Shared → Prop} {E : Value → Shared → Prop}

theorem getMethod_pat {pa : Addr} {code : Array Nat} {name : Str} {id : String} {pl : Sem Bool} {Q : Value × List Value → Shared → Prop} (hp : IsPat s.heap pa code)
    (slot : Slot "re.Pattern" name id) (hty : typeOf (.builtin id) = pure (.type "method_descriptor")) (h : Q (.builtin id, [.ref pa]) s) :
    wpAny (model prog w) A (getMethod (.ref pa) name pl) Q E s := by
  obtain ⟨pt, pk, fl, fk, g1, g2, ca, gk, kk, ho, _⟩ := hp.at_
  exact getMethod_builtin ⟨_, ho, rfl⟩ plain_pattern slot hty (fun a e => by cases e; exact ⟨_, ho, rfl⟩) h

theorem rawItems {ca : Addr} {its : Array Value} {n : Nat} {Q : Array Int → Shared → Prop} (ho : s.heap.get? ca = some { cls := .type "tuple", data := .seq its n }) (h : Q (its.map reRawOf) s) :
    wpAny (model prog w) A (reRawItems (.ref ca)) Q E s := by
  unfold reRawItems
  exact wpAny_bind (wpAny_seqItems ho rfl (wpAny_pure h))

theorem call_search {pa : Addr} {code : Array Nat} {x : Str} {t : Tok} (hp : IsPat s.heap pa code) (hf : ∀ m : M, m.code = code → m.hasFirstSet = true)
    (hset : ∀ c ∈ x.cps, NotIn code c) (h : Q .none s) :
    wpAny (model prog w) A (call (.builtin "re.Pattern.search") [.ref pa, .str x t]) Q E s := by
  obtain ⟨pt, pk, fl, fk, g1, g2, ca, gk, kk, ho, its, n, hc, hcode⟩ := hp.at_
  refine wpAny_call (codeAny_call_builtin slot_search.plain entry_search (slot_search.check _ _ _ _ _ _ _ _ ⟨_, ho, rfl⟩ (args_search _ _) ?_))
  unfold Builtin.«re.Pattern.search» reTarget
  refine wpAny_bind ?_
  refine wpAny_bind (wpAny_of_eq (show reNamed "re.Pattern.search" "search" ["string", "pos", "endpos"] 1 [.str x t] [] = pure [some (.str x t), none, none] from rfl) ?_)
  refine wpAny_bind (wpAny_pure ?_)
  refine wpAny_bind (wpAny_pure ?_)
  refine wpAny_bind (wpAny_fieldsOf ho rfl ?_)
  refine wpAny_bind (wpAny_of_eq (show reTextOf (.str x t) = pure (x.cps, 0) from rfl) ?_)
  refine wpAny_bind (m := reNoCollectionInside (Value.str x t) 0) ?_
  refine wpAny_of_eq (show reNoCollectionInside (.str x t) 0 = pure () from rfl) ?_
  refine wpAny_bind (rawItems hc ?_)
  refine wpAny_pure ?_
  have hcode' : Array.map (fun x => x.toNat) (Array.map reRawOf its) = code := by rw [Array.map_map]; exact hcode
  have htx : ∀ q, q < min ((2 : Int) ^ 63 - 1).toNat x.cps.size → NotIn code (x.cps.getD q 0) := by
    intro q hq
    have hq' : q < x.cps.size := by omega
    rw [Array.getD_eq_getD_getElem?, Array.getElem?_eq_getElem hq']
    exact hset _ (Array.getElem_mem hq')
  obtain ⟨m', hr, ho'⟩ := @search_none code x.cps (min (0 : Int).toNat x.cps.size) (min ((2 : Int) ^ 63 - 1).toNat x.cps.size) hf htx
  unfold reAnswer
  dsimp only
  rw [hcode']
  refine wpAny_bind (wpAny_reRunToEnd hr (by decide) (.inl ⟨ho', ?_⟩))
  exact wpAny_pure h
end
end
section
local macro_rules | `(tactic| omega) => `(tactic| lia)
theorem IsPat.keeps {h h' : Heap} {pa : Addr} {code : Array Nat} (hp : IsPat h pa code) (hk : ∀ b o, h.get? b = some o → h'.get? b = some o) : IsPat h' pa code := by
  obtain ⟨pt, pk, fl, fk, g1, g2, ca, gk, kk, ho, its, n, hc, hcode⟩ := hp.at_
  exact ⟨pt, pk, fl, fk, g1, g2, ca, gk, kk, hk _ _ ho, its, n, hk _ _ hc, hcode⟩
theorem pat_of {K : Frag} {h : Heap} {pa ca : Addr} {code : Array Nat} {pt : Str} {pk : Tok} {fl : Int} {fk : Tok} {g1 g2 : Value} {gk kk : Tok} {its : Array Value} {n : Nat} (X : K.In h)
    (h1 : K.lookup pa = some { cls := .type "re.Pattern", data := .fields #[.str pt pk, .int fl fk, .int 0 gk, g1, g2, .ref ca, .int 0 kk] })
    (h2 : K.lookup ca = some { cls := .type "tuple", data := .seq its n }) (h3 : its.map (fun v => (Builtin.Re.reRawOf v).toNat) = code) : IsPat h pa code :=
  ⟨pt, pk, fl, fk, g1, g2, ca, gk, kk, X _ _ h1, its, n, X _ _ h2, h3⟩
theorem pat67 {w : World} {h : Heap} (X : (Mine.hd.heap_39 w.params).In h) : IsPat h 67 nameCode := by
  refine' pat_of X ?h1 ?h2 ?h3
  case h1 => k_is
  case h2 => k_is
  case h3 => decide +kernel
theorem pat72 {w : World} {h : Heap} (X : (Mine.hd.heap_39 w.params).In h) : IsPat h 72 valCode := by
  refine' pat_of X ?h1 ?h2 ?h3
  case h1 => k_is
  case h2 => k_is
  case h3 => decide +kernel
theorem pat50 {w : World} {h : Heap} (X : (Mine.hd.heap_39 w.params).In h) : IsPat h 50 dotCode := by
  refine' pat_of X ?h1 ?h2 ?h3
  case h1 => k_is
  case h2 => k_is
  case h3 => decide +kernel
theorem pat55 {w : World} {h : Heap} (X : (Mine.hd.heap_39 w.params).In h) : IsPat h 55 nlCode := by
  refine' pat_of X ?h1 ?h2 ?h3
  case h1 => k_is
  case h2 => k_is
  case h3 => decide +kernel
end
section
theorem at_MConv : True := by
  w_top off
  k_with_none
  k_with "my side" => first | assumption | exact rfl | ((try simp only [depth_under_make, depth_under_kw, depth_in1, depth_deeper, depth_caller, units_in1, units_deeper, Around.mark_units, units_caller] at *); (try dsimp only [Around.deeper, Around.in1] at *); omega)
  k_with "my after" => ((rename (∀ _ _, _ → _) => zq_hkk); (have zq_F' := Fr.keeps' (by assumption) zq_hkk); (have zq_N' := News.keeps' (by assumption) zq_hkk); (try dsimp only); (try k_sweep); (try k_fold))
  k_with "Hid" => (refine Hid.use (by with_reducible assumption) ?_; try dsimp only)
  k_with "execs cons" => (k_here; first | k_gentoks | ((with_reducible refine execs_kont ?_); intro zq_R zq_hR; try dsimp only))
  k_with "getMethod ref" => (k_here; first | refine getMethod_pat (IsPat.keeps (pat67 (by assumption)) (Fr.keep (by assumption))) slot_search type_search ?_ | refine getMethod_pat (IsPat.keeps (pat72 (by assumption)) (Fr.keep (by assumption))) slot_search type_search ?_)
  k_with "call builtin:re.Pattern.search" => (k_here; first | refine call_search (IsPat.keeps (pat67 (by assumption)) (Fr.keep (by assumption))) first_name (by assumption) ?_ | refine call_search (IsPat.keeps (pat72 (by assumption)) (Fr.keep (by assumption))) first_val (by assumption) ?_)
  trivial



theorem notIn_names {x : Str} (h : ∀ c ∈ x.cps, nameCh c) : ∀ c ∈ x.cps, NotIn nameCode c := fun c hc => notIn_name (h c hc)
theorem notIn_vals {x : Str} (h : ∀ c ∈ x.cps, c = 9) : ∀ c ∈ x.cps, NotIn valCode c := fun c hc => by rw [h c hc]; exact notIn_val

theorem convert_name {prog : Program} {w : World} {dp un : Nat} {fr : Option (List Env)} {gd : Option (List Code)} {s : Shared} {b : Heap} {mean : ExcName → Option Value} {mg mb : Str → Option Value} {Q E : Value → Shared → Prop}
    (hd : dp + 1 < recursionLimit) (hu : un + 8 < cLine) (hb : ∀ a o, b.get? a = some o → s.heap.get? a = some o)
    (X : (Mine.hd.heap_39 w.params).In b) (T : Top Mine.hd.view_39 lo mean mg mb b) {self : Value} {x : Str} {t : Tok} (hx : ∀ c ∈ x.cps, nameCh c)
    (ret : ∀ h' tk', (∀ a o, s.heap.get? a = some o → h'.get? a = some o) → Q (.str x t) { s with heap := h', toks := tk' }) :
    wpAny (model prog w) (Around.mk none dp fr gd un) (call (.ref 94) [self, .str x t] [(Str.ofString "name", .bool true)]) Q E s := by
  have hx' := notIn_names hx
  refine wpAny_call ?_
  refine' enterM [] hb (by simp) X T ?k6 ?k7 ?k8 ?k9 ?kB ?_ ?c2 ?c3 ?c4 ?c5
  case k6 => k_is
  case k7 => k_is
  case k8 => (first | omega | (dsimp only [Around.deeper, Around.in1]; omega))
  case k9 => first | exact BindsTo.of_eq rfl | exact binds_K (Frag.In.keeps (by assumption) (by assumption)) rfl (by k_is) rfl rfl rfl
  case kB => exact locs rfl
  case c2 => exact rfl
  case c3 => exact rfl
  case c4 => exact rfl
  case c5 => decide
  k_whole
  intro L' h₁ hL F K₁ X' T'
  have N : News (hideAll s.heap []) L' h₁ [] := News.nil
  (try dsimp only)
  k_steps
  exact ret _ _ (Fr.keep (by assumption))
theorem convert_val {prog : Program} {w : World} {dp un : Nat} {fr : Option (List Env)} {gd : Option (List Code)} {s : Shared} {b : Heap} {mean : ExcName → Option Value} {mg mb : Str → Option Value} {Q E : Value → Shared → Prop}
    (hd : dp + 1 < recursionLimit) (hu : un + 8 < cLine) (hb : ∀ a o, b.get? a = some o → s.heap.get? a = some o)
    (X : (Mine.hd.heap_39 w.params).In b) (T : Top Mine.hd.view_39 lo mean mg mb b) {self : Value} {x : Str} {t : Tok} (hx : ∀ c ∈ x.cps, c = 9)
    (ret : ∀ h' tk', (∀ a o, s.heap.get? a = some o → h'.get? a = some o) → Q (.str x t) { s with heap := h', toks := tk' }) :
    wpAny (model prog w) (Around.mk none dp fr gd un) (call (.ref 94) [self, .str x t] [(Str.ofString "name", .bool false)]) Q E s := by
  have hx' := notIn_vals hx
  refine wpAny_call ?_
  refine' enterM [] hb (by simp) X T ?k6 ?k7 ?k8 ?k9 ?kB ?_ ?c2 ?c3 ?c4 ?c5
  case k6 => k_is
  case k7 => k_is
  case k8 => (first | omega | (dsimp only [Around.deeper, Around.in1]; omega))
  case k9 => first | exact BindsTo.of_eq rfl | exact binds_K (Frag.In.keeps (by assumption) (by assumption)) rfl (by k_is) rfl rfl rfl
  case kB => exact locs rfl
  case c2 => exact rfl
  case c3 => exact rfl
  case c4 => exact rfl
  case c5 => decide
  k_whole
  intro L' h₁ hL F K₁ X' T'
  have N : News (hideAll s.heap []) L' h₁ [] := News.nil
  (try dsimp only)
  k_steps
  exact ret _ _ (Fr.keep (by assumption))
end
section
local macro_rules | `(tactic| omega) => `(tactic| lia)
/-- what a loop's machinery never turns -/
noncomputable def turning : List String := ["list_iterator", "range_iterator", "zip", "tuple_iterator", "frame", "enumerate"]
noncomputable def stable (o : Obj) : Bool := match o.cls, o.data with
  | .type n, .fields _ => !(turning.contains n)
  | _, _ => true
theorem unstable {o : Obj} {n : String} {vs : Array Value} (hc : o.cls = .type n) (hd : o.data = .fields vs) (h : turning.contains n = true := by decide) : stable o = false := by
  unfold stable; rw [hc, hd]; show (!turning.contains n) = false; rw [h]; rfl
theorem stable_nf {o : Obj} (h : ∀ vs, o.data ≠ .fields vs) : stable o = true := by
  unfold stable
  split
  · rename_i e; exact absurd e (h _)
  · rfl
def SK (h h' : Heap) : Prop := ∀ a o, stable o = true → h.get? a = some o → h'.get? a = some o
theorem SK.refl (h : Heap) : SK h h := fun _ _ _ e => e
theorem SK.trans {h₁ h₂ h₃ : Heap} (x : SK h₁ h₂) (y : SK h₂ h₃) : SK h₁ h₃ := fun a o q e => y a o q (x a o q e)
theorem SK.of_keeps {h h' : Heap} (k : ∀ a o, h.get? a = some o → h'.get? a = some o) : SK h h' := fun a o _ e => k a o e

/-- all that the heap holds beyond the base, but the frame and what is hidden -/
noncomputable def sat (h₀ : Heap) (L : Addr) (ms : List Addr) (h : Heap) : List (Addr × Obj) :=
  (List.range h.objs.size).filterMap fun b => if b = L ∨ b ∈ ms ∨ (h₀.get? b).isSome = true then none else (h.get? b).map fun o => (b, o)
theorem mem_sat {h₀ h : Heap} {L : Addr} {ms : List Addr} {a : Addr} {o : Obj} : (a, o) ∈ sat h₀ L ms h ↔ h.get? a = some o ∧ a ≠ L ∧ a ∉ ms ∧ h₀.get? a = none := by
  unfold sat
  rw [List.mem_filterMap]
  constructor
  · rintro ⟨b, hb, e⟩
    split at e
    · cases e
    · rename_i hc
      simp only [not_or] at hc
      obtain ⟨c1, c2, c3⟩ := hc
      cases q : h.get? b with
      | none => rw [q] at e; cases e
      | some x =>
        rw [q] at e
        cases e
        refine ⟨q, c1, c2, ?_⟩
        cases z : h₀.get? a with
        | none => rfl
        | some _ => rw [z] at c3; simp at c3
  · rintro ⟨e, c1, c2, c3⟩
    refine ⟨a, List.mem_range.mpr (Heap.lt_size e), ?_⟩
    rw [if_neg (by simp [c1, c2, c3]), e]
    rfl
theorem news_sat {h₀ h : Heap} {L : Addr} {ms : List Addr} : News h₀ L h (sat h₀ L ms h) := by
  rintro ⟨a, o⟩ hp
  obtain ⟨e, c1, c2, c3⟩ := mem_sat.mp hp
  exact ⟨e, c1, c3⟩
theorem sat_off {h₀ h : Heap} {L : Addr} {ms : List Addr} {d : Addr} (hd : d ∈ ms) : ∀ p ∈ sat h₀ L ms h, p.1 ≠ d := by
  rintro ⟨a, o⟩ hp e
  have e' : a = d := e
  subst e'
  exact (mem_sat.mp hp).2.2.1 hd
/-- what a stretch of a frame's code keeps, from its two ends -/
theorem kept {h₀ h h' : Heap} {L : Addr} {ms : List Addr} {m m' : Str → Option Value} {news : List (Addr × Obj)} (F : Fr h₀ L h m) (F' : Fr h₀ L h' m') (N' : News h₀ L h' news) (hs : ∀ p ∈ sat h₀ L ms h, p ∈ news) :
    ∀ a o, a ≠ L → a ∉ ms → h.get? a = some o → h'.get? a = some o := by
  intro a o c1 c2 e
  cases q : h₀.get? a with
  | some x =>
    have e1 := F.keep a x q
    rw [e] at e1
    cases e1
    exact F'.keep a o q
  | none => exact (N' _ (hs _ (mem_sat.mpr ⟨e, c1, c2, q⟩))).1

section
variable {prog : Program} {w : World} {A : Around} {E : Value → Shared → Prop} {s : Shared} {env : Env} {h₀ : Heap} {target : Expr} {body : List Stmt} {Q : Flow → Shared → Prop}

def TurnM (h₀ : Heap) (L : Addr) (fp : List Addr) (h : Heap) (J : (Str → Option Value) → Heap → Prop) (s : Shared) (Q : Flow → Shared → Prop) (f : Flow) (s₂ : Shared) : Prop :=
  match f with
  | .ret v => Q (.ret v) s₂
  | .brk => Q .next s₂
  | _ => ∃ h' tk m', s₂ = { s with heap := h', toks := tk } ∧ Fr h₀ L h' m' ∧ (∀ b ∈ fp, ∀ o, h.get? b = some o → h'.get? b = some o) ∧ J m' h'

inductive LoopM (prog : Program) (w : World) (A : Around) (h₀ : Heap) (env : Env) (target : Expr) (body : List Stmt) (Q : Flow → Shared → Prop) (E : Value → Shared → Prop) (it : Value) (s : Shared) : Prop
  | mk (I : Addr) (fp wr : List Addr) (n : Nat) (P : Nat → Value → Prop) (St : Nat → Heap → Prop) (m : Str → Option Value) (J : Nat → (Str → Option Value) → Heap → Prop) (w0 : it = .ref I) (w1 : Walks prog w A I fp wr n P St) (w2 : env.locals ∉ fp) (w3 : (∀ b ∈ wr, h₀.get? b = none)) (w4 : (∀ i h, St i h → ∀ b ∈ wr, ∀ o, h.get? b = some o → stable o = false)) (w5 : St 0 s.heap) (w6 : Fr h₀ env.locals s.heap m) (w7 : J 0 m s.heap) (w8 : (∀ i m h h', SK h h' → J i m h → J i m h')) (w9 : (∀ i (s' : Shared) v (Q' : Unit → Shared → Prop), St i s'.heap → Q' () s' → wpAny (model prog w) A (letOwnedTupleGo target (.ref I) v) Q' E s')) (w10 : (∀ i v m₁ h tk, i < n → P i v → J i m₁ h → Fr h₀ env.locals h m₁ → St (i + 1) h → wpAny (model prog w) A (assign target env v) (fun _ s₃ => wpAny (model prog w) A (execs body env) (TurnM h₀ env.locals fp h (J (i + 1)) s Q) E s₃) E { s with heap := h, toks := tk })) (w11 : ∀ h' tk m', Fr h₀ env.locals h' m' → J n m' h' → Q .next { s with heap := h', toks := tk }) : LoopM prog w A h₀ env target body Q E it s

theorem For_M {iter : Expr} {pos : Pos} {m : Str → Option Value} (_F : Fr h₀ env.locals s.heap m)
    (h : wpAny (model prog w) A (eval iter env) (fun xv s₁ => wpAny (model prog w) A (pyIter xv) (fun it s₂ => LoopM prog w A h₀ env target body Q E it s₂) E s₁) E s)
    (hs : ∀ x, foldedSetIterable iter env x = pure x)
    (hE : PassesOwn (model prog w) A env E := by passes_own) :
    wpAny (model prog w) A (exec (.For target iter body [] pos) env) Q E s := by
  refine wpAny_For (wpAny_mono h (fun xv s₁ h₁ => wpAny_mono h₁ (fun it s₂ h₂ => ?_) fun _ _ e => e) fun _ _ e => e) hs
  obtain ⟨I, fp, wr, n, P, St, m, J, rfl, W, hLf, hwr, hun, hst, F, hJ, mono, hgo, turn, done⟩ := h₂
  have hLw : env.locals ∉ wr := fun q => hLf (W.sub _ q)
  have old : ∀ b o, h₀.get? b = some o → b ∉ wr := fun b o e hb => by rw [hwr b hb] at e; cases e
  refine codeAny_forLoop_any
    (fun k s' => ∃ h' tk m' i, s' = { s₂ with heap := h', toks := tk } ∧ St i h' ∧ Fr h₀ env.locals h' m' ∧ J i m' h' ∧ i ≤ n ∧ k = n + 1 - i) ?_ (n + 1)
    ⟨s₂.heap, s₂.toks, m, 0, rfl, hst, F, hJ, Nat.zero_le _, rfl⟩
  rintro k s' ⟨h', tk, m', i, rfl, hst', F', hJ', hi, rfl⟩
  have next : ∀ h₁ : Heap, (∀ b o, b ∉ wr → h'.get? b = some o → h₁.get? b = some o) → Fr h₀ env.locals h₁ m' ∧ SK h' h₁ := fun h₁ hk₁ =>
    ⟨⟨F'.ns.at' fun o e => hk₁ _ o hLw e, fun b o e => hk₁ b o (old b o e) (F'.keep b o e), F'.above⟩, fun a o q e => hk₁ a o (fun hb => by rw [hun _ _ hst' a hb o e] at q; cases q) e⟩
  by_cases hlt : i < n
  · refine W.item i _ _ _ hlt hst' fun v h₁ tk₁ hP hst₁ hk₁ => ?_
    obtain ⟨F₁, K₁⟩ := next h₁ hk₁
    refine wpAny_passesOwn hE (hgo (i + 1) _ v _ hst₁ ?_)
    refine wpAny_passesOwn hE (wpAny_mono (turn i v m' h₁ tk₁ hlt hP (mono _ _ _ _ K₁ hJ') F₁ hst₁) (fun _ s₃ h₃ => wpAny_passesOwn hE (wpAny_mono h₃ (fun f s₄ h₄ => ?_) fun _ _ e => e)) fun _ _ e => e)
    cases f with
    | ret v => exact h₄
    | brk => exact h₄
    | cont =>
      obtain ⟨h₅, tk₅, m₅, rfl, F₅, hf₅, hJ₅⟩ := h₄
      exact ⟨n + 1 - (i + 1), by omega, h₅, tk₅, m₅, i + 1, rfl, W.frame _ _ _ hst₁ hf₅, F₅, hJ₅, hlt, rfl⟩
    | next =>
      obtain ⟨h₅, tk₅, m₅, rfl, F₅, hf₅, hJ₅⟩ := h₄
      exact ⟨n + 1 - (i + 1), by omega, h₅, tk₅, m₅, i + 1, rfl, W.frame _ _ _ hst₁ hf₅, F₅, hJ₅, hlt, rfl⟩
  · have hin : i = n := by omega
    subst hin
    refine W.done _ _ _ hst' fun h₁ tk₁ hk₁ => wpAny_execs_nil ?_
    obtain ⟨F₁, K₁⟩ := next h₁ hk₁
    exact done h₁ tk₁ m' F₁ (mono _ _ _ _ K₁ hJ')

/-- a loop over a list that the heap holds -/
theorem iter_list_M {l : Addr} {items : Array Value} {m : Str → Option Value} (J : Nat → (Str → Option Value) → Heap → Prop) (hh : A.handled = none) (hl : s.heap.IsList l items) (hLl : env.locals ≠ l)
    (F : Fr h₀ env.locals s.heap m) (hJ : J 0 m s.heap) (mono : ∀ i m h h', SK h h' → J i m h → J i m h')
    (turn : ∀ i v m₁ h tk I, items[i]? = some v → J i m₁ h → Fr h₀ env.locals h m₁ → h.IsListIter I l (i + 1) → h.IsList l items → env.locals ≠ I →
      wpAny (model prog w) A (assign target env v) (fun _ s₃ => wpAny (model prog w) A (execs body env) (TurnM h₀ env.locals [I, l] h (J (i + 1)) s Q) E s₃) E { s with heap := h, toks := tk })
    (done : ∀ h' tk m', Fr h₀ env.locals h' m' → J items.size m' h' → Q .next { s with heap := h', toks := tk }) :
    wpAny (model prog w) A (pyIter (.ref l)) (fun it s₂ => LoopM prog w A h₀ env target body Q E it s₂) E s := by
  refine wpAny_pyIter_list hl ?_
  obtain ⟨ol, hol, _⟩ := id hl
  have hne : l ≠ s.heap.objs.size := Nat.ne_of_lt (Heap.lt_size hol)
  have W := Walks.list (prog := prog) (w := w) hh s.heap.objs.size l hne items
  have hIL : env.locals ≠ s.heap.objs.size := Nat.ne_of_lt F.ns.lt
  refine ⟨_, _, _, items.size, _, _, m, J, rfl, W, ?_, ?_, ?_, ⟨⟨_, Heap.get?_push_size _ rfl, rfl, rfl⟩, hl.push _⟩, F.push _, mono _ _ _ _ (SK.of_keeps fun a o e => Heap.get?_push_of_some _ e) hJ, mono, (fun i s' v Q' st hQ' => letGo_listiter st.1 hQ'), ?_, ?_⟩
  · intro hm
    rcases List.mem_cons.mp hm with e | hm
    · exact hIL e
    · exact hLl (List.mem_singleton.mp hm)
  · intro b hb
    rw [List.mem_singleton.mp hb]
    exact next_is_new F
  · rintro i h ⟨⟨o, ho, hc, hd⟩, _⟩ b hb o' ho'
    rw [List.mem_singleton.mp hb, ho] at ho'
    cases ho'
    exact unstable hc hd
  · intro i v m₁ h tk hi hP hJ₁ F₁ st
    exact turn i v m₁ h tk _ hP hJ₁ F₁ st.1 st.2 hIL
  · intro h' tk m' F' hJ'
    exact done h' tk m' F' hJ'
end

theorem Fr.say {h₀ h : PySem.Heap} {L : Addr} {m : Str → Option Value} (F : Fr h₀ L h m) (ps : List (Str × Value)) (e : ∀ p ∈ ps, m p.1 = some p.2) : Fr h₀ L h (fun y => kstB m ps y) := by
  have q : (fun y => kstB m ps y) = m := by
    funext y
    exact kstB_eq e fun _ => rfl
  rw [q]; exact F

/-- kept, said at a turn's start -/
def Kept (h₀ h : PySem.Heap) (L : Addr) (ms : List Addr) : Prop := ∀ h' m' news, Fr h₀ L h' m' → News h₀ L h' news → (∀ p ∈ sat h₀ L ms h, p ∈ news) → ∀ a o, a ≠ L → a ∉ ms → h.get? a = some o → h'.get? a = some o
theorem Kept.of {h₀ h : PySem.Heap} {L : Addr} {ms : List Addr} {m : Str → Option Value} (F : Fr h₀ L h m) : Kept h₀ h L ms := fun _ _ _ F' N' hs => kept F F' N' hs

theorem TurnM.next {h₀ : PySem.Heap} {L I l : Addr} {h h' : PySem.Heap} {tk : Nat} {m' : Str → Option Value} {news : List (Addr × Obj)} {J : (Str → Option Value) → PySem.Heap → Prop} {s : Shared} {Q : Flow → Shared → Prop} {ms : List Addr}
    (KP : Kept h₀ h L ms) (F' : Fr h₀ L h' m') (N' : News h₀ L h' news) (hs : ∀ p ∈ sat h₀ L ms h, p ∈ news) (hI : L ≠ I) (hl : L ≠ l) (hIm : I ∉ ms) (hlm : l ∉ ms)
    (hJ : (∀ a o, a ≠ L → a ∉ ms → h.get? a = some o → h'.get? a = some o) → J m' h') : TurnM h₀ L [I, l] h J s Q .next { s with heap := h', toks := tk } := by
  have k := KP _ _ _ F' N' hs
  refine ⟨h', tk, m', rfl, F', fun b hb o e => ?_, hJ k⟩
  rcases List.mem_cons.mp hb with rfl | hb
  · exact k _ _ (Ne.symm hI) hIm e
  · rw [List.mem_singleton.mp hb] at e ⊢
    exact k _ _ (Ne.symm hl) hlm e
theorem TurnM.cont {h₀ : PySem.Heap} {L : Addr} {fp : List Addr} {h : PySem.Heap} {J : (Str → Option Value) → PySem.Heap → Prop} {s s₂ : Shared} {Q : Flow → Shared → Prop}
    (x : TurnM h₀ L fp h J s Q .next s₂) : TurnM h₀ L fp h J s Q .cont s₂ := x
end
section
abbrev Know := Addr → Obj → Prop
abbrev Heap.At (h : PySem.Heap) : Know := fun a o => h.get? a = some o
abbrev tupObj (vs : List Value) (n : Nat) : Obj := { cls := .type "tuple", data := .seq vs.toArray n }

theorem Paired.mono {α β : Type} {F G : α → β → Prop} (hFG : ∀ a b, F a b → G a b) {l₁ : List α} {l₂ : List β} (h : PySem.Paired F l₁ l₂) : PySem.Paired G l₁ l₂ := by
  induction h with
  | nil => exact .nil
  | cons h _ ih => exact .cons (hFG _ _ h) ih
theorem Paired.len {α β : Type} {F : α → β → Prop} {l₁ : List α} {l₂ : List β} (h : PySem.Paired F l₁ l₂) : l₁.length = l₂.length := by
  induction h with
  | nil => rfl
  | cons _ _ ih => simp [ih]
theorem Paired.get {α β : Type} {F : α → β → Prop} {l₁ : List α} {l₂ : List β} (h : PySem.Paired F l₁ l₂) : ∀ {i : Nat} {a : α}, l₁[i]? = some a → ∃ b, l₂[i]? = some b ∧ F a b := by
  induction h with
  | nil => intro i a e; simp at e
  | @cons a b l₁ l₂ h _ ih =>
    intro i x e
    cases i with
    | zero => simp only [List.getElem?_cons_zero, Option.some.injEq] at e ⊢; subst e; exact ⟨_, rfl, h⟩
    | succ i => simp only [List.getElem?_cons_succ] at e ⊢; exact ih e

/-- a pair of texts -/
inductive RowAt (K : Know) (v : Value) (r : Str × Str) : Prop
  | mk (a) (t) (u) (n) (w0 : v = .ref a) (w1 : K a (tupObj [.str r.1 t, .str r.2 u] n)) : RowAt K v r
inductive RowsAt (K : Know) (l : Addr) (rows : List (Str × Str)) : Prop
  | mk (vs) (n) (w0 : K l (listOf vs.toArray n)) (w1 : PySem.Paired (RowAt K) vs rows) : RowsAt K l rows
theorem RowAt.mono {K K' : Know} (hk : ∀ a o, stable o = true → K a o → K' a o) {v : Value} {r : Str × Str} (h : RowAt K v r) : RowAt K' v r := by
  obtain ⟨a, t, u, n, e, x⟩ := h; exact ⟨a, t, u, n, e, hk _ _ rfl x⟩
theorem RowsAt.mono {K K' : Know} (hk : ∀ a o, stable o = true → K a o → K' a o) {l : Addr} {rows : List (Str × Str)} (h : RowsAt K l rows) : RowsAt K' l rows := by
  obtain ⟨vs, n, x, p⟩ := h; exact ⟨vs, n, hk _ _ rfl x, Paired.mono (fun _ _ => RowAt.mono hk) p⟩

/-- a Headers object with its table -/
inductive HdrAt (K : Know) (a l : Addr) : Prop
  | mk (dx) (hs) (tk) (w0 : K a (instObj 195 dx)) (w1 : K dx (dictOf [⟨hs, .str (Str.ofString "_headers") tk, .ref l⟩] 1)) : HdrAt K a l
theorem HdrAt.mono {K K' : Know} (hk : ∀ a o, stable o = true → K a o → K' a o) {a l : Addr} (h : HdrAt K a l) : HdrAt K' a l := by
  obtain ⟨dx, hs, tk, x, y⟩ := h; exact ⟨dx, hs, tk, hk _ _ rfl x, hk _ _ rfl y⟩

theorem inst_keep {h h' : PySem.Heap} {x C dx : Addr} {od : Obj} (I : InstAt h x (instObj C dx) C (some od)) (hk : ∀ a o, h.get? a = some o → h'.get? a = some o) : InstAt h' x (instObj C dx) C (some od) :=
  ⟨hk _ _ I.at_, rfl, rfl, hk _ _ I.dict⟩
theorem HdrAt.inst {h : PySem.Heap} {a l : Addr} (H : HdrAt (Heap.At h) a l) : ∃ dx hs tk, InstAt h a (instObj 195 dx) 195 (some (dictOf [⟨hs, .str (Str.ofString "_headers") tk, .ref l⟩] 1)) := by
  obtain ⟨dx, hs, tk, x, y⟩ := H
  exact ⟨dx, hs, tk, x, rfl, rfl, y⟩

/-- what Headers.get finds -/
noncomputable def getRow (rows : List (Str × Str)) (name : Str) : Option Str := (rows.find? (fun r => Txt.lower r.1 == Txt.lower name)).map (·.2)
def NameOk (x : Str) : Prop := x.cps.size ≤ 60 ∧ ∀ c ∈ x.cps, nameCh c
def ValOk (x : Str) : Prop := x.cps.size ≤ 60 ∧ ∀ c ∈ x.cps, c = 9
def RowOk (r : Str × Str) : Prop := NameOk r.1 ∧ ValOk r.2
theorem nameCh_lo {c : Nat} (h : nameCh c) : nameCh (lo1 c) := by
  rcases h with rfl | rfl | rfl | rfl | rfl | rfl | rfl <;> (unfold nameCh; decide)
theorem NameOk.ascii {x : Str} (h : NameOk x) : ∀ c ∈ x.cps.toList, c < 128 := by
  intro c hc
  have := h.2 c (Array.mem_toList_iff.mp hc)
  rcases this with rfl | rfl | rfl | rfl | rfl | rfl | rfl <;> decide
theorem NameOk.lower_eq {x : Str} (h : NameOk x) : Txt.lower x = ⟨x.cps.map lo1⟩ := lower_ascii h.ascii
theorem NameOk.lower {x : Str} (h : NameOk x) : NameOk (Txt.lower x) := by
  rw [h.lower_eq]
  refine ⟨by simpa using h.1, fun c hc => ?_⟩
  obtain ⟨d, hd, rfl⟩ := Array.mem_map.mp hc
  exact nameCh_lo (h.2 d hd)
theorem NameOk.fit {x : Str} (h : NameOk x) : Builtin.Str.tooLong x.length = false := by
  unfold Builtin.Str.tooLong
  have := h.1
  show decide (x.length > sizeLine) = false
  rw [sizeLine_eq]
  have e : x.length = x.cps.size := rfl
  simp only [decide_eq_false_iff_not]
  omega
end
section
theorem at_MGet : True := by
  w_top off
  k_with_none
  k_with "my side" => first | assumption | exact rfl | ((try simp only [depth_under_make, depth_under_kw, depth_in1, depth_deeper, depth_caller, units_in1, units_deeper, Around.mark_units, units_caller] at *); (try dsimp only [Around.deeper, Around.in1] at *); omega)
  k_with "my after" => ((rename (∀ _ _, _ → _) => zq_hkk); (have zq_F' := Fr.keeps' (by assumption) zq_hkk); (have zq_N' := News.keeps' (by assumption) zq_hkk); (try dsimp only); (try k_sweep); (try k_fold))
  k_with "Hid" => (refine Hid.use (by with_reducible assumption) ?_; try dsimp only)
  k_with "execs cons" => (k_here; first | k_gentoks | ((with_reducible refine execs_kont ?_); intro zq_R zq_hR; try dsimp only))
  k_with "execs cons" => (k_here; first | k_gentoks | ((with_reducible refine wpAny_execs_cons ?_); try dsimp only))
  k_with "call ref" => (k_here; (with_reducible show wpAny _ _ (PySem.call (Value.ref 94) _ _) _ _ _); (with_unfolding_all first | refine' convert_name (by walk_at "my side") (by walk_at "my side") (by exact Fr.keep (by assumption)) (by assumption) (by assumption) (by assumption) ?_ | refine' convert_val (by walk_at "my side") (by walk_at "my side") (by exact Fr.keep (by assumption)) (by assumption) (by assumption) (by assumption) ?_); k_whole; intro zq_h' zq_tk' zq_hk'; walk_at "my after")
  k_with "exec For Tuple Attribute" => (k_here; (with_reducible show wpAny _ _ (exec (Stmt.For _ _ _ [] _) _) _ _ _); refine For_M (by assumption) ?_ (by intro _; rfl))
  k_with "exec For Tuple Name" => (k_here; (with_reducible show wpAny _ _ (exec (Stmt.For _ _ _ [] _) _) _ _ _); refine For_M (by assumption) ?_ (by intro _; rfl))
  trivial



local macro_rules | `(tactic| k_inst) => `(tactic| exact inst_keep (by assumption) (Fr.keep (by assumption)))
theorem getRow_hit {rows : List (Str × Str)} {name : Str} {i : Nat} {r : Str × Str} (h : rows[i]? = some r) (h1 : ∀ r ∈ rows.take i, (Txt.lower r.1 == Txt.lower name) = false) (h2 : (Txt.lower r.1 == Txt.lower name) = true) :
    getRow rows name = some r.2 := by
  have e : rows = rows.take i ++ r :: rows.drop (i + 1) := by
    have ht := List.take_append_drop (i + 1) rows
    rw [List.take_add_one, h, List.append_assoc] at ht
    exact ht.symm
  unfold getRow
  rw [e, List.find?_append, List.find?_eq_none.mpr (fun x hx => by rw [h1 x hx]; simp)]
  simp [h2]
theorem getRow_miss {rows : List (Str × Str)} {name : Str} (h1 : ∀ r ∈ rows, (Txt.lower r.1 == Txt.lower name) = false) : getRow rows name = none := by
  unfold getRow
  rw [List.find?_eq_none.mpr (fun x hx => by rw [h1 x hx]; simp)]
  rfl

theorem get_ok {prog : Program} {w : World} {dp un : Nat} {fr : Option (List Env)} {gd : Option (List Code)} {s : Shared} {b : PySem.Heap} {mean : ExcName → Option Value} {mg mb : Str → Option Value} {Q E : Value → Shared → Prop}
    (hd : dp + 2 < recursionLimit) (hu : un + 16 < cLine) (hb : ∀ a o, b.get? a = some o → s.heap.get? a = some o)
    (X : (Mine.hd.heap_39 w.params).In b) (T : Top Mine.hd.view_39 lo mean mg mb b) {self l : Addr} {name : Str} {t : Tok} {rows : List (Str × Str)}
    (H : HdrAt (Heap.At s.heap) self l) (R : RowsAt (Heap.At s.heap) l rows) (hn : NameOk name) (hr : ∀ r ∈ rows, NameOk r.1)
    (ret : ∀ v h' tk', (∀ a o, s.heap.get? a = some o → h'.get? a = some o) → (match getRow rows name with | some x => ∃ u, v = .str x u | none => v = .none) → Q v { s with heap := h', toks := tk' }) :
    wpAny (model prog w) (Around.mk none dp fr gd un) (call (.ref 142) [.ref self, .str name t]) Q E s := by
  obtain ⟨dx, hs, tk, I⟩ := H.inst
  obtain ⟨vs, n, hl, hp⟩ := R
  have hlen : name.length ≤ 60 := hn.1
  have hnl := hn.lower
  have hnc := hnl.2
  refine wpAny_call ?_
  refine' enterM (binds := [(Str.ofString "self", .ref self), (Str.ofString "name", .str name t), (Str.ofString "default", .none)]) [] hb (by simp) X T ?k6 ?k7 ?k8 ?k9 ?kB ?_ ?c2 ?c3 ?c4 ?c5
  case k6 => k_is
  case k7 => k_is
  case k8 => (first | omega | (dsimp only [Around.deeper, Around.in1]; omega))
  case k9 => first | exact BindsTo.of_eq rfl | exact binds_K (Frag.In.keeps (by assumption) (by assumption)) rfl (by k_is) rfl rfl rfl
  case kB => exact locs rfl
  case c2 => exact rfl
  case c3 => exact rfl
  case c4 => exact rfl
  case c5 => decide
  k_whole
  intro L' h₁ hL F K₁ X' T'
  have N : News (hideAll s.heap []) L' h₁ [] := News.nil
  have I' : InstAt (hideAll s.heap []) self (instObj 195 dx) 195 (some (dictOf [⟨hs, .str (Str.ofString "_headers") tk, .ref l⟩] 1)) := I
  (try dsimp only)
  k_steps
  refine iter_list_M (l := l) (items := vs.toArray) (fun i m _ => (∃ t', m (Str.ofString "name") = some (.str (Txt.lower name) t')) ∧ m (Str.ofString "default") = some .none ∧ ∀ r ∈ rows.take i, (Txt.lower r.1 == Txt.lower name) = false) rfl ?h2 ?h3 (by assumption) ⟨⟨_, rfl⟩, rfl, by simp⟩ (fun _ _ _ _ _ h => h) ?_ ?_
  case h2 => exact ⟨_, Fr.keep (by assumption) _ _ hl, rfl, _, rfl⟩
  case h3 => exact Nat.ne_of_gt (hL ▸ Heap.lt_size hl)
  · intro i v m₁ h tk I hv ⟨⟨t', e1⟩, e2, e3⟩ F₁ hI hlst hne
    obtain ⟨r, hri, a, t1, u1, n1, rfl, ha⟩ := Paired.get hp (by simpa using hv)
    have F₂ := Fr.say F₁ [(Str.ofString "name", .str (Txt.lower name) t'), (Str.ofString "default", .none)] (List.forall_mem_cons.mpr ⟨e1, List.forall_mem_cons.mpr ⟨e2, fun _ h => nomatch h⟩⟩)
    have N₂ : News (hideAll s.heap []) L' h (sat (hideAll s.heap []) L' [] h) := news_sat
    have hT : IsTup (hideAll s.heap []) a [Value.str r.1 t1, Value.str r.2 u1].toArray := ⟨_, ha, rfl, _, rfl⟩
    have hlen2 : r.1.length ≤ 60 := (hr r (List.mem_of_getElem? hri)).1
    have KP : Kept (hideAll s.heap []) h L' [] := Kept.of F₁
    k_steps
    · exact ret _ _ _ (Fr.keep (by assumption)) (by rw [getRow_hit hri e3 (by assumption)]; exact ⟨_, rfl⟩)
    · refine TurnM.next KP (by assumption) (by assumption) (fun _ h => h) hne (Nat.ne_of_gt (hL ▸ Heap.lt_size hl)) (by simp) (by simp) fun _ => ⟨⟨_, rfl⟩, rfl, ?_⟩
      intro r' hr'
      rw [List.take_add_one, hri] at hr'
      rcases List.mem_append.mp hr' with q | q
      · exact e3 r' q
      · cases (List.mem_singleton.mp q); assumption
  · intro h tk m' F' ⟨⟨t', e1⟩, e2, e3⟩
    have F₂ := Fr.say F' [(Str.ofString "name", .str (Txt.lower name) t'), (Str.ofString "default", .none)] (List.forall_mem_cons.mpr ⟨e1, List.forall_mem_cons.mpr ⟨e2, fun _ h => nomatch h⟩⟩)
    have N₂ : News (hideAll s.heap []) L' h [] := News.nil
    (try dsimp only)
    k_steps
    exact ret _ _ _ (Fr.keep (by assumption)) (by rw [getRow_miss (by simpa [Paired.len hp] using e3)])
end
section
theorem at_MSetd : True := by
  w_top off
  k_with_none
  k_with "my side" => first | assumption | exact rfl | ((try simp only [depth_under_make, depth_under_kw, depth_in1, depth_deeper, depth_caller, units_in1, units_deeper, Around.mark_units, units_caller] at *); (try dsimp only [Around.deeper, Around.in1] at *); omega)
  k_with "my after" => ((rename (∀ _ _, _ → _) => zq_hkk); (have zq_F' := Fr.keeps' (by assumption) zq_hkk); (have zq_N' := News.keeps' (by assumption) zq_hkk); (try dsimp only); (try k_sweep); (try k_fold))
  k_with "Hid" => (refine Hid.use (by with_reducible assumption) ?_; try dsimp only)
  k_with "execs cons" => (k_here; first | k_gentoks | ((with_reducible refine execs_kont ?_); intro zq_R zq_hR; try dsimp only))
  k_with "execs cons" => (k_here; first | k_gentoks | ((with_reducible refine wpAny_execs_cons ?_); try dsimp only))
  k_with "call ref" => (k_here; (with_reducible show wpAny _ _ (PySem.call (Value.ref 94) _ _) _ _ _); (with_unfolding_all first | refine' convert_name (by walk_at "my side") (by walk_at "my side") (by exact Fr.keep (by assumption)) (by assumption) (by assumption) (by assumption) ?_ | refine' convert_val (by walk_at "my side") (by walk_at "my side") (by exact Fr.keep (by assumption)) (by assumption) (by assumption) (by assumption) ?_); k_whole; intro zq_h' zq_tk' zq_hk'; walk_at "my after")
  trivial



local macro_rules | `(tactic| k_inst) => `(tactic| exact inst_keep (by assumption) (Fr.keep (by assumption)))
theorem HdrAt.keeps {h h' : PySem.Heap} {a l : Addr} (H : HdrAt (Heap.At h) a l) (hk : ∀ b o, h.get? b = some o → h'.get? b = some o) : HdrAt (Heap.At h') a l := H.mono fun a o _ e => hk a o e
theorem rowsAt_of {h₀ h : PySem.Heap} {L l : Addr} {m : Str → Option Value} {news : List (Addr × Obj)} {vs : List Value} {n : Nat} {rows : List (Str × Str)} (F : Fr h₀ L h m) (N : News h₀ L h news) (hm : (l, listOf vs.toArray n) ∈ news)
    (RP : PySem.Paired (RowAt (Heap.At h₀)) vs rows) : RowsAt (Heap.At h) l rows := ⟨vs, n, (N _ hm).1, Paired.mono (fun _ _ => RowAt.mono fun a o _ e => F.keep a o e) RP⟩
theorem HdrAt.hide {h : PySem.Heap} {a l l' : Addr} {vs : Array Value} {n : Nat} (H : HdrAt (Heap.At h) a l) (e : h.get? l' = some (listOf vs n)) : HdrAt (Heap.At (hideAll h [l'])) a l := by
  obtain ⟨dx, hs, tk, x, y⟩ := H
  refine ⟨dx, hs, tk, hideAll_get _ x fun q => ?_, hideAll_get _ y fun q => ?_⟩
  · have x' : h.get? a = some _ := x; rw [List.mem_singleton.mp q, e] at x'; simp at x'
  · have y' : h.get? dx = some _ := y; rw [List.mem_singleton.mp q, e] at y'; simp at y'
theorem RowAt.hide {h : PySem.Heap} {l' : Addr} {vs : Array Value} {n : Nat} {v : Value} {r : Str × Str} (H : RowAt (Heap.At h) v r) (e : h.get? l' = some (listOf vs n)) : RowAt (Heap.At (hideAll h [l'])) v r := by
  obtain ⟨a, t, u, k, rfl, x⟩ := H
  refine ⟨a, t, u, k, rfl, hideAll_get _ x fun q => ?_⟩
  have x' : h.get? a = some _ := x
  rw [List.mem_singleton.mp q, e] at x'; simp at x'
theorem name1' {h₀ h : PySem.Heap} {L a : Addr} {o1 : Obj} {l : List (Addr × Obj)} (_ : News h₀ L h ((a, o1) :: l)) : ∃ x, x = a := ⟨_, rfl⟩
theorem setdefault_ok {prog : Program} {w : World} {dp un : Nat} {fr : Option (List Env)} {gd : Option (List Code)} {s : Shared} {b : PySem.Heap} {mean : ExcName → Option Value} {mg mb : Str → Option Value} {Q E : Value → Shared → Prop}
    (hd : dp + 3 < recursionLimit) (hu : un + 24 < cLine) (hb : ∀ a o, b.get? a = some o → s.heap.get? a = some o)
    (X : (Mine.hd.heap_39 w.params).In b) (T : Top Mine.hd.view_39 lo mean mg mb b) {self l : Addr} {name val : Str} {t u : Tok} {rows : List (Str × Str)}
    {vs : List Value} {n : Nat} (hbl : b.get? l = none) (H : HdrAt (Heap.At s.heap) self l) (hl : s.heap.get? l = some (listOf vs.toArray n)) (hp : PySem.Paired (RowAt (Heap.At s.heap)) vs rows) (hn : NameOk name) (hv : ValOk val) (hr : ∀ r ∈ rows, NameOk r.1) (hlen : rows.length ≤ 1000)
    (ret : ∀ v h' tk', (∀ a o, a ≠ l → s.heap.get? a = some o → h'.get? a = some o) → (∃ rvs' n', h'.get? l = some (listOf (rvs' : List Value).toArray n') ∧ match getRow rows name with
        | some _ => rvs' = vs
        | none => ∃ T t u k, rvs' = vs ++ [.ref T] ∧ h'.get? T = some (tupObj [.str name t, .str val u] k) ∧ s.heap.get? T = none) →
      (∃ u', v = .str ((getRow rows name).getD val) u') → Q v { s with heap := h', toks := tk' }) :
    wpAny (model prog w) (Around.mk none dp fr gd un) (call (.ref 185) [.ref self, .str name t, .str val u]) Q E s := by
  refine wpAny_call ?_
  refine' enterM (binds := [(Str.ofString "self", .ref self), (Str.ofString "name", .str name t), (Str.ofString "value", .str val u)]) [l] hb (by simpa using hbl) X T ?k6 ?k7 ?k8 ?k9 ?kB ?_ ?c2 ?c3 ?c4 ?c5
  case k6 => k_is
  case k7 => k_is
  case k8 => (first | omega | (dsimp only [Around.deeper, Around.in1]; omega))
  case k9 => first | exact BindsTo.of_eq rfl | exact binds_K (Frag.In.keeps (by assumption) (by assumption)) rfl (by k_is) rfl rfl rfl
  case kB => exact locs rfl
  case c2 => exact rfl
  case c3 => exact rfl
  case c4 => exact rfl
  case c5 => decide
  k_whole
  intro L' h₁ hL F K₁ X' T'
  have N : News (hideAll s.heap [l]) L' h₁ [(l, listOf vs.toArray n)] := by
    intro p hp
    rw [List.mem_singleton.mp hp]
    exact ⟨K₁ _ _ hl, Nat.ne_of_lt (hL ▸ Heap.lt_size hl), hideAll_none _ (by simp)⟩
  have HG := H.hide hl
  obtain ⟨dx, hs, tk, I'⟩ := HG.inst
  have RP : PySem.Paired (RowAt (Heap.At (hideAll s.heap [l]))) vs rows := Paired.mono (fun _ _ x => x.hide hl) hp
  (try dsimp only)
  k_steps
  with_unfolding_all refine' get_ok (rows := rows) ?hd ?hu (Fr.keep (by assumption)) (by assumption) (by assumption) (HdrAt.keeps HG (Fr.keep (by assumption))) (rowsAt_of (by assumption) (by assumption) (by k_mem) RP) hn hr ?_
  case hd => walk_at "my side"
  case hu => walk_at "my side"
  intro v h' tk' hk' hv'
  walk_at "my after"
  have hnc := hn.2
  have hvl : vs.length ≤ 1000 := by rw [Paired.len hp]; exact hlen
  have hvc := hv.2
  cases hg : getRow rows name with
  | some x =>
    rw [hg] at hv'
    obtain ⟨u', rfl⟩ := hv'
    k_steps
    refine ret _ _ _ (fun a o ha e => Fr.keep (by assumption) a o (hideAll_get _ e (by simpa using ha))) ?_ ?_
    · rw [hg]
      rename News _ _ _ _ => N9
      rename Fr _ _ _ _ => F9
      exact ⟨vs, n, (N9 _ (by k_mem)).1, rfl⟩
    · rw [hg]; exact ⟨_, rfl⟩
  | none =>
    rw [hg] at hv'
    obtain rfl : v = .none := hv'
    k_steps
    refine ret _ _ _ (fun a o ha e => Fr.keep (by assumption) a o (hideAll_get _ e (by simpa using ha))) ?_ ?_
    · rw [hg]
      rename News _ _ _ _ => N9
      rename Fr _ _ _ _ => F9
      obtain ⟨T9, e⟩ := name1' N9
      subst e
      have q1 := (N9 _ (.head _)).2.2
      have hne : T9 ≠ l := neN (by omega)
      have hfr : s.heap.get? T9 = none := by
        cases q : s.heap.get? T9 with
        | none => rfl
        | some o => rw [hideAll_get _ q (by simpa using hne)] at q1; cases q1
      refine ⟨vs ++ [.ref T9], n + 1, ?_, T9, _, _, _, rfl, (N9 _ (.head _)).1, hfr⟩
      rw [← List.push_toArray]
      exact (N9 (l, _) (.tail _ (.head _))).1
    · rw [hg]; exact ⟨_, rfl⟩
end
section
theorem at_MInit : True := by
  w_top off
  k_with_none
  k_with "my side" => first | assumption | exact rfl | ((try simp only [depth_under_make, depth_under_kw, depth_in1, depth_deeper, depth_caller, units_in1, units_deeper, Around.mark_units, units_caller] at *); (try dsimp only [Around.deeper, Around.in1] at *); omega)
  k_with "my after" => ((rename (∀ _ _, _ → _) => zq_hkk); (have zq_F' := Fr.keeps' (by assumption) zq_hkk); (have zq_N' := News.keeps' (by assumption) zq_hkk); (try dsimp only); (try k_sweep); (try k_fold))
  k_with "Hid" => (refine Hid.use (by with_reducible assumption) ?_; try dsimp only)
  k_with "execs cons" => (k_here; first | k_gentoks | ((with_reducible refine execs_kont ?_); intro zq_R zq_hR; try dsimp only))
  k_with "execs cons" => (k_here; first | k_gentoks | ((with_reducible refine wpAny_execs_cons ?_); try dsimp only))
  k_with "call ref" => (k_here; (with_reducible show wpAny _ _ (PySem.call (Value.ref 94) _ _) _ _ _); (with_unfolding_all first | refine' convert_name (by walk_at "my side") (by walk_at "my side") (by exact Fr.keep (by assumption)) (by assumption) (by assumption) (by assumption) ?_ | refine' convert_val (by walk_at "my side") (by walk_at "my side") (by exact Fr.keep (by assumption)) (by assumption) (by assumption) (by assumption) ?_); k_whole; intro zq_h' zq_tk' zq_hk'; walk_at "my after")
  k_with "call type:type" => (k_here; (with_reducible show wpAny _ _ (PySem.call (Value.type "type") [Value.ref _]) _ _ _); refine call_type_of (Tx := "list") (PySem.Heap.IsList.typeIs (Fr.lst (by assumption) (by assumption))) (by decide) ?_)
  k_with "exec For Tuple Name" => (k_here; (with_reducible show wpAny _ _ (exec (Stmt.For _ _ _ [] _) _) _ _ _); refine For_M (by assumption) ?_ (by intro _; rfl))
  trivial



local macro_rules | `(tactic| k_inst) => `(tactic| exact inst_keep (by assumption) (Fr.keep (by assumption)))
theorem init_ok {prog : Program} {w : World} {dp un : Nat} {fr : Option (List Env)} {gd : Option (List Code)} {s : Shared} {b : PySem.Heap} {mean : ExcName → Option Value} {mg mb : Str → Option Value} {Rs : Result → Shared → Prop}
    (hd : dp + 2 < recursionLimit) (hu : un + 16 < cLine) (hb : ∀ a o, b.get? a = some o → s.heap.get? a = some o)
    (X : (Mine.hd.heap_39 w.params).In b) (T : Top Mine.hd.view_39 lo mean mg mb b) {x dx l : Addr} {rows : List (Str × Str)}
    (hbx : b.get? x = none) (hbd : b.get? dx = none) (hx : s.heap.get? x = some (instObj 195 dx)) (hdx : s.heap.get? dx = some (dictOf [] 0)) (R : RowsAt (Heap.At s.heap) l rows) (hr : ∀ r ∈ rows, RowOk r)
    (ret : ∀ h' tk', (∀ a o, a ≠ x → a ≠ dx → s.heap.get? a = some o → h'.get? a = some o) → (h'.get? x = some (instObj 195 dx) ∧ ∃ hs tk, h'.get? dx = some (dictOf [⟨hs, .str (Str.ofString "_headers") tk, .ref l⟩] 1)) → Rs (.ok (.ret .none)) { s with heap := h', toks := tk' }) :
    codeAny (model prog w) (Around.mk none dp fr gd un) (.call (.ref 87) ⟨[.ref x, .ref l], []⟩) Rs s := by
  obtain ⟨vs, n, hl, hp⟩ := R
  refine' enterM (binds := [(Str.ofString "self", .ref x), (Str.ofString "headers", .ref l)]) [x, dx] hb (by simp [hbx, hbd]) X T ?k6 ?k7 ?k8 ?k9 ?kB ?_ ?c2 ?c3 ?c4 ?c5
  case k6 => k_is
  case k7 => k_is
  case k8 => (first | omega | (dsimp only [Around.deeper, Around.in1]; omega))
  case k9 => first | exact BindsTo.of_eq rfl | exact binds_K (Frag.In.keeps (by assumption) (by assumption)) rfl (by k_is) rfl rfl rfl
  case kB => exact locs rfl
  case c2 => exact rfl
  case c3 => exact rfl
  case c4 => exact rfl
  case c5 => decide
  k_whole
  intro L' h₁ hL F K₁ X' T'
  have N : News (hideAll s.heap [x, dx]) L' h₁ [(x, instObj 195 dx), (dx, dictOf [] 0)] := by
    intro p hp
    rcases List.mem_cons.mp hp with rfl | hp
    · exact ⟨K₁ _ _ hx, Nat.ne_of_lt (hL ▸ Heap.lt_size hx), hideAll_none _ (by simp)⟩
    · rw [List.mem_singleton.mp hp]
      exact ⟨K₁ _ _ hdx, Nat.ne_of_lt (hL ▸ Heap.lt_size hdx), hideAll_none _ (by simp)⟩
  have nxd : x ≠ dx := fun q => by rw [q, hdx] at hx; simp at hx
  have hlx : l ≠ x := fun q => by have hl' : s.heap.get? l = some _ := hl; rw [q, hx] at hl'; simp at hl'
  have hld : l ≠ dx := fun q => by have hl' : s.heap.get? l = some _ := hl; rw [q, hdx] at hl'; simp at hl'
  have hlg : (hideAll s.heap [x, dx]).IsList l vs.toArray := ⟨_, hideAll_get _ hl (by simp [hlx, hld]), rfl, _, rfl⟩
  (try dsimp only)
  k_steps
  rename News _ _ _ _ => N9
  refine iter_list_M (l := l) (items := vs.toArray) (fun i m h => m (Str.ofString "self") = some (.ref x) ∧ h.get? x = some (instObj 195 dx) ∧ ∃ hs tk, h.get? dx = some (dictOf [⟨hs, .str (Str.ofString "_headers") tk, .ref l⟩] 1)) rfl ?h2 ?h3 (by assumption)
    ⟨rfl, (N9 (x, _) (.head _)).1, _, _, (N9 (dx, _) (.tail _ (.head _))).1⟩ (fun _ _ _ _ k ⟨e1, e2, hs, tk, e3⟩ => ⟨e1, k _ _ rfl e2, hs, tk, k _ _ rfl e3⟩) ?_ ?_
  case h2 => exact Fr.lst (by assumption) (by assumption)
  case h3 => exact Nat.ne_of_gt (hL ▸ Heap.lt_size hl)
  · intro i v m₁ h tk I hv ⟨e1, hx1, hs, tk', hd1⟩ F₁ hI hlst hne
    obtain ⟨r, hri, a, t1, u1, n1, rfl, ha⟩ := Paired.get hp (by simpa using hv)
    have hrow := hr r (List.mem_of_getElem? hri)
    have ha' : s.heap.get? a = some _ := ha
    have hT : IsTup (hideAll s.heap [x, dx]) a [Value.str r.1 t1, Value.str r.2 u1].toArray := ⟨_, hideAll_get _ ha (by
      simp only [List.mem_cons, List.not_mem_nil, or_false, not_or]
      exact ⟨fun q => by rw [q, hx] at ha'; simp at ha', fun q => by rw [q, hdx] at ha'; simp at ha'⟩), rfl, _, rfl⟩
    have hnc := hrow.1.2
    have hvc := hrow.2.2
    have KP : Kept (hideAll s.heap [x, dx]) h L' [] := Kept.of F₁
    have F₂ := Fr.say F₁ [(Str.ofString "self", .ref x)] (List.forall_mem_cons.mpr ⟨e1, fun _ h => nomatch h⟩)
    have N₂ : News (hideAll s.heap [x, dx]) L' h (sat (hideAll s.heap [x, dx]) L' [] h) := news_sat
    have hxL : x ≠ L' := Nat.ne_of_lt (hL ▸ Heap.lt_size hx)
    have hdL : dx ≠ L' := Nat.ne_of_lt (hL ▸ Heap.lt_size hdx)
    have m1 : (x, instObj 195 dx) ∈ sat (hideAll s.heap [x, dx]) L' [] h := mem_sat.mpr ⟨hx1, hxL, by simp, hideAll_none _ (by simp)⟩
    have m2 : (dx, dictOf [⟨hs, .str (Str.ofString "_headers") tk', .ref l⟩] 1) ∈ sat (hideAll s.heap [x, dx]) L' [] h := mem_sat.mpr ⟨hd1, hdL, by simp, hideAll_none _ (by simp)⟩
    k_steps
    refine TurnM.next KP (by assumption) (by assumption) (fun _ h => h) hne (Nat.ne_of_gt (hL ▸ Heap.lt_size hl)) (by simp) (by simp) fun k => ⟨rfl, k _ _ hxL (by simp) hx1, hs, tk', k _ _ hdL (by simp) hd1⟩
  · intro h tk m' F' ⟨e1, hx1, hs, tk', hd1⟩
    (try dsimp only)
    k_steps
    exact ret _ _ (fun a o h1 h2 e => F'.keep a o (hideAll_get _ e (by simp [h1, h2]))) ⟨hx1, hs, tk', hd1⟩
end
section
theorem at_MInit0 : True := by
  w_top off
  k_with_none
  k_with "my side" => first | assumption | exact rfl | ((try simp only [depth_under_make, depth_under_kw, depth_in1, depth_deeper, depth_caller, units_in1, units_deeper, Around.mark_units, units_caller] at *); (try dsimp only [Around.deeper, Around.in1] at *); omega)
  k_with "my after" => ((rename (∀ _ _, _ → _) => zq_hkk); (have zq_F' := Fr.keeps' (by assumption) zq_hkk); (have zq_N' := News.keeps' (by assumption) zq_hkk); (try dsimp only); (try k_sweep); (try k_fold))
  k_with "Hid" => (refine Hid.use (by with_reducible assumption) ?_; try dsimp only)
  k_with "execs cons" => (k_here; first | k_gentoks | ((with_reducible refine execs_kont ?_); intro zq_R zq_hR; try dsimp only))
  k_with "execs cons" => (k_here; first | k_gentoks | ((with_reducible refine wpAny_execs_cons ?_); try dsimp only))
  k_with "call ref" => (k_here; (with_reducible show wpAny _ _ (PySem.call (Value.ref 94) _ _) _ _ _); (with_unfolding_all first | refine' convert_name (by walk_at "my side") (by walk_at "my side") (by exact Fr.keep (by assumption)) (by assumption) (by assumption) (by assumption) ?_ | refine' convert_val (by walk_at "my side") (by walk_at "my side") (by exact Fr.keep (by assumption)) (by assumption) (by assumption) (by assumption) ?_); k_whole; intro zq_h' zq_tk' zq_hk'; walk_at "my after")
  k_with "call type:type" => (k_here; (with_reducible show wpAny _ _ (PySem.call (Value.type "type") [Value.ref _]) _ _ _); refine call_type_of (Tx := "list") (PySem.Heap.IsList.typeIs (News.isList (by assumption) (by k_mem))) (by decide) ?_)
  k_with "exec For Tuple Name" => (k_here; (with_reducible show wpAny _ _ (exec (Stmt.For _ _ _ [] _) _) _ _ _); refine For_M (by assumption) ?_ (by intro _; rfl))
  trivial



local macro_rules | `(tactic| k_inst) => `(tactic| exact inst_keep (by assumption) (Fr.keep (by assumption)))
theorem fresh_of_hide {h : PySem.Heap} {ms : List Addr} {a : Addr} (hn : (hideAll h ms).get? a = none) (ha : a ∉ ms) : h.get? a = none := by
  cases q : h.get? a with
  | none => rfl
  | some o => rw [hideAll_get _ q ha] at hn; cases hn
theorem init0_ok {prog : Program} {w : World} {dp un : Nat} {fr : Option (List Env)} {gd : Option (List Code)} {s : Shared} {b : PySem.Heap} {mean : ExcName → Option Value} {mg mb : Str → Option Value} {Rs : Result → Shared → Prop}
    (hd : dp + 2 < recursionLimit) (hu : un + 16 < cLine) (hb : ∀ a o, b.get? a = some o → s.heap.get? a = some o)
    (X : (Mine.hd.heap_39 w.params).In b) (T : Top Mine.hd.view_39 lo mean mg mb b) {x dx : Addr}
    (hbx : b.get? x = none) (hbd : b.get? dx = none) (hx : s.heap.get? x = some (instObj 195 dx)) (hdx : s.heap.get? dx = some (dictOf [] 0))
    (ret : ∀ h' tk' l, (∀ a o, a ≠ x → a ≠ dx → s.heap.get? a = some o → h'.get? a = some o) → (h'.get? x = some (instObj 195 dx) ∧ ∃ hs tk, h'.get? dx = some (dictOf [⟨hs, .str (Str.ofString "_headers") tk, .ref l⟩] 1)) → s.heap.get? l = none → h'.get? l = some (listOf [].toArray 0) → Rs (.ok (.ret .none)) { s with heap := h', toks := tk' }) :
    codeAny (model prog w) (Around.mk none dp fr gd un) (.call (.ref 87) ⟨[.ref x], []⟩) Rs s := by
  refine' enterM (binds := [(Str.ofString "self", .ref x), (Str.ofString "headers", .none)]) [x, dx] hb (by simp [hbx, hbd]) X T ?k6 ?k7 ?k8 ?k9 ?kB ?_ ?c2 ?c3 ?c4 ?c5
  case k6 => k_is
  case k7 => k_is
  case k8 => (first | omega | (dsimp only [Around.deeper, Around.in1]; omega))
  case k9 => first | exact BindsTo.of_eq rfl | exact binds_K (Frag.In.keeps (by assumption) (by assumption)) rfl (by k_is) rfl rfl rfl
  case kB => exact locs rfl
  case c2 => exact rfl
  case c3 => exact rfl
  case c4 => exact rfl
  case c5 => decide
  k_whole
  intro L' h₁ hL F K₁ X' T'
  have N : News (hideAll s.heap [x, dx]) L' h₁ [(x, instObj 195 dx), (dx, dictOf [] 0)] := by
    intro p hp
    rcases List.mem_cons.mp hp with rfl | hp
    · exact ⟨K₁ _ _ hx, Nat.ne_of_lt (hL ▸ Heap.lt_size hx), hideAll_none _ (by simp)⟩
    · rw [List.mem_singleton.mp hp]
      exact ⟨K₁ _ _ hdx, Nat.ne_of_lt (hL ▸ Heap.lt_size hdx), hideAll_none _ (by simp)⟩
  have nxd : x ≠ dx := fun q => by rw [q, hdx] at hx; simp at hx
  (try dsimp only)
  k_steps
  rename News _ _ _ _ => N9
  rename Fr _ _ _ _ => F9
  refine ret _ _ _ (fun a o h1 h2 e => F9.keep a o (hideAll_get _ e (by simp [h1, h2]))) ⟨(N9 (x, _) (by k_mem)).1, _, _, (N9 (dx, _) (by k_mem)).1⟩ ?_ (N9 (_, listOf [].toArray 0) (by k_mem)).1
  have hn := (N9 (_, listOf [].toArray 0) (by k_mem)).2.2
  refine fresh_of_hide hn ?_
  intro q
  simp only [List.mem_cons, List.not_mem_nil, or_false] at q
  rcases q with q | q
  · exact absurd q (by k_ne)
  · exact absurd q (by k_ne)
end
section
local macro_rules | `(tactic| omega) => `(tactic| lia)
open PySem.Sre in
/-- the machine about to try at p, for the dot at a line's head -/
noncomputable def dotAt (t : Array Nat) (N p hnd : Nat) (o : Bool) (sn : Sre.Seen) : M :=
  { code := dotCode, text := t, lim := N, start := p, lastStart := N, pc := 5, pos := p, handed := hnd, outermost := o, marks := #[], frames := [{ wait := .nextStart, pc := 5, pos := p, outermost := o }], weight := 1, seen := sn }
noncomputable def lineHead (t : Array Nat) (p : Nat) : Bool := p == 0 || t.getD (p - 1) 0 == 10
section
open PySem.Sre
variable {t : Array Nat} {N p hnd : Nat} {o : Bool} {sn : Sre.Seen}
theorem dot_s0 : (dotAt t N p hnd o sn).step = if lineHead t p = true then { dotAt t N p hnd o sn with pc := 7, seen := (sn.add 6).add 44 } else { dotAt t N p hnd o sn with answer := some false, seen := (sn.add 6).add 44 } := rfl
theorem dot_s1 : M.step { dotAt t N p hnd o sn with pc := 7 } = if p ≥ N then { dotAt t N p hnd o sn with pc := 7, answer := some false, seen := sn.add 16 } else
    if (t.getD p 0 == 46) = true then { dotAt t N p hnd o sn with pc := 9, pos := p + 1, seen := sn.add 16 } else { dotAt t N p hnd o sn with pc := 7, answer := some false, seen := sn.add 16 } := by
  show (if p ≥ N then _ else (match (Except.ok (t.getD p 0 == 46, sn.add 16) : Except String (Bool × Sre.Seen)) with
    | .error why => M.stick _ why
    | .ok (false, seen) => _
    | .ok (true, seen) => _)) = _
  split
  · rfl
  · cases t.getD p 0 == 46 <;> rfl
theorem dot_s2 : M.step { dotAt t N p hnd o sn with pc := 9, pos := p + 1 } = { dotAt t N p hnd o sn with pc := 9, pos := p + 1, handed := p + 1, answer := some true, seen := sn.add 1 } := by
  show (if (o && ((false && p + 1 != N) || (false && p + 1 == p))) = true then _ else _) = _
  simp
  rfl
/-- the attempt at p is given up: on to the next place, or the end -/
theorem dot_no {pc : Nat} : M.step { dotAt t N p hnd o sn with pc := pc, answer := some false } = if p < N then dotAt t N (p + 1) (p + 1) false sn else { dotAt t N p hnd o sn with frames := [], weight := 0, answer := some false } := rfl
theorem dot_yes {pc pos : Nat} {h' : Nat} : M.step { dotAt t N p hnd o sn with pc := pc, pos := pos, handed := h', answer := some true } = { dotAt t N p hnd o sn with frames := [], weight := 0, handed := h', answer := some true } := rfl
end
/-- the first place from p on where a dot heads a line -/
noncomputable def dotFind (t : Array Nat) : Nat → Nat → Option Nat
  | 0, _ => none
  | f + 1, p => if lineHead t p = true ∧ t.getD p 0 = 46 then some p else dotFind t f (p + 1)
section
open PySem.Sre
variable {t : Array Nat} {N : Nat}
def DotEnds (t : Array Nat) (r : Option Nat) (m' : M) : Prop := match r with
  | none => m'.outcome = some .failed
  | some q => m'.outcome = some .matched ∧ m'.start = q ∧ m'.handed = q + 1
theorem runFor_one (m : M) : M.runFor 1 m = m.step := by rw [show (1 : Nat) = 0 + 1 from rfl, runFor_succ]; rfl
theorem dot_run : ∀ (f p hnd : Nat) (o : Bool) (sn : Sre.Seen), N = p + f → ∃ n m', n ≤ 5 * (f + 1) ∧ M.runFor n (dotAt t N p hnd o sn) = m' ∧ DotEnds t (dotFind t f p) m' := by
  intro f
  induction f with
  | zero =>
    intro p hnd o sn hN
    have hp : ¬ p < N := by omega
    have fin : ∀ (pc : Nat) (sn : Sre.Seen), ∃ m', M.runFor 2 { dotAt t N p hnd o sn with pc := pc, answer := some false } = m' ∧ m'.outcome = some .failed := by
      intro pc sn
      refine ⟨_, rfl, ?_⟩
      rw [show (2 : Nat) = 1 + 1 from rfl, runFor_succ, dot_no, if_neg hp, runFor_one]
      rfl
    cases hl : lineHead t p with
    | false =>
      obtain ⟨m', e1, e2⟩ := fin 5 ((sn.add 6).add 44)
      refine ⟨3, m', by omega, ?_, e2⟩
      rw [show (3 : Nat) = 2 + 1 from rfl, runFor_succ, dot_s0, hl]
      exact e1
    | true =>
      obtain ⟨m', e1, e2⟩ := fin 7 (((sn.add 6).add 44).add 16)
      refine ⟨4, m', by omega, ?_, e2⟩
      rw [show (4 : Nat) = 2 + 1 + 1 from rfl, runFor_succ, dot_s0, hl, runFor_succ]
      show M.runFor 2 (M.step { dotAt t N p hnd o ((sn.add 6).add 44) with pc := 7 }) = m'
      rw [dot_s1, if_pos (by omega)]
      exact e1
  | succ f ih =>
    intro p hnd o sn hN
    have hp : p < N := by omega
    have go : ∀ (pc : Nat) (sn : Sre.Seen), ∃ n m', n ≤ 5 * (f + 1) + 1 ∧ M.runFor n { dotAt t N p hnd o sn with pc := pc, answer := some false } = m' ∧ DotEnds t (dotFind t f (p + 1)) m' := by
      intro pc sn
      obtain ⟨n, m', hn, e1, e2⟩ := ih (p + 1) (p + 1) false sn (by omega)
      refine ⟨n + 1, m', by omega, ?_, e2⟩
      rw [runFor_succ, dot_no, if_pos hp]
      exact e1
    unfold dotFind
    cases hl : lineHead t p with
    | false =>
      obtain ⟨n, m', hn, e1, e2⟩ := go 5 ((sn.add 6).add 44)
      refine ⟨n + 1, m', by omega, ?_, by simpa using e2⟩
      rw [runFor_succ, dot_s0, hl]
      exact e1
    | true =>
      by_cases hc : t.getD p 0 = 46
      · rw [if_pos ⟨rfl, hc⟩]
        refine ⟨5, _, by omega, rfl, ?_⟩
        rw [show (5 : Nat) = 1 + 1 + 1 + 1 + 1 from rfl, runFor_succ, dot_s0, hl, runFor_succ]
        show DotEnds t (some p) (M.runFor 3 (M.step { dotAt t N p hnd o ((sn.add 6).add 44) with pc := 7 }))
        rw [dot_s1, if_neg (by omega), if_pos (by rw [hc]; rfl), runFor_succ]
        show DotEnds t (some p) (M.runFor 2 (M.step { dotAt t N p hnd o (((sn.add 6).add 44).add 16) with pc := 9, pos := p + 1 }))
        rw [dot_s2, runFor_succ]
        show DotEnds t (some p) (M.runFor 1 (M.step { dotAt t N p hnd o ((((sn.add 6).add 44).add 16).add 1) with pc := 9, pos := p + 1, handed := p + 1, answer := some true }))
        rw [dot_yes, runFor_one]
        exact ⟨rfl, rfl, rfl⟩
      · rw [if_neg (fun h => hc h.2)]
        obtain ⟨n, m', hn, e1, e2⟩ := go 7 (((sn.add 6).add 44).add 16)
        refine ⟨n + 2, m', by omega, ?_, e2⟩
        rw [show n + 2 = n + 1 + 1 from rfl, runFor_succ, dot_s0, hl, runFor_succ]
        show M.runFor n (M.step { dotAt t N p hnd o ((sn.add 6).add 44) with pc := 7 }) = m'
        rw [dot_s1, if_neg (by omega), if_neg (by simpa using hc)]
        exact e1

/-- a search for a dot at a line's head -/
theorem dot_search (s : Nat) : ∃ n m', n ≤ 5 * (N + 2) ∧ M.runFor n (forSearch dotCode t 0 s N false) = m' ∧ DotEnds t (dotFind t (N - s) s) m' := by
  by_cases hs : s < N
  · have e : forSearch dotCode t 0 s N false = dotAt t N s s true ((({} : Sre.Seen)).add 14) := by
      unfold forSearch
      have h1 : (decide (s > N) || decide (N - s < (header dotCode).1)) = false := by
        have : (header dotCode).1 = 1 := rfl
        rw [this]; simp; omega
      simp only []
      rw [h1]
      rfl
    rw [e]
    obtain ⟨n, m', hn, e1, e2⟩ := dot_run (t := t) (N := N) (N - s) s s true ((({} : Sre.Seen)).add 14) (by omega)
    exact ⟨n, m', by omega, e1, e2⟩
  · have hf : dotFind t (N - s) s = none := by rw [Nat.sub_eq_zero_of_le (by omega)]; rfl
    rw [hf]
    have h1 : (decide (s > N) || decide (N - s < (header dotCode).1)) = true := by
      have : (header dotCode).1 = 1 := rfl
      rw [this]; simp; omega
    refine ⟨1, _, by omega, rfl, ?_⟩
    unfold forSearch
    simp only []
    rw [h1]
    rfl
end
end
section
local macro_rules | `(tactic| omega) => `(tactic| lia)
section
open PySem.Sre
/-- the machine for the line ends, trying at p -/
noncomputable def nlM (t : Array Nat) (N p hnd : Nat) (o : Bool) (sn : Sre.Seen) (pc pos : Nat) (fs : List Sre.Frame) (wt : Nat) (ans : Option Bool) : M :=
  { code := nlCode, text := t, lim := N, start := p, lastStart := N, pc := pc, pos := pos, handed := hnd, outermost := o, marks := #[], frames := fs, weight := wt, seen := sn, answer := ans }
noncomputable def nlF0 (p : Nat) (o : Bool) : Sre.Frame := { wait := .nextStart, pc := 10, pos := p, outermost := o }
noncomputable def nlFb (k p : Nat) (o : Bool) : Sre.Frame := { wait := .nextBranch, pc := k, pos := p, outermost := o, kept := { lastmark := -1, lastindex := -1, whole := false, marks := #[] } }
noncomputable def nlFl (p : Nat) (o : Bool) : Sre.Frame := { wait := .lookNot, pc := 26, pos := p, outermost := o, kept := { lastmark := -1, lastindex := -1, whole := false, marks := #[] } }
variable {t : Array Nat} {N p hnd : Nat} {o : Bool} {sn : Sre.Seen} {q : Nat} {fs : List Sre.Frame}

theorem nl_s10 : (nlM t N p hnd o sn 10 p [nlF0 p o] 1 none).step = nlM t N p p o (sn.add 7) 12 p [nlFb 11 p o, nlF0 p o] 2 none := rfl
/-- a letter's step -/
theorem nl_lit (pc c : Nat) (hpc : pc < nlCode.size) (h1 : ops[nlCode.getD pc 0]? = some .LITERAL) (h0 : nlCode.getD pc 0 = 16) (h2 : nlCode.getD (pc + 1) 0 = c) {wt : Nat} : (nlM t N p hnd o sn pc q fs wt none).step =
    if q < N ∧ t.getD q 0 = c then nlM t N p hnd o (sn.add 16) (pc + 2) (q + 1) fs wt none else nlM t N p hnd o (sn.add 16) pc q fs wt (some false) := by
  have hpc' : (nlM t N p hnd o sn pc q fs wt none).pc < (nlM t N p hnd o sn pc q fs wt none).code.size := hpc
  have hw : (nlM t N p hnd o sn pc q fs wt none).word 0 = 16 := h0
  unfold M.step
  show (if (nlM t N p hnd o sn pc q fs wt none).pc < (nlM t N p hnd o sn pc q fs wt none).code.size then _ else _) = _
  rw [if_pos hpc']
  unfold M.exec
  rw [hw]
  show (if q ≥ N then _ else (match accepts nlCode pc (t.getD q 0) (sn.add 16) with
    | .error why => M.stick _ why
    | .ok (false, seen) => _
    | .ok (true, seen) => _)) = _
  have ha : accepts nlCode pc (t.getD q 0) (sn.add 16) = .ok (t.getD q 0 == c, sn.add 16) := by
    unfold accepts
    rw [h1, h2]
  have hi : itemWidth nlCode pc = 2 := by unfold itemWidth; rw [h1]
  rw [ha]
  by_cases hq : q < N
  · rw [if_neg (by omega)]
    by_cases hc : t.getD q 0 = c
    · rw [if_pos ⟨hq, hc⟩, show (t.getD q 0 == c) = true from by simpa using hc]
      show (({ nlM t N p hnd o sn pc q fs wt none with seen := sn.add 16, pc := pc + itemWidth nlCode pc, pos := q + 1 } : M)) = _
      rw [hi]; rfl
    · rw [if_neg (fun h => hc h.2), show (t.getD q 0 == c) = false from by simpa using hc]
      rfl
  · rw [if_pos (by omega), if_neg (fun h => hq h.1)]
    rfl
theorem nl_s16 : (nlM t N p hnd o sn 16 q fs 2 none).step = nlM t N p hnd o (sn.add 15) 35 q fs 2 none := rfl
theorem nl_s21 : (nlM t N p hnd o sn 21 q fs 2 none).step = nlM t N p hnd o (sn.add 15) 35 q fs 2 none := rfl
theorem nl_s32 : (nlM t N p hnd o sn 32 q fs 2 none).step = nlM t N p hnd o (sn.add 15) 35 q fs 2 none := rfl
theorem nl_s35 : (nlM t N p hnd o sn 35 q fs 2 none).step = nlM t N p q o (sn.add 1) 35 q fs 2 (some true) := by
  show (if (o && ((false && q != N) || (false && q == p))) = true then _ else _) = _
  simp
  rfl
theorem nl_b11 {pc : Nat} : (nlM t N p hnd o sn pc q [nlFb 11 p o, nlF0 p o] 2 (some false)).step = nlM t N p p o sn 19 p [nlFb 18 p o, nlF0 p o] 2 none := rfl
theorem nl_b18 {pc : Nat} : (nlM t N p hnd o sn pc q [nlFb 18 p o, nlF0 p o] 2 (some false)).step = nlM t N p p o sn 24 p [nlFb 23 p o, nlF0 p o] 2 none := rfl
theorem nl_by {k pc : Nat} : (nlM t N p hnd o sn pc q [nlFb k p o, nlF0 p o] 2 (some true)).step = nlM t N p hnd o sn k p [nlF0 p o] 1 (some true) := rfl
theorem nl_0y {pc : Nat} : (nlM t N p hnd o sn pc q [nlF0 p o] 1 (some true)).step = nlM t N p hnd o sn 10 p [] 0 (some true) := rfl
theorem nl_end {pc : Nat} : (nlM t N p hnd o sn pc q [] 0 (some true)).step = { nlM t N p hnd o sn pc q [] 0 (some true) with outcome := some .matched } := rfl
theorem nl_s26 : (nlM t N p hnd o sn 26 q fs 2 none).step = nlM t N p q false (sn.add 5) 29 q (nlFl q o :: fs) 3 none := rfl
theorem nl_l {pc hnd' : Nat} {o' : Bool} : (nlM t N p hnd' o' sn pc q (nlFl q o :: fs) 3 (some false)).step = nlM t N p hnd' o sn 32 q fs 2 none := rfl
end
section
open PySem.Sre
variable {t : Array Nat} {N p hnd : Nat} {o : Bool} {sn : Sre.Seen}
noncomputable def nlEnd (t : Array Nat) (N p : Nat) : Nat := if t.getD p 0 = 13 ∧ p + 1 < N ∧ t.getD (p + 1) 0 = 10 then p + 2 else p + 1
def NlEnds (p e : Nat) (m' : M) : Prop := m'.outcome = some .matched ∧ m'.start = p ∧ m'.handed = e
/-- from the end of an alternative to the match -/
theorem nl_win {k pc q : Nat} (e : Nat) (hq : q = e) : ∃ m', M.runFor 5 (nlM t N p hnd o sn 35 q [nlFb k p o, nlF0 p o] 2 none) = m' ∧ NlEnds p e m' := by
  refine ⟨_, rfl, ?_⟩
  rw [show (5 : Nat) = 1 + 1 + 1 + 1 + 1 from rfl, runFor_succ, nl_s35, runFor_succ, nl_by, runFor_succ, nl_0y, runFor_succ, nl_end]
  exact ⟨rfl, rfl, hq⟩
theorem runs_step {n : Nat} {m m₁ m' : M} (h : m.step = m₁) (h' : M.runFor n m₁ = m') : M.runFor (n + 1) m = m' := by rw [runFor_succ, h]; exact h'
theorem nl_try (hp : p < N) (hc : t.getD p 0 = 10 ∨ t.getD p 0 = 13) : ∃ n m', n ≤ 20 ∧ M.runFor n (nlM t N p hnd o sn 10 p [nlF0 p o] 1 none) = m' ∧ NlEnds p (nlEnd t N p) m' := by
  rcases hc with hc | hc
  · have he : nlEnd t N p = p + 1 := by unfold nlEnd; rw [if_neg (by rw [hc]; simp)]
    rw [he]
    obtain ⟨m', e1, e2⟩ := nl_win (t := t) (N := N) (p := p) (hnd := p) (o := o) (sn := (((((sn.add 7).add 16)).add 16).add 15)) (k := 18) (pc := 0) (q := p + 1) (p + 1) rfl
    refine ⟨10, m', by decide, runs_step nl_s10 (runs_step (nl_lit 12 13 (by decide) rfl rfl rfl) ?_), e2⟩
    · rw [if_neg (by rw [hc]; simp)]
      refine runs_step nl_b11 (runs_step (nl_lit 19 10 (by decide) rfl rfl rfl) ?_)
      rw [if_pos ⟨hp, hc⟩]
      exact runs_step nl_s21 e1
  · by_cases h2 : p + 1 < N ∧ t.getD (p + 1) 0 = 10
    · have he : nlEnd t N p = p + 2 := by unfold nlEnd; rw [if_pos ⟨hc, h2⟩]
      rw [he]
      obtain ⟨m', e1, e2⟩ := nl_win (t := t) (N := N) (p := p) (hnd := p) (o := o) (sn := (((((sn.add 7).add 16)).add 16).add 15)) (k := 11) (pc := 0) (q := p + 1 + 1) (p + 2) rfl
      refine ⟨9, m', by decide, runs_step nl_s10 (runs_step (nl_lit 12 13 (by decide) rfl rfl rfl) ?_), e2⟩
      · rw [if_pos ⟨hp, hc⟩]
        refine runs_step (nl_lit 14 10 (by decide) rfl rfl rfl) ?_
        rw [if_pos h2]
        exact runs_step nl_s16 e1
    · have he : nlEnd t N p = p + 1 := by unfold nlEnd; rw [if_neg (fun h => h2 h.2)]
      rw [he]
      obtain ⟨m', e1, e2⟩ := nl_win (t := t) (N := N) (p := p) (hnd := p + 1) (o := o) (sn := (((((((((sn.add 7).add 16)).add 16).add 16).add 16).add 5).add 16).add 15)) (k := 23) (pc := 0) (q := p + 1) (p + 1) rfl
      refine ⟨16, m', by decide, runs_step nl_s10 (runs_step (nl_lit 12 13 (by decide) rfl rfl rfl) ?_), e2⟩
      · rw [if_pos ⟨hp, hc⟩]
        refine runs_step (nl_lit 14 10 (by decide) rfl rfl rfl) ?_
        rw [if_neg h2]
        refine runs_step nl_b11 (runs_step (nl_lit 19 10 (by decide) rfl rfl rfl) ?_)
        rw [if_neg (by rw [hc]; simp)]
        refine runs_step nl_b18 (runs_step (nl_lit 24 13 (by decide) rfl rfl rfl) ?_)
        rw [if_pos ⟨hp, hc⟩]
        refine runs_step nl_s26 (runs_step (nl_lit 29 10 (by decide) rfl rfl rfl) ?_)
        rw [if_neg h2]
        exact runs_step nl_l (runs_step nl_s32 e1)

/-- the first line end from p on -/
noncomputable def nlFind (t : Array Nat) : Nat → Nat → Option Nat
  | 0, _ => none
  | f + 1, p => if t.getD p 0 = 10 ∨ t.getD p 0 = 13 then some p else nlFind t f (p + 1)
theorem nl_set (c : Nat) (sn : Sre.Seen) : ∃ sn', inSet nlCode c nlCode.size 5 true sn = .ok (decide (c = 10 ∨ c = 13), sn') := by
  by_cases h1 : c = 10
  · subst h1; exact ⟨_, rfl⟩
  · by_cases h2 : c = 13
    · subst h2; exact ⟨_, rfl⟩
    · have e1 : (c == 10) = false := by simpa using h1
      have e2 : (c == 13) = false := by simpa using h2
      refine ⟨((sn.add 16).add 16).add 0, ?_⟩
      have hd : decide (c = 10 ∨ c = 13) = false := by simp [h1, h2]
      rw [hd]
      show (if (c == 10) = true then _ else if (c == 13) = true then _ else _) = _
      rw [e1, e2]
      rfl
theorem nl_admitted {m : M} (hc : m.code = nlCode) (ht : m.text = t) (hN : m.lim = N) : ∀ (f p fuel : Nat) (sn : Sre.Seen), N = p + f → f < fuel → ∃ sn', M.admitted m fuel p sn = .ok (nlFind t f p, sn') := by
  intro f
  induction f with
  | zero =>
    intro p fuel sn hp hf
    obtain ⟨k, rfl⟩ : ∃ k, fuel = k + 1 := ⟨fuel - 1, by omega⟩
    unfold M.admitted
    rw [if_pos (by omega)]
    exact ⟨_, rfl⟩
  | succ f ih =>
    intro p fuel sn hp hf
    obtain ⟨k, rfl⟩ : ∃ k, fuel = k + 1 := ⟨fuel - 1, by omega⟩
    unfold M.admitted nlFind
    rw [if_neg (by omega), hc, ht]
    obtain ⟨sn', e⟩ := nl_set (t.getD p 0) sn
    rw [e]
    by_cases h : t.getD p 0 = 10 ∨ t.getD p 0 = 13
    · rw [if_pos h, decide_eq_true h]; exact ⟨_, rfl⟩
    · rw [if_neg h, decide_eq_false h]
      exact ih (p + 1) k sn' (by omega) (by omega)
theorem nlFind_is : ∀ (f p q : Nat), nlFind t f p = some q → p ≤ q ∧ q < p + f ∧ (t.getD q 0 = 10 ∨ t.getD q 0 = 13) := by
  intro f
  induction f with
  | zero => intro p q h; cases h
  | succ f ih =>
    intro p q h
    unfold nlFind at h
    split at h
    · rename_i hc; cases h; exact ⟨Nat.le_refl _, by omega, hc⟩
    · obtain ⟨a, b, c⟩ := ih _ _ h; exact ⟨by omega, by omega, c⟩
theorem nl_first (m : M) (h : m.code = nlCode) : m.hasFirstSet = true := by unfold M.hasFirstSet; rw [h]; rfl
def NlSearch (t : Array Nat) (N : Nat) (r : Option Nat) (m' : M) : Prop := match r with
  | none => m'.outcome = some .failed
  | some q => NlEnds q (nlEnd t N q) m'
theorem said_failed {m : M} (h1 : m.outcome = none) (h2 : m.answer = some false) (h3 : m.frames = []) : ∃ n m', n ≤ 30 ∧ M.runFor n m = m' ∧ NlSearch t N none m' := by
  obtain ⟨m', e1, e2⟩ := said_false h1 h2 h3
  exact ⟨1, m', by decide, e1, e2⟩
theorem nl_search (s : Nat) : ∃ n m', n ≤ 30 ∧ M.runFor n (forSearch nlCode t 0 s N false) = m' ∧ NlSearch t N (nlFind t (N - s) s) m' := by
  by_cases hs : s < N
  · have h1 : (decide (s > N) || decide (N - s < (header nlCode).1)) = false := by
      have : (header nlCode).1 = 1 := rfl
      rw [this]; simp; omega
    unfold forSearch
    simp only []
    rw [h1]
    simp only [Bool.false_eq_true, if_false]
    unfold M.attemptFrom
    rw [nl_first _ rfl]
    simp only [Bool.not_true, Bool.false_eq_true, if_false]
    have ha : ∀ {m : M} {fuel p : Nat} {sn : Sre.Seen} {r : Except String (Option Nat × Sre.Seen)}, M.admitted m fuel p sn = r → m.code = nlCode → m.text = t → m.lim = N → p = s → fuel = N + 1 - s → ∃ sn', r = .ok (nlFind t (N - s) s, sn') := by
      rintro m fuel p sn r rfl hc ht hN rfl rfl
      exact nl_admitted hc ht hN (N - p) p _ sn (by omega) (by omega)
    split
    · rename_i q seen he
      obtain ⟨sn', e'⟩ := ha he rfl rfl rfl rfl rfl
      have hf : nlFind t (N - s) s = some q := by injection e' with e'; exact (congrArg Prod.fst e').symm
      obtain ⟨b1, b2, b3⟩ := nlFind_is _ _ _ hf
      obtain ⟨n, m', hn, e1, e2⟩ := nl_try (t := t) (N := N) (p := q) (hnd := q) (o := true) (sn := seen) (by omega) b3
      rw [hf]
      exact ⟨n, m', by omega, e1, e2⟩
    · rename_i seen he
      obtain ⟨sn', e'⟩ := ha he rfl rfl rfl rfl rfl
      have hf : nlFind t (N - s) s = none := by injection e' with e'; exact (congrArg Prod.fst e').symm
      rw [hf]
      exact said_failed rfl rfl rfl
    · rename_i why he
      obtain ⟨s', e'⟩ := ha he rfl rfl rfl rfl rfl
      cases e'
  · have hf : nlFind t (N - s) s = none := by rw [Nat.sub_eq_zero_of_le (by omega)]; rfl
    rw [hf]
    have h1 : (decide (s > N) || decide (N - s < (header nlCode).1)) = true := by
      have : (header nlCode).1 = 1 := rfl
      rw [this]; simp; omega
    unfold forSearch
    simp only []
    rw [h1]
    simp only [if_true]
    exact said_failed rfl rfl rfl
end
end
section
local macro_rules | `(tactic| omega) => `(tactic| lia)
section
open PySem.Sre PySem.Builtin.Re
/-- an engine that finds the next match -/
structure Engine (code t : Array Nat) (fnd : Nat → Option (Nat × Nat)) : Prop where
  run : ∀ s, s ≤ t.size → ∃ n m', n ≤ 2 ^ 64 ∧ M.runFor n (forSearch code t 0 s t.size false) = m' ∧ (match fnd s with
    | none => m'.outcome = some .failed
    | some (p, e) => m'.outcome = some .matched ∧ m'.start = p ∧ m'.handed = e)
  ok : ∀ s p e, s ≤ t.size → fnd s = some (p, e) → s ≤ p ∧ p < e ∧ e ≤ t.size
noncomputable def subFrom (t r : List Nat) (fnd : Nat → Option (Nat × Nat)) : Nat → Nat → List Nat
  | 0, d => t.drop d
  | f + 1, d => match fnd d with
    | none => t.drop d
    | some (p, e) => (t.drop d).take (p - d) ++ r ++ subFrom t r fnd f e
noncomputable def catT (l : List (Str × Tok)) : List Nat := (l.map fun p => p.1.cps.toList).flatten
theorem catT_snoc (l : List (Str × Tok)) (x : Str) (u : Tok) : catT (l ++ [(x, u)]) = catT l ++ x.cps.toList := by
  unfold catT; simp

theorem IsPat.but {h h' : PySem.Heap} {pa l : Addr} {code : Array Nat} {its : Array Value} {n : Nat} (hp : IsPat h pa code) (hl : h.get? l = some (listOf its n)) (hk : ∀ b o, b ≠ l → h.get? b = some o → h'.get? b = some o) : IsPat h' pa code := by
  obtain ⟨pt, pk, fl, fk, g1, g2, ca, gk, kk, ho, its', n', hc, hcode⟩ := hp.at_
  refine ⟨pt, pk, fl, fk, g1, g2, ca, gk, kk, hk _ _ (fun q => ?_) ho, its', n', hk _ _ (fun q => ?_) hc, hcode⟩
  · rw [q, hl] at ho; simp at ho
  · rw [q, hl] at hc; simp at hc

variable {prog : Program} {w : World} {A : Around} {s : Shared} {Rs : Result → Shared → Prop}
theorem list_push {E : Value → Shared → Prop} {Q : Unit → Shared → Prop} {lp : Addr} {l : List (Str × Tok)} {n : Nat} {x : Str} {u : Tok} (hl : s.heap.get? lp = some (listOf (strValues l).toArray n)) (hz : l.length ≤ 100000)
    (h : ∀ h' n', h'.get? lp = some (listOf (strValues (l ++ [(x, u)])).toArray n') → (∀ b o, b ≠ lp → s.heap.get? b = some o → h'.get? b = some o) → Q () { s with heap := h' }) :
    wpAny (model prog w) A (updateSeq lp (·.push (.str x u))) Q E s := by
  have hlen : (strValues l).length = l.length := by unfold strValues; simp
  have e : (strValues l).toArray.push (.str x u) = (strValues (l ++ [(x, u)])).toArray := by unfold strValues; simp
  have hs := PySem.Heap.SameBut.update s.heap lp (Obj.mapSeq (·.push (.str x u)))
  refine wpAny_updateSeq hl rfl (h _ (n + 1) ?_ fun b o hb eo => (hs.2 b hb).trans eo) (by rw [List.size_toArray, hlen, sizeLine_eq]; omega) (by rw [Array.size_push, List.size_toArray, hlen, sizeLine_eq]; omega)
  rw [PySem.Heap.get?_update_self _ hl rfl, ← e]
  simp [Obj.mapSeq]

theorem wholeTarget {E : Value → Shared → Prop} {pa : Addr} {code : Array Nat} {x : Str} {t : Tok} {Q : ReTarget → Shared → Prop} (hp : IsPat s.heap pa code)
    (h : Q { pattern := .ref pa, string := .str x t, code := code, text := x.cps, kind := 0, groups := 0, pos := 0, lim := x.cps.size } s) : wpAny (model prog w) A (reWholeTarget (.ref pa) (.str x t)) Q E s := by
  obtain ⟨pt, pk, fl, fk, g1, g2, ca, gk, kk, ho, its, n, hc, hcode⟩ := hp.at_
  unfold reWholeTarget
  refine wpAny_bind (wpAny_fieldsOf ho rfl ?_)
  refine wpAny_bind (wpAny_of_eq (show reTextOf (.str x t) = pure (x.cps, 0) from rfl) ?_)
  refine wpAny_bind (m := reNoCollectionInside (Value.str x t) 0) ?_
  refine wpAny_of_eq (show reNoCollectionInside (.str x t) 0 = pure () from rfl) ?_
  refine wpAny_bind (rawItems hc ?_)
  refine wpAny_pure ?_
  have hcode' : Array.map (fun x => x.toNat) (Array.map reRawOf its) = code := by rw [Array.map_map]; exact hcode
  rw [hcode']
  exact h
theorem slice_ok {E : Value → Shared → Prop} {x : Str} {a b : Nat} {Q : Value → Shared → Prop} (hx : x.cps.size ≤ 100000) (h : ∀ u, Q (.str ⟨x.cps.extract a b⟩ u) { s with toks := s.toks + 1 }) : wpAny (model prog w) A (reSlice x.cps 0 a b) Q E s := by
  unfold reSlice
  refine wpAny_mkStr (h _) ?_
  show (x.cps.extract a b).size ≤ sizeLine
  rw [Array.size_extract, sizeLine_eq]
  omega
end
section
open PySem.Sre PySem.Builtin.Re
variable {prog : Program} {w : World} {A : Around} {Rs : Result → Shared → Prop}
theorem join_nil_cps : ∀ (texts : List Str), (Str.join Str.empty texts).cps.toList = (texts.map fun x => x.cps.toList).flatten
  | [] => rfl
  | [x] => by simp [Str.join]
  | x :: y :: r => by
    have ih := join_nil_cps (y :: r)
    show ((x ++ Str.empty ++ Str.join Str.empty (y :: r)) : Str).cps.toList = _
    show (x.cps ++ Str.empty.cps ++ (Str.join Str.empty (y :: r)).cps).toList = _
    rw [Array.toList_append, Array.toList_append, ih]
    simp [Str.empty]
theorem join_fit : ∀ (texts : List Str) (k : Nat), texts.foldl (· + ·.length + Str.empty.length) k = k + (texts.map (·.length)).sum
  | [], k => by simp
  | x :: r, k => by
    rw [List.foldl_cons, join_fit r]
    simp only [List.map_cons, List.sum_cons]
    have : Str.empty.length = 0 := rfl
    omega
theorem catT_len (l : List (Str × Tok)) : ((l.map (·.1)).map (·.length)).sum = (catT l).length := by
  induction l with
  | nil => rfl
  | cons p l ih =>
    have e : catT (p :: l) = p.1.cps.toList ++ catT l := by unfold catT; simp
    rw [e, List.length_append]
    simp only [List.map_cons, List.sum_cons]
    rw [ih]
    rfl
theorem join_ok {E : Value → Shared → Prop} {s : Shared} {lp : Addr} {l : List (Str × Tok)} {n : Nat} {Q : Value → Shared → Prop} {sp : Str} {u : Tok} (hsp : sp = Str.empty) (hl : s.heap.get? lp = some (listOf (strValues l).toArray n)) (hc : (catT l).length ≤ 100000)
    (h : ∀ u' k, Q (.str ⟨(catT l).toArray⟩ u') { s with toks := k }) : wpAny (model prog w) A (call (.builtin "str.join") [.str sp u, .ref lp]) Q E s := by
  subst hsp
  refine SC.join ⟨_, hl, rfl, _, rfl⟩ rfl ?_ ?_
  · unfold JoinOk Builtin.Str.tooLong
    rw [List.foldl_toArray, join_fit, catT_len]
    have : ¬ (0 + (catT l).length > sizeLine) := by rw [sizeLine_eq]; omega
    simp only [Nat.zero_add] at this ⊢
    simp [this]
  · intro u' k
    have e : Txt.join Str.empty (l.map (·.1)) = ⟨(catT l).toArray⟩ := by
      have h1 : Txt.join Str.empty (l.map (·.1)) = Str.join Str.empty (l.map (·.1)) := StrLaws.glued_eq_join _ _
      rw [h1]
      have h2 := join_nil_cps (l.map (·.1))
      have h3 : (Str.join Str.empty (l.map (·.1))).cps = (catT l).toArray := by
        apply Array.ext'
        rw [h2]
        unfold catT
        simp
        rfl
      generalize Str.join Str.empty (l.map (·.1)) = z at h3
      cases z
      simp only at h3
      rw [h3]
    rw [e]
    exact h u' k
theorem sub_end {E : Value → Shared → Prop} {s : Shared} {lp : Addr} {l : List (Str × Tok)} {n : Nat} {x : Str} {Q : PySem.Fin → Shared → Prop} (hx : x.cps.size ≤ 100000) (hl : s.heap.get? lp = some (listOf (strValues l).toArray n)) (hc : (catT l).length ≤ 100000)
    (h : ∀ u' k, Q (.done (.ret (.str ⟨(catT l).toArray⟩ u'))) { s with toks := k }) :
    wpAny (model prog w) A (do
      let joiner ← reSlice x.cps 0 0 0
      let text ← if ((← seqItems? (.ref lp)).getD #[]).isEmpty then pure joiner else call (.builtin (if (0 : Nat) == 0 then "str.join" else "bytes.join")) [joiner, .ref lp]
      ret text) Q E s := by
  refine wpAny_bind (slice_ok hx fun u => ?_)
  have h0 : x.cps.extract 0 0 = #[] := by simp
  rw [h0]
  refine wpAny_bind (wpAny_seqItems hl rfl ?_)
  refine wpAny_ite ?_
  cases l with
  | nil =>
    have e : (((some (strValues []).toArray).getD #[]).isEmpty) = true := rfl
    rw [e, if_pos rfl]
    exact wpAny_bind (wpAny_pure (wpAny_pure (h _ _)))
  | cons a l =>
    have e : (((some (strValues (a :: l)).toArray).getD #[]).isEmpty) = false := by unfold strValues; simp
    rw [e, if_neg (by simp)]
    exact wpAny_bind (join_ok rfl hl hc fun u' k => wpAny_pure (h u' k))
theorem sub_fuel {code : Array Nat} {x r : Str} {fnd : Nat → Option (Nat × Nat)} (En : Engine code x.cps fnd) : ∀ (f1 f2 d : Nat), d ≤ x.cps.size → x.cps.size < d + f1 → x.cps.size < d + f2 → subFrom x.cps.toList r.cps.toList fnd f1 d = subFrom x.cps.toList r.cps.toList fnd f2 d
  | 0, _, d, _, h1, _ => absurd h1 (by omega)
  | _ + 1, 0, d, _, _, h2 => absurd h2 (by omega)
  | f1 + 1, f2 + 1, d, hd, h1, h2 => by
    unfold subFrom
    cases hf : fnd d with
    | none => rfl
    | some pe =>
      obtain ⟨p, e⟩ := pe
      obtain ⟨o1, o2, o3⟩ := En.ok d p e hd hf
      simp only []
      rw [sub_fuel En f1 f2 e o3 (by omega) (by omega)]
theorem subloop {pa lp : Addr} {code : Array Nat} {x r : Str} {t u : Tok} {fnd : Nat → Option (Nat × Nat)} (En : Engine code x.cps fnd) (hx : x.cps.size ≤ 10000) (hr : r.cps.size ≤ 4) :
    ∀ (f d : Nat) (s : Shared) (l : List (Str × Tok)) (cnt : Int) (n : Nat), x.cps.size = d + f → IsPat s.heap pa code → s.heap.get? lp = some (listOf (strValues l).toArray n) → l.length ≤ 2 * d → (catT l).length ≤ 5 * d →
      (∀ h' tk' u', (∀ a o, a ≠ lp → s.heap.get? a = some o → h'.get? a = some o) → Rs (.ok (.ret (.str ⟨(catT l ++ subFrom x.cps.toList r.cps.toList fnd (f + 1) d).toArray⟩ u'))) { s with heap := h', toks := tk' }) →
      codeAny (model prog w) A (.builtin "re.Pattern.sub.loop" ⟨[.ref pa, .str x t, .str r u, rawInt 0, rawInt 0, rawInt cnt, rawInt d, rawInt d, .bool false, .ref lp, .bool false], []⟩) Rs s := by
  intro f
  induction f using Nat.strongRecOn with
  | ind f ih =>
    intro d s l cnt n hN hp hl hll hcl ret
    have hx5 : x.cps.size ≤ 100000 := by omega
    refine codeAny_builtin entry_subloop ?_
    unfold Builtin.«re.Pattern.sub.loop»
    refine wpAny_bind (m := reWholeTarget (.ref pa) (.str x t)) ?_
    refine wholeTarget hp ?_
    refine wpAny_bind (m := reLiteralCannotBeTurned (.str r u)) ?_
    refine wpAny_of_eq (show reLiteralCannotBeTurned (.str r u) = pure () from rfl) ?_
    obtain ⟨k, m', hk, hrun, hend⟩ := En.run d (by omega)
    refine wpAny_bind (m := reRunToEnd (forSearch code x.cps 0 d x.cps.size false)) ?_
    cases hf : fnd d with
    | none =>
      rw [hf] at hend
      refine wpAny_reRunToEnd hrun hk (.inl ⟨hend, ?_⟩)
      refine wpAny_ite ?_
      have hcl0 : (catT l).length ≤ 50000 := by omega
      split
      · rename_i hlt
        refine wpAny_bind (slice_ok (x := x) hx5 fun u1 => ?_)
        refine wpAny_bind (list_push (s := { s with toks := s.toks + 1 }) hl (by omega) fun h' n' hl' hk' => ?_)
        have hce : catT (l ++ [(⟨x.cps.extract (d : Int).toNat x.cps.size⟩, u1)]) = catT l ++ x.cps.toList.drop d := by
          rw [catT_snoc]
          congr 1
          simp only [Array.toList_extract, List.extract_eq_take_drop, Int.toNat_natCast]
          exact List.take_of_length_le (by rw [List.length_drop]; exact Nat.le_refl _)
        refine sub_end (x := x) (s := { s with heap := h', toks := s.toks + 1 }) hx5 hl' ?_ fun u' k => ?_
        · rw [hce, List.length_append, List.length_drop]
          have : x.cps.toList.length = x.cps.size := rfl
          omega
        · rw [hce]
          have e : subFrom x.cps.toList r.cps.toList fnd (f + 1) d = x.cps.toList.drop d := by unfold subFrom; rw [hf]
          rw [← e]
          exact ret _ _ _ hk'
      · rename_i hlt
        have hd : d = x.cps.size := by
          have : ¬ d < x.cps.size := hlt
          omega
        refine sub_end (x := x) hx5 hl (by omega) fun u' k => ?_
        have e : catT l = catT l ++ subFrom x.cps.toList r.cps.toList fnd (f + 1) d := by
          unfold subFrom; rw [hf]
          rw [List.drop_eq_nil_of_le (by rw [hd]; exact Nat.le_refl _), List.append_nil]
        rw [e]
        exact ret _ _ _ fun _ _ _ z => z
    | some pe =>
      obtain ⟨p, e⟩ := pe
      rw [hf] at hend
      obtain ⟨h1, h2, h3⟩ := hend
      obtain ⟨o1, o2, o3⟩ := En.ok d p e (by omega) hf
      refine wpAny_reRunToEnd hrun hk (.inr ⟨h1, ?_⟩)
      -- what follows the text before the match
      have go : ∀ (h' : PySem.Heap) (tk' : Nat) (l' : List (Str × Tok)) (n' : Nat), (∀ a o, a ≠ lp → s.heap.get? a = some o → h'.get? a = some o) → h'.get? lp = some (listOf (strValues l').toArray n') → l'.length ≤ l.length + 1 →
          catT l' = catT l ++ (x.cps.toList.drop d).take (p - d) →
          wpAny (model prog w) (A.under (.builtin "re.Pattern.sub.loop" ⟨[.ref pa, .str x t, .str r u, rawInt 0, rawInt 0, rawInt cnt, rawInt d, rawInt d, .bool false, .ref lp, .bool false], []⟩))
            (updateSeq lp (·.push (.str r u)) >>= fun _ => again (.builtin "re.Pattern.sub.loop" ⟨[.ref pa, .str x t, .str r u, rawInt 0, rawInt 0, rawInt (cnt + 1), rawInt m'.handed, rawInt m'.handed, .bool (m'.handed == m'.start), .ref lp, .bool false], []⟩))
            (fun fin s' => match fin with | PySem.Fin.done f => Rs (.ok f) s' | PySem.Fin.again c' => c'.quiet = true ∧ codeAny (model prog w) A c' Rs s') (fun e s' => Rs (.error e) s') { s with heap := h', toks := tk' } := by
        intro h' tk' l' n' hk' hl' hll' hcl'
        refine wpAny_bind (list_push (s := { s with heap := h', toks := tk' }) hl' (by omega) fun h'' n'' hl'' hk'' => ?_)
        refine wpAny_pure ⟨Code.quiet_builtin _ (by decide +kernel), ?_⟩
        have hb : (m'.handed == m'.start) = false := by rw [h2, h3]; simp; omega
        rw [hb, h3]
        have hlen : ((x.cps.toList.drop d).take (p - d)).length ≤ p - d := by rw [List.length_take]; omega
        have hc2 : catT (l' ++ [(r, u)]) = catT l ++ (x.cps.toList.drop d).take (p - d) ++ r.cps.toList := by rw [catT_snoc, hcl']
        have hrl : r.cps.toList.length = r.cps.size := rfl
        refine ih (x.cps.size - e) (by omega) e _ (l' ++ [(r, u)]) (cnt + 1) n'' (by omega) (IsPat.but (IsPat.but hp hl hk') hl' hk'') hl'' (by rw [List.length_append, List.length_singleton]; omega) ?_ ?_
        · rw [hc2, List.length_append, List.length_append]; omega
        · intro h3' tk3 u3 hk3
          have e2 : catT (l' ++ [(r, u)]) ++ subFrom x.cps.toList r.cps.toList fnd (x.cps.size - e + 1) e = catT l ++ subFrom x.cps.toList r.cps.toList fnd (f + 1) d := by
            rw [hc2]
            conv => rhs; unfold subFrom
            rw [hf]
            simp only [List.append_assoc]
            rw [sub_fuel En (x.cps.size - e + 1) f e (by omega) (by omega) (by omega)]
          rw [e2]
          exact ret h3' tk3 u3 fun a o ha z => hk3 a o ha (hk'' a o ha (hk' a o ha z))
      refine wpAny_ite ?_
      split
      · rename_i hlt
        refine wpAny_bind (slice_ok (x := x) hx5 fun u1 => ?_)
        refine wpAny_bind (list_push (s := { s with toks := s.toks + 1 }) hl (by omega) fun h' n' hl' hk' => ?_)
        refine wpAny_bind (m := pure (Value.str r u)) (wpAny_pure ?_)
        refine go h' _ _ n' hk' hl' (by rw [List.length_append, List.length_singleton]; exact Nat.le_refl _) ?_
        rw [catT_snoc]
        congr 1
        rw [h2]
        simp [Array.toList_extract, List.extract_eq_take_drop]
      · rename_i hlt
        have hd : p = d := by
          have : ¬ d < m'.start := hlt
          omega
        refine wpAny_bind (m := pure (Value.str r u)) (wpAny_pure ?_)
        refine go s.heap s.toks l n (fun _ _ _ z => z) hl (by omega) ?_
        rw [hd, Nat.sub_self, List.take_zero, List.append_nil]
end
section
open PySem.Sre PySem.Builtin.Re
variable {prog : Program} {w : World} {A : Around} {s : Shared} {Q : Value → Shared → Prop} {E : Value → Shared → Prop}
theorem str_nocall : typeLookup (.type "str") "__call__" = pure none := by rw [typeLookup_type, builtinLookup_eq_fast]; kernel_rfl
noncomputable def subAll (x r : Str) (fnd : Nat → Option (Nat × Nat)) : Str := ⟨(subFrom x.cps.toList r.cps.toList fnd (x.cps.size + 1) 0).toArray⟩
theorem call_sub {pa : Addr} {code : Array Nat} {x r : Str} {t u : Tok} {fnd : Nat → Option (Nat × Nat)} (hp : IsPat s.heap pa code) (En : Engine code x.cps fnd) (hx : x.cps.size ≤ 10000) (hr : r.cps.size ≤ 4) (hr92 : r.cps.contains 92 = false)
    (ret : ∀ h' tk' u', (∀ a o, s.heap.get? a = some o → h'.get? a = some o) → Q (.str (subAll x r fnd) u') { s with heap := h', toks := tk' }) :
    wpAny (model prog w) A (call (.builtin "re.Pattern.sub") [.ref pa, .str r u, .str x t]) Q E s := by
  obtain ⟨pt, pk, fl, fk, g1, g2, ca, gk, kk, ho, its, n, hc, hcode⟩ := id hp.at_
  refine wpAny_call (codeAny_call_builtin slot_sub.plain entry_sub (slot_sub.check _ _ _ _ _ _ _ _ ⟨_, ho, rfl⟩ (args_sub _ _ _) ?_))
  unfold Builtin.«re.Pattern.sub» reSubstitute
  refine wpAny_bind (wpAny_of_eq (show reNamed "re.Pattern.sub" "sub" ["repl", "string", "count"] 2 [.str r u, .str x t] [] = pure [some (.str r u), some (.str x t), none] from rfl) ?_)
  refine wpAny_bind (wpAny_pure ?_)
  refine wpAny_bind (wpAny_specialOf (typeIs_str _ _ _) str_nocall ?_)
  refine wpAny_bind (m := asStr? (.str r u)) (wpAny_of_eq (show asStr? (.str r u) = pure (some r) from rfl) ?_)
  refine wpAny_bind (m := pure (!r.cps.contains 92)) (wpAny_pure ?_)
  rw [hr92]
  refine wpAny_bind (m := pure (Value.str r u, 0)) (wpAny_pure ?_)
  refine wpAny_bind (wpAny_holding (wholeTarget hp ?_))
  refine wpAny_bind (m := newList []) (wpAny_newList ?_)
  refine wpAny_pure ⟨Code.quiet_builtin _ (by decide +kernel), ?_⟩
  refine subloop En hx hr (x.cps.size) 0 _ [] 0 0 (by omega) (hp.keeps fun a o e => PySem.Heap.get?_push_of_some _ e) (PySem.Heap.get?_push_size _ rfl) (Nat.zero_le _) (Nat.zero_le _) fun h' tk' u' hk => ?_
  exact ret h' tk' u' fun a o e => hk a o (Nat.ne_of_lt (Heap.lt_size e)) (PySem.Heap.get?_push_of_some _ e)

noncomputable def dotFnd (t : Array Nat) (s : Nat) : Option (Nat × Nat) := (dotFind t (t.size - s) s).map fun q => (q, q + 1)
noncomputable def nlFnd (t : Array Nat) (s : Nat) : Option (Nat × Nat) := (nlFind t (t.size - s) s).map fun q => (q, nlEnd t t.size q)
theorem dotFind_is {t : Array Nat} : ∀ (f p q : Nat), dotFind t f p = some q → p ≤ q ∧ q < p + f := by
  intro f
  induction f with
  | zero => intro p q h; cases h
  | succ f ih =>
    intro p q h
    unfold dotFind at h
    split at h
    · cases h; exact ⟨Nat.le_refl _, by omega⟩
    · obtain ⟨a, b⟩ := ih _ _ h; exact ⟨by omega, by omega⟩
theorem dot_engine (t : Array Nat) (hs : t.size ≤ 10000) : Engine dotCode t (dotFnd t) where
  run s _ := by
    obtain ⟨n, m', hn, e1, e2⟩ := dot_search (t := t) (N := t.size) s
    refine ⟨n, m', by omega, e1, ?_⟩
    unfold dotFnd
    cases h : dotFind t (t.size - s) s with
    | none => rw [h] at e2; exact e2
    | some q => rw [h] at e2; exact e2
  ok s p e hsz h := by
    unfold dotFnd at h
    cases hq : dotFind t (t.size - s) s with
    | none => rw [hq] at h; cases h
    | some q =>
      rw [hq] at h
      cases h
      have := dotFind_is _ _ _ hq
      omega
theorem nl_engine (t : Array Nat) : Engine nlCode t (nlFnd t) where
  run s _ := by
    obtain ⟨n, m', hn, e1, e2⟩ := nl_search (t := t) (N := t.size) s
    refine ⟨n, m', by omega, e1, ?_⟩
    unfold nlFnd
    cases h : nlFind t (t.size - s) s with
    | none => rw [h] at e2; exact e2
    | some q => rw [h] at e2; exact e2
  ok s p e hsz h := by
    unfold nlFnd at h
    cases hq : nlFind t (t.size - s) s with
    | none => rw [hq] at h; cases h
    | some q =>
      rw [hq] at h
      cases h
      have := nlFind_is _ _ _ hq
      unfold nlEnd
      split <;> omega
/-- what quotedata makes of a text -/
noncomputable def quoteT (x : Str) : Str :=
  let y := subAll x (Str.ofString "\r\n") (nlFnd x.cps)
  subAll y (Str.ofString "..") (dotFnd y.cps)
end
end
section
theorem at_MQuote : True := by
  w_top off
  k_with_none
  k_with "my side" => first | assumption | exact rfl | ((try simp only [depth_under_make, depth_under_kw, depth_in1, depth_deeper, depth_caller, units_in1, units_deeper, Around.mark_units, units_caller] at *); (try dsimp only [Around.deeper, Around.in1] at *); omega)
  k_with "my after" => ((rename (∀ _ _, _ → _) => zq_hkk); (have zq_F' := Fr.keeps' (by assumption) zq_hkk); (have zq_N' := News.keeps' (by assumption) zq_hkk); (try dsimp only); (try k_sweep); (try k_fold))
  k_with "Hid" => (refine Hid.use (by with_reducible assumption) ?_; try dsimp only)
  k_with "execs cons" => (k_here; first | k_gentoks | ((with_reducible refine execs_kont ?_); intro zq_R zq_hR; try dsimp only))
  k_with "getMethod ref" => (k_here; first | refine getMethod_pat (IsPat.keeps (pat50 (by assumption)) (Fr.keep (by assumption))) slot_sub type_sub ?_ | refine getMethod_pat (IsPat.keeps (pat55 (by assumption)) (Fr.keep (by assumption))) slot_sub type_sub ?_)
  trivial



theorem quote_ok {prog : Program} {w : World} {dp un : Nat} {fr : Option (List Env)} {gd : Option (List Code)} {s : Shared} {b : PySem.Heap} {mean : ExcName → Option Value} {mg mb : Str → Option Value} {Q E : Value → Shared → Prop}
    (hd : dp + 1 < recursionLimit) (hu : un + 8 < cLine) (hb : ∀ a o, b.get? a = some o → s.heap.get? a = some o)
    (X : (Mine.hd.heap_39 w.params).In b) (T : Top Mine.hd.view_39 lo mean mg mb b) {x : Str} {t : Tok} (hx : x.cps.size ≤ 1000) (hy : (subAll x (Str.ofString "\r\n") (nlFnd x.cps)).cps.size ≤ 10000)
    (ret : ∀ h' tk' u', (∀ a o, s.heap.get? a = some o → h'.get? a = some o) → Q (.str (quoteT x) u') { s with heap := h', toks := tk' }) :
    wpAny (model prog w) (Around.mk none dp fr gd un) (call (.ref 62) [.str x t]) Q E s := by
  refine wpAny_call ?_
  refine' enterM (binds := [(Str.ofString "data", .str x t)]) [] hb (by simp) X T ?k6 ?k7 ?k8 ?k9 ?kB ?_ ?c2 ?c3 ?c4 ?c5
  case k6 => k_is
  case k7 => k_is
  case k8 => (first | omega | (dsimp only [Around.deeper, Around.in1]; omega))
  case k9 => first | exact BindsTo.of_eq rfl | exact binds_K (Frag.In.keeps (by assumption) (by assumption)) rfl (by k_is) rfl rfl rfl
  case kB => exact locs rfl
  case c2 => exact rfl
  case c3 => exact rfl
  case c4 => exact rfl
  case c5 => decide
  k_whole
  intro L' h₁ hL F K₁ X' T'
  have N : News (hideAll s.heap []) L' h₁ [] := News.nil
  (try dsimp only)
  k_steps
  with_unfolding_all refine call_sub (IsPat.keeps (pat55 (by assumption)) (Fr.keep (by assumption))) (nl_engine _) (by omega) (by decide) (by decide +kernel) fun h' tk' u' hk' => ?_
  walk_at "my after"
  k_steps
  with_unfolding_all refine call_sub (IsPat.keeps (pat50 (by assumption)) (Fr.keep (by assumption))) (dot_engine _ hy) hy (by decide) (by decide +kernel) fun h' tk' u' hk' => ?_
  walk_at "my after"
  k_steps
  exact ret _ _ _ (Fr.keep (by assumption))
end
section



local macro_rules | `(tactic| omega) => `(tactic| lia)
/-- newlines made one kind -/
noncomputable def nlList : List Nat → List Nat
  | [] => []
  | 13 :: 10 :: r => 13 :: 10 :: nlList r
  | c :: r => if c = 10 ∨ c = 13 then 13 :: 10 :: nlList r else c :: nlList r
/-- dots at a line's head made two -/
noncomputable def dotList : Bool → List Nat → List Nat
  | _, [] => []
  | b, c :: r => if b = true ∧ c = 46 then 46 :: 46 :: dotList false r else c :: dotList (c == 10) r
theorem nlList_plain {c : Nat} {r : List Nat} (h : ¬ (c = 10 ∨ c = 13)) : nlList (c :: r) = c :: nlList r := by
  rw [nlList]
  · exact if_neg h
  · intro q e _; exact h (.inr e)
theorem nlList_two {r : List Nat} : nlList (13 :: 10 :: r) = 13 :: 10 :: nlList r := by
  rw [nlList]
theorem nlList_one {c : Nat} {r : List Nat} (h : c = 10 ∨ c = 13) (h2 : c = 13 → r.head? ≠ some 10) : nlList (c :: r) = 13 :: 10 :: nlList r := by
  rw [nlList]
  · exact if_pos h
  · intro q e e2; exact h2 e (by rw [e2]; rfl)
section
variable {T : Array Nat}
theorem getD_of_drop {p c : Nat} {r : List Nat} (h : T.toList.drop p = c :: r) : T.getD p 0 = c := by
  have q : T.toList[p]? = some c := by rw [← List.head?_drop, h]; rfl
  rw [Array.getD_eq_getD_getElem?, ← Array.getElem?_toList, q]; rfl
theorem drop_at {p : Nat} (h : p < T.size) : T.toList.drop p = T.getD p 0 :: T.toList.drop (p + 1) := by
  have hl : p < T.toList.length := h
  rw [List.drop_eq_getElem_cons hl]
  congr 1
  rw [Array.getD_eq_getD_getElem?, Array.getElem?_eq_getElem h]; rfl
theorem nl_split : ∀ n p, n = T.size - p → match nlFind T n p with
    | none => nlList (T.toList.drop p) = T.toList.drop p
    | some q => p ≤ q ∧ q < T.size ∧ nlList (T.toList.drop p) = (T.toList.drop p).take (q - p) ++ [13, 10] ++ nlList (T.toList.drop (nlEnd T T.size q)) := by
  intro n
  induction n with
  | zero =>
    intro p h
    have : T.toList.drop p = [] := List.drop_eq_nil_of_le (by show T.size ≤ p; omega)
    show nlList _ = _
    rw [this]; rfl
  | succ n ih =>
    intro p h
    have hp : p < T.size := by omega
    have hd := drop_at hp
    unfold nlFind
    by_cases hc : T.getD p 0 = 10 ∨ T.getD p 0 = 13
    · rw [if_pos hc]
      refine ⟨Nat.le_refl _, hp, ?_⟩
      rw [Nat.sub_self, List.take_zero, List.nil_append]
      by_cases h3 : T.getD p 0 = 13 ∧ p + 1 < T.size ∧ T.getD (p + 1) 0 = 10
      · have e : nlEnd T T.size p = p + 2 := if_pos h3
        obtain ⟨a1, a2, a3⟩ := h3
        rw [e, hd, a1, drop_at a2, a3, nlList_two]
        rfl
      · have e : nlEnd T T.size p = p + 1 := if_neg h3
        rw [e, hd, nlList_one hc]
        · rfl
        · intro h13 hh
          apply h3
          have hlt : p + 1 < T.size := by
            by_cases z : p + 1 < T.size
            · exact z
            · rw [List.drop_eq_nil_of_le (show T.size ≤ p + 1 by omega)] at hh; cases hh
          refine ⟨h13, hlt, ?_⟩
          rw [drop_at hlt] at hh
          exact Option.some.inj hh
    · rw [if_neg hc]
      have i := ih (p + 1) (by omega)
      rw [hd, nlList_plain hc]
      cases hq : nlFind T n (p + 1) with
      | none => rw [hq] at i; show _ = _; rw [i]
      | some q =>
        rw [hq] at i
        obtain ⟨i1, i2, i3⟩ := i
        refine ⟨by omega, i2, ?_⟩
        rw [i3, show q - p = (q - (p + 1)) + 1 by omega, List.take_succ_cons]
        rfl
theorem nl_sub : ∀ f d, d ≤ T.size → T.size - d < f → subFrom T.toList [13, 10] (nlFnd T) f d = nlList (T.toList.drop d) := by
  intro f
  induction f with
  | zero => intro d _ h; omega
  | succ f ih =>
    intro d hd h
    unfold subFrom
    have q := nl_split (T := T) (T.size - d) d rfl
    unfold nlFnd
    cases hq : nlFind T (T.size - d) d with
    | none => rw [hq] at q; exact q.symm
    | some p =>
      rw [hq] at q
      obtain ⟨q1, q2, q3⟩ := q
      have he : nlEnd T T.size p ≤ T.size ∧ p < nlEnd T T.size p := by
        by_cases h3 : T.getD p 0 = 13 ∧ p + 1 < T.size ∧ T.getD (p + 1) 0 = 10
        · rw [show nlEnd T T.size p = p + 2 from if_pos h3]; omega
        · rw [show nlEnd T T.size p = p + 1 from if_neg h3]; omega
      show _ ++ _ ++ subFrom _ _ _ f (nlEnd T T.size p) = _
      rw [show (fun s => Option.map (fun q => (q, nlEnd T T.size q)) (nlFind T (T.size - s) s)) = nlFnd T from rfl, ih (nlEnd T T.size p) he.1 (by omega), q3]
theorem lineHead_succ {p : Nat} : lineHead T (p + 1) = (T.getD p 0 == 10) := by
  unfold lineHead
  simp
theorem dotList_plain {b : Bool} {c : Nat} {r : List Nat} (h : ¬ (b = true ∧ c = 46)) : dotList b (c :: r) = c :: dotList (c == 10) r := by
  rw [dotList]; exact if_neg h
theorem dotList_dot {r : List Nat} : dotList true (46 :: r) = 46 :: 46 :: dotList false r := by
  rw [dotList]; exact if_pos ⟨rfl, rfl⟩
theorem dot_split : ∀ n p, n = T.size - p → match dotFind T n p with
    | none => dotList (lineHead T p) (T.toList.drop p) = T.toList.drop p
    | some q => p ≤ q ∧ q < T.size ∧ dotList (lineHead T p) (T.toList.drop p) = (T.toList.drop p).take (q - p) ++ [46, 46] ++ dotList (lineHead T (q + 1)) (T.toList.drop (q + 1)) := by
  intro n
  induction n with
  | zero =>
    intro p h
    have : T.toList.drop p = [] := List.drop_eq_nil_of_le (by show T.size ≤ p; omega)
    show dotList _ _ = _
    rw [this]; rfl
  | succ n ih =>
    intro p h
    have hp : p < T.size := by omega
    have hd := drop_at hp
    unfold dotFind
    by_cases hc : lineHead T p = true ∧ T.getD p 0 = 46
    · rw [if_pos hc]
      refine ⟨Nat.le_refl _, hp, ?_⟩
      rw [Nat.sub_self, List.take_zero, List.nil_append, hd, hc.1, hc.2, dotList_dot, lineHead_succ, hc.2]
      rfl
    · rw [if_neg hc]
      have i := ih (p + 1) (by omega)
      rw [hd, dotList_plain hc, ← lineHead_succ]
      cases hq : dotFind T n (p + 1) with
      | none => rw [hq] at i; show _ = _; rw [i]
      | some q =>
        rw [hq] at i
        obtain ⟨i1, i2, i3⟩ := i
        refine ⟨by omega, i2, ?_⟩
        rw [i3, show q - p = (q - (p + 1)) + 1 by omega, List.take_succ_cons]
        rfl
theorem dot_sub : ∀ f d, d ≤ T.size → T.size - d < f → subFrom T.toList [46, 46] (dotFnd T) f d = dotList (lineHead T d) (T.toList.drop d) := by
  intro f
  induction f with
  | zero => intro d _ h; omega
  | succ f ih =>
    intro d hd h
    unfold subFrom
    have q := dot_split (T := T) (T.size - d) d rfl
    unfold dotFnd
    cases hq : dotFind T (T.size - d) d with
    | none => rw [hq] at q; exact q.symm
    | some p =>
      rw [hq] at q
      obtain ⟨q1, q2, q3⟩ := q
      show _ ++ _ ++ subFrom _ _ _ f (p + 1) = _
      rw [show (fun s => Option.map (fun q => (q, q + 1)) (dotFind T (T.size - s) s)) = dotFnd T from rfl, ih (p + 1) (by omega) (by omega), q3]
end
theorem subNl_eq (x : Str) : subAll x (Str.ofString "\r\n") (nlFnd x.cps) = ⟨(nlList x.cps.toList).toArray⟩ := by
  unfold subAll
  rw [show (Str.ofString "\r\n").cps.toList = [13, 10] from rfl, nl_sub _ 0 (Nat.zero_le _) (by omega)]
  rfl
theorem subDot_eq (x : Str) : subAll x (Str.ofString "..") (dotFnd x.cps) = ⟨(dotList true x.cps.toList).toArray⟩ := by
  unfold subAll
  rw [show (Str.ofString "..").cps.toList = [46, 46] from rfl, dot_sub _ 0 (Nat.zero_le _) (by omega)]
  rfl
theorem quoteT_eq (x : Str) : quoteT x = ⟨(dotList true (nlList x.cps.toList)).toArray⟩ := by
  show subAll (subAll x (Str.ofString "\r\n") (nlFnd x.cps)) (Str.ofString "..") (dotFnd (subAll x (Str.ofString "\r\n") (nlFnd x.cps)).cps) = _
  rw [subNl_eq, subDot_eq]
/-- a line without an end -/
def Lined (l : List Nat) : Prop := ∀ c ∈ l, c ≠ 10 ∧ c ≠ 13
noncomputable def dotLine : List Nat → List Nat
  | [] => []
  | c :: r => if c = 46 then 46 :: 46 :: r else c :: r
theorem nlList_line {l : List Nat} (h : Lined l) (r : List Nat) : nlList (l ++ r) = l ++ nlList r := by
  induction l with
  | nil => rfl
  | cons c l ih =>
    have h1 := h c (.head _)
    rw [List.cons_append, nlList_plain (by rintro (e | e); exact h1.1 e; exact h1.2 e), ih fun d hd => h d (.tail _ hd)]
    rfl
theorem dotList_line {l : List Nat} (h : Lined l) (r : List Nat) : dotList false (l ++ r) = l ++ dotList false r := by
  induction l with
  | nil => rfl
  | cons c l ih =>
    have h1 := h c (.head _)
    rw [List.cons_append, dotList_plain (by simp), show (c == 10) = false from by simpa using h1.1, ih fun d hd => h d (.tail _ hd)]
    rfl
theorem dotList_head {l : List Nat} (h : Lined l) (hl : l ≠ []) (r : List Nat) : dotList true (l ++ r) = dotLine l ++ dotList false r := by
  cases l with
  | nil => exact absurd rfl hl
  | cons c l =>
    have h1 := h c (.head _)
    have h2 : Lined l := fun d hd => h d (.tail _ hd)
    rw [List.cons_append]
    by_cases e : c = 46
    · subst e
      rw [dotList_dot, show dotLine (46 :: l) = 46 :: 46 :: l from by rw [dotLine]; exact if_pos rfl, dotList_line h2]
      rfl
    · rw [dotList_plain (by simp [e]), show dotLine (c :: l) = c :: l from (by rw [dotLine]; exact if_neg e), show (c == 10) = false from (by simpa using h1.1), dotList_line h2]
      rfl
theorem quoteT_line {x : Str} (h : Lined x.cps.toList) : quoteT x = ⟨(dotLine x.cps.toList).toArray⟩ := by
  rw [quoteT_eq]
  have e : nlList x.cps.toList = x.cps.toList := by
    have := nlList_line h []
    rw [List.append_nil] at this
    rw [this]; exact List.append_nil _
  rw [e]
  by_cases hn : x.cps.toList = []
  · rw [hn]; rfl
  · have := dotList_head h hn []
    rw [List.append_nil] at this
    rw [this, show dotList false [] = [] from rfl, List.append_nil]
end
section
theorem at_MItems : True := by
  w_top off
  k_with_none
  k_with "my side" => first | assumption | exact rfl | ((try simp only [depth_under_make, depth_under_kw, depth_in1, depth_deeper, depth_caller, units_in1, units_deeper, Around.mark_units, units_caller] at *); (try dsimp only [Around.deeper, Around.in1] at *); omega)
  k_with "my after" => ((rename (∀ _ _, _ → _) => zq_hkk); (have zq_F' := Fr.keeps' (by assumption) zq_hkk); (have zq_N' := News.keeps' (by assumption) zq_hkk); (try dsimp only); (try k_sweep); (try k_fold))
  k_with "Hid" => (refine Hid.use (by with_reducible assumption) ?_; try dsimp only)
  k_with "execs cons" => (k_here; first | k_gentoks | ((with_reducible refine execs_kont ?_); intro zq_R zq_hR; try dsimp only))
  k_with "call ref" => (k_here; (with_reducible show wpAny _ _ (PySem.call (Value.ref 94) _ _) _ _ _); (with_unfolding_all first | refine' convert_name (by walk_at "my side") (by walk_at "my side") (by exact Fr.keep (by assumption)) (by assumption) (by assumption) (by assumption) ?_ | refine' convert_val (by walk_at "my side") (by walk_at "my side") (by exact Fr.keep (by assumption)) (by assumption) (by assumption) (by assumption) ?_); k_whole; intro zq_h' zq_tk' zq_hk'; walk_at "my after")
  trivial



local macro_rules | `(tactic| k_inst) => `(tactic| exact inst_keep (by assumption) (Fr.keep (by assumption)))
theorem items_ok {prog : Program} {w : World} {dp un : Nat} {fr : Option (List Env)} {gd : Option (List Code)} {s : Shared} {b : PySem.Heap} {mean : ExcName → Option Value} {mg mb : Str → Option Value} {Q E : Value → Shared → Prop}
    (hd : dp + 1 < recursionLimit) (hu : un + 8 < cLine) (hb : ∀ a o, b.get? a = some o → s.heap.get? a = some o)
    (X : (Mine.hd.heap_39 w.params).In b) (T : Top Mine.hd.view_39 lo mean mg mb b) {self l : Addr} {vs : List Value} {n : Nat}
    (H : HdrAt (Heap.At s.heap) self l) (hl : s.heap.get? l = some (listOf vs.toArray n)) (hlen : vs.length ≤ 1000)
    (ret : ∀ h' tk' D, (∀ a o, s.heap.get? a = some o → h'.get? a = some o) → s.heap.get? D = none → h'.get? D = some (listOf vs.toArray 0) → Q (.ref D) { s with heap := h', toks := tk' }) :
    wpAny (model prog w) (Around.mk none dp fr gd un) (call (.ref 159) [.ref self]) Q E s := by
  obtain ⟨dx, hs, tk, I⟩ := H.inst
  refine wpAny_call ?_
  refine' enterM (binds := [(Str.ofString "self", .ref self)]) [] hb (by simp) X T ?k6 ?k7 ?k8 ?k9 ?kB ?_ ?c2 ?c3 ?c4 ?c5
  case k6 => k_is
  case k7 => k_is
  case k8 => (first | omega | (dsimp only [Around.deeper, Around.in1]; omega))
  case k9 => first | exact BindsTo.of_eq rfl | exact binds_K (Frag.In.keeps (by assumption) (by assumption)) rfl (by k_is) rfl rfl rfl
  case kB => exact locs rfl
  case c2 => exact rfl
  case c3 => exact rfl
  case c4 => exact rfl
  case c5 => decide
  k_whole
  intro L' h₁ hL F K₁ X' T'
  have N : News (hideAll s.heap []) L' h₁ [] := News.nil
  have I' : InstAt (hideAll s.heap []) self (instObj 195 dx) 195 (some (dictOf [⟨hs, .str (Str.ofString "_headers") tk, .ref l⟩] 1)) := I
  have hlg : (hideAll s.heap []).IsList l vs.toArray := ⟨_, hl, rfl, _, rfl⟩
  (try dsimp only)
  k_steps
  rename News _ _ _ _ => N9
  have q := (N9 _ (.head _)).1
  dsimp only at q
  refine ret _ _ _ (Fr.keep (by assumption)) (N9 _ (.head _)).2.2 ?_
  refine q.trans ?_
  rw [slicePick_all]
end
section



local macro_rules | `(tactic| omega) => `(tactic| lia)
section
variable {prog : Program} {w : World} {A : Around} {E : Value → Shared → Prop} {s : Shared} {env : Env} {h₀ : PySem.Heap} {body : List Stmt} {Q : Flow → Shared → Prop} {x : Str} {pos : Pos}
theorem iter_range_M {r : Addr} {n : Nat} {t u v : Tok} {m : Str → Option Value} (J : Nat → (Str → Option Value) → PySem.Heap → Prop) (hh : A.handled = none) (hr : IsRange s.heap r 0 (n : Int) 1 t u v) (hn : n ≤ 1000)
    (F : Fr h₀ env.locals s.heap m) (hJ : J 0 m s.heap) (mono : ∀ i m h h', SK h h' → J i m h → J i m h')
    (turn : ∀ i t' m₁ h tk I, i < n → J i m₁ h → Fr h₀ env.locals h m₁ → env.locals ≠ I → (∃ o, h.get? I = some o ∧ stable o = false) → h₀.get? I = none →
      wpAny (model prog w) A (assign (.Name x pos) env (.int (i : Int) t')) (fun _ s₃ => wpAny (model prog w) A (execs body env) (TurnM h₀ env.locals [I] h (J (i + 1)) s Q) E s₃) E { s with heap := h, toks := tk })
    (done : ∀ h' tk m', Fr h₀ env.locals h' m' → J n m' h' → Q .next { s with heap := h', toks := tk }) :
    wpAny (model prog w) A (pyIter (.ref r)) (fun it s₂ => LoopM prog w A h₀ env (.Name x pos) body Q E it s₂) E s := by
  have hsz : Builtin.Range.rangeSize 0 (n : Int) 1 = n := by
    unfold Builtin.Range.rangeSize
    split
    · split
      · simp
      · omega
    · omega
  have hsmall : Builtin.Range.small 0 (n : Int) 1 = true := small_one (by omega) (by omega) (by omega) (by omega)
  refine wpAny_pyIter_range hr hsmall ?_
  have W := Walks.range (prog := prog) (w := w) hh s.heap.objs.size 0 1 n
  have hIL : env.locals ≠ s.heap.objs.size := Nat.ne_of_lt F.ns.lt
  refine ⟨_, _, _, n, _, _, m, J, rfl, W, ?_, ?_, ?_, ?_, F.push _, mono _ _ _ _ (SK.of_keeps fun a o e => PySem.Heap.get?_push_of_some _ e) hJ, mono, (fun i s' v Q' st hQ' => wpAny_pure hQ'), ?_, ?_⟩
  · simpa using hIL
  · intro b hb
    rw [List.mem_singleton.mp hb]
    exact next_is_new F
  · rintro i h st b hb o ho
    rw [List.mem_singleton.mp hb] at ho
    rw [st] at ho
    cases ho
    exact unstable rfl rfl
  · show PySem.Heap.get? _ _ = _
    rw [hsz]
    have q : (0 + ((0 : Nat) : Int) * 1 : Int) = 0 := by omega
    rw [q]
    exact PySem.Heap.get?_push_size _ rfl
  · rintro i v m₁ h tk hi ⟨t', rfl⟩ hJ₁ F₁ st
    have q : (0 + ((i : Nat) : Int) * 1 : Int) = i := by omega
    rw [q]
    exact turn i t' m₁ h tk _ hi hJ₁ F₁ hIL ⟨_, st, unstable rfl rfl⟩ (next_is_new F)
  · intro h' tk m' F' hJ'
    exact done h' tk m' F' hJ'
theorem TurnM.next' {h₀ : PySem.Heap} {L : Addr} {fp : List Addr} {h h' : PySem.Heap} {tk : Nat} {m' : Str → Option Value} {news : List (Addr × Obj)} {J : (Str → Option Value) → PySem.Heap → Prop} {s : Shared} {Q : Flow → Shared → Prop} {ms : List Addr}
    (KP : Kept h₀ h L ms) (F' : Fr h₀ L h' m') (N' : News h₀ L h' news) (hs : ∀ p ∈ sat h₀ L ms h, p ∈ news) (hfp : ∀ b ∈ fp, b ≠ L ∧ b ∉ ms)
    (hJ : (∀ a o, a ≠ L → a ∉ ms → h.get? a = some o → h'.get? a = some o) → J m' h') : TurnM h₀ L fp h J s Q .next { s with heap := h', toks := tk } := by
  have k := KP _ _ _ F' N' hs
  exact ⟨h', tk, m', rfl, F', fun b hb o e => k _ _ (hfp b hb).1 (hfp b hb).2 e, hJ k⟩
end
end
section



local macro_rules | `(tactic| omega) => `(tactic| lia)
section
variable {prog : Program} {w : World} {A : Around} {E : Value → Shared → Prop} {s : Shared}
theorem sub_at {value slice : PySem.Expr} {l : Addr} {vs : List Value} {i : Nat} {v : Value} {u : Tok} {Q : Value → Shared → Prop} (hl : s.heap.IsList l vs.toArray) (hv : vs[i]? = some v) (hi : i < 1000) (h : Q v s)
    (hs : subscripted slice false (.ref l) (.int (i : Int) u) = operate [.ref l, .int (i : Int) u] (getItem (.ref l) (.int (i : Int) u)) := by with_unfolding_all rfl) :
    wpAny (model prog w) A (subscriptTail value slice (.ref l) (.int (i : Int) u)) Q E s :=
  tail_any hl.typeIs PySem.F.slot_list_getitem.lookup (wpAny_getItem_list hl (by omega) (by omega) (by simpa using hv) h) hs
theorem sub_last {value slice : PySem.Expr} {l : Addr} {vs : List Value} {v : Value} {u : Tok} {Q : Value → Shared → Prop} (hl : s.heap.IsList l vs.toArray) (hv : vs.getLast? = some v) (hn : vs.length < 1000) (h : Q v s)
    (hs : subscripted slice false (.ref l) (.int (-1) u) = operate [.ref l, .int (-1) u] (getItem (.ref l) (.int (-1) u)) := by with_unfolding_all rfl) :
    wpAny (model prog w) A (subscriptTail value slice (.ref l) (.int (-1) u)) Q E s := by
  have hne : vs ≠ [] := fun q => by rw [q] at hv; cases hv
  have hpos : 0 < vs.length := List.length_pos_iff.mpr hne
  refine tail_any hl.typeIs PySem.F.slot_list_getitem.lookup (wpAny_getItem_list_neg hl (by omega) (by rw [List.size_toArray]; omega) (by omega) ?_ h) hs
  rw [List.size_toArray, show (-1 + (vs.length : Int)).toNat = vs.length - 1 by omega]
  rw [List.getLast?_eq_getElem?] at hv
  simpa using hv
end
section
variable {prog : Program} {w : World} {A : Around} {E : Value → Shared → Prop} {s : Shared}
theorem len_at {l : Addr} {vs : List Value} {n : Nat} {Q : Value → Shared → Prop} (hl : s.heap.IsList l vs.toArray) (hn : vs.length = n) (hb : n ≤ 100000) (h : ∀ t k, Q (.int (n : Int) t) { s with toks := k }) :
    wpAny (model prog w) A (call (.builtin "len") [.ref l]) Q E s := by
  refine call_len_list hl (by rw [List.size_toArray]; omega) ?_
  rw [List.size_toArray, hn]
  exact h _ _
end
section
variable {prog : Program} {w : World} {A : Around} {E : Value → Shared → Prop} {s : Shared} {h₀ : PySem.Heap} {L : Addr} {m : Str → Option Value} {news : List (Addr × Obj)}
theorem add_at {l b : Addr} {vs ws : List Value} {Q : Value → Shared → Prop} (F : Fr h₀ L s.heap m) (N : News h₀ L s.heap news) (hl : s.heap.IsList l vs.toArray) (hb : s.heap.IsList b ws.toArray) (hsz : vs.length + ws.length ≤ 100000)
    (h : ∀ h' d, Fr h₀ L h' m → News h₀ L h' ((d, listOf (vs ++ ws).toArray 0) :: news) → AllLt d news → s.heap.get? d = none → Q (.ref d) { s with heap := h' }) :
    wpAny (model prog w) A (binaryOp .Add (.ref l) (.ref b)) Q E s :=
  add_lists F N hl hb (fun h' F' N' => h h' _ F' N' (allLt_of fun p hp => Heap.lt_size (N p hp).1) (Heap.get?_none_of_le (Nat.le_refl _))) (by rw [sizeLine_eq]; omega)
end
theorem off_list {h : PySem.Heap} {I a : Addr} {vs : Array Value} {n : Nat} (hI : ∃ o, h.get? I = some o ∧ stable o = false) (ha : h.get? a = some (listOf vs n)) : I ≠ a := by
  rintro rfl
  obtain ⟨o, e, q⟩ := hI
  rw [ha] at e
  cases e
  cases q
theorem pushed {h : PySem.Heap} {a : Addr} {vs : List Value} {v : Value} {n : Nat} (e : h.get? a = some (listOf (vs.toArray.push v) n)) : h.get? a = some (listOf (vs ++ [v]).toArray n) := by
  rw [← List.push_toArray]; exact e
section
variable {prog : Program} {w : World} {A : Around} {E : Value → Shared → Prop} {s : Shared} {h₀ : PySem.Heap} {L : Addr} {m : Str → Option Value} {news : List (Addr × Obj)}
theorem slice_to {value slice : PySem.Expr} {l : Addr} {vs : List Value} {ns : List Int} {n : Nat} {t : Tok} {Q : Value → Shared → Prop} (F : Fr h₀ L s.heap m) (N : News h₀ L s.heap news) (hl : s.heap.IsList l vs.toArray) (hi : IntsAre vs ns) (hz : vs.length ≤ 100000)
    (h : ∀ h' d, Fr h₀ L h' m → News h₀ L h' ((d, listOf (vs.take n).toArray 0) :: news) → AllLt d news → s.heap.get? d = none → IntsAre (vs.take n) (ns.take n) → Q (.ref d) { s with heap := h' })
    (hs : subscripted slice false (.ref l) (.ref s.heap.objs.size) = operate [.ref s.heap.objs.size, .ref l] (getItem (.ref l) (.ref s.heap.objs.size)) := by with_unfolding_all rfl)
    (ht : ∀ r, letTemporaryGo value (.ref l) r = pure () := by intro _; with_unfolding_all rfl) :
    wpAny (model prog w) A (subscriptTail value slice (.ref l) (.ref s.heap.objs.size)) Q E { s with heap := s.heap.push { cls := .type "slice", data := .fields #[.none, .int (n : Int) t, .none] } } := by
  refine slice_list F N hl .none (.int _ _) (fun h' F' N' => ?_) hs ht (by rw [List.size_toArray, sizeLine_eq]; omega)
  rw [slicePick_upto' vs.toArray n] at N'
  have e : vs.toArray.extract 0 n = (vs.take n).toArray := by simp
  refine h h' _ F' ?_ (allLt_of fun p hp => Nat.lt_succ_of_lt (Heap.lt_size (N p hp).1)) (Heap.get?_none_of_le (Nat.le_succ _)) (hi.take n)
  first
    | exact N'
    | (rw [e] at N'; exact N')
    | (simpa using N')
end
end
section



theorem enterC {prog : Program} {w : World} {A : Around} {s : Shared} {K : Frag} {b : PySem.Heap} {p : Program} {loose : List Str} {mean : ExcName → Option Value} {mg mb : Str → Option Value}
    {R : Result → Shared → Prop} {name qual : Str} {params : Arguments} {body : List Stmt} {scope : Scope} {dV kV doc pm cdv ct oc : Value} {an od : Option Addr} {osl : Array (Option Value)} {f : Addr} {args : Args} {binds : List (Str × Value)}
    (hid : List Addr) (hb : ∀ a o, b.get? a = some o → s.heap.get? a = some o) (hm : ∀ a ∈ hid, b.get? a = none)
    (X : K.In b) (T : Top p loose mean mg mb b)
    (ho : K.lookup f = some ⟨oc, od, .func (fnOf name qual params body scope dV kV doc pm an cdv ct), osl⟩) (hcd : codeIn K cdv qual = true) (hroom : A.depth < recursionLimit)
    (hbind : BindsTo s (fnOf name qual params body scope dV kV doc pm an cdv ct) args binds) (hkind : (binds.all fun y => scope.names.lookup y.1 == some .local || scope.names.lookup y.1 == some .cell) = true)
    (hnd : ((cellsFrom 0 scope.names []).map (·.1)).Nodup)
    (h : ∀ L' h₁ tk cells, L' = s.heap.objs.size → Fr (hideAll s.heap hid) L' h₁ (bindL (envOfC qual scope L' f cdv).kindOf binds fun _ => none) → (∀ a o, s.heap.get? a = some o → h₁.get? a = some o) →
      News (hideAll s.heap hid) L' h₁ cells → CellsAre (bindC (envOfC qual scope L' f cdv).kindOf binds fun _ => none) (cellsFrom (L' + 1) scope.names []) cells →
      K.In (hideAll s.heap hid) → Top p loose mean mg mb (hideAll s.heap hid) →
      wpAny (model prog w) (A.deeper (envOfC qual scope L' f cdv)) (execs body (envOfC qual scope L' f cdv))
        (fun fl s' => R (.ok (.ret (match fl with | .ret v => v | _ => .none))) s')
        (fun e s' => wpAny (model prog w) (A.deeper (envOfC qual scope L' f cdv)) (leaving (envOfC qual scope L' f cdv) e) (fun _ s'' => R (.error e) s'') (fun e' s'' => R (.error e') s'') s')
        { s with heap := h₁, toks := tk })
    (hco : scope.isCoroutine = false) (hgen : scope.isGenerator = false) (hk : scope.kind = .function) : codeAny (model prog w) A (.call (.ref f) args) R s := by
  have st := stays_hide hb hm
  refine codeAny_call_function (fd := fnOf name qual params body scope dV kV doc pm an cdv ct) hroom (hb _ _ (X _ _ ho)) rfl hco hgen rfl (codeRec_of (X.keeps hb) hcd) (hbind _ _ _ _ ?_)
  refine wpAny_newFunctionEnv_cells hk (kindsX hkind _) fun env' he s' x => ?_
  subst he
  refine ⟨(T.nolimit.keeps hb).keeps x.toInCall.keep, codeAny_func ?_⟩
  obtain ⟨h₁, tk, rfl, _⟩ := x.done
  have hk₁ := x.toInCall.keep
  obtain ⟨cells, NC, Y⟩ := Cl.news (h₀ := s.heap) (Nat.le_refl _) fun n c hm => ⟨x.cell n c (lookup_of_mem_nodup (cellsFrom_names scope.names 0 (s.heap.objs.size + 1) [] [] rfl ▸ hnd) hm), x.above n c hm⟩
  refine h s.heap.objs.size h₁ tk cells rfl ⟨x.toInCall.ns, fun b o e => hk₁ b o (of_hideAll _ e), Nat.le_of_eq (hideAll_size _ _)⟩ hk₁ (fun p hp => ?_) Y (X.keeps st) (T.keeps st)
  refine ⟨(NC p hp).1, (NC p hp).2.1, ?_⟩
  cases q : (hideAll s.heap hid).get? p.1 with
  | none => rfl
  | some o => have := of_hideAll _ q; rw [(NC p hp).2.2] at this; cases this
end
section



local macro_rules | `(tactic| omega) => `(tactic| lia)
section
variable {prog : Program} {w : World} {A : Around} {E : Value → Shared → Prop} {s : Shared} {env : Env}

abbrev testsOf (ifs : List PySem.Expr) (env : Env) : Sem Bool := forIn ifs true fun c r => if r = true then do let ok ← isTrue c env (eval c env); pure (ForInStep.yield ok) else pure (ForInStep.yield r)

theorem comp_loop {elt target iter : PySem.Expr} {ifs : List PySem.Expr} {scope : Scope} {pos : Pos} {it acc : Value} {env : Env} {R : Result → Shared → Prop} (I : Nat → Shared → Prop)
    (turn : ∀ n s, I n s → wpAny (model prog w) A (pyNext it) (fun r s₁ => match r with
      | none => R (.ok .next) s₁
      | some v => wpAny (model prog w) A (letOwnedTupleGo target it v) (fun _ s₀ => wpAny (model prog w) A (assign target env v) (fun _ s₂ =>
          wpAny (model prog w) A (testsOf ifs env) (fun ok s₃ =>
            if ok = true then wpAny (model prog w) A (eval elt env) (fun x s₄ =>
              wpAny (model prog w) A (call (.builtin "list.append") [acc, x]) (fun _ s₅ => ∃ m, m < n ∧ I m s₅) (notedBy (model prog w) A env fun e s' => R (.error e) s') s₄) (notedBy (model prog w) A env fun e s' => R (.error e) s') s₃
            else ∃ m, m < n ∧ I m s₃) (notedBy (model prog w) A env fun e s' => R (.error e) s') s₂) (notedBy (model prog w) A env fun e s' => R (.error e) s') s₀) (notedBy (model prog w) A env fun e s' => R (.error e) s') s₁) (notedBy (model prog w) A env fun e s' => R (.error e) s') s)
    (n : Nat) (h : I n s) : codeAny (model prog w) A (.compLoop (.ListComp elt [⟨target, iter, ifs, 0⟩] scope pos) 0 it acc env) R s := by
  refine codeAny_loop rfl I (fun n s hI => ?_) n h
  show wpAny _ A ((compTurn (.ListComp elt [⟨target, iter, ifs, 0⟩] scope pos) 0 it acc env).onRaise (fun x => do noteFrame x env; theTreesLotGoes x)) _ _ s
  refine wpAny_noted ?_
  rw [compTurn_list]
  refine wpAny_bind (wpAny_standAt (wpAny_bind (wpAny_mono (turn n s hI) (fun r s₁ h₁ => ?_) fun _ _ h' => h')))
  cases r with
  | none => exact wpAny_pure h₁
  | some v =>
    refine wpAny_bind (wpAny_mono h₁ (fun _ s₀ h₀' => ?_) fun _ _ h' => h')
    refine wpAny_bind (wpAny_mono h₀' (fun _ s₂ h₂ => wpAny_bind (wpAny_mono h₂ (fun ok s₃ h₃ => ?_) fun _ _ h' => h')) fun _ _ h' => h')
    cases ok with
    | false => exact wpAny_pure ⟨rfl, h₃⟩
    | true =>
      exact wpAny_bind (wpAny_bind (wpAny_mono h₃ (fun x s₄ h₄ => wpAny_bind (wpAny_mono h₄ (fun _ s₅ h₅ => wpAny_pure (wpAny_pure ⟨rfl, h₅⟩)) fun _ _ h' => h')) fun _ _ h' => h'))

/-- the end of a comprehension's turn -/
inductive CEnd (h₀ : PySem.Heap) (C D : Addr) (h : PySem.Heap) (J : List Value → PySem.Heap → Prop) (s : Shared) (ys : List Value) (s' : Shared) : Prop
  | mk (h') (tk') (mC) (w0 : s' = { s with heap := h', toks := tk' }) (w1 : Fr h₀ C h' mC) (w2 : (∀ a o, a ≠ C → h.get? a = some o → h'.get? a = some o)) (w3 : J ys (hideAll h' [D, C])) : CEnd h₀ C D h J s ys s'

def CompTurn (prog : Program) (w : World) (A : Around) (h₀ : PySem.Heap) (env : Env) (scope : Scope) (cl : List (Str × Addr)) (target : PySem.Expr) (ifs : List PySem.Expr) (elt : PySem.Expr) (s : Shared) (fp wr : List Addr) (St : Nat → PySem.Heap → Prop) (J : Nat → List Value → PySem.Heap → Prop) (i : Nat) (v : Value) : Prop :=
  ∀ D C ys k h tk mC E', J i ys (hideAll h [D, C]) → Fr h₀ C h mC → St (i + 1) h → h.get? D = some (listOf ys.toArray k) → ys.length ≤ i → D ≠ C → D ∉ fp → C ∉ fp → (∀ a o, a ∉ wr → s.heap.get? a = some o → h.get? a = some o) → s.heap.get? D = none → s.heap.get? C = none →
    wpAny (model prog w) A (assign target (compEnvC scope cl C env) v) (fun _ s₃ => wpAny (model prog w) A (testsOf ifs (compEnvC scope cl C env)) (fun ok s₄ =>
      if ok = true then wpAny (model prog w) A (eval elt (compEnvC scope cl C env)) (fun y s₅ => CEnd h₀ C D h (J (i + 1)) s (ys ++ [y]) s₅) E' s₄ else CEnd h₀ C D h (J (i + 1)) s ys s₄) E' s₃) E' { s with heap := h, toks := tk }

theorem comp_block_M {h₀ : PySem.Heap} {elt target iter : PySem.Expr} {ifs : List PySem.Expr} {scope : Scope} {cl : List (Str × Addr)} {pos : Pos} {s₂ : Shared} {I : Addr} {fp wr : List Addr} {n : Nat} {P : Nat → Value → Prop}
    {St : Nat → PySem.Heap → Prop} {J : Nat → List Value → PySem.Heap → Prop} (W : Walks prog w A I fp wr n P St) (hsz : n ≤ 100000) {RR : Value → Addr → Result → Shared → Prop}
    (hcell : ∀ y ∈ scope.names, y.2 ≠ .cell) (hkind : scope.kind = .function) (hst : St 0 s₂.heap) (hfp : ∀ b ∈ fp, b < s₂.heap.objs.size)
    (hun : ∀ i h, St i h → ∀ b ∈ wr, ∀ o, h.get? b = some o → stable o = false) (hkeep : ∀ b o, h₀.get? b = some o → s₂.heap.get? b = some o) (hab : h₀.objs.size ≤ s₂.heap.objs.size) (hwr : ∀ b ∈ wr, h₀.get? b = none)
    (hJ : J 0 [] s₂.heap) (mono : ∀ i ys h h', SK h h' → J i ys h → J i ys h')
    (hgo : ∀ i (s' : Shared) v (Q' : Unit → Shared → Prop) E', St i s'.heap → Q' () s' → wpAny (model prog w) A (letOwnedTupleGo target (.ref I) v) Q' E' s')
    (turn : ∀ i v, i < n → P i v → CompTurn prog w A h₀ env scope cl target ifs elt s₂ fp wr St J i v)
    (hRR : ∀ D C h' tk m' ys k, s₂.heap.get? D = none → s₂.heap.get? C = none → D ≠ C → h'.Ns C m' → h'.get? D = some (listOf ys.toArray k) →
      (∀ b o, b ∉ wr → s₂.heap.get? b = some o → h'.get? b = some o) → J n ys (hideAll h' [D, C]) → RR (.ref D) C (.ok .next) { s₂ with heap := h', toks := tk }) :
    wpAny (model prog w) A (newList []) (fun acc s₃ => wpAny (model prog w) A (newFunctionEnv scope env.globals cl [] env.qual none .none (some env)) (fun cenv s₄ =>
      codeAny (model prog w) A (.compStart (.ListComp elt [⟨target, iter, ifs, 0⟩] scope pos) 0 (.ref I) acc { cenv with scope := relabel scope env }) (RR acc cenv.locals) s₄) E s₃) E s₂ := by
  refine wpAny_newObj_type (wpAny_newFunctionEnv hcell (by intro y hy; simp at hy) (fun h₁ hns₁ hsb₁ => ?_) hkind)
  dsimp only at hns₁ hsb₁ ⊢
  generalize hH2 : s₂.heap.push { cls := .type "list", dict := none, data := .seq ([] : List Value).toArray } = H2 at hns₁ hsb₁ ⊢
  have hC : H2.objs.size = s₂.heap.objs.size + 1 := by rw [← hH2, Heap.size_push]
  have hDC : s₂.heap.objs.size ≠ H2.objs.size := by rw [hC]; exact Nat.ne_of_lt (Nat.lt_succ_self _)
  have below : ∀ b, b < s₂.heap.objs.size → b ≠ H2.objs.size ∧ b ≠ s₂.heap.objs.size := fun b hb => ⟨by rw [hC]; exact Nat.ne_of_lt (Nat.lt_succ_of_lt hb), Nat.ne_of_lt hb⟩
  have hDf : s₂.heap.objs.size ∉ fp := fun hm => Nat.lt_irrefl _ (hfp _ hm)
  have hCf : H2.objs.size ∉ fp := fun hm => by have := hfp _ hm; rw [hC] at this; exact Nat.lt_irrefl _ (Nat.lt_of_succ_lt this)
  have old : ∀ b o, s₂.heap.get? b = some o → h₁.get? b = some o := fun b o e => hsb₁.extBut b o (below b (Heap.lt_size e)).1 (Heap.get?_push_of_some _ (hH2 ▸ Heap.get?_push_of_some _ e))
  have hacc : h₁.get? s₂.heap.objs.size = some (listOf ([] : List Value).toArray 0) := hsb₁.extBut _ _ hDC (Heap.get?_push_of_some _ (hH2 ▸ Heap.get?_push_size _ rfl))
  have hst₁ : St 0 h₁ := W.frame _ _ _ hst fun b _ o e => old b o e
  have fresh : ∀ a, s₂.heap.objs.size ≤ a → s₂.heap.get? a = none := fun a ha => by
    cases e : s₂.heap.get? a with
    | none => rfl
    | some o' => exact absurd (Heap.lt_size e) (Nat.not_lt.mpr ha)
  have hDw : s₂.heap.objs.size ∉ wr := fun q => hDf (W.sub _ q)
  have hCw : H2.objs.size ∉ wr := fun q => hCf (W.sub _ q)
  have fD := fresh _ (Nat.le_refl s₂.heap.objs.size)
  have fC := fresh H2.objs.size (by rw [hC]; exact Nat.le_succ _)
  have toHide : ∀ h : PySem.Heap, (∀ b o, b ∉ wr → s₂.heap.get? b = some o → h.get? b = some o) → True := fun _ _ => trivial
  have loop : ∀ s₃ : Shared, s₃ = { s₂ with heap := h₁, toks := s₂.toks + ([] : List (Str × Value)).length } →
      codeAny (model prog w) A (.compLoop (.ListComp elt [⟨target, iter, ifs, 0⟩] scope pos) 0 (.ref I) (.ref s₂.heap.objs.size) (compEnvC scope cl H2.objs.size env))
        (RR (.ref s₂.heap.objs.size) H2.objs.size) s₃ := by
    rintro s₃ rfl
    refine comp_loop
      (fun k s' => ∃ h' tk mC ys kk i, s' = { s₂ with heap := h', toks := tk } ∧ St i h' ∧ Fr h₀ H2.objs.size h' mC ∧ h'.get? s₂.heap.objs.size = some (listOf ys.toArray kk) ∧ ys.length ≤ i ∧ J i ys (hideAll h' [s₂.heap.objs.size, H2.objs.size]) ∧ i ≤ n ∧ k = n + 1 - i ∧
        (∀ b o, b ∉ wr → s₂.heap.get? b = some o → h'.get? b = some o)) ?_ (n + 1)
      ⟨h₁, _, _, [], 0, 0, rfl, hst₁, ⟨hns₁, fun b o e => old b o (hkeep b o e), by show h₀.objs.size ≤ H2.objs.size; rw [hC]; exact Nat.le_succ_of_le hab⟩, hacc, Nat.le_refl _,
        mono _ _ _ _ (fun a o _ e => hideAll_get _ (old a o e) (fun q => by
          rcases List.mem_cons.mp q with q | q
          · rw [q, fD] at e; cases e
          · rw [List.mem_singleton.mp q, fC] at e; cases e)) hJ, Nat.zero_le _, rfl, fun b o _ e => old b o e⟩
    rintro k s' ⟨h', tk, mC, ys, kk, i, rfl, hst', F', hD', hyl, hJ', hi, rfl, hk'⟩
    have next : ∀ h₂ : PySem.Heap, (∀ b o, b ∉ wr → h'.get? b = some o → h₂.get? b = some o) → Fr h₀ H2.objs.size h₂ mC ∧ h₂.get? s₂.heap.objs.size = some (listOf ys.toArray kk) ∧ J i ys (hideAll h₂ [s₂.heap.objs.size, H2.objs.size]) ∧ (∀ b o, b ∉ wr → s₂.heap.get? b = some o → h₂.get? b = some o) := fun h₂ hk₂ =>
      ⟨⟨F'.ns.at' fun o e => hk₂ _ o hCw e, fun b o e => hk₂ b o (fun hb => by rw [hwr b hb] at e; cases e) (F'.keep b o e), F'.above⟩, hk₂ _ _ hDw hD',
        mono _ _ _ _ (fun a o q e => by
          have hne : a ∉ [s₂.heap.objs.size, H2.objs.size] := fun z => by rw [hideAll_none _ z] at e; cases e
          have e' := of_hideAll _ e
          exact hideAll_get _ (hk₂ a o (fun hb => by rw [hun _ _ hst' a hb o e'] at q; cases q) e') hne) hJ', fun b o hb e => hk₂ b o hb (hk' b o hb e)⟩
    by_cases hlt : i < n
    · refine W.item i _ _ _ hlt hst' fun v h₂ tk₂ hP hst₂ hk₂ => ?_
      obtain ⟨F₂, hD₂, hJ₂, hk₂'⟩ := next h₂ hk₂
      refine hgo (i + 1) _ v _ _ hst₂ ?_
      have fin : ∀ ys' kk' (s₅ : Shared), ys'.length ≤ i + 1 → (∃ h₅ tk₅ m₅, s₅ = { s₂ with heap := h₅, toks := tk₅ } ∧ Fr h₀ H2.objs.size h₅ m₅ ∧ (∀ a o, a ≠ H2.objs.size → a ≠ s₂.heap.objs.size → h₂.get? a = some o → h₅.get? a = some o) ∧ h₅.get? s₂.heap.objs.size = some (listOf ys'.toArray kk') ∧ J (i + 1) ys' (hideAll h₅ [s₂.heap.objs.size, H2.objs.size])) →
          ∃ m, m < n + 1 - i ∧ ∃ h' tk mC ys kk i, s₅ = { s₂ with heap := h', toks := tk } ∧ St i h' ∧ Fr h₀ H2.objs.size h' mC ∧ h'.get? s₂.heap.objs.size = some (listOf ys.toArray kk) ∧ ys.length ≤ i ∧ J i ys (hideAll h' [s₂.heap.objs.size, H2.objs.size]) ∧ i ≤ n ∧ m = n + 1 - i ∧
            (∀ b o, b ∉ wr → s₂.heap.get? b = some o → h'.get? b = some o) := by
        rintro ys' kk' s₅ hl' ⟨h₅, tk₅, m₅, rfl, F₅, hk₅, hD₅, hJ₅⟩
        refine ⟨n + 1 - (i + 1), by omega, h₅, tk₅, m₅, ys', kk', i + 1, rfl, W.frame _ _ _ hst₂ fun b hb o e => hk₅ b o (fun q => hCf (q ▸ hb)) (fun q => hDf (q ▸ hb)) e, F₅, hD₅, hl', hJ₅, hlt, rfl, fun b o hb e => ?_⟩
        exact hk₅ b o (below b (Heap.lt_size e)).1 (below b (Heap.lt_size e)).2 (hk₂' b o hb e)
      refine wpAny_mono (turn i v hlt hP _ _ ys kk h₂ tk₂ mC _ hJ₂ F₂ hst₂ hD₂ hyl hDC hDf hCf hk₂' fD fC) (fun _ s₃ h₃ => wpAny_mono h₃ (fun ok s₄ h₄ => ?_) fun _ _ e => e) fun _ _ e => e
      cases ok with
      | false =>
        obtain ⟨h₅, tk₅, m₅, rfl, F₅, hk₅, hJ₅⟩ := h₄
        exact fin ys kk _ (by omega) ⟨h₅, tk₅, m₅, rfl, F₅, fun a o h1 _ e => hk₅ a o h1 e, hk₅ _ _ hDC hD₂, hJ₅⟩
      | true =>
        refine wpAny_mono h₄ (fun y s₅ h₅ => ?_) fun _ _ e => e
        obtain ⟨h₅, tk₅, m₅, rfl, F₅, hk₅, hJ₅⟩ := h₅
        refine append_at (hk₅ _ _ hDC hD₂) (fun h₆ hs₆ hD₆ => ?_) (by rw [List.size_toArray, sizeLine_eq]; omega)
        refine fin (ys ++ [y]) (kk + 1) _ (by rw [List.length_append, List.length_singleton]; omega) ⟨h₆, _, m₅, rfl, ?_, fun a o h1 h2 e => (hs₆.2 a h2).trans (hk₅ a o h1 e), by rw [← List.push_toArray]; exact hD₆, ?_⟩
        · exact ⟨F₅.ns.at' fun o e => (hs₆.2 _ (Ne.symm hDC)).trans e, fun b o e => (hs₆.2 b (fun q => by
            have := hkeep b o e
            rw [q, fD] at this; cases this)).trans (F₅.keep b o e), F₅.above⟩
        · refine mono _ _ _ _ (fun a o _ e => ?_) hJ₅
          have hne : a ∉ [s₂.heap.objs.size, H2.objs.size] := fun z => by rw [hideAll_none _ z] at e; cases e
          exact hideAll_get _ ((hs₆.2 a (fun q => hne (by rw [q]; exact .head _))).trans (of_hideAll _ e)) hne
    · have hin : i = n := by omega
      subst hin
      refine W.done _ _ _ hst' fun h₂ tk₂ hk₂ => ?_
      obtain ⟨F₂, hD₂, hJ₂, hk₂'⟩ := next h₂ hk₂
      exact hRR _ _ h₂ tk₂ mC ys kk fD fC hDC F₂.ns hD₂ hk₂' hJ₂
  exact codeAny_compStart_list (loop _ rfl) (W.self 0 _ _ _ hst₁ (loop _ rfl))

inductive CompM (prog : Program) (w : World) (A : Around) (h₀ : PySem.Heap) (env : Env) (scope : Scope) (cl : List (Str × Addr)) (target : PySem.Expr) (ifs : List PySem.Expr) (elt : PySem.Expr) (Q : Value → Shared → Prop) (it : Value) (s₂ : Shared) : Prop
  | mk (I : Addr) (fp wr : List Addr) (n : Nat) (P : Nat → Value → Prop) (St : Nat → PySem.Heap → Prop) (J : Nat → List Value → PySem.Heap → Prop) (w0 : it = .ref I) (w1 : Walks prog w A I fp wr n P St) (w2 : n ≤ 100000) (w3 : St 0 s₂.heap) (w4 : (∀ b ∈ fp, b < s₂.heap.objs.size)) (w5 : (∀ i h, St i h → ∀ b ∈ wr, ∀ o, h.get? b = some o → stable o = false)) (w6 : (∀ b o, h₀.get? b = some o → s₂.heap.get? b = some o)) (w7 : h₀.objs.size ≤ s₂.heap.objs.size) (w8 : (∀ b ∈ wr, h₀.get? b = none)) (w9 : J 0 [] s₂.heap) (w10 : (∀ i ys h h', SK h h' → J i ys h → J i ys h')) (w11 : (∀ i (s' : Shared) v (Q' : Unit → Shared → Prop) E', St i s'.heap → Q' () s' → wpAny (model prog w) A (letOwnedTupleGo target (.ref I) v) Q' E' s')) (w12 : (∀ i v, i < n → P i v → CompTurn prog w A h₀ env scope cl target ifs elt s₂ fp wr St J i v)) (w13 : (∀ D C h' tk ys k, s₂.heap.get? D = none → s₂.heap.get? C = none → h'.get? D = some (listOf ys.toArray k) → (∀ b o, b ∉ wr → s₂.heap.get? b = some o → h'.get? b = some o) → J n ys (hideAll h' [D, C]) → Q (.ref D) { s₂ with heap := h', toks := tk })) : CompM prog w A h₀ env scope cl target ifs elt Q it s₂

theorem Comp_M {h₀ : PySem.Heap} {elt target iter : PySem.Expr} {ifs : List PySem.Expr} {scope : Scope} {cl : List (Str × Addr)} {pos : Pos} {m : Str → Option Value} {Q : Value → Shared → Prop} (_F : Fr h₀ env.locals s.heap m)
    (hclos : closureFor scope env = pure cl) (hcell : ∀ y ∈ scope.names, y.2 ≠ .cell) (hkind : scope.kind = .function)
    (hnames : ∀ y ∈ scope.names, y.2 = .local → scope.names.lookup y.1 = some .local)
    (h : wpAny (model prog w) A (eval iter env) (fun xv s₁ => wpAny (model prog w) A (pyIter xv) (CompM prog w A h₀ env scope cl target ifs elt Q) E s₁) E s)
    (hs : ∀ x, foldedSetIterable iter env x = pure x) :
    wpAny (model prog w) A (eval (.ListComp elt [⟨target, iter, ifs, 0⟩] scope pos) env) Q E s := by
  rw [eval_ListComp]
  refine wpAny_comprehension_free (use := none) rfl hs hclos hkind hnames (wpAny_mono h (fun xv s₁ h₁ => wpAny_mono h₁ (fun it s₂ h₂ => ?_) fun _ _ e => e) fun _ _ e => e)
  obtain ⟨I, fp, wr, n, P, St, J, rfl, W, hsz, hst, hfp, hun, hkeep, hab, hwr, hJ, mono, hgo, turn, done⟩ := h₂
  refine comp_block_M (RR := fun acc C => compPost (model prog w) A E none Q acc C) W hsz hcell hkind hst hfp hun hkeep hab hwr hJ mono hgo turn ?_
  intro D C h' tk m' ys k hD hC hDC hn hl hk hJ'
  refine ⟨m', hn, fun h'' hs'' => done D C h'' tk ys k hD hC ((hs''.2 D hDC).trans hl) (fun b o hbf e => (hs''.2 b (by rintro rfl; rw [hC] at e; cases e)).trans (hk b o hbf e)) (mono _ _ _ _ (fun a o _ e => ?_) hJ')⟩
  have hne : a ∉ [D, C] := fun z => by rw [hideAll_none _ z] at e; cases e
  exact hideAll_get _ ((hs''.2 a (fun q => hne (by rw [q]; exact .tail _ (.head _)))).trans (of_hideAll _ e)) hne

theorem hide3 {h : PySem.Heap} {D C L a : Addr} {o : Obj} (e : h.get? a = some o) (h1 : a ≠ D) (h2 : a ≠ C) (h3 : a ≠ L) : (hideAll (hideAll h [D, C]) [L]).get? a = some o :=
  hideAll_get _ (hideAll_get _ e (by simp [h1, h2])) (by simp [h3])
theorem of_hide3 {h : PySem.Heap} {D C L a : Addr} {o : Obj} (e : (hideAll (hideAll h [D, C]) [L]).get? a = some o) : h.get? a = some o ∧ a ≠ D ∧ a ≠ C ∧ a ≠ L := by
  have e1 := of_hideAll _ e
  have n1 : a ∉ [L] := fun z => by rw [hideAll_none _ z] at e; cases e
  have n2 : a ∉ [D, C] := fun z => by rw [hideAll_none _ z] at e1; cases e1
  simp only [List.mem_cons, List.not_mem_nil, or_false, not_or] at n1 n2
  exact ⟨of_hideAll _ e1, n2.1, n2.2, n1⟩
theorem SK.hide {h h' : PySem.Heap} (k : SK h h') (l : List Addr) : SK (hideAll h l) (hideAll h' l) := fun a o q e => by
  have hne : a ∉ l := fun z => by rw [hideAll_none _ z] at e; cases e
  exact hideAll_get _ (k a o q (of_hideAll _ e)) hne

/-- the same, stored under a name at once -/
inductive CompMA (prog : Program) (w : World) (A : Around) (h₀ : PySem.Heap) (env : Env) (scope : Scope) (cl : List (Str × Addr)) (target : PySem.Expr) (ifs : List PySem.Expr) (elt : PySem.Expr) (y : Str) (Q : Flow → Shared → Prop) (it : Value) (s₂ : Shared) : Prop
  | mk (I : Addr) (fp wr : List Addr) (n : Nat) (P : Nat → Value → Prop) (St : Nat → PySem.Heap → Prop) (J : Nat → List Value → PySem.Heap → Prop) (m : Str → Option Value) (w0 : it = .ref I) (w1 : Walks prog w A I fp wr n P St) (w2 : n ≤ 100000) (w3 : St 0 s₂.heap) (w4 : (∀ b ∈ fp, b < s₂.heap.objs.size)) (w5 : (∀ i h, St i h → ∀ b ∈ wr, ∀ o, h.get? b = some o → stable o = false)) (w6 : (∀ b o, h₀.get? b = some o → s₂.heap.get? b = some o)) (w7 : h₀.objs.size ≤ s₂.heap.objs.size) (w8 : (∀ b ∈ wr, h₀.get? b = none)) (w9 : env.locals ∉ wr) (w10 : s₂.heap.Ns env.locals m) (w11 : h₀.get? env.locals = none) (w12 : J 0 [] (hideAll s₂.heap [env.locals])) (w13 : (∀ i ys h h', SK h h' → J i ys h → J i ys h')) (w14 : (∀ i (s' : Shared) v (Q' : Unit → Shared → Prop) E', St i s'.heap → Q' () s' → wpAny (model prog w) A (letOwnedTupleGo target (.ref I) v) Q' E' s')) (w15 : (∀ i v, i < n → P i v → CompTurn prog w A h₀ env scope cl target ifs elt s₂ fp wr St (fun i ys h => J i ys (hideAll h [env.locals])) i v)) (w16 : (∀ D C h' tk ys k, s₂.heap.get? D = none → s₂.heap.get? C = none → h'.get? D = some (listOf ys.toArray k) → h'.Ns env.locals (fun z => if z = y then some (.ref D) else m z) → (∀ b o, b ≠ env.locals → b ∉ wr → s₂.heap.get? b = some o → h'.get? b = some o) → J n ys (hideAll (hideAll h' [D, C]) [env.locals]) → Q .next { s₂ with heap := h', toks := tk })) : CompMA prog w A h₀ env scope cl target ifs elt y Q it s₂

theorem Comp_MA {h₀ : PySem.Heap} {elt target iter : PySem.Expr} {ifs : List PySem.Expr} {scope : Scope} {cl : List (Str × Addr)} {pos spos py : Pos} {y : Str} {m : Str → Option Value} {Q : Flow → Shared → Prop} (_F : Fr h₀ env.locals s.heap m)
    (hsw : swapsWith (.ListComp elt [⟨target, iter, ifs, 0⟩] scope pos) (some (.Name y py)) spos.line env = pure true)
    (hclos : closureFor scope env = pure cl) (hcell : ∀ y ∈ scope.names, y.2 ≠ .cell) (hkind : scope.kind = .function)
    (hnames : ∀ y ∈ scope.names, y.2 = .local → scope.names.lookup y.1 = some .local)
    (hy : env.kindOf y = some .local) (hp : (env.scope.kind == .class || (env.scope.kind == .module && env.locals != env.globals)) = false)
    (h : wpAny (model prog w) A (eval iter env) (fun xv s₁ => wpAny (model prog w) A (pyIter xv) (CompMA prog w A h₀ env scope cl target ifs elt y Q) E s₁) E s)
    (hs : ∀ x, foldedSetIterable iter env x = pure x) :
    wpAny (model prog w) A (exec (.Assign [.Name y py] (.ListComp elt [⟨target, iter, ifs, 0⟩] scope pos) spos) env) Q E s := by
  rw [exec_Assign_Name_used _ _ _ _ hsw]
  refine wpAny_bind (wpAny_standAt (wpAny_bind ?_))
  show wpAny _ A (do let _ ← comprehension (.ListComp elt [⟨target, iter, ifs, 0⟩] scope pos) scope env _ (newList []) false (eval iter env) (some (assign (.Name y py) env))) _ _ s
  refine wpAny_bind (wpAny_mono (wpAny_comprehension_free (use := some (assign (.Name y py) env)) (Q := fun _ s' => Q .next s') rfl hs hclos hkind hnames
    (wpAny_mono h (fun xv s₁ h₁ => wpAny_mono h₁ (fun it s₂ h₂ => ?_) fun _ _ e => e) fun _ _ e => e)) (fun _ s' hq => wpAny_pure (wpAny_pure hq)) fun _ _ e => e)
  obtain ⟨I, fp, wr, n, P, St, J, m, rfl, W, hsz, hst, hfp, hun, hkeep, hab, hwr, hLw, hnL, hL0, hJ, mono, hgo, turn, done⟩ := h₂
  refine comp_block_M (J := fun i ys h => J i ys (hideAll h [env.locals])) (RR := fun acc C => compPost (model prog w) A E (some (assign (.Name y py) env)) (fun _ s' => Q .next s') acc C) W hsz hcell hkind hst hfp hun hkeep hab hwr hJ (fun i ys h h' k => mono _ _ _ _ (k.hide _)) hgo turn ?_
  intro D C h' tk m' ys k hD hC hDC hnC hl hk hJ'
  have hLC : env.locals ≠ C := by rintro rfl; obtain ⟨o, _, _, ho, _⟩ := hnL; rw [hC] at ho; cases ho
  have hLD : env.locals ≠ D := by rintro rfl; obtain ⟨o, _, _, ho, _⟩ := hnL; rw [hD] at ho; cases ho
  show wpAny _ A (assign (.Name y py) env (.ref D)) _ _ _
  refine wpAny_assign_Name (wpAny_storeName_local hy (hnL.at' fun o e => hk _ o hLw e) (fun h₂ hn₂ hs₂ => ?_) hp)
  refine ⟨m', hnC.sameBut hs₂ (Ne.symm hLC), fun h₃ hs₃ => ?_⟩
  have up : ∀ a o, a ≠ env.locals → a ≠ C → h'.get? a = some o → h₃.get? a = some o := fun a o h1 h2 e => (hs₃.2 a h2).trans ((hs₂.2 a h1).trans e)
  refine done D C h₃ _ ys k hD hC (up _ _ (Ne.symm hLD) hDC hl) (hn₂.sameBut hs₃ hLC) (fun b o hbL hbf e => up b o hbL (by rintro rfl; rw [hC] at e; cases e) (hk b o hbf e)) (mono _ _ _ _ (fun a o _ e => ?_) hJ')
  obtain ⟨e1, e2, e3, e4⟩ := of_hide3 e
  exact hide3 (up a o e4 e3 e1) e2 e3 e4
end
section
variable {prog : Program} {w : World} {A : Around} {E : Value → Shared → Prop} {s : Shared} {env : Env} {h₀ : PySem.Heap} {scope : Scope} {cl : List (Str × Addr)} {target : PySem.Expr} {ifs : List PySem.Expr} {elt : PySem.Expr} {m : Str → Option Value}

/-- a turn over a list, said for its walker -/
def ListTurn (prog : Program) (w : World) (A : Around) (h₀ : PySem.Heap) (env : Env) (scope : Scope) (cl : List (Str × Addr)) (target : PySem.Expr) (ifs : List PySem.Expr) (elt : PySem.Expr) (s : Shared) (l : Addr) (items : Array Value) (J : Nat → List Value → PySem.Heap → Prop) : Prop :=
  ∀ i v D C I ys k (s₁ : Shared) h tk mC E', (∃ h₁ tk₁, s₁ = { s with heap := h₁, toks := tk₁ }) → items[i]? = some v → J i ys (hideAll h [D, C]) → Fr h₀ C h mC → h.IsListIter I l (i + 1) → h.IsList l items → h.get? D = some (listOf ys.toArray k) → ys.length ≤ i → D ≠ C →
    (∀ a o, s.heap.get? a = some o → h.get? a = some o) → s.heap.get? D = none → s.heap.get? C = none →
    wpAny (model prog w) A (assign target (compEnvC scope cl C env) v) (fun _ s₃ => wpAny (model prog w) A (testsOf ifs (compEnvC scope cl C env)) (fun ok s₄ =>
      if ok = true then wpAny (model prog w) A (eval elt (compEnvC scope cl C env)) (fun y s₅ => CEnd h₀ C D h (J (i + 1)) s₁ (ys ++ [y]) s₅) E' s₄ else CEnd h₀ C D h (J (i + 1)) s₁ ys s₄) E' s₃) E' { s₁ with heap := h, toks := tk }

theorem iter_list_C {l : Addr} {items : Array Value} {Q : Value → Shared → Prop} (J : Nat → List Value → PySem.Heap → Prop) (hh : A.handled = none) (hl : s.heap.IsList l items) (hsz : items.size ≤ 100000)
    (F : Fr h₀ env.locals s.heap m) (hJ : J 0 [] s.heap) (mono : ∀ i ys h h', SK h h' → J i ys h → J i ys h')
    (turn : ListTurn prog w A h₀ env scope cl target ifs elt s l items J)
    (done : ∀ D C h' tk ys k, s.heap.get? D = none → s.heap.get? C = none → h'.get? D = some (listOf ys.toArray k) → (∀ a o, s.heap.get? a = some o → h'.get? a = some o) → J items.size ys (hideAll h' [D, C]) → Q (.ref D) { s with heap := h', toks := tk }) :
    wpAny (model prog w) A (pyIter (.ref l)) (CompM prog w A h₀ env scope cl target ifs elt Q) E s := by
  refine wpAny_pyIter_list hl ?_
  obtain ⟨ol, hol, _⟩ := id hl
  have hne : l ≠ s.heap.objs.size := Nat.ne_of_lt (Heap.lt_size hol)
  have W := Walks.list (prog := prog) (w := w) hh s.heap.objs.size l hne items
  have fr : ∀ {a}, (s.heap.push { cls := .type "list_iterator", data := .fields #[.ref l, .int 0 0] }).get? a = none → s.heap.get? a = none := fun {a} e => by
    cases q : s.heap.get? a with
    | none => rfl
    | some o => rw [Heap.get?_push_of_some _ q] at e; cases e
  refine ⟨_, _, _, items.size, _, _, J, rfl, W, hsz, ⟨⟨_, Heap.get?_push_size _ rfl, rfl, rfl⟩, hl.push _⟩, ?_, ?_, fun b o e => Heap.get?_push_of_some _ (F.keep b o e), ?_, ?_, mono _ _ _ _ (SK.of_keeps fun a o e => Heap.get?_push_of_some _ e) hJ, mono, (fun i s' v Q' E' st hQ' => letGo_listiter st.1 hQ'), ?_, ?_⟩
  · intro b hb
    show b < (s.heap.push _).objs.size
    rw [Heap.size_push]
    rcases List.mem_cons.mp hb with e | hb
    · rw [e]; exact Nat.lt_succ_self _
    · rw [List.mem_singleton.mp hb]; exact Nat.lt_succ_of_lt (Heap.lt_size hol)
  · rintro i h ⟨⟨o, ho, hc, hd⟩, _⟩ b hb o' ho'
    rw [List.mem_singleton.mp hb, ho] at ho'
    cases ho'
    exact unstable hc hd
  · show h₀.objs.size ≤ (s.heap.push _).objs.size
    rw [Heap.size_push]
    exact Nat.le_succ_of_le (Nat.le_trans F.above (Nat.le_of_lt F.ns.lt))
  · intro b hb
    rw [List.mem_singleton.mp hb]
    exact next_is_new F
  · intro i v hi hP D C ys k h tk mC E' hJ₁ F₁ st hD hyl hDC hDf hCf hk fD fC
    exact turn i v D C _ ys k { s with heap := s.heap.push { cls := .type "list_iterator", data := .fields #[.ref l, .int 0 0] } } h tk mC E' ⟨_, _, rfl⟩ hP hJ₁ F₁ st.1 st.2 hD hyl hDC (fun a o e => hk a o (by simpa using Nat.ne_of_lt (Heap.lt_size e)) (Heap.get?_push_of_some _ e)) (fr fD) (fr fC)
  · intro D C h' tk ys k fD fC hD hk hJ'
    exact done D C h' tk ys k (fr fD) (fr fC) hD (fun a o e => hk a o (by simpa using Nat.ne_of_lt (Heap.lt_size e)) (Heap.get?_push_of_some _ e)) hJ'

theorem iter_list_CA {l : Addr} {items : Array Value} {y : Str} {Q : Flow → Shared → Prop} (J : Nat → List Value → PySem.Heap → Prop) (hh : A.handled = none) (hl : s.heap.IsList l items) (hsz : items.size ≤ 100000)
    (F : Fr h₀ env.locals s.heap m) (hJ : J 0 [] (hideAll s.heap [env.locals])) (mono : ∀ i ys h h', SK h h' → J i ys h → J i ys h')
    (turn : ListTurn prog w A h₀ env scope cl target ifs elt s l items (fun i ys h => J i ys (hideAll h [env.locals])))
    (done : ∀ D C h' tk ys k, s.heap.get? D = none → s.heap.get? C = none → h'.get? D = some (listOf ys.toArray k) → Fr h₀ env.locals h' (fun z => if z = y then some (.ref D) else m z) → (∀ a o, a ≠ env.locals → s.heap.get? a = some o → h'.get? a = some o) →
      J items.size ys (hideAll (hideAll h' [D, C]) [env.locals]) → Q .next { s with heap := h', toks := tk }) :
    wpAny (model prog w) A (pyIter (.ref l)) (CompMA prog w A h₀ env scope cl target ifs elt y Q) E s := by
  refine wpAny_pyIter_list hl ?_
  obtain ⟨ol, hol, _⟩ := id hl
  have hne : l ≠ s.heap.objs.size := Nat.ne_of_lt (Heap.lt_size hol)
  have W := Walks.list (prog := prog) (w := w) hh s.heap.objs.size l hne items
  have fr : ∀ {a}, (s.heap.push { cls := .type "list_iterator", data := .fields #[.ref l, .int 0 0] }).get? a = none → s.heap.get? a = none := fun {a} e => by
    cases q : s.heap.get? a with
    | none => rfl
    | some o => rw [Heap.get?_push_of_some _ q] at e; cases e
  have hLI : env.locals ≠ s.heap.objs.size := Nat.ne_of_lt F.ns.lt
  have hL0 : h₀.get? env.locals = none := by
    cases q : h₀.get? env.locals with
    | none => rfl
    | some o => exact absurd (Heap.lt_size q) (Nat.not_lt.mpr F.above)
  refine ⟨_, _, _, items.size, _, _, J, m, rfl, W, hsz, ⟨⟨_, Heap.get?_push_size _ rfl, rfl, rfl⟩, hl.push _⟩, ?_, ?_, fun b o e => Heap.get?_push_of_some _ (F.keep b o e), ?_, ?_, by simpa using hLI, (F.push _).ns, hL0, mono _ _ _ _ ((SK.of_keeps fun a o e => Heap.get?_push_of_some _ e).hide _) hJ, mono, (fun i s' v Q' E' st hQ' => letGo_listiter st.1 hQ'), ?_, ?_⟩
  · intro b hb
    show b < (s.heap.push _).objs.size
    rw [Heap.size_push]
    rcases List.mem_cons.mp hb with e | hb
    · rw [e]; exact Nat.lt_succ_self _
    · rw [List.mem_singleton.mp hb]; exact Nat.lt_succ_of_lt (Heap.lt_size hol)
  · rintro i h ⟨⟨o, ho, hc, hd⟩, _⟩ b hb o' ho'
    rw [List.mem_singleton.mp hb, ho] at ho'
    cases ho'
    exact unstable hc hd
  · show h₀.objs.size ≤ (s.heap.push _).objs.size
    rw [Heap.size_push]
    exact Nat.le_succ_of_le (Nat.le_trans F.above (Nat.le_of_lt F.ns.lt))
  · intro b hb
    rw [List.mem_singleton.mp hb]
    exact next_is_new F
  · intro i v hi hP D C ys k h tk mC E' hJ₁ F₁ st hD hyl hDC hDf hCf hk fD fC
    exact turn i v D C _ ys k { s with heap := s.heap.push { cls := .type "list_iterator", data := .fields #[.ref l, .int 0 0] } } h tk mC E' ⟨_, _, rfl⟩ hP hJ₁ F₁ st.1 st.2 hD hyl hDC (fun a o e => hk a o (by simpa using Nat.ne_of_lt (Heap.lt_size e)) (Heap.get?_push_of_some _ e)) (fr fD) (fr fC)
  · intro D C h' tk ys k fD fC hD hn hk hJ'
    exact done D C h' tk ys k (fr fD) (fr fC) hD ⟨hn, fun b o e => hk b o (fun q => by rw [q, hL0] at e; cases e) (by simpa using (fun q => by
        have := Heap.lt_size (F.keep b o e); rw [q] at this; exact Nat.lt_irrefl _ this)) (Heap.get?_push_of_some _ (F.keep b o e)), F.above⟩
      (fun a o hL e => hk a o hL (by simpa using Nat.ne_of_lt (Heap.lt_size e)) (Heap.get?_push_of_some _ e)) hJ'
end
theorem CEnd.of {h₀ : PySem.Heap} {C D : Addr} {h h' : PySem.Heap} {J : List Value → PySem.Heap → Prop} {s : Shared} {ys : List Value} {m' : Str → Option Value} {news : List (Addr × Obj)} {tk : Nat} (KP : Kept h₀ h C []) (F' : Fr h₀ C h' m') (N' : News h₀ C h' news) (hs : ∀ p ∈ sat h₀ C [] h, p ∈ news)
    (hJ : (∀ a o, a ≠ C → h.get? a = some o → h'.get? a = some o) → J ys (hideAll h' [D, C])) : CEnd h₀ C D h J s ys { s with heap := h', toks := tk } := by
  have k := KP _ _ _ F' N' hs
  exact ⟨h', tk, m', rfl, F', fun a o h1 e => k a o h1 (by simp) e, hJ fun a o h1 e => k a o h1 (by simp) e⟩
end
section



section
variable {M' : Model} {A : Around} {E : Value → Shared → Prop} {s : Shared} {K : Frag} {h₀ : PySem.Heap} {m mg mb : Str → Option Value} {p : Program} {loose : List Str} {x : Str} {pos : Pos} {v : Value} {Q : Value → Shared → Prop} {env : Env} {C : Addr} {scope : Scope} {cl : List (Str × Addr)} {news : List (Addr × Obj)} {c : Addr} {o : Obj}
theorem nameM_L (F : Fr h₀ C s.heap m) (hv : m x = some v) (h : Q v s) (hk : (compEnvC scope cl C env).scope.kind = .function) (hl : (compEnvC scope cl C env).kindOf x = some .local) (hd : (x == ("__debug__" : Str)) = false) :
    wpAny M' A (eval (.Name x pos) (compEnvC scope cl C env)) Q E s := wpAny_Name (wpAny_loadName_local hk hl F.ns hv h) hd
theorem nameM_C (N : News h₀ C s.heap news) (hc : cl.lookup x = some c) (hm : (c, o) ∈ news) (hd : o.data = .cell (some v)) (h : Q v s)
    (hk : (compEnvC scope cl C env).scope.kind = .function) (hx : (compEnvC scope cl C env).kindOf x = some .cell) (hb : (x == ("__debug__" : Str)) = false) :
    wpAny M' A (eval (.Name x pos) (compEnvC scope cl C env)) Q E s := wpAny_Name (wpAny_loadName_cell hk hx hc ⟨o, (N _ hm).1, hd⟩ h) hb
theorem nameM_B (F : Fr h₀ C s.heap m) (X : K.In h₀) (T : TopRead p loose mg mb h₀) (e : nsIn K mainGlobals x = some none) (hv : bootBuiltins x = some v) (hn : x ≠ "__name__") (h : Q v s) (hg : env.globals = mainGlobals) (hbt : env.builtins = builtinsNs)
    (hk : (compEnvC scope cl C env).scope.kind = .function) (hx : (compEnvC scope cl C env).kindOf x = some .globalImplicit) (hd : (x == ("__debug__" : Str)) = false) :
    wpAny M' A (eval (.Name x pos) (compEnvC scope cl C env)) Q E s :=
  Name_function_global hk hx (loadGlobal_builtin (env := compEnvC scope cl C env) (mg := mg) (mb := mb) (by show s.heap.Ns env.globals mg; rw [hg]; exact T.g.keeps F.keep) (mg_none_of X T.g e) (by show s.heap.Ns env.builtins mb; rw [hbt]; exact T.b.keeps F.keep) ((T.builtins x hn).trans hv) h) hd
theorem tests_two {c : PySem.Expr} {prog : Program} {w : World} {Q : Bool → Shared → Prop} (h : wpAny (model prog w) A (isTrue c env (eval c env)) Q E s) :
    wpAny (model prog w) A (testsOf [c] env) Q E s := wpAny_tests_one h
theorem tests_none {prog : Program} {w : World} {Q : Bool → Shared → Prop} (h : Q true s) : wpAny (model prog w) A (testsOf [] env) Q E s := wpAny_tests_nil h
end
section
variable {M' : Model} {A : Around} {E : Value → Shared → Prop} {s : Shared} {h₀ : PySem.Heap} {m : Str → Option Value} {x : Str} {v : Value} {env : Env} {C : Addr} {scope : Scope} {cl : List (Str × Addr)} {news : List (Addr × Obj)}
theorem storeM_L {Q : Unit → Shared → Prop} (F : Fr h₀ C s.heap m) (N : News h₀ C s.heap news)
    (h : ∀ h', Fr h₀ C h' (fun y => if y = x then some v else m y) → News h₀ C h' news → Q () { s with heap := h', toks := s.toks + 1 })
    (hk : (compEnvC scope cl C env).scope.kind = .function) (hx : (compEnvC scope cl C env).kindOf x = some .local) : wpAny M' A (storeName (compEnvC scope cl C env) x v) Q E s :=
  wpAny_storeName_local hx F.ns (fun h' hn hs => h h' (F.set hn hs) (N.set hs)) (by show ((compEnvC scope cl C env).scope.kind == .class || ((compEnvC scope cl C env).scope.kind == .module && C != _)) = false; rw [hk]; rfl)
end
end
section



section
open Builtin Builtin.Str
variable {prog : Program} {w : World} {A : Around} {E : Value → Shared → Prop} {s : Shared} {X X' T : Str} {t : Tok} {Q : Value → Shared → Prop} {b : Addr} {its : Array Value}
theorem mod_tupB (ht : IsTup s.heap b its) (hX : X = X')
    (hm : Meets («str.__mod__» ⟨[.str X' t, .ref b], []⟩) (fun _ R s => IsTup s.heap b its ∧ ∀ t' k, R (.ok (.ret (.str T t'))) { s with toks := k }))
    (h : ∀ t' k, Q (.str T t') { s with toks := k }) : wpAny (model prog w) A (binaryOp .Mod (.str X t) (.ref b)) Q E s := by
  subst hX
  have hT : s.TypeIs (.ref b) "tuple" := by
    obtain ⟨o, ho, hc, _⟩ := ht
    exact ⟨o, ho, hc⟩
  exact KPt.bin_left (T := "str") (U := "tuple") (op := .Mod) (by decide) (typeIs_str s X t) hT PySem.F.fills_str_mod KPt.fills_tuple PySem.F.slot_str_mod
    (call_meets PySem.F.slot_str_mod (typeIs_str s X t) PySem.F.entry_str_mod (PySem.F.args_str_mod_2 _ _) hm ⟨ht, fun t' k => ⟨(fun e => nomatch e), h t' k⟩⟩)
theorem mod_row {x y : Str} {t1 u1 : Tok} (hx : x.length ≤ 60) (hy : y.length ≤ 60) (ht : IsTup s.heap b #[.str x t1, .str y u1]) (h : ∀ t' k, Q (.str (x ++ Str.ofString ": " ++ y) t') { s with toks := k }) :
    wpAny (model prog w) A (binaryOp .Mod (.str (Str.ofString "%s: %s") t) (.ref b)) Q E s := by
  refine' mod_tupB ht ?kptF ?kptm ?h3
  case kptF => kpt_eq
  case kptm => kpt_run
  case h3 => exact h
end
end
section
theorem at_MStr : True := by
  w_top off
  k_with_none
  k_with "my side" => first | assumption | exact rfl | ((try simp only [depth_under_make, depth_under_kw, depth_in1, depth_deeper, depth_caller, units_in1, units_deeper, Around.mark_units, units_caller] at *); (try dsimp only [Around.deeper, Around.in1] at *); omega)
  k_with "my after" => ((rename (∀ _ _, _ → _) => zq_hkk); (have zq_F' := Fr.keeps' (by assumption) zq_hkk); (have zq_N' := News.keeps' (by assumption) zq_hkk); (try dsimp only); (try k_sweep); (try k_fold))
  k_with "Hid" => (refine Hid.use (by with_reducible assumption) ?_; try dsimp only)
  k_with "execs cons" => (k_here; first | k_gentoks | ((with_reducible refine execs_kont ?_); intro zq_R zq_hR; try dsimp only))
  k_with "call ref" => (k_here; (with_reducible show wpAny _ _ (PySem.call (Value.ref 94) _ _) _ _ _); (with_unfolding_all first | refine' convert_name (by walk_at "my side") (by walk_at "my side") (by exact Fr.keep (by assumption)) (by assumption) (by assumption) (by assumption) ?_ | refine' convert_val (by walk_at "my side") (by walk_at "my side") (by exact Fr.keep (by assumption)) (by assumption) (by assumption) (by assumption) ?_); k_whole; intro zq_h' zq_tk' zq_hk'; walk_at "my after")
  k_with "eval ListComp" => (k_here; k_dflt (refine Comp_M (cl := []) (by assumption) (by rfl) (by decide) (by rfl) (by decide) ?_ (by intro _; rfl)))
  k_with "eval Name" => (k_here; (with_reducible show wpAny _ _ (eval (PySem.Expr.Name _ _) (compEnvC _ _ _ _)) _ _ _); k_dflt (refine' nameM_L (by assumption) (by exact rfl) ?_ (by exact rfl) (by exact rfl) (by decide)))
  k_with "eval Name" => (k_here; (with_reducible show wpAny _ _ (eval (PySem.Expr.Name _ _) (compEnvC _ _ _ _)) _ _ _); k_dflt (refine' nameM_C (by assumption) (by exact rfl) (by assumption) (by assumption) ?_ (by exact rfl) (by exact rfl) (by decide)))
  k_with "eval Name" => (k_here; (with_reducible show wpAny _ _ (eval (PySem.Expr.Name _ _) (compEnvC _ _ _ _)) _ _ _); k_dflt (refine' nameM_B (by assumption) (by assumption) (by k_asm) (by k_is) (by boot_fast) (by decide) ?_ (by exact rfl) (by exact rfl) (by exact rfl) (by exact rfl) (by decide)))
  k_with "storeName" => (k_here; (with_reducible show wpAny _ _ (storeName (compEnvC _ _ _ _) _ _) _ _ _); k_dflt (refine' storeM_L (by assumption) (by assumption) ?_ (by exact rfl) (by exact rfl)); intro zq_h' zq_F' zq_N'; (try k_sweep))
  k_with "forIn" => (k_here; (with_reducible show wpAny _ _ (testsOf [] _) _ _ _); refine tests_none ?_; (first | (refine ite_pos rfl ?_) | skip))
  k_with "forIn" => (k_here; (with_reducible show wpAny _ _ (testsOf [_] _) _ _ _); refine tests_two ?_)
  k_with "binaryOp Mod str ref" => (k_here; k_dflt (refine' mod_row ?_ ?_ (by exact Fr.tup (by assumption) (by assumption)) ?_; assumption; assumption); intro zq_t' zq_k')
  trivial



local macro_rules | `(tactic| k_inst) => `(tactic| exact inst_keep (by assumption) (Fr.keep (by assumption)))
theorem strValues_of {α : Type} {f : α → Str} {ys : List Value} {rows : List α} (h : PySem.Paired (fun y r => ∃ u, y = Value.str (f r) u) ys rows) : ∃ lt : List (Str × Tok), ys = strValues lt ∧ lt.map (·.1) = rows.map f := by
  induction h with
  | nil => exact ⟨[], rfl, rfl⟩
  | @cons a b l₁ l₂ h _ ih =>
    obtain ⟨u, rfl⟩ := h
    obtain ⟨lt, e, q⟩ := ih
    exact ⟨(f b, u) :: lt, by rw [e]; rfl, by simp [q]⟩
theorem isList_listOf {h : PySem.Heap} {a : Addr} {vs : Array Value} {n : Nat} (e : h.get? a = some (listOf vs n)) : h.IsList a vs := ⟨_, e, rfl, _, rfl⟩
theorem join_tail {h : PySem.Heap} {D : Addr} {lt : List (Str × Tok)} {a b : Str} {t u : Tok} (e : h.IsList D (strValues lt ++ [Value.str a t, Value.str b u]).toArray) : h.IsList D (strValues (lt ++ [(a, t), (b, u)])).toArray := by
  have q : strValues (lt ++ [(a, t), (b, u)]) = strValues lt ++ [Value.str a t, Value.str b u] := by unfold strValues; rw [List.map_append]; rfl
  rw [q]; exact e
noncomputable def rowText (r : Str × Str) : Str := r.1 ++ Str.ofString ": " ++ r.2
/-- str of a table -/
noncomputable def strT (rows : List (Str × Str)) : Str := Txt.join (Str.ofString "\r\n") (rows.map rowText ++ [Str.ofString "", Str.ofString ""])
theorem rowText_len (r : Str × Str) : (rowText r).length = r.1.length + 2 + r.2.length := by
  show (r.1.cps ++ (Str.ofString ": ").cps ++ r.2.cps).size = _
  rw [Array.size_append, Array.size_append]; rfl
theorem strT_fits {rows : List (Str × Str)} (hr : ∀ r ∈ rows, RowOk r) (hlen : rows.length ≤ 20) : JoinOk (Str.ofString "\r\n") (rows.map rowText ++ [Str.ofString "", Str.ofString ""]) = true := by
  unfold JoinOk
  rw [StrLaws.joinFits (B := 122) ?_ ?_]; rfl
  · intro y hy
    rcases List.mem_append.mp hy with hy | hy
    · obtain ⟨r, hm, rfl⟩ := List.mem_map.mp hy
      have h1 : r.1.length ≤ 60 := (hr r hm).1.1
      have h2 : r.2.length ≤ 60 := (hr r hm).2.1
      rw [rowText_len]; omega
    · rcases List.mem_cons.mp hy with rfl | hy
      · decide
      · rw [List.mem_singleton.mp hy]; decide
  · have : (Str.ofString "\r\n").length = 2 := rfl
    rw [this]; simp; omega
theorem str_ok {prog : Program} {w : World} {dp un : Nat} {fr : Option (List Env)} {gd : Option (List Code)} {s : Shared} {b : PySem.Heap} {mean : ExcName → Option Value} {mg mb : Str → Option Value} {Q E : Value → Shared → Prop}
    (hd : dp + 1 < recursionLimit) (hu : un + 8 < cLine) (hb : ∀ a o, b.get? a = some o → s.heap.get? a = some o)
    (X : (Mine.hd.heap_39 w.params).In b) (T : Top Mine.hd.view_39 lo mean mg mb b) {self l : Addr} {rows : List (Str × Str)}
    (H : HdrAt (Heap.At s.heap) self l) (R : RowsAt (Heap.At s.heap) l rows) (hr : ∀ r ∈ rows, RowOk r) (hlen : rows.length ≤ 20)
    (ret : ∀ h' tk' u', (∀ a o, s.heap.get? a = some o → h'.get? a = some o) → Q (.str (strT rows) u') { s with heap := h', toks := tk' }) :
    wpAny (model prog w) (Around.mk none dp fr gd un) (call (.ref 171) [.ref self]) Q E s := by
  obtain ⟨dx, hs, tk, I⟩ := H.inst
  obtain ⟨vs, n, hl, hp⟩ := R
  refine wpAny_call ?_
  refine' enterM (binds := [(Str.ofString "self", .ref self)]) [] hb (by simp) X T ?k6 ?k7 ?k8 ?k9 ?kB ?_ ?c2 ?c3 ?c4 ?c5
  case k6 => k_is
  case k7 => k_is
  case k8 => (first | omega | (dsimp only [Around.deeper, Around.in1]; omega))
  case k9 => first | exact BindsTo.of_eq rfl | exact binds_K (Frag.In.keeps (by assumption) (by assumption)) rfl (by k_is) rfl rfl rfl
  case kB => exact locs rfl
  case c2 => exact rfl
  case c3 => exact rfl
  case c4 => exact rfl
  case c5 => decide
  k_whole
  intro L' h₁ hL F K₁ X' T'
  have N : News (hideAll s.heap []) L' h₁ [] := News.nil
  have I' : InstAt (hideAll s.heap []) self (instObj 195 dx) 195 (some (dictOf [⟨hs, .str (Str.ofString "_headers") tk, .ref l⟩] 1)) := I
  have hlg : (hideAll s.heap []).IsList l vs.toArray := ⟨_, hl, rfl, _, rfl⟩
  (try dsimp only)
  k_steps
  refine iter_list_C (l := l) (items := vs.toArray) (fun i ys h => PySem.Paired (fun y r => ∃ u, y = Value.str (r.1 ++ Str.ofString ": " ++ r.2) u) ys (rows.take i)) rfl ?h2 ?h3 (by assumption) ?h4 ?h5 ?_ ?_
  case h2 => exact ⟨_, Fr.keep (by assumption) _ _ hl, rfl, _, rfl⟩
  case h3 => rw [List.size_toArray, Paired.len hp]; omega
  case h4 => exact .nil
  case h5 => exact fun _ _ _ _ _ h => h
  · intro i v D C I ys k s₁ h tk mC E' _ hv hJ F₁ hIt hlst hD hyl hDC hk fD fC
    obtain ⟨r, hri, a, t1, u1, n1, rfl, ha⟩ := Paired.get hp (by simpa using hv)
    have hrow := hr r (List.mem_of_getElem? hri)
    have hlen1 : r.1.length ≤ 60 := hrow.1.1
    have hlen2 : r.2.length ≤ 60 := hrow.2.1
    have hT : IsTup (hideAll s.heap []) a [Value.str r.1 t1, Value.str r.2 u1].toArray := ⟨_, ha, rfl, _, rfl⟩
    have KP : Kept (hideAll s.heap []) h C [] := Kept.of F₁
    have N₁ : News (hideAll s.heap []) C h (sat (hideAll s.heap []) C [] h) := news_sat
    clear F N K₁
    k_steps
    refine CEnd.of KP (by assumption) (by assumption) (fun _ h => h) fun _ => ?_
    show PySem.Paired _ _ (rows.take (i + 1))
    rw [List.take_add_one, hri]
    exact Paired.snoc hJ ⟨_, rfl⟩
  · intro D C h' tk ys k fD fC hD hk hJ
    have F' := Fr.keeps' F hk
    have N' := news_fresh F fD hD
    rw [List.size_toArray, Paired.len hp, List.take_length] at hJ
    obtain ⟨lt, rfl, hlt⟩ := strValues_of (f := rowText) hJ
    have hll : (strValues lt).length = rows.length := by rw [← Paired.len hJ]
    clear N K₁
    k_steps
    rename News _ _ _ _ => N9
    rename Fr _ _ _ _ => F9
    have hAE := isList_listOf (N9 _ (.head _)).1
    refine SC.join (join_tail hAE) (texts := rows.map rowText ++ [Str.ofString "", Str.ofString ""]) ?hF (strT_fits hr hlen) ?_
    case hF => rw [List.map_append, hlt]; rfl
    intro u' k'
    k_steps
    exact ret _ _ _ (Fr.keep (by assumption))
end
section
theorem at_MBuild : True := by
  w_top off
  k_with_none
  k_with "my side" => first | assumption | exact rfl | ((try simp only [depth_under_make, depth_under_kw, depth_in1, depth_deeper, depth_caller, units_in1, units_deeper, Around.mark_units, units_caller] at *); (try dsimp only [Around.deeper, Around.in1] at *); omega)
  k_with "my after" => ((rename (∀ _ _, _ → _) => zq_hkk); (have zq_F' := Fr.keeps' (by assumption) zq_hkk); (have zq_N' := News.keeps' (by assumption) zq_hkk); (try dsimp only); (try k_sweep); (try k_fold))
  k_with "Hid" => (refine Hid.use (by with_reducible assumption) ?_; try dsimp only)
  k_with "execs cons" => (k_here; first | k_gentoks | ((with_reducible refine execs_kont ?_); intro zq_R zq_hR; try dsimp only))
  trivial



noncomputable def locName (l e : Option Str) : Str := match e with
  | none => l.getD (Str.ofString "C")
  | some e => l.getD (Str.ofString "C") ++ Str.ofString "." ++ e
def OptStr (v : Value) (x : Option Str) : Prop := match x with
  | none => v = .none
  | some x => ∃ t, v = .str x t
theorem build_ok {prog : Program} {w : World} {dp un : Nat} {fr : Option (List Env)} {gd : Option (List Code)} {s : Shared} {b : PySem.Heap} {mean : ExcName → Option Value} {mg mb : Str → Option Value} {Q E : Value → Shared → Prop}
    (hd : dp + 1 < recursionLimit) (hu : un + 8 < cLine) (hb : ∀ a o, b.get? a = some o → s.heap.get? a = some o)
    (X : (Mine.hd.heap_39 w.params).In b) (T : Top Mine.hd.view_39 lo mean mg mb b) {p : Addr} {lv ev : Value} {l e : Option Str} (hp : IsTup s.heap p #[lv, ev]) (hl : OptStr lv l) (he : OptStr ev e) (hl1 : ∀ x, l = some x → x.length ≤ 60) (he1 : ∀ x, e = some x → x.length ≤ 60)
    (ret : ∀ h' tk' u', (∀ a o, s.heap.get? a = some o → h'.get? a = some o) → Q (.str (locName l e) u') { s with heap := h', toks := tk' }) :
    wpAny (model prog w) (Around.mk none dp fr gd un) (call (.ref 45) [.ref p]) Q E s := by
  refine wpAny_call ?_
  refine' enterM (binds := [(Str.ofString "localetuple", .ref p)]) [] hb (by simp) X T ?k6 ?k7 ?k8 ?k9 ?kB ?_ ?c2 ?c3 ?c4 ?c5
  case k6 => k_is
  case k7 => k_is
  case k8 => (first | omega | (dsimp only [Around.deeper, Around.in1]; omega))
  case k9 => first | exact BindsTo.of_eq rfl | exact binds_K (Frag.In.keeps (by assumption) (by assumption)) rfl (by k_is) rfl rfl rfl
  case kB => exact locs rfl
  case c2 => exact rfl
  case c3 => exact rfl
  case c4 => exact rfl
  case c5 => decide
  k_whole
  intro L' h₁ hL F K₁ X' T'
  have N : News (hideAll s.heap []) L' h₁ [] := News.nil
  have hp' : IsTup (hideAll s.heap []) p [lv, ev].toArray := hp
  (try dsimp only)
  cases l with
  | none =>
    obtain rfl : lv = .none := hl
    cases e with
    | none =>
      obtain rfl : ev = .none := he
      k_steps
      exact ret _ _ _ (Fr.keep (by assumption))
    | some y =>
      obtain ⟨t2, rfl⟩ := he
      have hy := he1 y rfl
      k_steps
      exact ret _ _ _ (Fr.keep (by assumption))
  | some x =>
    obtain ⟨t1, rfl⟩ := hl
    have hx := hl1 x rfl
    cases e with
    | none =>
      obtain rfl : ev = .none := he
      k_steps
      exact ret _ _ _ (Fr.keep (by assumption))
    | some y =>
      obtain ⟨t2, rfl⟩ := he
      have hy := he1 y rfl
      k_steps
      exact ret _ _ _ (Fr.keep (by assumption))
end
section



section
variable {M : Model} {A : Around} {E : Value → Shared → Prop} {s : Shared}
/-- an exception with its trail: what noteFrame and setFlight look at, and its context -/
def Tr (h base : PySem.Heap) (e : Addr) (cls a0 a2 fl : Value) : Prop :=
  ∃ oe vs T oT ts, h.get? e = some oe ∧ oe.cls = cls ∧ oe.data = .fields vs ∧ vs[0]? = some a0 ∧ vs[2]? = some a2 ∧ vs[1]? = some (.ref T) ∧ base.get? T = none ∧ T ≠ e ∧ h.get? T = some oT ∧ oT.data = .fields ts ∧ ts[3]? = some fl

/-- an exception on its way -/
structure Way (base : PySem.Heap) (l : List Env) (e : Addr) (cls a0 a2 fl : Value) (h h' : PySem.Heap) : Prop where
  stays : base.StaysIn h'
  frames : h'.FunFrames base l
  tr : Tr h' base e cls a0 a2 fl
  slots : h.UpToSlots h'

theorem note_first {base : PySem.Heap} {env : Env} {outer : List Env} {L e : Addr} {oe : Obj} {vs : Array Value} {a0 a2 : Value} {Q : Unit → Shared → Prop}
    (hfr : A.frames = some (env :: outer)) (hl : s.heap.FunFrames base (env :: outer)) (hf : env.frame = some L)
    (he : s.heap.get? e = some oe) (hkb : base.StaysIn s.heap) (hen : base.get? e = none) (hd : oe.data = .fields vs) (h1 : vs[1]? = some .none) (h0 : vs[0]? = some a0) (h2 : vs[2]? = some a2)
    (h : ∀ h', Way base (env :: outer) e oe.cls a0 a2 (rawInt L) s.heap h' → Q () { s with heap := h' }) : wpAny M A (noteFrame (.ref e) env) Q E s := by
  have hsz : 1 < vs.size := (Array.getElem?_eq_some_iff.mp h1).1
  have hene : e ∉ (env :: outer).filterMap (·.frame) := fun hm => by
    obtain ⟨_, o, ho, hnf⟩ := hl.mem hm
    rw [he] at ho; injection ho with ho; subst ho; exact hnf vs hd
  unfold noteFrame
  simp only [hf]
  refine wpAny_bind (wpAny_field he hd h1 ?_)
  rw [if_neg (by decide)]
  refine wpAny_bind (wpAny_frameOf_fun hfr hl hf fun h₁ hs₁ => ?_)
  refine wpAny_bind (wpAny_entryPlaceOf fun pl hpl => ?_)
  unfold EntryCells.newEntry newFields
  refine wpAny_bind (wpAny_newObj_type ?_ (hpl.sizeOk5 _ _ _ _ _))
  generalize hTB : ({ cls := .type "traceback", dict := none, data := .fields ([Value.none, .ref L, .none, rawInt L, .none] ++ (if pl.isEmpty then List.replicate 6 Value.none else pl)).toArray } : Obj) = tb
  have htd : ∃ ts, tb.data = .fields ts ∧ ts[3]? = some (rawInt L) := ⟨_, by rw [← hTB], by first | (simp; done) | (rcases hpl with rfl | ⟨_, _, _, _, _, _, _, rfl⟩ <;> simp)⟩
  obtain ⟨ts, htd, ht3⟩ := htd
  have he₁ : h₁.get? e = some oe := (hs₁.2.1 e hene).trans he
  have kb₁ : base.StaysIn h₁ := fun b o hbo => (hs₁.2.1 b fun hm => by rw [(hl.mem hm).1] at hbo; cases hbo).trans (hkb b o hbo)
  have he₂ := PySem.Heap.get?_push_of_some (h := h₁) tb he₁
  have hTe : h₁.objs.size ≠ e := Nat.ne_of_gt (Heap.lt_size he₁)
  refine wpAny_setField he₂ hd hsz (h _ ?_)
  have hd₃ := Obj.data_mapFields hd (·.setIfInBounds 1 (Value.ref h₁.objs.size))
  have keep : ∀ b o, b ≠ e → h₁.get? b = some o → ((h₁.push tb).update e (Obj.mapFields (·.setIfInBounds 1 (Value.ref h₁.objs.size)))).get? b = some o := fun b o hbe hb => by
    rw [PySem.Heap.get?_update_other _ _ (Ne.symm hbe)]
    exact PySem.Heap.get?_push_of_some _ hb
  have noRecord : ∀ b o, s.heap.get? b = some o → (∀ vs, o.data ≠ .fields vs) → b ≠ e := fun b o hb hnf q => by
    rw [q, he] at hb; injection hb with hb; subst hb; exact hnf vs hd
  exact {
    stays := fun b o hbo => keep b o (fun q => by rw [q, hen] at hbo; cases hbo) (kb₁ b o hbo)
    frames := hl.of_keeps fun b o hb hnf => let ⟨sl, hs⟩ := hs₁.2.2 b o hb; ⟨_, keep b _ (noRecord b o hb hnf) hs, rfl⟩
    tr := ⟨_, _, h₁.objs.size, tb, ts, PySem.Heap.get?_update_self _ he₂ (Obj.isFreed_of_fields hd₃), Obj.cls_mapFields _ _, hd₃, by rw [Array.getElem?_setIfInBounds_ne (by decide)]; exact h0,
      by rw [Array.getElem?_setIfInBounds_ne (by decide)]; exact h2, by simp [hsz], kb₁.fresh, hTe, (PySem.Heap.get?_update_other _ _ (Ne.symm hTe)).trans (PySem.Heap.get?_push_size h₁ (by rw [← hTB]; rfl)), htd, ht3⟩
    slots := fun b o hb hnf => let ⟨sl, hs⟩ := hs₁.2.2 b o hb; ⟨sl, keep b _ (noRecord b o hb hnf) hs⟩ }

theorem flight_off {base h₀ : PySem.Heap} {l : List Env} {e : Addr} {cls a0 a2 fl : Value} {Q : Unit → Shared → Prop} (W : Way base l e cls a0 a2 fl h₀ s.heap)
    (h : ∀ h', Way base l e cls a0 a2 .none h₀ h' → Q () { s with heap := h' }) : wpAny M A (setFlight (.ref e) none) Q E s := by
  obtain ⟨hkb, hl, ⟨oe, vs, T, oT, ts, he, hcls, hd, h0, h2, h1, hnT, hTe, hT, hdT, h3⟩, sl⟩ := W
  have hsz3 : 3 < ts.size := (Array.getElem?_eq_some_iff.mp h3).1
  have other : ∀ b, b ≠ T → (s.heap.update T (Obj.mapFields (·.setIfInBounds 3 ((none : Option Addr).elim Value.none fun f => rawInt f)))).get? b = s.heap.get? b :=
    fun b hb => PySem.Heap.get?_update_other _ _ (Ne.symm hb)
  have noRecord : ∀ b o, s.heap.get? b = some o → (∀ vs, o.data ≠ .fields vs) → b ≠ T := fun b o hb hnf q => by
    rw [q, hT] at hb; injection hb with hb; subst hb; exact hnf ts hdT
  unfold setFlight
  refine wpAny_bind (wpAny_field he hd h1 ?_)
  rw [if_pos (show (Value.ref T != Value.none) = true from by simp)]
  refine wpAny_setField hT hdT hsz3 (h _ ?_)
  exact {
    stays := fun b o hbo => (other b fun q => by rw [q, hnT] at hbo; cases hbo).trans (hkb b o hbo)
    frames := hl.of_keeps fun b o hb hnf => ⟨o, (other b (noRecord b o hb hnf)).trans hb, rfl⟩
    tr := ⟨oe, vs, T, _, _, (other e (Ne.symm hTe)).trans he, hcls, hd, h0, h2, h1, hnT, hTe, PySem.Heap.get?_update_self _ hT (Obj.isFreed_of_fields (Obj.data_mapFields hdT _)), Obj.data_mapFields hdT _, by simp [hsz3]⟩
    slots := sl.trans fun b o hb hnf => ⟨o.slots, (other b (noRecord b o hb hnf)).trans hb⟩ }
end
section
variable {prog : Program} {w : World} {A₀ : Around} {E : Value → Shared → Prop} {s' : Shared} {B h₀ h : PySem.Heap} {outer : List Env} {L a e : Addr} {m : Str → Option Value} {name : Str} {scope : Scope} {cd : Value}
  {b₀ : Stmt} {suite : List Stmt} {pos np tpos p1 p2 : Pos} {kk : Nat} {rest : List ExceptHandler} {Q : Flow → Shared → Prop} {X T1 T2 : String} {x1 x2 : Str}
  {p : Program} {loose : List Str} {mean : ExcName → Option Value} {mg mb : Str → Option Value}

theorem Way.there {l : List Env} {cls a0 a2 fl : Value} {g g' : PySem.Heap} (W : Way B l e cls a0 a2 fl g g') : ∃ ob, g'.get? e = some ob ∧ ob.cls = cls := by
  obtain ⟨oe, vs, T, oT, ts, he, hc, _⟩ := W.tr
  exact ⟨oe, he, hc⟩
theorem Way.fr {l : List Env} {cls a0 a2 fl : Value} {g g' : PySem.Heap} (W : Way B l e cls a0 a2 fl g g') (F : Fr h₀ L g m) (hB : ∀ b o, h₀.get? b = some o → B.get? b = some o) : Fr h₀ L g' m :=
  F.of_stays (fun b o q => W.stays b o (hB b o q)) W.slots
theorem Way.push {l : List Env} {cls a0 a2 fl : Value} {g g' : PySem.Heap} (W : Way B l e cls a0 a2 fl g g') (o : Obj) : Way B l e cls a0 a2 fl g (g'.push o) := by
  obtain ⟨k, f, ⟨oe, vs, T, oT, ts, he, hc, hd, h0, h2, h1, hnT, hTe, hT, hdT, h3⟩, sl⟩ := W
  exact {
    stays := fun b o q => PySem.Heap.get?_push_of_some _ (k b o q)
    frames := f.of_keeps fun b o hb _ => ⟨o, PySem.Heap.get?_push_of_some _ hb, rfl⟩
    tr := ⟨oe, vs, T, oT, ts, PySem.Heap.get?_push_of_some _ he, hc, hd, h0, h2, h1, hnT, hTe, PySem.Heap.get?_push_of_some _ hT, hdT, h3⟩
    slots := sl.trans (PySem.Heap.UpToSlots.of_keeps fun b o hb => PySem.Heap.get?_push_of_some _ hb) }
theorem Way.off {l : List Env} {cls a0 a2 fl : Value} {g g' : PySem.Heap} (W : Way B l e cls a0 a2 fl g g') : Heap.FlyingW B l e cls a0 g' ∨ True := .inr trivial

theorem tup_hit {a0 a2 : Value} (F : Fr h₀ L h m) (hB : ∀ b o, h₀.get? b = some o → B.get? b = some o) (T : TopRead p loose mg mb h₀)
    (W : Way B (envOf name scope L a cd :: outer) e (.type X) a0 a2 .none h s'.heap)
    (k : ∀ h', Way B (envOf name scope L a cd :: outer) e (.type X) a0 a2 .none h h' →
      wpAny (model prog w) ((A₀.deeper (envOf name scope L a cd)).mark (some (.ref e))) (execs (b₀ :: suite) (envOf name scope L a cd)) Q E { s' with heap := h' })
    (hv1 : bootBuiltins x1 = some (.type T1)) (hv2 : bootBuiltins x2 = some (.type T2))
    (hexc1 : isSubtype (.type T1) (.type "BaseException") = pure true) (hnt1 : isSubtype (.type ((Manifest.find? T1).elim "type" fun x => x.metatype)) (.type "tuple") = pure false)
    (hexc2 : isSubtype (.type T2) (.type "BaseException") = pure true) (hnt2 : isSubtype (.type ((Manifest.find? T2).elim "type" fun x => x.metatype)) (.type "tuple") = pure false)
    {b1 b2 : Bool} (hsub1 : isSubtype (.type X) (.type T1) = pure b1) (hsub2 : isSubtype (.type X) (.type T2) = pure b2) (hb : (b1 || b2) = true)
    (hm1 : mg x1 = none) (hm2 : mg x2 = none)
    (hn1 : x1 ≠ "__name__" := by decide +kernel) (hn2 : x2 ≠ "__name__" := by decide +kernel)
    (hk : scope.kind = .function := by rfl) (hx1 : (envOf name scope L a cd).kindOf x1 = some .globalImplicit := by rfl) (hd1 : (x1 == ("__debug__" : Str)) = false := by decide)
    (hx2 : (envOf name scope L a cd).kindOf x2 = some .globalImplicit := by rfl) (hd2 : (x2 == ("__debug__" : Str)) = false := by decide)
    (hE : PassesOwnAt (model prog w) ((A₀.deeper (envOf name scope L a cd)).mark (some (.ref e))) (A₀.deeper (envOf name scope L a cd)) (envOf name scope L a cd) E := by passes_own) :
    wpAny (model prog w) (A₀.deeper (envOf name scope L a cd)) (handleBy (.ref e) (envOf name scope L a cd) (.ExceptHandler (some (.Tuple [.Name x1 p1, .Name x2 p2] kk tpos)) none (b₀ :: suite) pos :: rest)) Q E s' := by
  have F' := W.fr F hB
  obtain ⟨ob, hob, hobc⟩ := W.there
  refine wpAny_handleBy_tup2 hexc1 hnt1 hexc2 hnt2 hsub1 hsub2 ?_
  refine Tuple_ (spliced_more (ld_builtin_at F' T.g hm1 T.b ((T.builtins x1 hn1).trans hv1) (spliced_more (ld_builtin_at F' T.g hm2 T.b ((T.builtins x2 hn2).trans hv2) (spliced_none ?_) hk hx2 hd2)) hk hx1 hd1))
  refine wpAny_newObj_type ⟨_, rfl, IsTup.new _ _, ⟨ob, PySem.Heap.get?_push_of_some _ hob, hobc⟩, ?_⟩
  rw [if_pos hb]
  exact flight_off (W.push _) fun h' W' => wpAny_passesOwnAt hE (k _ W')
end
section
open PySem
theorem entry_unchain : entryFor table "proto.unchain" = some Builtin.«proto.unchain» := entryFor_of_tree (by kernel_rfl)
variable {prog : Program} {w : World} {A : Around} {E : Value → Shared → Prop} {s : Shared} {env : Env} {e1 : Addr}
theorem raiseNew_chained {α : Type} {e : Addr} {oe : Obj} {vs : Array Value} {Q : α → Shared → Prop} (hh : A.handled = some (.ref e1)) (hne : e ≠ e1) (he : s.heap.get? e = some oe) (hd : oe.data = .fields vs) (hz : 2 < vs.size)
    (h1 : ∃ o1 vs1, s.heap.get? e1 = some o1 ∧ o1.data = .fields vs1 ∧ vs1[2]? = some .none)
    (h : E (.ref e) { s with heap := s.heap.update e (Obj.mapFields (·.setIfInBounds 2 (.ref e1))) }) : wpAny (model prog w) A (raiseNew (.ref e) : Sem α) Q E s := by
  obtain ⟨o1, vs1, ho1, hd1, hc⟩ := h1
  unfold raiseNew
  refine wpAny_bind (wpAny_handled ?_)
  rw [hh]
  dsimp only
  have hb : (Value.ref e1 != Value.ref e) = true := by simp [Ne.symm hne]
  rw [if_pos hb]
  refine wpAny_bind (wpAny_holding (wpAny_runValue (codeAny_builtin entry_unchain ?_)))
  · unfold Builtin.«proto.unchain»
    dsimp only
    refine wpAny_bind (wpAny_field ho1 hd1 hc ?_)
    rw [if_pos (by decide)]
    refine wpAny_bind (wpAny_pure (wpAny_pure ?_))
    refine wpAny_bind ?_
    unfold updateField
    refine wpAny_bind (wpAny_load he ?_)
    rw [hd]
    dsimp only
    rw [if_pos hz]
    refine wpAny_update he ?_
    exact wpAny_throw h

theorem raise_from {x : PySem.Expr} {k1 : Nat} {p1 pos : Pos} {Q : Flow → Shared → Prop} (hh : A.handled = some (.ref e1))
    (h : wpAny (model prog w) A (eval x env) (fun v s₁ => ∃ e t od sl, v = .ref e ∧ s₁.heap.get? e = some ⟨.type "TypeError", od, .fields #[t, .none, .none, .none, .bool false, .none], sl⟩ ∧ e ≠ e1 ∧
      (∃ o1 vs1, s₁.heap.get? e1 = some o1 ∧ o1.data = .fields vs1 ∧ vs1[2]? = some .none) ∧
      ∀ h', h'.get? e = some ⟨.type "TypeError", od, .fields #[t, .none, .ref e1, .none, .bool true, .none], sl⟩ → (∀ b, b ≠ e → h'.get? b = s₁.heap.get? b) → E (.ref e) { s₁ with heap := h' }) E s) :
    wpAny (model prog w) A (exec (.Raise (some x) (some (.Constant .none k1 p1)) pos) env) Q E s := by
  rw [arm_exec_Raise]
  show wpAny _ _ (do standAt pos; raiseStmt env (some (do let v ← eval x env; standAt pos; pure v)) (some (do let v ← eval (.Constant .none k1 p1) env; standAt pos; pure v))) Q E s
  refine wpAny_bind (wpAny_standAt ?_)
  unfold raiseStmt
  refine wpAny_bind (wpAny_bind (wpAny_mono h (fun v s₁ h₁ => wpAny_bind (wpAny_standAt (wpAny_pure ?_))) fun _ _ x => x))
  obtain ⟨e, t, od, sl, rfl, he, hne, h1, hE⟩ := h₁
  obtain ⟨o1, vs1, ho1, hd1, hc1⟩ := h1
  have hsub : isSubtype (.type "TypeError") (.type "BaseException") = pure true := by rw [isSubtype_type]; kernel_rfl
  have hmeta : (Value.type ((Manifest.find? "TypeError").elim "type" fun x => x.metatype) == Value.type "type") = true := by decide +kernel
  obtain ⟨hp, g, d, tk, os⟩ := s₁
  dsimp only
  refine wpAny_bind (wpAny_holding (wpAny_bind (Constant_none (wpAny_bind (wpAny_standAt (wpAny_pure ?_))))))
  repeat (first | refine wpAny_loadPart he ?_ | wp_step)
  have u3 := PySem.Heap.get?_update_self (Obj.mapFields (·.setIfInBounds 3 Value.none)) he rfl
  have u4 := PySem.Heap.get?_update_self (Obj.mapFields (·.setIfInBounds 4 (Value.bool true))) u3 rfl
  have u2 := PySem.Heap.get?_update_self (Obj.mapFields (·.setIfInBounds 2 (Value.ref e1))) u4 rfl
  refine raiseNew_chained hh hne u4 rfl (show 2 < 6 by decide) ⟨o1, vs1, ?_, hd1, hc1⟩ (hE _ u2 fun b hb => ?_)
  · show ((hp.update e _).update e _).get? e1 = _
    rw [PySem.Heap.get?_update_other _ _ hne, PySem.Heap.get?_update_other _ _ hne]; exact ho1
  · rw [PySem.Heap.get?_update_other _ _ (Ne.symm hb), PySem.Heap.get?_update_other _ _ (Ne.symm hb), PySem.Heap.get?_update_other _ _ (Ne.symm hb)]
end
end
section
theorem at_MBad : True := by
  w_top off
  k_with_none
  k_with "my side" => first | assumption | exact rfl | ((try simp only [depth_under_make, depth_under_kw, depth_in1, depth_deeper, depth_caller, units_in1, units_deeper, Around.mark_units, units_caller] at *); (try dsimp only [Around.deeper, Around.in1] at *); omega)
  k_with "my after" => ((rename (∀ _ _, _ → _) => zq_hkk); (have zq_F' := Fr.keeps' (by assumption) zq_hkk); (have zq_N' := News.keeps' (by assumption) zq_hkk); (try dsimp only); (try k_sweep); (try k_fold))
  k_with "Hid" => (refine Hid.use (by with_reducible assumption) ?_; try dsimp only)
  k_with "execs cons" => (k_here; first | k_gentoks | ((with_reducible refine execs_kont ?_); intro zq_R zq_hR; try dsimp only))
  trivial



section
variable {prog : Program} {w : World} {A₀ : Around} {s' : Shared} {base g h h₀ : PySem.Heap} {outer : List Env} {L a e : Addr} {m : Str → Option Value} {name : Str} {scope : Scope} {cd : Value}
  {pos tpos p1 p2 p3 p4 p5 p6 p7 : Pos} {kk k1 k2 : Nat} {Q : Flow → Shared → Prop} {R : Result → Shared → Prop} {X : String} {msg : Str}
  {K : Frag} {p : Program} {loose : List Str} {mean : ExcName → Option Value} {mg mb : Str → Option Value}

abbrev framesOf (outer : List Env) : List Addr := outer.filterMap (·.frame)
/-- the frame below, its exception let go -/
abbrev OutE (prog : Program) (w : World) (A' : Around) (env : Env) (R : Result → Shared → Prop) : Value → Shared → Prop := fun e s' => wpAny (model prog w) A' (leaving env e) (fun _ s'' => R (.error e) s'') (fun e' s'' => R (.error e') s'') s'

theorem bad_land (Kb : Below A₀ base outer g) (F : Fr (hideAll g (framesOf outer)) L h m) (hk : ∀ b o, g.get? b = some o → h.get? b = some o) (X' : K.In (hideAll g (framesOf outer))) (T : TopRead p loose mg mb (hideAll g (framesOf outer)))
    (hx : Heap.NewExc h s'.heap e X) {b1 b2 : Bool} (hsub1 : isSubtype (.type X) (.type "TypeError") = pure b1) (hsub2 : isSubtype (.type X) (.type "ValueError") = pure b2) (hb : (b1 || b2) = true)
    (hm1 : mg (Str.ofString "TypeError") = none) (hm2 : mg (Str.ofString "ValueError") = none)
    (ret : ∀ h' tk' e a0, Heap.FlyingW (hideAll g (framesOf outer)) outer e (.type "TypeError") a0 h' → g.UpToSlots h' → R (.error (.ref e)) { s' with heap := h', toks := tk' })
    (hkf : scope.kind = .function := by rfl) (hx1 : (envOf name scope L a cd).kindOf (Str.ofString "TypeError") = some .globalImplicit := by rfl) (hx2 : (envOf name scope L a cd).kindOf (Str.ofString "ValueError") = some .globalImplicit := by rfl) :
    wpAny (model prog w) (A₀.deeper (envOf name scope L a cd)) (noteFrame (.ref e) (envOf name scope L a cd))
      (fun _ s₂ => wpAny (model prog w) (A₀.deeper (envOf name scope L a cd)) (setFlight (.ref e) none) (fun _ s₃ =>
        wpAny (model prog w) (A₀.deeper (envOf name scope L a cd)) (handleBy (.ref e) (envOf name scope L a cd)
          [.ExceptHandler (some (.Tuple [.Name (Str.ofString "TypeError") p1, .Name (Str.ofString "ValueError") p2] kk tpos)) none [.Raise (some (.Call (.Name (Str.ofString "TypeError") p3) [.Constant (.str msg) k1 p4] [] p5)) (some (.Constant .none k2 p6)) p7] pos]) Q
          (OutE prog w (A₀.deeper (envOf name scope L a cd)) (envOf name scope L a cd) R) s₃) (OutE prog w (A₀.deeper (envOf name scope L a cd)) (envOf name scope L a cd) R) s₂)
      (OutE prog w (A₀.deeper (envOf name scope L a cd)) (envOf name scope L a cd) R) s' := by
  -- what stays: all but the frames
  generalize hB : hideAll h (L :: framesOf outer) = B
  have hL0 : (hideAll g (framesOf outer)).get? L = none := by
    cases q : (hideAll g (framesOf outer)).get? L with
    | none => rfl
    | some o => exact absurd (Nat.lt_of_lt_of_le (Heap.lt_size q) F.above) (Nat.lt_irrefl _)
  have hgB : ∀ b o, (hideAll g (framesOf outer)).get? b = some o → B.get? b = some o := fun b o q => by
    rw [← hB]
    refine hideAll_get _ (F.keep b o q) fun hm => ?_
    rcases List.mem_cons.mp hm with rfl | hm
    · rw [hL0] at q; cases q
    · rw [hideAll_none _ hm] at q; cases q
  have hBh : B.StaysIn h := fun b o q => by rw [← hB] at q; exact of_hideAll _ q
  have hLB : B.get? L = none := by rw [← hB]; exact hideAll_none _ (by simp)
  have hfo : h.FunFrames B outer := by
    have q1 : h.FunFrames base outer := Kb.frames.of_keeps fun b o e _ => ⟨o, hk b o e, rfl⟩
    have q2 := funFrames_hide (as := L :: framesOf outer) q1 fun env he b hf => .tail _ (List.mem_filterMap.mpr ⟨env, he, hf⟩)
    rw [hB] at q2
    exact q2
  have hfr : (A₀.deeper (envOf name scope L a cd)).frames = some (envOf name scope L a cd :: outer) := Around.frames_deeper Kb.stack
  have hff : h.FunFrames B (envOf name scope L a cd :: outer) := .cons (by show scope.kind ≠ .module; rw [hkf]; decide) rfl F.ns hLB hfo
  obtain ⟨ob, t, he, hcls, hd⟩ := hx.there
  have hen : B.get? e = none := fresh_of_stays hBh hx.new
  refine note_first (base := B) hfr (hff.of_keeps fun b o hb _ => ⟨o, hx.keeps b o hb, rfl⟩) rfl he (fun b o q => hx.keeps b o (hBh b o q)) hen hd rfl rfl rfl fun h₂ W₂ => ?_
  refine flight_off (s := { s' with heap := h₂ }) W₂ fun h₃ W₃ => ?_
  rw [hcls] at W₃
  have W₃' : Way B (envOf name scope L a cd :: outer) e (.type X) t .none .none h h₃ := { stays := W₃.stays, frames := W₃.frames, tr := W₃.tr, slots := (PySem.Heap.UpToSlots.of_keeps hx.keeps).trans W₃.slots }
  refine tup_hit (s' := { s' with heap := h₃ }) F hgB T W₃' (fun h₄ W₄ => ?_) (T1 := "TypeError") (T2 := "ValueError") PyProof.Rows.Boot.«TypeError» PyProof.Rows.Boot.«ValueError» PySem.F.isExc_TypeError PySem.F.notTuple_TypeError PySem.F.isExc_ValueError PySem.F.notTuple_ValueError hsub1 hsub2 hb hm1 hm2 (by decide +kernel) (by decide +kernel) hkf hx1 (by decide) hx2 (by decide)
  have F₄ := W₄.fr F hgB
  refine wpAny_execs_cons ?_
  refine raise_from (e1 := e) rfl ?_
  refine Call_Name rfl (ld_builtin_at F₄ T.g hm1 T.b ((T.builtins _ (by decide +kernel)).trans PyProof.Rows.Boot.«TypeError») ?_ hkf hx1 (by decide))
  refine callWith_type1 (spliced_more (lit_str _ fun v tk _ => spliced_none ?_))
  refine call_exc PyProof.Rows.excClass_TypeError (fun h₅ e2 hx2 => ?_) (by rw [sizeLine_eq]; show 1 ≤ _; omega)
  obtain ⟨⟨oc, od, dd, sl⟩, t2, he2, hcl2, hd2⟩ := hx2.there
  dsimp only at he2 hcl2 hd2
  subst hcl2 hd2
  obtain ⟨oe, vs, Tr1, oT, ts, hoe, hoc, hod, _, ho2, _⟩ := W₄.tr
  have hne : e2 ≠ e := fun q => by have := hx2.new; rw [q] at this; have := this.symm.trans hoe; cases this
  refine ⟨e2, t2, od, sl, rfl, he2, hne, ⟨oe, vs, hx2.keeps _ _ hoe, hod, ho2⟩, fun h₆ he6 hk6 => ?_⟩
  have keep6 : ∀ b o, h₄.get? b = some o → h₆.get? b = some o := fun b o q => (hk6 b fun z => by rw [z] at q; have := hx2.new; exact absurd (this.symm.trans q) (by simp)).trans (hx2.keeps _ _ q)
  have hen2 : B.get? e2 = none := fresh_of_stays W₄.stays hx2.new
  refine wpAny_leaving_firstW (base := B) (A := A₀.deeper (envOf name scope L a cd)) hfr (W₄.frames.of_keeps fun b o hb _ => ⟨o, keep6 b o hb, rfl⟩) rfl he6 (fun b o q => keep6 b o (W₄.stays b o q)) hen2 rfl rfl rfl fun h₇ hL => ?_
  obtain ⟨k1, ⟨_, _, k2⟩, k3, k4⟩ := hL
  exact ret h₇ _ e2 _ (flyingW_base hgB ⟨k1, hen2, k2, k3⟩) ((((PySem.Heap.UpToSlots.of_keeps hk).trans W₄.slots).trans (PySem.Heap.UpToSlots.of_keeps keep6)).trans k4)
end
section
open PySem PySem.Builtin
variable {prog : Program} {w : World} {A : Around} {E : Value → Shared → Prop} {s : Shared} {env : Env}
theorem gives_int_add_str (a : Int) (t : Tok) (x : Str) (u : Tok) : Gives (Builtin.«int.__add__» ⟨[.int a t, .str x u], []⟩) (.val (Value.notImplemented)) :=
  .of_wp fun M A E s Q h => by obtain ⟨hp, g, d, tk, os⟩ := s; wp_walk; exact ⟨_, rfl, h⟩
theorem seqNo_int : seqSlot? (.type "int") "__add__" = pure none := by
  unfold seqSlot?
  rw [show typeLookup (.type "int") (Str.ofString "__add__") = pure (some (.builtin "int.__add__")) from PySem.F.slot_int_add.lookup]
  rfl
theorem add_int_str {a : Int} {t u : Tok} {x : Str} {Q : Value → Shared → Prop} (hh : A.handled = none) (h : ∀ h' tk e, Heap.NewExc s.heap h' e "TypeError" → E (.ref e) { s with heap := h', toks := tk }) :
    wpAny (model prog w) A (binaryOp .Add (.int a t) (.str x u)) Q E s := by
  unfold binaryOp
  refine wpAny_holding ?_
  refine wpAny_bind (lm_binaryOp1_left_declines (T := "int") (U := "str") (nm := "add") (id := "int.__add__") (by decide) (typeIs_int _ _ _) (typeIs_str _ _ _) PySem.F.fills_int_add PySem.noFill_str_add PySem.F.slot_int_add
    (call_gives PySem.F.slot_int_add (typeIs_int _ _ _) PySem.F.entry_int_add (PySem.F.args_int_add_2 _ _) (gives_int_add_str a t x u) ⟨rfl, ?_⟩))
  refine wpAny_bind (wpAny_typeOf (typeIs_int _ _ _) (wpAny_bind (wpAny_of_eq seqNo_int ?_)))
  unfold binopTypeError
  refine wpAny_bind (wpAny_rule ?_)
  refine wpAny_bind (m := typeNameOf (.int a t)) (wpAny_of_eq (a := "int") (by kernel_rfl) ?_)
  refine wpAny_bind (m := typeNameOf (.str x u)) (wpAny_of_eq (a := "str") (by kernel_rfl) ?_)
  exact raiseError_exc PyProof.Rows.excClass_TypeError hh h (by decide +kernel)

theorem unpack_more {t : Addr} {v1 v2 v3 : Value} {targets : List (Bool × (Value → Sem Unit))} {Q : Unit → Shared → Prop} (hh : A.handled = none) (ht : IsTup s.heap t #[v1, v2, v3]) (hn : targets.length = 2) (hstar : targets.findIdx? (·.1) = none)
    (h : ∀ h₁ h' tk e, Heap.ExtBut s.heap.objs.size s.heap h₁ → Heap.NewExc h₁ h' e "ValueError" → E (.ref e) { s with heap := h', toks := tk }) :
    wpAny (model prog w) A (unpack (.ref t) targets) Q E s := by
  have hlt : t ≠ s.heap.objs.size := by obtain ⟨o, ho, _⟩ := ht; exact Nat.ne_of_lt (Heap.lt_size ho)
  unfold unpack
  rw [hn, hstar]
  refine wpAny_bind (wpAny_holding ?_)
  unfold unpackItems
  refine wpAny_bind ?_
  unfold notIterableAtAll
  refine wpAny_bind (wpAny_specialOf ht.typeIs PySem.F.slot_tuple_iter.lookup ?_)
  refine wpAny_pure ?_
  simp only [Bool.false_eq_true, if_false]
  refine wpAny_bind (wpAny_holding (iter_tuple ht ?_))
  refine wpAny_bind (wpAny_holding (draw_tuple hlt 2 0 _ _ ⟨_, PySem.Heap.get?_push_size _ rfl, rfl, rfl⟩ (ht.push _) (show 0 + 2 ≤ 3 by decide) fun h₁ hit₁ hs₁ => ?_))
  rw [show List.take 2 (List.drop 0 (#[v1, v2, v3] : Array Value).toList) = [v1, v2] from rfl, if_neg (show ¬ [v1, v2].length < 2 from Nat.lt_irrefl 2)]
  have ht₁ : IsTup h₁ t #[v1, v2, v3] := (ht.push _).extBut hs₁.extBut hlt
  refine wpAny_bind (wpAny_holding (next_tuple_item hit₁ ht₁ (x := v3) rfl fun h₂ hit₂ hs₂ => ?_))
  rw [if_pos (show (some v3).isSome = true from rfl)]
  refine wpAny_bind (wpAny_rule (wpAny_bind ?_))
  refine raiseError_exc (s := { s with heap := h₂ }) PyProof.Rows.excClass_ValueError hh ?_ (by decide +kernel)
  exact fun h' tk e hx => h h₂ h' tk e (fun b o hb e => hs₂.extBut b o hb (hs₁.extBut b o hb (PySem.Heap.get?_push_of_some _ e))) hx
end
theorem tup_hide {h : PySem.Heap} {outer : List Env} {p : Addr} {vs : Array Value} (hp : IsTup h p vs) (hn : p ∉ framesOf outer) : IsTup (hideAll h (framesOf outer)) p vs := by
  obtain ⟨o, ho, r⟩ := hp
  exact ⟨o, hideAll_get _ ho hn, r⟩
theorem bad_num {prog : Program} {w : World} {dp un : Nat} {outer : List Env} {gd : Option (List Code)} {s : Shared} {b base : PySem.Heap} {mean : ExcName → Option Value} {mg mb : Str → Option Value} {Q E : Value → Shared → Prop}
    (hd : dp + 1 < recursionLimit) (hu : un + 8 < cLine) (hb : ∀ a o, b.get? a = some o → s.heap.get? a = some o) (K : Below (Around.mk none dp (some outer) gd un) base outer s.heap) (hno : ∀ a ∈ framesOf outer, b.get? a = none)
    (X : (Mine.hd.heap_39 w.params).In b) (T : Top Mine.hd.view_39 lo mean mg mb b) {p : Addr} {y : Str} {t v0 : Tok} (hpn : p ∉ framesOf outer) (hp : IsTup s.heap p #[.int 0 v0, .str y t]) 
    (ret : ∀ h' tk' e a0, Heap.FlyingW (hideAll s.heap (framesOf outer)) outer e (.type "TypeError") a0 h' → s.heap.UpToSlots h' → E (.ref e) { s with heap := h', toks := tk' }) :
    wpAny (model prog w) (Around.mk none dp (some outer) gd un) (call (.ref 45) [.ref p]) Q E s := by
  refine wpAny_call ?_
  refine' enterM (binds := [(Str.ofString "localetuple", .ref p)]) (framesOf outer) hb hno X T ?k6 ?k7 ?k8 ?k9 ?kB ?_ ?c2 ?c3 ?c4 ?c5
  case k6 => k_is
  case k7 => k_is
  case k8 => (first | omega | (dsimp only [Around.deeper, Around.in1]; omega))
  case k9 => first | exact BindsTo.of_eq rfl | exact binds_K (Frag.In.keeps (by assumption) (by assumption)) rfl (by k_is) rfl rfl rfl
  case kB => exact locs rfl
  case c2 => exact rfl
  case c3 => exact rfl
  case c4 => exact rfl
  case c5 => decide
  k_whole
  intro L' h₁ hL F K₁ X' T'
  have N : News (hideAll s.heap (framesOf outer)) L' h₁ (sat (hideAll s.heap (framesOf outer)) L' [] h₁) := news_sat
  have hp' : IsTup (hideAll s.heap (framesOf outer)) p [.int 0 v0, .str y t].toArray := tup_hide hp hpn
  have KP : Kept (hideAll s.heap (framesOf outer)) h₁ L' [] := Kept.of F
  (try dsimp only)
  k_steps
  · rename Fr _ _ _ _ => F9
    rename News _ _ _ _ => N9
    refine add_int_str rfl fun h' tk' e hx => ?_
    show wpAny _ _ (noteFrame _ _) _ _ _
    refine bad_land (R := fun r s' => match r with | .ok (.ret v) => Q v s' | .ok _ => False | .error e => E e s') (b1 := true) (b2 := false) (X := "TypeError") (L := L') (base := base) (outer := outer) K F9 (fun b o q => by
      by_cases hb : b = L'
      · rw [hb, hL] at q; exact absurd (Heap.lt_size q) (Nat.lt_irrefl _)
      · exact KP _ _ _ F9 N9 (fun _ h => h) b o hb (by simp) (K₁ _ _ q)) X' (topRead_of T') hx (by rw [isSubtype_type]; kernel_rfl) (by rw [isSubtype_type]; kernel_rfl) rfl (mg_none_of X' T'.g (by k_is)) (mg_none_of X' T'.g (by k_is)) ret ?a1 ?a2 ?a3
    all_goals rfl
theorem bad_three {prog : Program} {w : World} {dp un : Nat} {outer : List Env} {gd : Option (List Code)} {s : Shared} {b base : PySem.Heap} {mean : ExcName → Option Value} {mg mb : Str → Option Value} {Q E : Value → Shared → Prop}
    (hd : dp + 1 < recursionLimit) (hu : un + 8 < cLine) (hb : ∀ a o, b.get? a = some o → s.heap.get? a = some o) (K : Below (Around.mk none dp (some outer) gd un) base outer s.heap) (hno : ∀ a ∈ framesOf outer, b.get? a = none)
    (X : (Mine.hd.heap_39 w.params).In b) (T : Top Mine.hd.view_39 lo mean mg mb b) {p : Addr} {x y z : Str} {t u v : Tok} (hpn : p ∉ framesOf outer) (hp : IsTup s.heap p #[.str x t, .str y u, .str z v]) 
    (ret : ∀ h' tk' e a0, Heap.FlyingW (hideAll s.heap (framesOf outer)) outer e (.type "TypeError") a0 h' → s.heap.UpToSlots h' → E (.ref e) { s with heap := h', toks := tk' }) :
    wpAny (model prog w) (Around.mk none dp (some outer) gd un) (call (.ref 45) [.ref p]) Q E s := by
  refine wpAny_call ?_
  refine' enterM (binds := [(Str.ofString "localetuple", .ref p)]) (framesOf outer) hb hno X T ?k6 ?k7 ?k8 ?k9 ?kB ?_ ?c2 ?c3 ?c4 ?c5
  case k6 => k_is
  case k7 => k_is
  case k8 => (first | omega | (dsimp only [Around.deeper, Around.in1]; omega))
  case k9 => first | exact BindsTo.of_eq rfl | exact binds_K (Frag.In.keeps (by assumption) (by assumption)) rfl (by k_is) rfl rfl rfl
  case kB => exact locs rfl
  case c2 => exact rfl
  case c3 => exact rfl
  case c4 => exact rfl
  case c5 => decide
  k_whole
  intro L' h₁ hL F K₁ X' T'
  have N : News (hideAll s.heap (framesOf outer)) L' h₁ (sat (hideAll s.heap (framesOf outer)) L' [] h₁) := news_sat
  have hp' : IsTup (hideAll s.heap (framesOf outer)) p [.str x t, .str y u, .str z v].toArray := tup_hide hp hpn
  have KP : Kept (hideAll s.heap (framesOf outer)) h₁ L' [] := Kept.of F
  (try dsimp only)
  k_steps
  · rw [assign_Tuple]
    refine wpAny_bind (wpAny_standAt ?_)
    refine unpack_more rfl ⟨_, F.keep _ _ hp'.choose_spec.1, hp'.choose_spec.2⟩ rfl rfl fun h2 h' tk' e hxt hx => ?_
    have Fq : Fr _ L' h2 _ := ⟨F.ns.at' fun o e => hxt _ o (Nat.ne_of_lt F.ns.lt) e, fun b o e => hxt b o (Nat.ne_of_lt (Heap.lt_size (F.keep b o e))) (F.keep b o e), F.above⟩
    show wpAny _ _ (noteFrame _ _) _ _ _
    refine bad_land (R := fun r s' => match r with | .ok (.ret v) => Q v s' | .ok _ => False | .error e => E e s') (b1 := false) (b2 := true) (X := "ValueError") (L := L') (base := base) (outer := outer) K Fq (fun b o q => hxt b o (Nat.ne_of_lt (Heap.lt_size (K₁ _ _ q))) (K₁ _ _ q)) X' (topRead_of T') hx (by rw [isSubtype_type]; kernel_rfl) (by rw [isSubtype_type]; kernel_rfl) rfl (mg_none_of X' T'.g (by k_is)) (mg_none_of X' T'.g (by k_is)) ret ?a1 ?a2 ?a3
    all_goals rfl
end
section



local macro_rules | `(tactic| omega) => `(tactic| lia)
structure Deed where
  kind : Nat
  idx : Nat
  fin : Nat
noncomputable def lit (x : String) : Str := Str.ofString x
noncomputable def nameOf (i : Nat) : Option Str := [some (Str.ofString ".a"), some (Str.ofString ".A"), some (Str.ofString ".b"), some (Str.ofString "..a"), some (Str.ofString "C."), some (Str.ofString "C"), some (Str.ofString "..B"), some (Str.ofString ""), none, none].getD i none
noncomputable def endOf (i : Nat) : Str := [Str.ofString "\n", Str.ofString "\r", Str.ofString "\r\n"].getD i (Str.ofString "\n")
noncomputable def langOf (i : Nat) : Option Str := [some (Str.ofString ""), some (Str.ofString ""), some (Str.ofString ""), some (Str.ofString "."), none, none, some (Str.ofString "."), some (Str.ofString "")].getD i none
noncomputable def encOf (i : Nat) : Option Str := [some (Str.ofString "a"), some (Str.ofString "A"), some (Str.ofString "b"), some (Str.ofString "a"), some (Str.ofString ""), none, some (Str.ofString "B"), none].getD i none
structure Deed.Ok (d : Deed) : Prop where
  kind : d.kind < 4
  idx : d.idx < 10
  fin : d.fin < 3
def PairAt (K : Know) (pa : Addr) (i : Nat) : Prop :=
  if i = 8 then ∃ t v0 n, K pa (tupObj [.int 0 v0, .str (Str.ofString "a") t] n)
  else if i = 9 then ∃ t u v n, K pa (tupObj [.str (Str.ofString "") t, .str (Str.ofString "a") u, .str (Str.ofString "b") v] n)
  else ∃ lv ev n, K pa (tupObj [lv, ev] n) ∧ OptStr lv (langOf i) ∧ OptStr ev (encOf i)
inductive DeedAt (K : Know) (v : Value) (d : Deed) : Prop
  | mk (a) (pa) (nv) (t) (u) (n) (w0 : v = .ref a) (w1 : K a (tupObj [.int d.kind t, .ref pa, nv, .str (endOf d.fin) u] n)) (w2 : PairAt K pa d.idx) (w3 : OptStr nv (nameOf d.idx)) : DeedAt K v d
inductive DeedsAt (K : Know) (a : Addr) (ds : List Deed) : Prop
  | mk (vs) (n) (w0 : K a (listOf vs.toArray n)) (w1 : PySem.Paired (DeedAt K) vs ds) : DeedsAt K a ds
inductive IntsAt (K : Know) (v : Value) (w : List Int) : Prop
  | mk (a) (vs) (n) (w0 : v = .ref a) (w1 : K a (listOf vs.toArray n)) (w2 : IntsAre vs w) : IntsAt K v w
abbrev Told := Nat × List Int × Option Str
inductive ToldAt (K : Know) (v : Value) (x : Told) : Prop
  | mk (a) (t) (hv) (nv) (n) (w0 : v = .ref a) (w1 : K a (tupObj [.int x.1 t, hv, nv] n)) (w2 : IntsAt K hv x.2.1) (w3 : OptStr nv x.2.2) : ToldAt K v x
section
variable {K K' : Know} (hk : ∀ a o, stable o = true → K a o → K' a o)
include hk
theorem PairAt.mono {pa : Addr} {i : Nat} (h : PairAt K pa i) : PairAt K' pa i := by
  unfold PairAt at h ⊢
  split
  · rename_i q; rw [if_pos q] at h; obtain ⟨t, v0, n, x⟩ := h; exact ⟨t, v0, n, hk _ _ rfl x⟩
  · rename_i q
    rw [if_neg q] at h
    split
    · rename_i q; rw [if_pos q] at h; obtain ⟨t, u, v, n, x⟩ := h; exact ⟨t, u, v, n, hk _ _ rfl x⟩
    · rename_i q; rw [if_neg q] at h; obtain ⟨lv, ev, n, x, r⟩ := h; exact ⟨lv, ev, n, hk _ _ rfl x, r⟩
theorem DeedAt.mono {v : Value} {d : Deed} (h : DeedAt K v d) : DeedAt K' v d := by
  obtain ⟨a, pa, nv, t, u, n, e, x, y, z⟩ := h; exact ⟨a, pa, nv, t, u, n, e, hk _ _ rfl x, y.mono hk, z⟩
theorem DeedsAt.mono {a : Addr} {ds : List Deed} (h : DeedsAt K a ds) : DeedsAt K' a ds := by
  obtain ⟨vs, n, x, p⟩ := h; exact ⟨vs, n, hk _ _ rfl x, Paired.mono (fun _ _ => DeedAt.mono hk) p⟩
theorem IntsAt.mono {v : Value} {w : List Int} (h : IntsAt K v w) : IntsAt K' v w := by
  obtain ⟨a, vs, n, e, x, r⟩ := h; exact ⟨a, vs, n, e, hk _ _ rfl x, r⟩
theorem ToldAt.mono {v : Value} {x : Told} (h : ToldAt K v x) : ToldAt K' v x := by
  obtain ⟨a, t, hv, nv, n, e, y, z, r⟩ := h; exact ⟨a, t, hv, nv, n, e, hk _ _ rfl y, z.mono hk, r⟩
end
/-- what the ledger of all new things tells -/
abbrev InSat (h₀ : PySem.Heap) (L : Addr) (ms : List Addr) (h : PySem.Heap) : Know := fun a o => (a, o) ∈ sat h₀ L ms h
theorem InSat.mono {h₀ h h' : PySem.Heap} {L : Addr} {ms : List Addr} (k : ∀ a o, a ≠ L → a ∉ ms → h.get? a = some o → h'.get? a = some o) : ∀ a o, InSat h₀ L ms h a o → InSat h₀ L ms h' a o := by
  intro a o h
  obtain ⟨e, c1, c2, c3⟩ := mem_sat.mp h
  exact mem_sat.mpr ⟨k a o c1 c2 e, c1, c2, c3⟩
theorem InSat.sk {h₀ h h' : PySem.Heap} {L : Addr} {ms : List Addr} (k : SK h h') : ∀ a o, stable o = true → InSat h₀ L ms h a o → InSat h₀ L ms h' a o := by
  intro a o q h
  obtain ⟨e, c1, c2, c3⟩ := mem_sat.mp h
  exact mem_sat.mpr ⟨k a o q e, c1, c2, c3⟩
theorem Paired.snoc' {α β : Type} {F : α → β → Prop} {l₁ : List α} {l₂ : List β} (h : PySem.Paired F l₁ l₂) {a : α} {b : β} (x : F a b) : PySem.Paired F (l₁ ++ [a]) (l₂ ++ [b]) := Paired.snoc h x

structure Plan where
  here : List Int
  ways : List (List Int)
  opened : List Int
  told : List Told
noncomputable def planStep (i : Nat) (d : Deed) (p : Plan) : Plan :=
  if d.kind = 0 then ⟨p.here ++ [(p.ways.length : Int)], p.ways ++ [p.here ++ [(p.ways.length : Int)]], p.opened ++ [(i : Int)], p.told⟩
  else if d.kind = 3 then { p with here := p.here.take (max 1 (p.here.length - 1)) }
  else { p with told := p.told ++ [(i, p.here, nameOf d.idx)] }
noncomputable def planOf (ds : List Deed) : Nat → Plan
  | 0 => ⟨[0], [[0]], [0], []⟩
  | i + 1 => match ds[i]? with
    | some d => planStep i d (planOf ds i)
    | none => planOf ds i
theorem planOf_small (ds : List Deed) : ∀ i, (planOf ds i).here.length ≤ i + 1 ∧ 1 ≤ (planOf ds i).here.length ∧ (planOf ds i).ways.length ≤ i + 1 ∧ (planOf ds i).opened.length ≤ i + 1 ∧ (planOf ds i).told.length ≤ i
  | 0 => by unfold planOf; simp
  | i + 1 => by
    obtain ⟨h1, h2, h3, h4, h5⟩ := planOf_small ds i
    unfold planOf
    cases ds[i]? with
    | none => dsimp only; omega
    | some d =>
      dsimp only
      unfold planStep
      split
      · simp; omega
      · split
        · simp; omega
        · simp; omega

section
variable {h₀ h : PySem.Heap} {L a b c d e : Addr} {o1 o2 o3 o4 o5 : Obj} {l : List (Addr × Obj)}
theorem name1 (_ : News h₀ L h ((a, o1) :: l)) : ∃ x, x = a := ⟨_, rfl⟩
theorem name2 (_ : News h₀ L h ((a, o1) :: (b, o2) :: l)) : ∃ x, x = b := ⟨_, rfl⟩
theorem name3 (_ : News h₀ L h ((a, o1) :: (b, o2) :: (c, o3) :: l)) : ∃ x, x = c := ⟨_, rfl⟩
theorem name4 (_ : News h₀ L h ((a, o1) :: (b, o2) :: (c, o3) :: (d, o4) :: l)) : ∃ x, x = d := ⟨_, rfl⟩
theorem name5 (_ : News h₀ L h ((a, o1) :: (b, o2) :: (c, o3) :: (d, o4) :: (e, o5) :: l)) : ∃ x, x = e := ⟨_, rfl⟩
theorem insat_of {ms : List Addr} {news : List (Addr × Obj)} (N : News h₀ L h news) {x : Addr} {o : Obj} (hm : (x, o) ∈ news) (hx : x ∉ ms) : InSat h₀ L ms h x o := mem_sat.mpr ⟨(N _ hm).1, (N _ hm).2.1, hx, (N _ hm).2.2⟩
end

theorem InSat.st {h₀ h h' : PySem.Heap} {L : Addr} {ms : List Addr} (k : ∀ a o, a ≠ L → a ∉ ms → h.get? a = some o → h'.get? a = some o) : ∀ a o, stable o = true → InSat h₀ L ms h a o → InSat h₀ L ms h' a o := fun a o _ x => InSat.mono k a o x
/-- what a call has made -/
abbrev Fresh (h h' : PySem.Heap) : Know := fun a o => h'.get? a = some o ∧ h.get? a = none
inductive PlanAt (K : Know) (T : Addr) (p : Plan) : Prop
  | mk (aw) (ao) (at_) (n) (ws) (wn) (os) (on) (ts) (tn) (w0 : K T (tupObj [.ref aw, .ref ao, .ref at_] n)) (w1 : K aw (listOf (ws : List Value).toArray wn)) (w2 : PySem.Paired (IntsAt K) ws p.ways) (w3 : K ao (listOf (os : List Value).toArray on)) (w4 : IntsAre os p.opened) (w5 : K at_ (listOf (ts : List Value).toArray tn)) (w6 : PySem.Paired (ToldAt K) ts p.told) : PlanAt K T p
theorem PlanAt.mono {K K' : Know} (hk : ∀ a o, stable o = true → K a o → K' a o) {T : Addr} {p : Plan} (h : PlanAt K T p) : PlanAt K' T p := by
  obtain ⟨aw, ao, at_, n, ws, wn, os, on, ts, tn, h1, h2, h3, h4, h5, h6, h7⟩ := h
  exact ⟨aw, ao, at_, n, ws, wn, os, on, ts, tn, hk _ _ rfl h1, hk _ _ rfl h2, Paired.mono (fun _ _ => IntsAt.mono hk) h3, hk _ _ rfl h4, h5, hk _ _ rfl h6, Paired.mono (fun _ _ => ToldAt.mono hk) h7⟩
theorem Fresh.insat {h₀ s h' : PySem.Heap} {L : Addr} {ms : List Addr} (hb : ∀ a o, h₀.get? a = some o → s.get? a = some o) (hL : ∃ o, s.get? L = some o) (hm : ∀ a ∈ ms, ∃ o, s.get? a = some o) : ∀ a o, stable o = true → Fresh s h' a o → InSat h₀ L ms h' a o := by
  intro a o _ ⟨e, n⟩
  refine mem_sat.mpr ⟨e, ?_, ?_, ?_⟩
  · rintro rfl; obtain ⟨o', q⟩ := hL; rw [n] at q; cases q
  · intro hx; obtain ⟨o', q⟩ := hm a hx; rw [n] at q; cases q
  · cases q : h₀.get? a with
    | none => rfl
    | some o' => rw [hb a o' q] at n; cases n
end
section
theorem at_MPlan : True := by
  w_top off
  k_with_none
  k_with "my side" => first | assumption | exact rfl | ((try simp only [depth_under_make, depth_under_kw, depth_in1, depth_deeper, depth_caller, units_in1, units_deeper, Around.mark_units, units_caller] at *); (try dsimp only [Around.deeper, Around.in1] at *); omega)
  k_with "my after" => ((rename (∀ _ _, _ → _) => zq_hkk); (have zq_F' := Fr.keeps' (by assumption) zq_hkk); (have zq_N' := News.keeps' (by assumption) zq_hkk); (try dsimp only); (try k_sweep); (try k_fold))
  k_with "ahead of omega" => ((with_reducible show @Ne Nat _ _); first | exact nb0 (by with_reducible assumption) | exact nb1 (by with_reducible assumption) | exact nb2 (by with_reducible assumption) | exact nb3 (by with_reducible assumption) | exact nb4 (by with_reducible assumption) | exact nb5 (by with_reducible assumption) | exact nb6 (by with_reducible assumption) | exact nb7 (by with_reducible assumption) | exact nb8 (by with_reducible assumption) | exact nb9 (by with_reducible assumption) | exact nb10 (by with_reducible assumption) | exact nb11 (by with_reducible assumption) | exact nb12 (by with_reducible assumption) | exact nz1 (by with_reducible assumption) | exact nz2 (by with_reducible assumption) | exact nz3 (by with_reducible assumption) | exact nz4 (by with_reducible assumption) | exact nz5 (by with_reducible assumption) | exact nz6 (by with_reducible assumption) | exact nz7 (by with_reducible assumption) | exact nz8 (by with_reducible assumption) | exact nz9 (by with_reducible assumption) | exact nz10 (by with_reducible assumption) | exact nz11 (by with_reducible assumption) | exact nz12 (by with_reducible assumption))
  k_with "Hid" => (refine Hid.use (by with_reducible assumption) ?_; try dsimp only)
  k_with "execs cons" => (k_here; first | k_gentoks | ((with_reducible refine execs_kont ?_); intro zq_R zq_hR; try dsimp only))
  k_with "exec For Name Call cons nil" => (k_here; (with_reducible show wpAny _ _ (exec (Stmt.For _ _ _ [] _) _) _ _ _); k_dflt (refine For_M (by assumption) ?_ (by intro _; rfl)))
  k_with "exec For Tuple Name cons nil" => (k_here; (with_reducible show wpAny _ _ (exec (Stmt.For _ _ _ [] _) _) _ _ _); k_dflt (refine For_M (by assumption) ?_ (by intro _; rfl)))
  k_with "exec For Name Subscript cons nil" => (k_here; (with_reducible show wpAny _ _ (exec (Stmt.For _ _ _ [] _) _) _ _ _); k_dflt (refine For_M (by assumption) ?_ (by intro _; rfl)))
  k_with "exec For Tuple Call cons nil" => (k_here; (with_reducible show wpAny _ _ (exec (Stmt.For _ _ _ [] _) _) _ _ _); k_dflt (refine For_M (by assumption) ?_ (by intro _; rfl)))
  k_with "subscriptTail Name Name ref int" => (k_here; (with_reducible show wpAny _ _ (subscriptTail _ _ (Value.ref _) (Value.int _ _)) _ _ _); k_dflt (refine' sub_at (by is_list) (by assumption) (by omega) ?_ (by with_unfolding_all rfl)))
  k_with "call builtin:len" => (k_here; (with_reducible show wpAny _ _ (PySem.call (Value.builtin "len") [Value.ref _]) _ _ _); k_dflt (refine' len_at (by is_list) (by assumption) (by omega) ?_); intro zq_t' zq_k')
  k_with "binaryOp Add ref ref" => (k_here; k_dflt (refine' add_at (by k_asm) (by k_asm) (by is_list) (by is_list) (by ((try simp only [List.length_cons, List.length_nil]); omega)) ?_; k_whole); intro zq_h' zq_d' zq_F' zq_N' zq_l1 zq_f1; (try simp only [AllLt] at zq_l1); (try k_sweep))
  trivial



local macro_rules | `(tactic| omega) => `(tactic| k_extra "ahead of omega")
local macro_rules | `(tactic| k_all) => `(tactic| exact sat_off (by simp))
local macro_rules | `(tactic| k_mem) => `(tactic| assumption)
local macro_rules | `(tactic| is_list) => `(tactic| exact News.isList (by assumption) (by k_mem))
structure PlanJ (h₀ : PySem.Heap) (L dl aw ao at_ : Addr) (p : Plan) (m : Str → Option Value) (h : PySem.Heap) : Prop where
  deeds : m (Str.ofString "deeds") = some (.ref dl)
  here : ∃ hv, m (Str.ofString "here") = some hv ∧ IntsAt (InSat h₀ L [aw, ao, at_] h) hv p.here
  ways : m (Str.ofString "ways") = some (.ref aw) ∧ ∃ ws n, h.get? aw = some (listOf ws.toArray n) ∧ PySem.Paired (IntsAt (InSat h₀ L [aw, ao, at_] h)) ws p.ways
  opened : m (Str.ofString "opened") = some (.ref ao) ∧ ∃ os n, h.get? ao = some (listOf os.toArray n) ∧ IntsAre os p.opened
  told : m (Str.ofString "told") = some (.ref at_) ∧ ∃ ts n, h.get? at_ = some (listOf ts.toArray n) ∧ PySem.Paired (ToldAt (InSat h₀ L [aw, ao, at_] h)) ts p.told
theorem PlanJ.sk {h₀ : PySem.Heap} {L dl aw ao at_ : Addr} {p : Plan} {m : Str → Option Value} {h h' : PySem.Heap} (k : SK h h') (J : PlanJ h₀ L dl aw ao at_ p m h) : PlanJ h₀ L dl aw ao at_ p m h' := by
  obtain ⟨d, ⟨hv, e1, x1⟩, ⟨e2, ws, n2, g2, x2⟩, ⟨e3, os, n3, g3, x3⟩, ⟨e4, ts, n4, g4, x4⟩⟩ := J
  have kk := InSat.sk (h₀ := h₀) (L := L) (ms := [aw, ao, at_]) k
  exact ⟨d, ⟨hv, e1, x1.mono kk⟩, ⟨e2, ws, n2, k _ _ rfl g2, Paired.mono (fun _ _ => IntsAt.mono kk) x2⟩, ⟨e3, os, n3, k _ _ rfl g3, x3⟩, ⟨e4, ts, n4, k _ _ rfl g4, Paired.mono (fun _ _ => ToldAt.mono kk) x4⟩⟩
theorem plan_ok {prog : Program} {w : World} {dp un : Nat} {fr : Option (List Env)} {gd : Option (List Code)} {s : Shared} {b : PySem.Heap} {mean : ExcName → Option Value} {mg mb : Str → Option Value} {Q E : Value → Shared → Prop}
    (hd : dp + 1 < recursionLimit) (hu : un + 8 < cLine) (hb : ∀ a o, b.get? a = some o → s.heap.get? a = some o)
    (X : (Mine.hd.heap_39 w.params).In b) (T : Top Mine.hd.view_39 lo mean mg mb b) {dl : Addr} {ds : List Deed} (D : DeedsAt (Heap.At s.heap) dl ds) (hds : ds.length = 9) (hdo : ∀ d ∈ ds, d.Ok)
    (ret : ∀ h' tk' P, (∀ a o, s.heap.get? a = some o → h'.get? a = some o) → PlanAt (Fresh s.heap h') P (planOf ds 9) → Q (.ref P) { s with heap := h', toks := tk' }) :
    wpAny (model prog w) (Around.mk none dp fr gd un) (call (.ref 216) [.ref dl]) Q E s := by
  obtain ⟨vs, n, hl, hp⟩ := D
  refine wpAny_call ?_
  refine' enterM (binds := [(Str.ofString "deeds", .ref dl)]) [] hb (by simp) X T ?k6 ?k7 ?k8 ?k9 ?kB ?_ ?c2 ?c3 ?c4 ?c5
  case k6 => k_is
  case k7 => k_is
  case k8 => (first | omega | (dsimp only [Around.deeper, Around.in1]; omega))
  case k9 => first | exact BindsTo.of_eq rfl | exact binds_K (Frag.In.keeps (by assumption) (by assumption)) rfl (by k_is) rfl rfl rfl
  case kB => exact locs rfl
  case c2 => exact rfl
  case c3 => exact rfl
  case c4 => exact rfl
  case c5 => decide
  k_whole
  intro L' h₁ hL F K₁ X' T'
  have N : News (hideAll s.heap []) L' h₁ [] := News.nil
  have hlg : (hideAll s.heap []).IsList dl vs.toArray := ⟨_, hl, rfl, _, rfl⟩
  (try dsimp only)
  k_steps
  rename News _ _ _ _ => N9
  rename IsRange _ _ _ _ _ _ _ _ => R9
  obtain ⟨at_, e⟩ := name1 N9
  subst e
  obtain ⟨ao, e⟩ := name2 N9
  subst e
  obtain ⟨aw, e⟩ := name3 N9
  subst e
  obtain ⟨ah, e⟩ := name4 N9
  subst e
  have naw : aw ∉ [ao, at_] := by simp only [List.mem_cons, List.not_mem_nil, or_false, not_or]; exact ⟨neN (by omega), neN (by omega)⟩
  have nao : ao ≠ at_ := neN (by omega)
  have nah : ah ∉ [aw, ao, at_] := by simp only [List.mem_cons, List.not_mem_nil, or_false, not_or]; exact ⟨neN (by omega), neN (by omega), neN (by omega)⟩
  refine iter_range_M (r := _) (n := 9) (fun i m h => PlanJ (hideAll s.heap []) L' dl aw ao at_ (planOf ds i) m h) rfl R9 (by omega) (by assumption) ?hJ (fun _ _ _ _ k j => j.sk k) ?_ ?_
  case hJ =>
    have hh := insat_of N9 (ms := [aw, ao, at_]) (.tail _ (.tail _ (.tail _ (.head _)))) nah
    exact ⟨rfl, ⟨_, rfl, ah, [_], 0, rfl, hh, .cons _ _ .nil⟩, ⟨rfl, [_], 0, (N9 _ (.tail _ (.tail _ (.head _)))).1, .cons ⟨ah, [_], 0, rfl, hh, .cons _ _ .nil⟩ .nil⟩, ⟨rfl, [_], 0, (N9 _ (.tail _ (.head _))).1, .cons _ _ .nil⟩, ⟨rfl, [], 0, (N9 _ (.head _)).1, .nil⟩⟩
  · intro i t' m₁ h tk I hi J F₁ hne hI hI0
    obtain ⟨e1, ⟨hv, e2, ahc, hvs, hn, rfl, hins, hints⟩, ⟨e3, ws, wn, gw, pw⟩, ⟨e4, os, on, go, po⟩, ⟨e5, ts, tn, gt, pt⟩⟩ := J
    have hlv : vs.length = 9 := by rw [Paired.len hp, hds]
    obtain ⟨dv, hdv⟩ : ∃ v, vs[i]? = some v := ⟨vs[i], List.getElem?_eq_getElem (by omega)⟩
    obtain ⟨d, hdi, a, pa, nv, td, ud, nd, rfl, ha, hpa, hnv⟩ := Paired.get hp hdv
    have F₂ := Fr.say F₁ [(Str.ofString "deeds", .ref dl), (Str.ofString "here", .ref ahc), (Str.ofString "ways", .ref aw), (Str.ofString "opened", .ref ao), (Str.ofString "told", .ref at_)]
      (List.forall_mem_cons.mpr ⟨e1, List.forall_mem_cons.mpr ⟨e2, List.forall_mem_cons.mpr ⟨e3, List.forall_mem_cons.mpr ⟨e4, List.forall_mem_cons.mpr ⟨e5, fun _ h => nomatch h⟩⟩⟩⟩⟩)
    have N₂ : News (hideAll s.heap []) L' h ((aw, listOf ws.toArray wn) :: (ao, listOf os.toArray on) :: (at_, listOf ts.toArray tn) :: sat (hideAll s.heap []) L' [aw, ao, at_] h) :=
      List.forall_mem_cons.mpr ⟨⟨gw, (N9 _ (.tail _ (.tail _ (.head _)))).2⟩, List.forall_mem_cons.mpr ⟨⟨go, (N9 _ (.tail _ (.head _))).2⟩, List.forall_mem_cons.mpr ⟨⟨gt, (N9 _ (.head _)).2⟩, news_sat⟩⟩⟩
    have hT : IsTup (hideAll s.heap []) a [Value.int d.kind td, Value.ref pa, nv, Value.str (endOf d.fin) ud].toArray := ⟨_, ha, rfl, _, rfl⟩
    have KP : Kept (hideAll s.heap []) h L' [aw, ao, at_] := Kept.of F₁
    obtain ⟨b1, b2, b3, b4, b5⟩ := planOf_small ds i
    have hins' : (ahc, listOf hvs.toArray hn) ∈ sat (hideAll s.heap []) L' [aw, ao, at_] h := hins
    have lw := Paired.len pw
    have lo1 := po.length
    have lt1 := Paired.len pt
    have lh := hints.length
    have lw2 : ws.length ≤ 10 := by omega
    have lo2 : os.length ≤ 10 := by omega
    have lt2 : ts.length ≤ 10 := by omega
    have lh2 : hvs.length ≤ 10 := by omega
    have hok := hdo d (List.mem_of_getElem? hdi)
    clear N9 F₁
    have hnx : planOf ds (i + 1) = planStep i d (planOf ds i) := by rw [planOf, hdi]
    have nIw := off_list hI gw
    have nIo := off_list hI go
    have nIt := off_list hI gt
    have hfp : ∀ b ∈ [I], b ≠ L' ∧ b ∉ [aw, ao, at_] := by
      intro b hb
      rw [List.mem_singleton.mp hb]
      exact ⟨Ne.symm hne, by simp [nIw, nIo, nIt]⟩
    k_steps
    · rename News _ _ _ _ => N9
      obtain ⟨dn, e⟩ := name1 N9
      subst e
      have ndn : dn ∉ [aw, ao, at_] := by simp only [List.mem_cons, List.not_mem_nil, or_false, not_or]; exact ⟨neN (by omega), neN (by omega), neN (by omega)⟩
      refine TurnM.next' KP (by assumption) N9 (fun p hp => .tail _ (.tail _ (.tail _ (.tail _ (.tail _ hp))))) hfp fun k => ?_
      have kk := InSat.st (h₀ := hideAll s.heap []) (ms := [aw, ao, at_]) k
      have hk0 : d.kind = 0 := by omega
      rw [hnx]
      unfold planStep
      rw [if_pos hk0]
      have hn : IntsAt (InSat (hideAll s.heap []) L' [aw, ao, at_] _) (.ref dn) ((planOf ds i).here ++ [((planOf ds i).ways.length : Int)]) := ⟨dn, _, 0, rfl, insat_of N9 (.head _) ndn, hints.append (.cons _ _ .nil)⟩
      exact ⟨rfl, ⟨_, rfl, hn⟩, ⟨rfl, _, _, pushed (N9 _ (.tail _ (.tail _ (.head _)))).1, Paired.snoc (Paired.mono (fun _ _ x => IntsAt.mono kk x) pw) hn⟩,
        ⟨rfl, _, _, pushed (N9 _ (.tail _ (.tail _ (.tail _ (.head _))))).1, po.append (.cons _ _ .nil)⟩, ⟨rfl, _, _, (N9 _ (.tail _ (.tail _ (.tail _ (.tail _ (.head _)))))).1, Paired.mono (fun _ _ x => ToldAt.mono kk x) pt⟩⟩
    · rename News _ _ _ _ => N9
      obtain ⟨dn, e⟩ := name1 N9
      subst e
      have ndn : dn ∉ [aw, ao, at_] := by simp only [List.mem_cons, List.not_mem_nil, or_false, not_or]; exact ⟨neN (by omega), neN (by omega), neN (by omega)⟩
      refine TurnM.next' KP (by assumption) N9 (fun p hp => .tail _ (.tail _ (.tail _ (.tail _ hp)))) hfp fun k => ?_
      have kk := InSat.st (h₀ := hideAll s.heap []) (ms := [aw, ao, at_]) k
      have hk0 : d.kind ≠ 0 := by omega
      have hk3 : d.kind = 3 := by omega
      rw [hnx]
      unfold planStep
      rw [if_neg hk0, if_pos hk3]
      have hcut : (if ((planOf ds i).here.length : Int) - 1 > 1 then ((planOf ds i).here.length : Int) - 1 else 1).toNat = max 1 ((planOf ds i).here.length - 1) := by split <;> omega
      rename IntsAre _ (List.take _ _) => hI9
      rw [hcut] at hI9
      exact ⟨rfl, ⟨_, rfl, ⟨dn, _, 0, rfl, insat_of N9 (.head _) ndn, hI9⟩⟩, ⟨rfl, _, _, (N9 _ (.tail _ (.head _))).1, Paired.mono (fun _ _ x => IntsAt.mono kk x) pw⟩,
        ⟨rfl, _, _, (N9 _ (.tail _ (.tail _ (.head _)))).1, po⟩, ⟨rfl, _, _, (N9 _ (.tail _ (.tail _ (.tail _ (.head _))))).1, Paired.mono (fun _ _ x => ToldAt.mono kk x) pt⟩⟩
    · rename News _ _ _ _ => N9
      obtain ⟨dn, e⟩ := name1 N9
      subst e
      have ndn : dn ∉ [aw, ao, at_] := by simp only [List.mem_cons, List.not_mem_nil, or_false, not_or]; exact ⟨neN (by omega), neN (by omega), neN (by omega)⟩
      refine TurnM.next' KP (by assumption) N9 (fun p hp => .tail _ (.tail _ (.tail _ (.tail _ hp)))) hfp fun k => ?_
      have kk := InSat.st (h₀ := hideAll s.heap []) (ms := [aw, ao, at_]) k
      have hk0 : d.kind ≠ 0 := by omega
      have hk3 : d.kind ≠ 3 := by omega
      rw [hnx]
      unfold planStep
      rw [if_neg hk0, if_neg hk3]
      have hh : IntsAt (InSat (hideAll s.heap []) L' [aw, ao, at_] _) (.ref ahc) (planOf ds i).here := ⟨ahc, hvs, hn, rfl, InSat.mono k _ _ hins, hints⟩
      exact ⟨rfl, ⟨_, rfl, hh⟩, ⟨rfl, _, _, (N9 _ (.tail _ (.head _))).1, Paired.mono (fun _ _ x => IntsAt.mono kk x) pw⟩,
        ⟨rfl, _, _, (N9 _ (.tail _ (.tail _ (.head _)))).1, po⟩, ⟨rfl, _, _, pushed (N9 _ (.tail _ (.tail _ (.tail _ (.head _))))).1, Paired.snoc (Paired.mono (fun _ _ x => ToldAt.mono kk x) pt) ⟨dn, _, _, nv, _, rfl, insat_of N9 (.head _) ndn, hh, hnv⟩⟩⟩
  · intro h tk m' F₁ J
    obtain ⟨e1, ⟨hv, e2, x2⟩, ⟨e3, ws, wn, gw, pw⟩, ⟨e4, os, on, go, po⟩, ⟨e5, ts, tn, gt, pt⟩⟩ := J
    have F₂ := Fr.say F₁ [(Str.ofString "ways", .ref aw), (Str.ofString "opened", .ref ao), (Str.ofString "told", .ref at_)]
      (List.forall_mem_cons.mpr ⟨e3, List.forall_mem_cons.mpr ⟨e4, List.forall_mem_cons.mpr ⟨e5, fun _ h => nomatch h⟩⟩⟩)
    have N₂ : News (hideAll s.heap []) L' h (sat (hideAll s.heap []) L' [] h) := news_sat
    have KP : Kept (hideAll s.heap []) h L' [] := Kept.of F₁
    have m3 := (N9 _ (.tail _ (.tail _ (.head _)))).2
    have m4 := (N9 _ (.tail _ (.head _))).2
    have m5 := (N9 _ (.head _)).2
    clear N9 F₁
    (try dsimp only)
    k_steps
    rename News _ _ _ _ => N9
    have k := KP _ _ _ (by assumption) N9 (fun p hp => .tail _ hp)
    have kk : ∀ a o, stable o = true → InSat (hideAll s.heap []) L' [aw, ao, at_] h a o → Fresh s.heap _ a o := fun a o _ x => ⟨k _ _ (mem_sat.mp x).2.1 (by simp) (mem_sat.mp x).1, (mem_sat.mp x).2.2.2⟩
    refine ret _ _ _ (Fr.keep (by assumption)) ⟨aw, ao, at_, _, ws, wn, os, on, ts, tn, ⟨(N9 _ (.head _)).1, (N9 _ (.head _)).2.2⟩, ⟨k _ _ m3.1 (by simp) gw, m3.2⟩, Paired.mono (fun _ _ x => IntsAt.mono kk x) pw, ⟨k _ _ m4.1 (by simp) go, m4.2⟩, po, ⟨k _ _ m5.1 (by simp) gt, m5.2⟩, Paired.mono (fun _ _ x => ToldAt.mono kk x) pt⟩
end
section
theorem at_MSeen : True := by
  w_top off
  k_with_none
  k_with "my side" => first | assumption | exact rfl | ((try simp only [depth_under_make, depth_under_kw, depth_in1, depth_deeper, depth_caller, units_in1, units_deeper, Around.mark_units, units_caller] at *); (try dsimp only [Around.deeper, Around.in1] at *); omega)
  k_with "my after" => ((rename (∀ _ _, _ → _) => zq_hkk); (have zq_F' := Fr.keeps' (by assumption) zq_hkk); (have zq_N' := News.keeps' (by assumption) zq_hkk); (try dsimp only); (try k_sweep); (try k_fold))
  k_with "ahead of omega" => ((with_reducible show @Ne Nat _ _); first | exact nb0 (by with_reducible assumption) | exact nb1 (by with_reducible assumption) | exact nb2 (by with_reducible assumption) | exact nb3 (by with_reducible assumption) | exact nb4 (by with_reducible assumption) | exact nb5 (by with_reducible assumption) | exact nb6 (by with_reducible assumption) | exact nb7 (by with_reducible assumption) | exact nb8 (by with_reducible assumption) | exact nb9 (by with_reducible assumption) | exact nb10 (by with_reducible assumption) | exact nb11 (by with_reducible assumption) | exact nb12 (by with_reducible assumption) | exact nz1 (by with_reducible assumption) | exact nz2 (by with_reducible assumption) | exact nz3 (by with_reducible assumption) | exact nz4 (by with_reducible assumption) | exact nz5 (by with_reducible assumption) | exact nz6 (by with_reducible assumption) | exact nz7 (by with_reducible assumption) | exact nz8 (by with_reducible assumption) | exact nz9 (by with_reducible assumption) | exact nz10 (by with_reducible assumption) | exact nz11 (by with_reducible assumption) | exact nz12 (by with_reducible assumption))
  k_with "Hid" => (refine Hid.use (by with_reducible assumption) ?_; try dsimp only)
  k_with "execs cons" => (k_here; first | k_gentoks | ((with_reducible refine execs_kont ?_); intro zq_R zq_hR; try dsimp only))
  k_with "exec For Name Call cons nil" => (k_here; (with_reducible show wpAny _ _ (exec (Stmt.For _ _ _ [] _) _) _ _ _); k_dflt (refine For_M (by assumption) ?_ (by intro _; rfl)))
  k_with "exec For Tuple Name cons nil" => (k_here; (with_reducible show wpAny _ _ (exec (Stmt.For _ _ _ [] _) _) _ _ _); k_dflt (refine For_M (by assumption) ?_ (by intro _; rfl)))
  k_with "exec For Name Subscript cons nil" => (k_here; (with_reducible show wpAny _ _ (exec (Stmt.For _ _ _ [] _) _) _ _ _); k_dflt (refine For_M (by assumption) ?_ (by intro _; rfl)))
  k_with "exec For Tuple Call cons nil" => (k_here; (with_reducible show wpAny _ _ (exec (Stmt.For _ _ _ [] _) _) _ _ _); k_dflt (refine For_M (by assumption) ?_ (by intro _; rfl)))
  k_with "subscriptTail Name Name ref int" => (k_here; (with_reducible show wpAny _ _ (subscriptTail _ _ (Value.ref _) (Value.int _ _)) _ _ _); k_dflt (refine' sub_at (by is_list) (by assumption) (by omega) ?_ (by with_unfolding_all rfl)))
  k_with "call builtin:len" => (k_here; (with_reducible show wpAny _ _ (PySem.call (Value.builtin "len") [Value.ref _]) _ _ _); k_dflt (refine' len_at (by is_list) (by assumption) (by omega) ?_); intro zq_t' zq_k')
  k_with "binaryOp Add ref ref" => (k_here; k_dflt (refine' add_at (by k_asm) (by k_asm) (by is_list) (by is_list) (by ((try simp only [List.length_cons, List.length_nil]); omega)) ?_; k_whole); intro zq_h' zq_d' zq_F' zq_N' zq_l1 zq_f1; (try simp only [AllLt] at zq_l1); (try k_sweep))
  k_with "subscriptTail Name Slice ref ref" => (k_here; (with_reducible show wpAny _ _ (subscriptTail _ (PySem.Expr.Slice none (some _) none _) _ _) _ _ _); k_dflt (refine' slice_to (s := ⟨_, _, _, _, _⟩) (by k_asm) (by k_asm) (by is_list) (by assumption) (by omega) ?_ (by with_unfolding_all rfl) (by (intro _; with_unfolding_all rfl)); k_whole); intro zq_h' zq_d' zq_F' zq_N' zq_l1 zq_f1 zq_i1; (try simp only [AllLt] at zq_l1); (try k_sweep))
  k_with "compareOp NotEq ref ref" => (k_here; (with_reducible show wpAny _ _ (compareOp CmpOp.NotEq (Value.ref _) (Value.ref _)) _ _ _); k_dflt (refine' ne_intsK (by is_list) (by assumption) (by is_list) (by assumption) (by walk_at "my side") ?_; k_whole))
  trivial



local macro_rules | `(tactic| omega) => `(tactic| k_extra "ahead of omega")
local macro_rules | `(tactic| k_all) => `(tactic| exact sat_off (by simp))
local macro_rules | `(tactic| k_mem) => `(tactic| assumption)
local macro_rules | `(tactic| is_list) => `(tactic| exact News.isList (by assumption) (by k_mem))
noncomputable def tabs (n : Nat) : Str := Txt.mul (Str.ofString "\t") (n : Int)
noncomputable def seenName (way home : List Int) (nm : Str) : Str := if (Txt.slice nm none (some 1) == Str.ofString ".") = true then Txt.mul (Str.ofString ".") ((way.length : Int) - (home.length : Int)) ++ nm else nm
noncomputable def seenAdd (way home : List Int) (xt : Nat) (nm : Str) (acc : List (Str × Str)) : List (Str × Str) :=
  if ((acc.map fun r => Txt.lower r.1).any fun x => x == Txt.lower (seenName way home nm)) = true then acc else acc ++ [(seenName way home nm, tabs xt)]
noncomputable def seenStep (way opened : List Int) (turns : Int) (acc : List (Str × Str)) (x : Told) : List (Str × Str) :=
  match x.2.2 with
  | none => acc
  | some nm =>
    if turns ≤ (x.1 : Int) then acc else if way.take x.2.1.length = x.2.1 then
      (if (x.2.1.length : Int) < (way.length : Int) then (if opened.getD (way.getD (x.2.1.length : Int).toNat 0).toNat 0 < (x.1 : Int) then acc else seenAdd way x.2.1 x.1 nm acc) else seenAdd way x.2.1 x.1 nm acc)
    else acc
noncomputable def seenOf (way opened : List Int) (turns : Int) (told : List Told) : List (Str × Str) := told.foldl (seenStep way opened turns) []
section
variable {way opened : List Int} {turns : Int} {acc : List (Str × Str)} {xt : Nat} {xh : List Int} {nm : Str}
theorem seen_e1 (h : turns ≤ (xt : Int)) : seenStep way opened turns acc (xt, xh, some nm) = acc := if_pos h
theorem seen_e2 (h : ¬ turns ≤ (xt : Int)) (h2 : ¬ way.take xh.length = xh) : seenStep way opened turns acc (xt, xh, some nm) = acc := (if_neg h).trans (if_neg h2)
theorem seen_e3 (h : ¬ turns ≤ (xt : Int)) (h2 : way.take xh.length = xh) (h3 : (xh.length : Int) < (way.length : Int)) (h4 : opened.getD (way.getD (xh.length : Int).toNat 0).toNat 0 < (xt : Int)) : seenStep way opened turns acc (xt, xh, some nm) = acc :=
  (if_neg h).trans ((if_pos h2).trans ((if_pos h3).trans (if_pos h4)))
theorem seen_e4 (h : ¬ turns ≤ (xt : Int)) (h2 : way.take xh.length = xh) (h3 : (xh.length : Int) < (way.length : Int)) (h4 : ¬ opened.getD (way.getD (xh.length : Int).toNat 0).toNat 0 < (xt : Int)) : seenStep way opened turns acc (xt, xh, some nm) = seenAdd way xh xt nm acc :=
  (if_neg h).trans ((if_pos h2).trans ((if_pos h3).trans (if_neg h4)))
theorem seen_e5 (h : ¬ turns ≤ (xt : Int)) (h2 : way.take xh.length = xh) (h3 : ¬ (xh.length : Int) < (way.length : Int)) : seenStep way opened turns acc (xt, xh, some nm) = seenAdd way xh xt nm acc :=
  (if_neg h).trans ((if_pos h2).trans (if_neg h3))
theorem add_e1 {home : List Int} (hd : (Txt.slice nm none (some 1) == Str.ofString ".") = true) (ha : ((acc.map fun r => Txt.lower r.1).any fun x => x == Txt.lower (Txt.mul (Str.ofString ".") ((way.length : Int) - (home.length : Int)) ++ nm)) = true) : seenAdd way home xt nm acc = acc := by
  unfold seenAdd seenName; rw [if_pos hd, if_pos ha]
theorem add_e2 {home : List Int} (hd : (Txt.slice nm none (some 1) == Str.ofString ".") = true) (ha : ((acc.map fun r => Txt.lower r.1).any fun x => x == Txt.lower (Txt.mul (Str.ofString ".") ((way.length : Int) - (home.length : Int)) ++ nm)) = false) :
    seenAdd way home xt nm acc = acc ++ [(Txt.mul (Str.ofString ".") ((way.length : Int) - (home.length : Int)) ++ nm, tabs xt)] := by
  have hn : seenName way home nm = Txt.mul (Str.ofString ".") ((way.length : Int) - (home.length : Int)) ++ nm := if_pos hd
  unfold seenAdd; rw [hn, if_neg (fun q => by rw [ha] at q; cases q)]
theorem add_e3 {home : List Int} (hd : (Txt.slice nm none (some 1) == Str.ofString ".") = false) (ha : ((acc.map fun r => Txt.lower r.1).any fun x => x == Txt.lower nm) = true) : seenAdd way home xt nm acc = acc := by
  have hn : seenName way home nm = nm := if_neg (fun q => by rw [hd] at q; cases q)
  unfold seenAdd; rw [hn, if_pos ha]
theorem add_e4 {home : List Int} (hd : (Txt.slice nm none (some 1) == Str.ofString ".") = false) (ha : ((acc.map fun r => Txt.lower r.1).any fun x => x == Txt.lower nm) = false) : seenAdd way home xt nm acc = acc ++ [(nm, tabs xt)] := by
  have hn : seenName way home nm = nm := if_neg (fun q => by rw [hd] at q; cases q)
  unfold seenAdd; rw [hn, if_neg (fun q => by rw [ha] at q; cases q)]
end
structure SeenJ (h₀ : PySem.Heap) (L aw ao ar al : Addr) (turns : Value) (acc : List (Str × Str)) (m : Str → Option Value) (h : PySem.Heap) : Prop where
  way : m (Str.ofString "way") = some (.ref aw)
  opened : m (Str.ofString "opened") = some (.ref ao)
  turns : m (Str.ofString "turns") = some turns
  rows : m (Str.ofString "rows") = some (.ref ar) ∧ ∃ rs n, h.get? ar = some (listOf (rs : List Value).toArray n) ∧ PySem.Paired (RowAt (InSat h₀ L [ar, al] h)) rs acc
  lows : m (Str.ofString "lows") = some (.ref al) ∧ ∃ ls n, h.get? al = some (listOf (ls : List Value).toArray n) ∧ StrsAre ls (acc.map fun r => Txt.lower r.1)
theorem SeenJ.sk {h₀ : PySem.Heap} {L aw ao ar al : Addr} {turns : Value} {acc : List (Str × Str)} {m : Str → Option Value} {h h' : PySem.Heap} (k : SK h h') (J : SeenJ h₀ L aw ao ar al turns acc m h) : SeenJ h₀ L aw ao ar al turns acc m h' := by
  obtain ⟨e1, e2, e3, ⟨e4, rs, n4, g4, x4⟩, ⟨e5, ls, n5, g5, x5⟩⟩ := J
  have kk := InSat.sk (h₀ := h₀) (L := L) (ms := [ar, al]) k
  exact ⟨e1, e2, e3, ⟨e4, rs, n4, k _ _ rfl g4, Paired.mono (fun _ _ => RowAt.mono kk) x4⟩, ⟨e5, ls, n5, k _ _ rfl g5, x5⟩⟩
theorem seen_len (way opened : List Int) (turns : Int) : ∀ (told : List Told) (acc : List (Str × Str)), (told.foldl (seenStep way opened turns) acc).length ≤ acc.length + told.length
  | [], acc => by simp
  | x :: r, acc => by
    have := seen_len way opened turns r (seenStep way opened turns acc x)
    have h0 : (seenAdd way x.2.1 x.1 (x.2.2.getD Str.empty) acc).length ≤ acc.length + 1 := by
      unfold seenAdd
      split <;> simp
    have h1 : (seenStep way opened turns acc x).length ≤ acc.length + 1 := by
      obtain ⟨xt, xh, xn⟩ := x
      cases xn with
      | none => exact Nat.le_succ _
      | some nm =>
        dsimp only [Option.getD] at h0
        unfold seenStep
        dsimp only
        (repeat' split) <;> first | exact Nat.le_succ _ | exact h0
    simp only [List.foldl_cons, List.length_cons]
    omega
theorem seen_next (way opened : List Int) (turns : Int) {told : List Told} {i : Nat} {x : Told} (h : told[i]? = some x) : seenOf way opened turns (told.take (i + 1)) = seenStep way opened turns (seenOf way opened turns (told.take i)) x := by
  unfold seenOf
  rw [List.take_add_one, h, List.foldl_append]
  rfl

theorem SeenJ.keep {h₀ h h' : PySem.Heap} {L aw ao ar al I at_ : Addr} {T : Value} {acc acc' : List (Str × Str)} {rs ls : List Value} {n4 n5 tk : Nat} {m' : Str → Option Value} {news : List (Addr × Obj)} {s : Shared} {Q : Flow → Shared → Prop}
    (KP : Kept h₀ h L [ar, al]) (F' : Fr h₀ L h' m') (N' : News h₀ L h' news) (hs : ∀ p ∈ sat h₀ L [ar, al] h, p ∈ news) (hfp : ∀ b ∈ [I, at_], b ≠ L ∧ b ∉ [ar, al])
    (e1 : m' (Str.ofString "way") = some (.ref aw)) (e2 : m' (Str.ofString "opened") = some (.ref ao)) (e3 : m' (Str.ofString "turns") = some T) (e4 : m' (Str.ofString "rows") = some (.ref ar)) (e5 : m' (Str.ofString "lows") = some (.ref al))
    (gr : (ar, listOf rs.toArray n4) ∈ news) (gl : (al, listOf ls.toArray n5) ∈ news) (x4 : PySem.Paired (RowAt (InSat h₀ L [ar, al] h)) rs acc) (x5 : StrsAre ls (acc.map fun r => Txt.lower r.1)) (e : acc' = acc) :
    TurnM h₀ L [I, at_] h (SeenJ h₀ L aw ao ar al T acc') s Q .next { s with heap := h', toks := tk } := by
  subst e
  refine TurnM.next' KP F' N' hs hfp fun k => ?_
  have kk := InSat.st (h₀ := h₀) (ms := [ar, al]) k
  exact ⟨e1, e2, e3, ⟨e4, rs, n4, (N' _ gr).1, Paired.mono (fun _ _ => RowAt.mono kk) x4⟩, ⟨e5, ls, n5, (N' _ gl).1, x5⟩⟩
theorem StrsAre.snoc {vs : List Value} {ns : List Str} {x : Str} {t : Tok} (h : StrsAre vs ns) : StrsAre (vs ++ [.str x t]) (ns ++ [x]) := by
  induction h with
  | nil => exact .cons _ _ .nil
  | cons a u _ ih => exact .cons _ _ ih
theorem SeenJ.grow {h₀ h h' : PySem.Heap} {L aw ao ar al I at_ D : Addr} {T : Value} {acc acc' : List (Str × Str)} {rs ls : List Value} {n4 n5 n6 tk : Nat} {t1 t2 t3 : Tok} {nm v : Str} {m' : Str → Option Value} {news : List (Addr × Obj)} {s : Shared} {Q : Flow → Shared → Prop}
    (KP : Kept h₀ h L [ar, al]) (F' : Fr h₀ L h' m') (N' : News h₀ L h' news) (hs : ∀ p ∈ sat h₀ L [ar, al] h, p ∈ news) (hfp : ∀ b ∈ [I, at_], b ≠ L ∧ b ∉ [ar, al])
    (e1 : m' (Str.ofString "way") = some (.ref aw)) (e2 : m' (Str.ofString "opened") = some (.ref ao)) (e3 : m' (Str.ofString "turns") = some T) (e4 : m' (Str.ofString "rows") = some (.ref ar)) (e5 : m' (Str.ofString "lows") = some (.ref al))
    (gd : (D, tupObj [.str nm t1, .str v t2] n6) ∈ news) (hD : D ∉ [ar, al])
    (gr : (ar, listOf (rs.toArray.push (.ref D)) n4) ∈ news) (gl : (al, listOf (ls.toArray.push (.str (Txt.lower nm) t3)) n5) ∈ news) (x4 : PySem.Paired (RowAt (InSat h₀ L [ar, al] h)) rs acc) (x5 : StrsAre ls (acc.map fun r => Txt.lower r.1)) (e : acc' = acc ++ [(nm, v)]) :
    TurnM h₀ L [I, at_] h (SeenJ h₀ L aw ao ar al T acc') s Q .next { s with heap := h', toks := tk } := by
  subst e
  refine TurnM.next' KP F' N' hs hfp fun k => ?_
  have kk := InSat.st (h₀ := h₀) (ms := [ar, al]) k
  refine ⟨e1, e2, e3, ⟨e4, _, _, pushed (N' _ gr).1, Paired.snoc (Paired.mono (fun _ _ => RowAt.mono kk) x4) ⟨D, t1, t2, n6, rfl, insat_of N' gd hD⟩⟩, ⟨e5, _, _, pushed (N' _ gl).1, ?_⟩⟩
  rw [List.map_append]
  exact StrsAre.snoc x5

theorem seen_ok {prog : Program} {w : World} {dp un : Nat} {fr : Option (List Env)} {gd : Option (List Code)} {s : Shared} {b : PySem.Heap} {mean : ExcName → Option Value} {mg mb : Str → Option Value} {Q E : Value → Shared → Prop}
    (hd : dp + 1 < recursionLimit) (hu : un + 100 < cLine) (hb : ∀ a o, b.get? a = some o → s.heap.get? a = some o)
    (X : (Mine.hd.heap_39 w.params).In b) (T : Top Mine.hd.view_39 lo mean mg mb b) {aw ao at_ : Addr} {way opened : List Int} {told : List Told} {turns : Int} {tt : Tok} {wvs ovs tvs : List Value} {wn on tn : Nat}
    (hw : s.heap.get? aw = some (listOf wvs.toArray wn)) (hwi : IntsAre wvs way) (ho : s.heap.get? ao = some (listOf ovs.toArray on)) (hoi : IntsAre ovs opened)
    (ht : s.heap.get? at_ = some (listOf tvs.toArray tn)) (hti : PySem.Paired (ToldAt (Heap.At s.heap)) tvs told)
    (hwl : way.length ≤ 10) (hol : opened.length ≤ 10) (htl : told.length ≤ 10) (hin : ∀ x ∈ way, 0 ≤ x ∧ x < opened.length) (htn : 0 ≤ turns) (htn' : turns ≤ 100)
    (hnm : ∀ x ∈ told, x.1 ≤ 10 ∧ x.2.1.length ≤ 10 ∧ ∀ nm, x.2.2 = some nm → nm.length ≤ 4)
    (ret : ∀ h' tk' R, (∀ a o, s.heap.get? a = some o → h'.get? a = some o) → RowsAt (Fresh s.heap h') R (seenOf way opened turns told) → Q (.ref R) { s with heap := h', toks := tk' }) :
    wpAny (model prog w) (Around.mk none dp fr gd un) (call (.ref 223) [.ref aw, .ref ao, .ref at_, .int turns tt]) Q E s := by
  refine wpAny_call ?_
  refine' enterM (binds := [(Str.ofString "way", .ref aw), (Str.ofString "opened", .ref ao), (Str.ofString "told", .ref at_), (Str.ofString "turns", .int turns tt)]) [] hb (by simp) X T ?k6 ?k7 ?k8 ?k9 ?kB ?_ ?c2 ?c3 ?c4 ?c5
  case k6 => k_is
  case k7 => k_is
  case k8 => (first | omega | (dsimp only [Around.deeper, Around.in1]; omega))
  case k9 => first | exact BindsTo.of_eq rfl | exact binds_K (Frag.In.keeps (by assumption) (by assumption)) rfl (by k_is) rfl rfl rfl
  case kB => exact locs rfl
  case c2 => exact rfl
  case c3 => exact rfl
  case c4 => exact rfl
  case c5 => decide
  k_whole
  intro L' h₁ hL F K₁ X' T'
  have N : News (hideAll s.heap []) L' h₁ [] := News.nil
  have hwg : (hideAll s.heap []).IsList aw wvs.toArray := ⟨_, hw, rfl, _, rfl⟩
  have hog : (hideAll s.heap []).IsList ao ovs.toArray := ⟨_, ho, rfl, _, rfl⟩
  have htg : (hideAll s.heap []).IsList at_ tvs.toArray := ⟨_, ht, rfl, _, rfl⟩
  (try dsimp only)
  k_steps
  rename News _ _ _ _ => N9
  obtain ⟨al, e⟩ := name1 N9
  subst e
  obtain ⟨ar, e⟩ := name2 N9
  subst e
  have nra : ar ≠ al := neN (by omega)
  refine iter_list_M (l := at_) (items := tvs.toArray) (fun i m h => SeenJ (hideAll s.heap []) L' aw ao ar al (.int turns tt) (seenOf way opened turns (told.take i)) m h) rfl ?h2 ?h3 (by assumption) ?h4 (fun _ _ _ _ k j => j.sk k) ?_ ?_
  case h2 => exact Fr.lst (by assumption) htg
  case h3 => exact Nat.ne_of_gt (hL ▸ Heap.lt_size ht)
  case h4 => exact ⟨rfl, rfl, rfl, ⟨rfl, [], 0, (N9 _ (.tail _ (.head _))).1, .nil⟩, ⟨rfl, [], 0, (N9 _ (.head _)).1, .nil⟩⟩
  · intro i v m₁ h tk I hv J F₁ hI hlst hne
    obtain ⟨e1, e2, e3, ⟨e4, rs, n4, g4, x4⟩, ⟨e5, ls, n5, g5, x5⟩⟩ := J
    obtain ⟨x, hxi, a, t1, hv1, nv, n1, rfl, ha, ⟨ah, hvs, hn, e6, hah, hints⟩, hnv⟩ := Paired.get hti (by simpa using hv)
    subst e6
    have F₂ := Fr.say F₁ [(Str.ofString "way", .ref aw), (Str.ofString "opened", .ref ao), (Str.ofString "turns", .int turns tt), (Str.ofString "rows", .ref ar), (Str.ofString "lows", .ref al)]
      (List.forall_mem_cons.mpr ⟨e1, List.forall_mem_cons.mpr ⟨e2, List.forall_mem_cons.mpr ⟨e3, List.forall_mem_cons.mpr ⟨e4, List.forall_mem_cons.mpr ⟨e5, fun _ h => nomatch h⟩⟩⟩⟩⟩)
    have N₂ : News (hideAll s.heap []) L' h ((ar, listOf rs.toArray n4) :: (al, listOf ls.toArray n5) :: sat (hideAll s.heap []) L' [ar, al] h) :=
      List.forall_mem_cons.mpr ⟨⟨g4, (N9 _ (.tail _ (.head _))).2⟩, List.forall_mem_cons.mpr ⟨⟨g5, (N9 _ (.head _)).2⟩, news_sat⟩⟩
    have hT : IsTup (hideAll s.heap []) a [Value.int x.1 t1, Value.ref ah, nv].toArray := ⟨_, ha, rfl, _, rfl⟩
    have hhg : (hideAll s.heap []).IsList ah hvs.toArray := ⟨_, hah, rfl, _, rfl⟩
    have KP : Kept (hideAll s.heap []) h L' [ar, al] := Kept.of F₁
    have hI' : ∃ o, h.get? I = some o ∧ stable o = false := by obtain ⟨o, ho, hc, hd⟩ := hI; exact ⟨o, ho, unstable hc hd⟩
    obtain ⟨c1, c2, c3⟩ := hnm x (List.mem_of_getElem? hxi)
    have lh := hints.length
    have lw := hwi.length
    have lo1 := hoi.length
    have hsl : (seenOf way opened turns (told.take i)).length ≤ 10 := by
      have := seen_len way opened turns (told.take i) []
      unfold seenOf
      simp only [List.length_nil, List.length_take] at this
      omega
    have lr := Paired.len x4
    have ll := x5.length
    rw [List.length_map] at ll
    have lr2 : rs.length ≤ 10 := by omega
    have ll2 : ls.length ≤ 10 := by omega
    have hnx := seen_next way opened turns hxi
    have hfp : ∀ b ∈ [I, at_], b ≠ L' ∧ b ∉ [ar, al] := by
      intro b hb
      rcases List.mem_cons.mp hb with rfl | hb
      · exact ⟨Ne.symm hne, by simp [off_list hI' g4, off_list hI' g5]⟩
      · rw [List.mem_singleton.mp hb]
        refine ⟨Nat.ne_of_lt (hL ▸ Heap.lt_size ht), ?_⟩
        have q : (hideAll s.heap []).get? at_ ≠ none := fun q => by rw [show (hideAll s.heap []).get? at_ = _ from ht] at q; cases q
        simp only [List.mem_cons, List.not_mem_nil, or_false, not_or]
        exact ⟨fun z => q (z ▸ (N9 _ (.tail _ (.head _))).2.2), fun z => q (z ▸ (N9 _ (.head _)).2.2)⟩
    clear N9 F₁
    obtain ⟨xt, xh, xn⟩ := x
    dsimp only at *
    cases xn with
    | none =>
      obtain rfl : nv = .none := hnv
      k_steps
      show TurnM _ _ _ _ _ _ _ Flow.cont _
      refine TurnM.cont ?_
      exact SeenJ.keep KP (by assumption) (by assumption) (fun p hp => .tail _ (.tail _ hp)) hfp rfl rfl rfl rfl rfl (by k_mem) (by k_mem) x4 x5 (hnx.trans rfl)
    | some nm =>
      obtain ⟨un1, rfl⟩ := hnv
      have hnl := c3 nm rfl
      have hwd : xh.length < way.length → 0 ≤ way.getD (xh.length : Int).toNat 0 ∧ way.getD (xh.length : Int).toNat 0 < (opened.length : Int) := fun hlt => by
        have q := hin (way.getD xh.length 0) (by rw [List.getD_eq_getElem?_getD, List.getElem?_eq_getElem hlt]; exact List.getElem_mem _)
        simpa using q
      k_steps
      all_goals first | (show TurnM _ _ _ _ _ _ _ Flow.cont _; refine TurnM.cont ?_) | skip
      all_goals rename News _ _ _ _ => N9
      all_goals rename Fr _ _ _ _ => F9
      all_goals first
        | exact SeenJ.keep KP F9 N9 (fun p hp => by repeat (first | exact hp | refine List.Mem.tail _ ?_)) hfp rfl rfl rfl rfl rfl (by k_mem) (by k_mem) x4 x5 (hnx.trans (by first | exact seen_e1 (by assumption) | exact seen_e2 (by assumption) (by assumption) | exact seen_e3 (by assumption) (by assumption) (by assumption) (by assumption)))
        | exact SeenJ.keep KP F9 N9 (fun p hp => by repeat (first | exact hp | refine List.Mem.tail _ ?_)) hfp rfl rfl rfl rfl rfl (by k_mem) (by k_mem) x4 x5 (hnx.trans ((by first | exact seen_e4 (by assumption) (by assumption) (by assumption) (by assumption) | exact seen_e5 (by assumption) (by assumption) (by assumption) : seenStep _ _ _ _ _ = seenAdd _ _ _ _ _).trans (by first | exact add_e1 (by assumption) (by assumption) | exact add_e3 (by assumption) (by assumption))))
        | (obtain ⟨D, e⟩ := name1 N9
           subst e
           exact SeenJ.grow KP F9 N9 (fun p hp => by repeat (first | exact hp | refine List.Mem.tail _ ?_)) hfp rfl rfl rfl rfl rfl (.head _) (by simp only [List.mem_cons, List.not_mem_nil, or_false, not_or]; exact ⟨neN (by omega), neN (by omega)⟩) (by k_mem) (by k_mem) x4 x5 (hnx.trans ((by first | exact seen_e4 (by assumption) (by assumption) (by assumption) (by assumption) | exact seen_e5 (by assumption) (by assumption) (by assumption) : seenStep _ _ _ _ _ = seenAdd _ _ _ _ _).trans (by first | exact add_e2 (by assumption) (by assumption) | exact add_e4 (by assumption) (by assumption)))))
  · intro h tk m' F₁ J
    obtain ⟨e1, e2, e3, ⟨e4, rs, n4, g4, x4⟩, _⟩ := J
    have hlen : told.length = tvs.length := (Paired.len hti).symm
    rw [List.size_toArray, ← hlen, List.take_length] at x4
    have F₂ := Fr.say F₁ [(Str.ofString "rows", .ref ar)] (List.forall_mem_cons.mpr ⟨e4, fun _ h => nomatch h⟩)
    have N₂ : News (hideAll s.heap []) L' h (sat (hideAll s.heap []) L' [] h) := news_sat
    have KP : Kept (hideAll s.heap []) h L' [] := Kept.of F₁
    have m4 := (N9 _ (.tail _ (.head _))).2
    clear N9 F₁
    (try dsimp only)
    k_steps
    rename News _ _ _ _ => N9
    have k := KP _ _ _ (by assumption) N9 (fun p hp => hp)
    exact ret _ _ _ (Fr.keep (by assumption)) ⟨rs, n4, ⟨k _ _ m4.1 (by simp) g4, m4.2⟩, Paired.mono (fun _ _ x => RowAt.mono (fun a o _ x => ⟨k _ _ (mem_sat.mp x).2.1 (by simp) (mem_sat.mp x).1, (mem_sat.mp x).2.2.2⟩) x) x4⟩
end
section
theorem at_MLook : True := by
  w_top off
  k_with_none
  k_with "my side" => first | assumption | exact rfl | ((try simp only [depth_under_make, depth_under_kw, depth_in1, depth_deeper, depth_caller, units_in1, units_deeper, Around.mark_units, units_caller] at *); (try dsimp only [Around.deeper, Around.in1] at *); omega)
  k_with "my after" => ((rename (∀ _ _, _ → _) => zq_hkk); (have zq_F' := Fr.keeps' (by assumption) zq_hkk); (have zq_N' := News.keeps' (by assumption) zq_hkk); (try dsimp only); (try k_sweep); (try k_fold))
  k_with "Hid" => (refine Hid.use (by with_reducible assumption) ?_; try dsimp only)
  k_with "execs cons" => (k_here; first | k_gentoks | ((with_reducible refine execs_kont ?_); intro zq_R zq_hR; try dsimp only))
  k_with "execs cons" => (k_here; first | k_gentoks | ((with_reducible refine wpAny_execs_cons ?_); try dsimp only))
  k_with "exec For Name Call cons nil" => (k_here; (with_reducible show wpAny _ _ (exec (Stmt.For _ _ _ [] _) _) _ _ _); k_dflt (refine For_M (by assumption) ?_ (by intro _; rfl)))
  k_with "exec For Tuple Name cons nil" => (k_here; (with_reducible show wpAny _ _ (exec (Stmt.For _ _ _ [] _) _) _ _ _); k_dflt (refine For_M (by assumption) ?_ (by intro _; rfl)))
  k_with "exec For Name Subscript cons nil" => (k_here; (with_reducible show wpAny _ _ (exec (Stmt.For _ _ _ [] _) _) _ _ _); k_dflt (refine For_M (by assumption) ?_ (by intro _; rfl)))
  k_with "exec For Tuple Call cons nil" => (k_here; (with_reducible show wpAny _ _ (exec (Stmt.For _ _ _ [] _) _) _ _ _); k_dflt (refine For_M (by assumption) ?_ (by intro _; rfl)))
  k_with "subscriptTail Name Name ref int" => (k_here; (with_reducible show wpAny _ _ (subscriptTail _ _ (Value.ref _) (Value.int _ _)) _ _ _); k_dflt (refine' sub_at (by is_list) (by assumption) (by omega) ?_ (by with_unfolding_all rfl)))
  k_with "call builtin:len" => (k_here; (with_reducible show wpAny _ _ (PySem.call (Value.builtin "len") [Value.ref _]) _ _ _); k_dflt (refine' len_at (by is_list) (by assumption) (by omega) ?_); intro zq_t' zq_k')
  k_with "binaryOp Add ref ref" => (k_here; k_dflt (refine' add_at (by k_asm) (by k_asm) (by is_list) (by is_list) (by ((try simp only [List.length_cons, List.length_nil]); omega)) ?_; k_whole); intro zq_h' zq_d' zq_F' zq_N' zq_l1 zq_f1; (try simp only [AllLt] at zq_l1); (try k_sweep))
  trivial



local macro_rules | `(tactic| k_all) => `(tactic| exact sat_off (by simp))
local macro_rules | `(tactic| k_mem) => `(tactic| assumption)
local macro_rules | `(tactic| is_list) => `(tactic| exact News.isList (by assumption) (by k_mem))
local macro_rules | `(tactic| k_inst) => `(tactic| exact inst_keep (by assumption) (Fr.keep (by assumption)))
noncomputable def rowAt (x : Str) : Nat → Str
  | 0 => locName (some (Str.ofString "")) (some x)
  | i + 1 => quoteT (rowAt x i)
noncomputable def lookFrom (rows : List (Str × Str)) (row : Str) : Nat → Option (Int × Str)
  | 0 => none
  | k + 1 => match getRow rows row with
    | some v => some ((row.length : Int) - 1, v)
    | none => lookFrom rows (quoteT row) k
def letterOk (x : Str) : Prop := x = Str.ofString "a" ∨ x = Str.ofString "b"
theorem rowAt_eq {x : Str} (hx : letterOk x) : ∀ i, rowAt x i = ⟨(List.replicate (i + 1) 46 ++ x.cps.toList).toArray⟩ := by
  intro i
  induction i with
  | zero => rcases hx with rfl | rfl <;> rfl
  | succ i ih =>
    rw [rowAt, ih, quoteT_line]
    · show (⟨(dotLine (List.replicate (i + 1) 46 ++ x.cps.toList)).toArray⟩ : Str) = _
      rw [List.replicate_succ, List.cons_append, show dotLine (46 :: (List.replicate i 46 ++ x.cps.toList)) = 46 :: 46 :: (List.replicate i 46 ++ x.cps.toList) from (by rw [dotLine]; exact if_pos rfl)]
      rw [show i + 1 + 1 = (i + 1) + 1 from rfl, List.replicate_succ, List.replicate_succ]
      rfl
    · intro c hc
      rcases List.mem_append.mp hc with hc | hc
      · rw [List.eq_of_mem_replicate hc]; decide
      · rcases hx with rfl | rfl
        · rw [List.mem_singleton.mp hc]; decide
        · rw [List.mem_singleton.mp hc]; decide
theorem rowAt_size {x : Str} (hx : letterOk x) (i : Nat) : (rowAt x i).cps.size = i + 2 := by
  rw [rowAt_eq hx]
  show (List.replicate (i + 1) 46 ++ x.cps.toList).length = _
  rw [List.length_append, List.length_replicate]
  rcases hx with rfl | rfl <;> rfl
theorem rowAt_sub {x : Str} (hx : letterOk x) {i : Nat} (hi : i ≤ 50) : (subAll (rowAt x i) (Str.ofString "\r\n") (nlFnd (rowAt x i).cps)).cps.size ≤ 10000 := by
  rw [subNl_eq]
  have hl : Lined (rowAt x i).cps.toList := by
    rw [rowAt_eq hx]
    intro c hc
    rcases List.mem_append.mp hc with hc | hc
    · rw [List.eq_of_mem_replicate hc]; decide
    · rcases hx with rfl | rfl
      · rw [List.mem_singleton.mp hc]; decide
      · rw [List.mem_singleton.mp hc]; decide
  have e := nlList_line hl []
  rw [List.append_nil] at e
  rw [e]
  show ((rowAt x i).cps.toList ++ nlList []).length ≤ _
  rw [show nlList [] = [] from rfl, List.append_nil]
  have := rowAt_size hx i
  show (rowAt x i).cps.size ≤ _
  omega
theorem rowAt_ok {x : Str} (hx : letterOk x) {i : Nat} (hi : i ≤ 50) : NameOk (rowAt x i) := by
  refine ⟨by rw [rowAt_size hx]; omega, fun c hc => ?_⟩
  rw [rowAt_eq hx] at hc
  have hc' : c ∈ List.replicate (i + 1) 46 ++ x.cps.toList := Array.mem_toList_iff.mpr hc
  rcases List.mem_append.mp hc' with hc | hc
  · rw [List.eq_of_mem_replicate hc]; unfold nameCh; decide
  · rcases hx with rfl | rfl
    · rw [List.mem_singleton.mp hc]; unfold nameCh; decide
    · rw [List.mem_singleton.mp hc]; unfold nameCh; decide
theorem look_hit {rows : List (Str × Str)} {x v : Str} : ∀ {far i j : Nat}, (∀ k, j ≤ k → k < i → getRow rows (rowAt x k) = none) → getRow rows (rowAt x i) = some v → j ≤ i → i < j + far → lookFrom rows (rowAt x j) far = some (((rowAt x i).length : Int) - 1, v)
  | 0, i, j, _, _, h1, h2 => by omega
  | far + 1, i, j, h, hv, h1, h2 => by
    unfold lookFrom
    by_cases e : j = i
    · subst e; rw [hv]
    · rw [h j (Nat.le_refl _) (by omega)]
      exact look_hit (far := far) (i := i) (j := j + 1) (fun k a b => h k (by omega) b) hv (by omega) (by omega)
theorem look_miss {rows : List (Str × Str)} {x : Str} : ∀ {far j : Nat}, (∀ k, j ≤ k → k < j + far → getRow rows (rowAt x k) = none) → lookFrom rows (rowAt x j) far = none
  | 0, j, _ => rfl
  | far + 1, j, h => by
    unfold lookFrom
    rw [h j (Nat.le_refl _) (by omega)]
    exact look_miss (far := far) (j := j + 1) (fun k a b => h k (by omega) (by omega))
def PickAt (K : Know) (v : Value) (r : Option (Int × Str)) : Prop := match r with
  | none => v = .none
  | some (k, x) => ∃ a t u n, v = .ref a ∧ K a (tupObj [.int k t, .str x u] n)

theorem look_ok {prog : Program} {w : World} {dp un : Nat} {fr : Option (List Env)} {gd : Option (List Code)} {s : Shared} {b : PySem.Heap} {mean : ExcName → Option Value} {mg mb : Str → Option Value} {Q E : Value → Shared → Prop}
    (hd : dp + 3 < recursionLimit) (hu : un + 100 < cLine) (hb : ∀ a o, b.get? a = some o → s.heap.get? a = some o)
    (X : (Mine.hd.heap_39 w.params).In b) (T : Top Mine.hd.view_39 lo mean mg mb b) {self l : Addr} {x : Str} {t u : Tok} {rows : List (Str × Str)} {far : Nat}
    (H : HdrAt (Heap.At s.heap) self l) (R : RowsAt (Heap.At s.heap) l rows) (hx : letterOk x) (hr : ∀ r ∈ rows, NameOk r.1) (hfar : far ≤ 20)
    (ret : ∀ v h' tk', (∀ a o, s.heap.get? a = some o → h'.get? a = some o) → PickAt (Fresh s.heap h') v (lookFrom rows (rowAt x 0) far) → Q v { s with heap := h', toks := tk' }) :
    wpAny (model prog w) (Around.mk none dp fr gd un) (call (.ref 230) [.ref self, .str x t, .int (far : Int) u]) Q E s := by
  have hxl : x.length ≤ 60 := by rcases hx with rfl | rfl <;> decide
  have HG : HdrAt (Heap.At (hideAll s.heap [])) self l := H
  have RG : RowsAt (Heap.At (hideAll s.heap [])) l rows := R
  obtain ⟨dx, hs, tk0, I'⟩ := HG.inst
  refine wpAny_call ?_
  refine' enterM (binds := [(Str.ofString "head", .ref self), (Str.ofString "letter", .str x t), (Str.ofString "far", .int (far : Int) u)]) [] hb (by simp) X T ?k6 ?k7 ?k8 ?k9 ?kB ?_ ?c2 ?c3 ?c4 ?c5
  case k6 => k_is
  case k7 => k_is
  case k8 => (first | omega | (dsimp only [Around.deeper, Around.in1]; omega))
  case k9 => first | exact BindsTo.of_eq rfl | exact binds_K (Frag.In.keeps (by assumption) (by assumption)) rfl (by k_is) rfl rfl rfl
  case kB => exact locs rfl
  case c2 => exact rfl
  case c3 => exact rfl
  case c4 => exact rfl
  case c5 => decide
  k_whole
  intro L' h₁ hL F K₁ X' T'
  have N : News (hideAll s.heap []) L' h₁ [] := News.nil
  (try dsimp only)
  k_steps
  rename News _ _ _ _ => N9
  with_unfolding_all refine' build_ok (l := some (Str.ofString "")) (e := some x) ?hd ?hu (Fr.keep (by assumption)) (by assumption) (by assumption) ⟨_, (N9 _ (.head _)).1, rfl, _, rfl⟩ ⟨_, rfl⟩ ⟨_, rfl⟩ ?e1 ?e2 ?_
  case hd => walk_at "my side"
  case hu => walk_at "my side"
  case e1 => intro y hy; cases hy; decide
  case e2 => intro y hy; cases hy; exact hxl
  intro h' tk' u' hk'
  walk_at "my after"
  k_steps
  rename IsRange _ _ _ _ _ _ _ _ => R9
  refine iter_range_M (r := _) (n := far) (fun i m h => m (Str.ofString "head") = some (.ref self) ∧ (∃ u', m (Str.ofString "row") = some (.str (rowAt x i) u')) ∧ ∀ k < i, getRow rows (rowAt x k) = none) rfl R9 (by omega) (by assumption) ⟨rfl, ⟨_, rfl⟩, fun _ h => absurd h (Nat.not_lt_zero _)⟩ (fun _ _ _ _ _ j => j) ?_ ?_
  · intro i t' m₁ h tk I hi ⟨e1, ⟨u1, e2⟩, e3⟩ F₁ hne hI hI0
    have F₂ := Fr.say F₁ [(Str.ofString "head", .ref self), (Str.ofString "row", .str (rowAt x i) u1)] (List.forall_mem_cons.mpr ⟨e1, List.forall_mem_cons.mpr ⟨e2, fun _ h => nomatch h⟩⟩)
    have N₂ : News (hideAll s.heap []) L' h (sat (hideAll s.heap []) L' [] h) := news_sat
    have KP : Kept (hideAll s.heap []) h L' [] := Kept.of F₁
    have hn := rowAt_ok hx (i := i) (by omega)
    have hsz := rowAt_size hx i
    have hsl : (rowAt x i).length = i + 2 := hsz
    clear F₁
    k_steps
    rename Fr _ _ _ _ => F9
    with_unfolding_all refine' get_ok (rows := rows) ?hd ?hu ?hb (by assumption) (by assumption) ?H ?R hn hr ?_
    case hb => exact F9.keep
    case H => exact HdrAt.mono (fun a o _ e => F9.keep a o e) HG
    case R => exact RowsAt.mono (fun a o _ e => F9.keep a o e) RG
    case hd => walk_at "my side"
    case hu => walk_at "my side"
    intro v h' tk' hk' hv'
    walk_at "my after"
    cases hg : getRow rows (rowAt x i) with
    | some y =>
      rw [hg] at hv'
      obtain ⟨u', rfl⟩ := hv'
      k_steps
      rename News _ _ _ _ => N9
      show Q _ _
      refine ret _ _ _ (Fr.keep (by assumption)) ?_
      rw [look_hit (i := i) (fun k _ b => e3 k b) hg (Nat.zero_le _) (by omega)]
      exact ⟨_, _, _, _, rfl, (N9 _ (.head _)).1, (N9 _ (.head _)).2.2⟩
    | none =>
      rw [hg] at hv'
      obtain rfl : v = .none := hv'
      k_steps
      with_unfolding_all refine' quote_ok ?hd ?hu ?hb (by assumption) (by assumption) (by omega) (rowAt_sub hx (by omega)) ?_
      case hb => exact Fr.keep (by assumption)
      case hd => walk_at "my side"
      case hu => walk_at "my side"
      intro h' tk' u' hk'
      walk_at "my after"
      k_steps
      refine TurnM.next' KP (by assumption) (by assumption) (fun _ h => h) (by simpa using Ne.symm hne) fun k => ⟨rfl, ⟨_, rfl⟩, fun k hk => ?_⟩
      by_cases e : k = i
      · rw [e]; exact hg
      · exact e3 k (by omega)
  · intro h tk m' F₁ ⟨e1, _, e3⟩
    have N₂ : News (hideAll s.heap []) L' h [] := News.nil

    (try dsimp only)
    k_steps
    exact ret _ _ _ (Fr.keep (by assumption)) (by rw [look_miss (fun k _ b => e3 k (by omega))]; rfl)
end
section



local macro_rules | `(tactic| omega) => `(tactic| lia)
inductive PickAt1 (K : Know) (v : Value) (r : Int × Str) : Prop
  | mk (a) (t) (u) (n) (w0 : v = .ref a) (w1 : K a (tupObj [.int r.1 t, .str r.2 u] n)) : PickAt1 K v r
section
open PySem PySem.Builtin
variable {prog : Program} {w : World} {A : Around} {E : Value → Shared → Prop} {s : Shared}
theorem tup_lt {a b : Addr} {i j : Int} {t t' u u' : Tok} {x y : Str} {n n' : Nat} {Q : Value → Shared → Prop} (ha : s.heap.get? a = some (tupObj [.int i t, .str x u] n)) (hb : s.heap.get? b = some (tupObj [.int j t', .str y u'] n'))
    (hne : i ≠ j) (hu : A.units < cLine) (h : Q (.bool (decide (i < j))) s) : wpAny (model prog w) A (richCompare .Lt (.ref a) (.ref b)) Q E s := by
  refine wpAny_richCompare_same_room (T := "tuple") ⟨_, ha, rfl⟩ ⟨_, hb, rfl⟩ PySem.F.slot_tuple_lt ?_ hu
  refine wpAny_call_entry PySem.F.slot_tuple_lt ⟨_, ha, rfl⟩ PySem.F.entry_tuple_lt ?_ (PySem.F.args_tuple_lt_2 _ _)
  show wpAny _ _ (isInstance (.ref b) (.type "tuple") >>= _) _ _ s
  refine wpAny_bind (wpAny_isInstance (T := "tuple") ⟨_, hb, rfl⟩ isSubtype_tuple_tuple ?_)
  simp only [Bool.not_true, Bool.false_eq_true, if_false]
  refine wpAny_bind (tupleItemsOf_ (items := [Value.int i t, Value.str x u].toArray) ⟨_, ha, rfl, _, rfl⟩ ?_)
  refine wpAny_bind (tupleItemsOf_ (items := [Value.int j t', Value.str y u'].toArray) ⟨_, hb, rfl, _, rfl⟩ ?_)
  refine wpAny_bind ?_
  rw [show #[Value.int i t, Value.str x u].toList.zip #[Value.int j t', Value.str y u'].toList = [(Value.int i t, Value.int j t'), (Value.str x u, Value.str y u')] from rfl, List.forIn_cons]
  refine wpAny_bind (wpAny_bind (wpAny_eqBool_int ?_))
  rw [show (i == j) = false from by simpa using hne]
  simp only [Bool.not_false, if_true]
  refine wpAny_bind (wpAny_rule (wpAny_bind ?_))
  refine richCompare_gives (op := .Lt) (typeIs_int s _ t) (typeIs_int s _ t') PySem.F.slot_int_lt PySem.F.entry_int_lt (PySem.F.args_int_lt_2 _ _) (gives_int_lt _ _ t t') (fun x => nomatch x) ?_
  show wpAny _ _ _ _ _ s
  exact wpAny_bind (wpAny_pure (wpAny_pure (wpAny_pure (wpAny_pure ⟨_, rfl, (fun q => nomatch q), h⟩))))
end
section
open PySem PySem.Builtin
variable {prog : Program} {w : World} {A : Around} {R : Result → Shared → Prop} {I : Addr} {fp wr : List Addr} {n : Nat} {P : Nat → Value → Prop} {St : Nat → PySem.Heap → Prop}
/-- the order of the items, known at each heap that keeps what they are -/
def CmpAt (prog : Program) (w : World) (A : Around) (Kp : PySem.Heap → Prop) (P : Nat → Value → Prop) (bt : Nat → Nat → Bool) : Prop :=
  ∀ i j vi vj (s : Shared) (Q : Value → Shared → Prop) (E : Value → Shared → Prop), Kp s.heap → i ≠ j → P i vi → P j vj → Q (.bool (bt i j)) s → wpAny (model prog w) A (richCompare .Lt vi vj) Q E s
theorem argBest_le (bt : Nat → Nat → Bool) : ∀ k, argBest bt k ≤ k
  | 0 => Nat.le_refl _
  | k + 1 => by
    have := argBest_le bt k
    simp only [argBest]
    split <;> omega
theorem min_loop {Kp : PySem.Heap → Prop} (W : Walks prog w A.in1 I fp wr n P St) (bt : Nat → Nat → Bool) (hcmp : CmpAt prog w A.in1 Kp P bt) (S : Addr) (hSf : S ∉ fp)
    (hKp : ∀ h h' : PySem.Heap, Kp h → (∀ b o, b ∉ wr → b ≠ S → h.get? b = some o → h'.get? b = some o) → Kp h') :
    ∀ (k j : Nat) (s : Shared) (vb : Value) (c : Nat), n - (j + 1) = k → j + 1 ≤ n → St (j + 1) s.heap → Kp s.heap → P (argBest bt j) vb →
    s.heap.get? S = some { cls := .type "list", dict := none, data := .seq #[vb, vb] c, slots := #[] } →
    (∀ v h' tk, P (argBest bt (n - 1)) v → (∀ b o, b ∉ wr → b ≠ S → s.heap.get? b = some o → h'.get? b = some o) → R (.ok (.ret v)) { s with heap := h', toks := tk }) →
    codeAny (model prog w) A (.builtin "min.loop" ⟨[.ref I, .none, .ref S], []⟩) R s := by
  have hSw : S ∉ wr := fun h => hSf (W.sub _ h)
  have hname : (toString "min" ++ toString ".loop" : String) = "min.loop" := by decide
  intro k
  induction k with
  | zero =>
    intro j s vb c hk hj hst hkp hPb hS hR
    have hin : j + 1 = n := by omega
    refine codeAny_builtin PySem.F.entry_min_loop ?_
    rw [Around.under_plainId PySem.F.plain_min_loop _]
    show wpAny _ A.in1 (seqItems? (.ref S) >>= _) _ _ s
    refine wpAny_bind (wpAny_seqItems hS rfl ?_)
    show wpAny _ A.in1 (tryCatch (pyNext (.ref I)) _ >>= _) _ _ s
    refine wpAny_bind (wpAny_tryCatch (W.done s _ _ (hin ▸ hst) fun h' tk hk' => ?_))
    have hS' := hk' S _ hSw hS
    show wpAny _ A.in1 (updateSeq S (fun _ => #[]) >>= _) _ _ _
    refine wpAny_bind ?_
    refine wpAny_updateSeq hS' rfl (wpAny_bind (wpAny_letGo (wpAny_pure ?_)))
    refine hR vb _ tk (by rw [← hin]; exact hPb) fun b o hbw hbS e => (Heap.get?_update_other _ _ (Ne.symm hbS)).trans (hk' b o hbw e)
  | succ k ih =>
    intro j s vb c hk hj hst hkp hPb hS hR
    have hlt : j + 1 < n := by omega
    refine codeAny_builtin PySem.F.entry_min_loop ?_
    rw [Around.under_plainId PySem.F.plain_min_loop _]
    show wpAny _ A.in1 (seqItems? (.ref S) >>= _) _ _ s
    refine wpAny_bind (wpAny_seqItems hS rfl ?_)
    show wpAny _ A.in1 (tryCatch (pyNext (.ref I)) _ >>= _) _ _ s
    refine wpAny_bind (wpAny_tryCatch (W.item (j + 1) s _ _ hlt hst fun v h' tk hP hst' hk' => ?_))
    have hS' := hk' S _ hSw hS
    have hkp' : Kp h' := hKp _ _ hkp fun b o hbw _ e => hk' b o hbw e
    have hle := argBest_le bt j
    show wpAny _ A.in1 (tryCatch (holding [v, v] (richCompare .Lt v vb >>= _)) _ >>= _) _ _ _
    refine wpAny_bind (wpAny_tryCatch (wpAny_holding (wpAny_bind (hcmp (j + 1) (argBest bt j) v vb _ _ _ hkp' (by omega) hP hPb ?_))))
    refine wpAny_bind (wpAny_holding (wpAny_truthy_bool ?_))
    refine wpAny_bind (wpAny_letGo (wpAny_pure ?_))
    cases hb : bt (j + 1) (argBest bt j) with
    | true =>
      simp only [if_true]
      refine wpAny_bind ?_
      refine wpAny_updateSeq hS' rfl (wpAny_bind (wpAny_letGo ?_))
      rw [hname]
      refine wpAny_pure ⟨plainId_quiet PySem.F.plain_min_loop _, ih (j + 1) _ v _ (by omega) hlt (W.frame _ _ _ hst' fun b hbf o e => ?_) (hKp _ _ hkp' fun b o _ hbS e => (Heap.get?_update_other _ _ (Ne.symm hbS)).trans e) (by simp only [argBest, hb, if_true]; exact hP) (Heap.get?_update_self _ hS' rfl)
        fun v' h'' tk'' hP' hk'' => ?_⟩
      · exact (Heap.get?_update_other _ _ (fun h : S = b => hSf (by rw [h]; exact hbf))).trans e
      · exact hR v' h'' tk'' hP' fun b o hbw hbS e => hk'' b o hbw hbS ((Heap.get?_update_other _ _ (Ne.symm hbS)).trans (hk' b o hbw e))
    | false =>
      simp only [Bool.false_eq_true, if_false]
      refine wpAny_bind (wpAny_letGo ?_)
      rw [hname]
      refine wpAny_pure ⟨plainId_quiet PySem.F.plain_min_loop _, ih (j + 1) _ vb c (by omega) hlt hst' hkp' (by simp only [argBest, hb, Bool.false_eq_true, if_false]; exact hPb) hS' fun v' h'' tk'' hP' hk'' => ?_⟩
      exact hR v' h'' tk'' hP' fun b o hbw hbS e => hk'' b o hbw hbS (hk' b o hbw e)

theorem min_loop_first {Kp : PySem.Heap → Prop} (W : Walks prog w A.in1 I fp wr n P St) (bt : Nat → Nat → Bool) (hcmp : CmpAt prog w A.in1 Kp P bt) (S : Addr) (hSf : S ∉ fp)
    (hKp : ∀ h h' : PySem.Heap, Kp h → (∀ b o, b ∉ wr → b ≠ S → h.get? b = some o → h'.get? b = some o) → Kp h') (hn : 0 < n) {s : Shared} {c : Nat} (hst : St 0 s.heap) (hkp : Kp s.heap)
    (hS : s.heap.get? S = some { cls := .type "list", dict := none, data := .seq #[] c, slots := #[] })
    (hR : ∀ v h' tk, P (argBest bt (n - 1)) v → (∀ b o, b ∉ wr → b ≠ S → s.heap.get? b = some o → h'.get? b = some o) → R (.ok (.ret v)) { s with heap := h', toks := tk }) :
    codeAny (model prog w) A (.builtin "min.loop" ⟨[.ref I, .none, .ref S], []⟩) R s := by
  have hSw : S ∉ wr := fun h => hSf (W.sub _ h)
  have hname : (toString "min" ++ toString ".loop" : String) = "min.loop" := by decide
  refine codeAny_builtin PySem.F.entry_min_loop ?_
  rw [Around.under_plainId PySem.F.plain_min_loop _]
  show wpAny _ A.in1 (seqItems? (.ref S) >>= _) _ _ s
  refine wpAny_bind (wpAny_seqItems hS rfl ?_)
  show wpAny _ A.in1 (tryCatch (pyNext (.ref I)) _ >>= _) _ _ s
  refine wpAny_bind (wpAny_tryCatch (W.item 0 s _ _ hn hst fun v h' tk hP hst' hk' => ?_))
  have hS' := hk' S _ hSw hS
  show wpAny _ A.in1 (updateSeq S (fun _ => #[v, v]) >>= _) _ _ _
  refine wpAny_bind ?_
  refine wpAny_updateSeq hS' rfl ?_
  rw [hname]
  refine wpAny_pure ⟨plainId_quiet PySem.F.plain_min_loop _, min_loop W bt hcmp S hSf hKp _ 0 _ v _ rfl hn (W.frame _ _ _ hst' fun b hbf o e => ?_)
    (hKp _ _ (hKp _ _ hkp fun b o hbw _ e => hk' b o hbw e) fun b o _ hbS e => (Heap.get?_update_other _ _ (Ne.symm hbS)).trans e) hP (Heap.get?_update_self _ hS' rfl) fun v' h'' tk'' hP' hk'' => ?_⟩
  · exact (Heap.get?_update_other _ _ (fun h : S = b => hSf (by rw [h]; exact hbf))).trans e
  · exact hR v' h'' tk'' hP' fun b o hbw hbS e => hk'' b o hbw hbS ((Heap.get?_update_other _ _ (Ne.symm hbS)).trans (hk' b o hbw e))
end
section
open PySem PySem.Builtin
variable {prog : Program} {w : World} {A : Around} {E : Value → Shared → Prop} {s : Shared}
noncomputable def better (rs : List (Int × Str)) (i j : Nat) : Bool := decide ((rs.getD i (0, Str.ofString "")).1 < (rs.getD j (0, Str.ofString "")).1)
/-- the least of a list of pairs whose numbers all differ -/
theorem call_min_tups {l : Addr} {vs : List Value} {rs : List (Int × Str)} {Q : Value → Shared → Prop} (hh : A.handled = none) (hl : s.heap.IsList l vs.toArray)
    (hp : PySem.Paired (PickAt1 (Heap.At s.heap)) vs rs) (hnd : (rs.map (·.1)).Nodup) (hne : 0 < rs.length) (hu : A.units + 10 < cLine)
    (h : ∀ v h' tk, vs[argBest (better rs) (rs.length - 1)]? = some v → (∀ b o, s.heap.get? b = some o → h'.get? b = some o) → Q v { s with heap := h', toks := tk }) :
    wpAny (model prog w) A (call (.builtin "min") [.ref l]) Q E s := by
  have hname : (toString "min" ++ toString ".loop" : String) = "min.loop" := by decide
  have hvl : vs.length = rs.length := Paired.len hp
  refine call_function_tree PySem.F.kind_min PySem.F.plain_min PySem.F.entry_min (PySem.F.args_min1 _) ?_
  show wpAny _ A.in1 (Builtin.Builtins.bindParams "min" ["key", "default"] 0 ⟨[], []⟩ >>= _) _ _ s
  refine wpAny_bind (wpAny_of_eq (show Builtin.Builtins.bindParams "min" ["key", "default"] 0 ⟨[], []⟩ = pure [none, none] from rfl) ?_)
  refine wpAny_bind (wpAny_pure ?_)
  refine wpAny_bind (wpAny_pyIter_list hl ?_)
  obtain ⟨ol, hol, _⟩ := id hl
  have hne' : l ≠ s.heap.objs.size := Nat.ne_of_lt (Heap.lt_size hol)
  have W := Walks.list (prog := prog) (w := w) (A := A.in1) hh s.heap.objs.size l hne' vs.toArray
  refine wpAny_bind (wpAny_newObj_type ?_)
  rw [hname]
  have up : ∀ b o, s.heap.get? b = some o → (s.heap.push { cls := .type "list_iterator", data := .fields #[.ref l, .int 0 0] }).get? b = some o := fun b o e => Heap.get?_push_of_some _ e
  have hS : (s.heap.push { cls := .type "list_iterator", data := .fields #[.ref l, .int 0 0] }).objs.size = s.heap.objs.size + 1 := Heap.size_push _ _
  refine wpAny_pure ⟨plainId_quiet PySem.F.plain_min_loop _, min_loop_first (Kp := fun h => ∀ b o, s.heap.get? b = some o → h.get? b = some o) W (better rs) ?_ (s.heap.push { cls := .type "list_iterator", data := .fields #[.ref l, .int 0 0] }).objs.size ?_ ?_ (by rw [List.size_toArray]; omega) ?_ ?_ (Heap.get?_push_size _ rfl) fun v h' tk hP hk => ?_⟩
  · intro i j vi vj s₁ Q₁ E₁ hk hij hi hj hQ
    obtain ⟨r, hr, a, t, u, n, rfl, ha⟩ := Paired.get hp (by simpa using hi)
    obtain ⟨q, hq, b, t', u', n', rfl, hb⟩ := Paired.get hp (by simpa using hj)
    have e1 : rs.getD i (0, Str.ofString "") = r := by rw [List.getD_eq_getElem?_getD, hr]; rfl
    have e2 : rs.getD j (0, Str.ofString "") = q := by rw [List.getD_eq_getElem?_getD, hq]; rfl
    refine tup_lt (hk _ _ ha) (hk _ _ hb) ?_ (by show A.in1.units < cLine; simp only [Around.in1]; omega) ?_
    · intro e
      have m1 : (rs.map (·.1))[i]? = some r.1 := by simp [hr]
      have m2 : (rs.map (·.1))[j]? = some r.1 := by simp [hq, e]
      obtain ⟨l1, e1⟩ := List.getElem?_eq_some_iff.mp m1
      obtain ⟨l2, e2⟩ := List.getElem?_eq_some_iff.mp m2
      exact hij ((List.getElem_inj hnd).mp (e1.trans e2.symm))
    · unfold better at hQ; rw [e1, e2] at hQ; exact hQ
  · intro hm
    rw [hS] at hm
    simp only [List.mem_cons, List.not_mem_nil, or_false] at hm
    rcases hm with e | e
    · exact absurd e (Nat.succ_ne_self _)
    · exact absurd e (Ne.symm (Nat.ne_of_lt (Nat.lt_succ_of_lt (Heap.lt_size hol))))
  · intro h h' hk hk' b o e
    exact hk' b o (by rw [List.mem_singleton]; exact Nat.ne_of_lt (Heap.lt_size e)) (by rw [hS]; exact Nat.ne_of_lt (Nat.lt_succ_of_lt (Heap.lt_size e))) (hk b o e)
  · exact ⟨⟨_, Heap.get?_push_of_some _ (Heap.get?_push_size _ rfl), rfl, rfl⟩, (hl.push _).push _⟩
  · exact fun b o e => Heap.get?_push_of_some _ (up b o e)
  · refine h v h' tk ?_ fun b o e => ?_
    · have := hP
      rw [List.size_toArray, hvl] at this
      simpa using this
    · exact hk b o (by rw [List.mem_singleton]; exact Nat.ne_of_lt (Heap.lt_size e)) (by rw [hS]; exact Nat.ne_of_lt (Nat.lt_succ_of_lt (Heap.lt_size e))) (Heap.get?_push_of_some _ (up b o e))
end
section
open PySem PySem.SeqAt
theorem reads_all {α : Type} {h : PySem.Heap} {F : Value → α → Prop} {f : α → PyData} (hf : ∀ v r, F v r → Reads h v (f r) []) {vs : List Value} {rs : List α} (hp : PySem.Paired F vs rs) : ReadsAll h vs (rs.map f) [] := by
  induction hp with
  | nil => exact .nil
  | cons a _ ih => exact ReadsAll.cons (hf _ _ a) ih
theorem reads_list {α : Type} {h : PySem.Heap} {F : Value → α → Prop} {f : α → PyData} (hf : ∀ v r, F v r → Reads h v (f r) []) {vs : List Value} {rs : List α} (hp : PySem.Paired F vs rs) {l : Addr} (hl : h.IsList l vs.toArray) : Reads h (.ref l) (.list (rs.map f)) [l] := by
  obtain ⟨o, ho, hc, n, hd⟩ := hl
  exact Reads.list ho hc hd (by simpa using reads_all hf hp)
theorem canAll {α : Type} {f : α → PyData} : ∀ {rs : List α}, (∀ r ∈ rs, PyData.canLay0 (f r) = true) → PyData.canLayAll0 (rs.map f) = true
  | [], _ => by simp [PyData.canLayAll0]
  | r :: rs, h => by simp [PyData.canLayAll0, h r (.head _), canAll fun q hq => h q (.tail _ hq)]
theorem depthAll' {α : Type} {f : α → PyData} : ∀ {rs : List α}, (∀ r ∈ rs, PyData.depth (f r) ≤ 9) → PyData.depthAll (rs.map f) ≤ 9
  | [], _ => by simp [PyData.depthAll]
  | r :: rs, h => by
    have h1 := h r (.head _)
    have h2 := depthAll' fun q hq => h q (.tail _ hq)
    simp only [List.map_cons, PyData.depthAll]
    omega
theorem shaped_of {d : PyData} (h1 : PyData.canLay0 d = true) (h2 : PyData.depth d ≤ 64) : shaped d = true := by
  unfold shaped; rw [h1]; simpa using h2
theorem shaped_list {α : Type} {f : α → PyData} {rs : List α} (h1 : ∀ r ∈ rs, PyData.canLay0 (f r) = true) (h2 : ∀ r ∈ rs, PyData.depth (f r) ≤ 9) : shaped (.list (rs.map f)) = true := by
  refine shaped_of (by simp only [PyData.canLay0]; exact canAll h1) ?_
  have := depthAll' h2
  simp only [PyData.depth]
  omega
theorem noMix_all {α : Type} {f : α → PyData} : ∀ {rs : List α}, (∀ r ∈ rs, noMix (f r) (f r) = true) → noMixAll (rs.map f) (rs.map f) = true
  | [], _ => by simp [noMixAll]
  | r :: rs, h => by simp [noMixAll, h r (.head _), noMix_all fun q hq => h q (.tail _ hq)]
section
variable {prog : Program} {w : World} {A : Around} {E : Value → Shared → Prop} {s : Shared} {Q : Value → Shared → Prop} {a b : Value} {d : PyData} {as bs : List Addr}
theorem eq_self (ra : Reads s.heap a d as) (rb : Reads s.heap b d bs) (hd : shaped d = true) (hm : noMix d d = true) (hu : A.units + 64 < cLine) (h : Q (.bool true) s) : wpAny (model prog w) A (compareOp .Eq a b) Q E s :=
  eq_dataH_same ra rb hd hd hu hm (by rw [Spec.same_self]; exact h)
theorem ne_self (ra : Reads s.heap a d as) (rb : Reads s.heap b d bs) (hd : shaped d = true) (hm : noMix d d = true) (hu : A.units + 64 < cLine) (h : Q (.bool false) s) : wpAny (model prog w) A (compareOp .NotEq a b) Q E s :=
  ne_dataH_same ra rb hd hd hu hm (by rw [Spec.same_self]; exact h)
theorem eq_empty {xs : List PyData} (ra : Reads s.heap a (.list xs) as) (rb : Reads s.heap b (.list []) bs) (hd : shaped (.list xs) = true) (hu : A.units + 64 < cLine) (h : Q (.bool xs.isEmpty) s) : wpAny (model prog w) A (compareOp .Eq a b) Q E s :=
  eq_dataH_same ra rb hd (by decide) hu (by cases xs <;> simp [noMix, noMixAll]) (by cases xs <;> simpa [Spec.same, Spec.sameAll] using h)
end
noncomputable def rowData (r : Str × Str) : PyData := .tuple [.str r.1, .str r.2]
noncomputable def hitData (r : Int × Str) : PyData := .tuple [.int r.1, .str r.2]
noncomputable def optData : Option Str → PyData
  | none => .none
  | some x => .str x
theorem reads_row {h : PySem.Heap} {v : Value} {r : Str × Str} (x : RowAt (Heap.At h) v r) : Reads h v (rowData r) [] := by
  obtain ⟨a, t, u, n, rfl, ha⟩ := x
  exact Reads.tuple ha rfl rfl (ReadsAll.cons (Reads.str ..) (ReadsAll.cons (Reads.str ..) .nil))
theorem reads_hit {h : PySem.Heap} {v : Value} {r : Int × Str} (x : PickAt1 (Heap.At h) v r) : Reads h v (hitData r) [] := by
  obtain ⟨a, t, u, n, rfl, ha⟩ := x
  exact Reads.tuple ha rfl rfl (ReadsAll.cons (Reads.int ..) (ReadsAll.cons (Reads.str ..) .nil))
theorem reads_opt {h : PySem.Heap} {v : Value} {r : Option Str} (x : OptStr v r) : Reads h v (optData r) [] := by
  cases r with
  | none => rw [show v = .none from x]; exact .none
  | some y => obtain ⟨t, rfl⟩ := x; exact .str ..
theorem can_row {r : Str × Str} (h1 : PyData.strOk r.1 = true) (h2 : PyData.strOk r.2 = true) : PyData.canLay0 (rowData r) = true := by
  simp [rowData, PyData.canLay0, PyData.canLayAll0, h1, h2]
theorem can_hit {r : Int × Str} (h2 : PyData.strOk r.2 = true) : PyData.canLay0 (hitData r) = true := by
  simp [hitData, PyData.canLay0, PyData.canLayAll0, h2]
theorem depth_row (r : Str × Str) : PyData.depth (rowData r) ≤ 9 := by simp [rowData, PyData.depth, PyData.depthAll]
theorem depth_hit (r : Int × Str) : PyData.depth (hitData r) ≤ 9 := by simp [hitData, PyData.depth, PyData.depthAll]
theorem depth_opt (r : Option Str) : PyData.depth (optData r) ≤ 9 := by cases r <;> simp [optData, PyData.depth]
theorem mix_row (r : Str × Str) : noMix (rowData r) (rowData r) = true := by simp [rowData, noMix, noMixAll]
theorem mix_hit (r : Int × Str) : noMix (hitData r) (hitData r) = true := by simp [hitData, noMix, noMixAll]
theorem mix_opt (r : Option Str) : noMix (optData r) (optData r) = true := by cases r <;> simp [optData, noMix]
end
end
section
theorem at_MInm : True := by
  w_top off
  k_with_none
  k_with "my side" => first | assumption | exact rfl | ((try simp only [depth_under_make, depth_under_kw, depth_in1, depth_deeper, depth_caller, units_in1, units_deeper, Around.mark_units, units_caller] at *); (try dsimp only [Around.deeper, Around.in1] at *); omega)
  k_with "my after" => ((rename (∀ _ _, _ → _) => zq_hkk); (have zq_F' := Fr.keeps' (by assumption) zq_hkk); (have zq_N' := News.keeps' (by assumption) zq_hkk); (try dsimp only); (try k_sweep); (try k_fold))
  k_with "Hid" => (refine Hid.use (by with_reducible assumption) ?_; try dsimp only)
  k_with "execs cons" => (k_here; first | k_gentoks | ((with_reducible refine execs_kont ?_); intro zq_R zq_hR; try dsimp only))
  k_with "eval ListComp" => (k_here; k_dflt (refine Comp_M (cl := []) (by assumption) (by rfl) (by decide) (by rfl) (by decide) ?_ (by intro _; rfl)))
  k_with "eval Name" => (k_here; (with_reducible show wpAny _ _ (eval (PySem.Expr.Name _ _) (compEnvC _ _ _ _)) _ _ _); k_dflt (refine' nameM_L (by assumption) (by exact rfl) ?_ (by exact rfl) (by exact rfl) (by decide)))
  k_with "eval Name" => (k_here; (with_reducible show wpAny _ _ (eval (PySem.Expr.Name _ _) (compEnvC _ _ _ _)) _ _ _); k_dflt (refine' nameM_C (by assumption) (by exact rfl) (by assumption) (by assumption) ?_ (by exact rfl) (by exact rfl) (by decide)))
  k_with "eval Name" => (k_here; (with_reducible show wpAny _ _ (eval (PySem.Expr.Name _ _) (compEnvC _ _ _ _)) _ _ _); k_dflt (refine' nameM_B (by assumption) (by assumption) (by k_asm) (by k_is) (by boot_fast) (by decide) ?_ (by exact rfl) (by exact rfl) (by exact rfl) (by exact rfl) (by decide)))
  k_with "storeName" => (k_here; (with_reducible show wpAny _ _ (storeName (compEnvC _ _ _ _) _ _) _ _ _); k_dflt (refine' storeM_L (by assumption) (by assumption) ?_ (by exact rfl) (by exact rfl)); intro zq_h' zq_F' zq_N'; (try k_sweep))
  k_with "forIn" => (k_here; (with_reducible show wpAny _ _ (testsOf [] _) _ _ _); refine tests_none ?_; (first | (refine ite_pos rfl ?_) | skip))
  k_with "forIn" => (k_here; (with_reducible show wpAny _ _ (testsOf [_] _) _ _ _); refine tests_two ?_)
  k_with "exec Assign cons ListComp" => (k_here; k_dflt (refine' Comp_MA (by assumption) (by with_unfolding_all rfl) (by with_unfolding_all exact rfl) (by decide) (by rfl) (by decide) (by rfl) (by rfl) ?_ (by (intro _; rfl))))
  trivial



noncomputable def isHit (x : Str) (r : Str × Str) : Bool := (Txt.slice r.1 none (some 1) == Str.ofString ".") && (Txt.lstripChars (Txt.lower r.1) (Str.ofString ".") == x)
noncomputable def hitsOf (x : Str) (rows : List (Str × Str)) : List (Int × Str) := (rows.filter (isHit x)).map fun r => ((r.1.length : Int) - 1, r.2)
theorem insat3 {h₀ h h' : PySem.Heap} {L C D : Addr} (k : ∀ a o, a ≠ C → h.get? a = some o → h'.get? a = some o) : ∀ a o, stable o = true → InSat h₀ L [] (hideAll (hideAll h [D, C]) [L]) a o → InSat h₀ L [] (hideAll (hideAll h' [D, C]) [L]) a o := by
  intro a o _ x
  obtain ⟨e, c1, c2, c3⟩ := mem_sat.mp x
  obtain ⟨e1, n1, n2, n3⟩ := of_hide3 e
  exact mem_sat.mpr ⟨hide3 (k a o n2 e1) n1 n2 n3, c1, c2, c3⟩
theorem PickAt1.mono {K K' : Know} (hk : ∀ a o, stable o = true → K a o → K' a o) {v : Value} {r : Int × Str} (h : PickAt1 K v r) : PickAt1 K' v r := by
  obtain ⟨a, t, u, n, e, z⟩ := h; exact ⟨a, t, u, n, e, hk _ _ rfl z⟩
theorem hits_yes {x : Str} {rows : List (Str × Str)} {i : Nat} {r : Str × Str} (hri : rows[i]? = some r) (h1 : (Txt.slice r.1 none (some 1) == Str.ofString ".") = true) (h2 : (Txt.lstripChars (Txt.lower r.1) (Str.ofString ".") == x) = true) :
    hitsOf x (rows.take (i + 1)) = hitsOf x (rows.take i) ++ [((r.1.length : Int) - 1, r.2)] := by
  unfold hitsOf
  rw [List.take_add_one, hri, List.filter_append, List.map_append]
  have e : isHit x r = true := by unfold isHit; rw [h1, h2]; rfl
  simp [e]
theorem hits_no {x : Str} {rows : List (Str × Str)} {i : Nat} {r : Str × Str} (hri : rows[i]? = some r) (h : isHit x r = false) :
    hitsOf x (rows.take (i + 1)) = hitsOf x (rows.take i) := by
  unfold hitsOf
  rw [List.take_add_one, hri, List.filter_append, List.map_append]
  simp [h]
theorem ValOk.str {x : Str} (h : ValOk x) : PyData.strOk x = true := by
  unfold PyData.strOk
  rw [Array.all_eq_true]
  intro i hi
  rw [h.2 _ (Array.getElem_mem hi)]
  decide
theorem NameOk.str {x : Str} (h : NameOk x) : PyData.strOk x = true := by
  unfold PyData.strOk
  rw [Array.all_eq_true]
  intro i hi
  have := h.ascii _ (Array.mem_toList_iff.mpr (Array.getElem_mem hi))
  exact decide_eq_true (by omega)
theorem hits_val {x : Str} {rows : List (Str × Str)} (hr : ∀ r ∈ rows, RowOk r) : ∀ r ∈ hitsOf x rows, PyData.strOk r.2 = true := by
  intro r q
  obtain ⟨r', h', rfl⟩ := List.mem_map.mp q
  exact (hr _ (List.mem_filter.mp h').1).2.str
noncomputable def inmostOf (x : Str) (rows : List (Str × Str)) : Option (Int × Str) := if (hitsOf x rows).isEmpty then none else (hitsOf x rows)[argBest (better (hitsOf x rows)) ((hitsOf x rows).length - 1)]?
theorem inmost_ok {prog : Program} {w : World} {dp un : Nat} {fr : Option (List Env)} {gd : Option (List Code)} {s : Shared} {b : PySem.Heap} {mean : ExcName → Option Value} {mg mb : Str → Option Value} {Q E : Value → Shared → Prop}
    (hd : dp + 1 < recursionLimit) (hu : un + 100 < cLine) (hb : ∀ a o, b.get? a = some o → s.heap.get? a = some o)
    (X : (Mine.hd.heap_39 w.params).In b) (T : Top Mine.hd.view_39 lo mean mg mb b) {l : Addr} {x : Str} {t : Tok} {rows : List (Str × Str)}
    (R : RowsAt (Heap.At s.heap) l rows) (hx : letterOk x) (hr : ∀ r ∈ rows, RowOk r) (hnd : ((hitsOf x rows).map (·.1)).Nodup) (hlen : rows.length ≤ 20)
    (ret : ∀ v h' tk', (∀ a o, s.heap.get? a = some o → h'.get? a = some o) → PickAt (Fresh s.heap h') v (inmostOf x rows) → Q v { s with heap := h', toks := tk' }) :
    wpAny (model prog w) (Around.mk none dp fr gd un) (call (.ref 235) [.ref l, .str x t]) Q E s := by
  obtain ⟨vs, n, hl, hp⟩ := R
  refine wpAny_call ?_
  refine' enterC (binds := [(Str.ofString "rows", .ref l), (Str.ofString "letter", .str x t)]) [] hb (by simp) X T ?k6 ?k7 ?k8 ?k9 ?kB ?kD ?_ ?c2 ?c3 ?c4
  case k6 => k_is
  case k7 => k_is
  case kD => decide +kernel
  case k8 => (first | omega | (dsimp only [Around.deeper, Around.in1]; omega))
  case k9 => first | exact BindsTo.of_eq rfl | exact binds_K (Frag.In.keeps (by assumption) (by assumption)) rfl (by k_is) rfl rfl rfl
  case kB => exact rfl
  case c2 => exact rfl
  case c3 => exact rfl
  case c4 => exact rfl
  k_whole
  intro L' h₁ tk0 cells hL F K₁ N Y X' T'
  have hY := CellsAre.one Y
  obtain ⟨o', hE', d1'⟩ := hY
  subst hE'
  have hlg : (hideAll s.heap []).IsList l vs.toArray := ⟨_, hl, rfl, _, rfl⟩
  (try dsimp only)
  k_steps
  refine iter_list_CA (l := l) (items := vs.toArray) (fun i ys h => PySem.Paired (PickAt1 (InSat (hideAll s.heap []) L' [] h)) ys (hitsOf x (rows.take i))) rfl ?h2 ?h3 (by assumption) ?h4 ?h5 ?_ ?_
  case h2 => exact ⟨_, Fr.keep (by assumption) _ _ hl, rfl, _, rfl⟩
  case h3 => rw [List.size_toArray, Paired.len hp]; omega
  case h4 => exact .nil
  case h5 =>
    intro i ys h h' k q
    exact Paired.mono (fun _ _ ⟨a, t, u, n, e, z⟩ => ⟨a, t, u, n, e, InSat.sk k _ _ rfl z⟩) q
  · intro i v D C I ys k s₁ h tk mC E' _ hv hJ F₁ hIt hlst hD hyl hDC hk fD fC
    obtain ⟨r, hri, a, t1, u1, n1, rfl, ha⟩ := Paired.get hp (by simpa using hv)
    have hrow := hr r (List.mem_of_getElem? hri)
    have hlen1 : r.1.length ≤ 60 := hrow.1.1
    have hT : IsTup (hideAll s.heap []) a [Value.str r.1 t1, Value.str r.2 u1].toArray := ⟨_, ha, rfl, _, rfl⟩
    have KP : Kept (hideAll s.heap []) h C [] := Kept.of F₁
    have N₁ : News (hideAll s.heap []) C h (sat (hideAll s.heap []) C [] h) := news_sat
    have hcell := N _ (.head _)
    have hc1 : h₁.get? (L' + 1) = some o' := hcell.1
    have hcC : L' + 1 ≠ C := fun q => by rw [q] at hc1; rw [show h₁.get? C = none from fC] at hc1; cases hc1
    have hcm : (L' + 1, o') ∈ sat (hideAll s.heap []) C [] h := mem_sat.mpr ⟨hk _ _ hc1, hcC, by simp, hcell.2.2⟩
    have d2 : o'.data = .cell (some (.str x t)) := d1'
    have hLC : L' ≠ C := fun q => by obtain ⟨oL, _, _, e, _⟩ := F.ns; rw [q] at e; rw [show h₁.get? C = none from fC] at e; cases e
    have hb0 : ∀ a, h₁.get? a = none → (hideAll s.heap []).get? a = none := fun a q => by
      cases z : (hideAll s.heap []).get? a with
      | none => rfl
      | some o => have := F.keep a o z; rw [q] at this; cases this
    have hDs : (D, listOf ys.toArray k) ∈ sat (hideAll s.heap []) C [] h := mem_sat.mpr ⟨hD, hDC, by simp, hb0 D fD⟩
    have hLs : ∃ oL, (L', oL) ∈ sat (hideAll s.heap []) C [] h := by
      obtain ⟨oL, _, _, e, _⟩ := F.ns
      refine ⟨oL, mem_sat.mpr ⟨hk _ _ e, hLC, by simp, ?_⟩⟩
      cases z : (hideAll s.heap []).get? L' with
      | none => rfl
      | some o => exact absurd (Nat.lt_of_lt_of_le (Heap.lt_size z) F.above) (Nat.lt_irrefl _)
    obtain ⟨oL, hLs⟩ := hLs
    clear F N K₁
    k_steps
    · rename News _ _ _ _ => N9
      obtain ⟨T9, e⟩ := name1 N9
      subst e
      refine CEnd.of KP (by assumption) N9 (fun p hp => .tail _ hp) fun k => ?_
      show PySem.Paired _ _ (hitsOf x (rows.take (i + 1)))
      rw [hits_yes hri (by assumption) (by assumption)]
      rename ∀ _, _ ∈ sat _ _ _ _ → _ => l9
      have nD : T9 ≠ D := fun q => by have := l9 _ hDs; rw [q] at this; exact Nat.lt_irrefl _ this
      have nL : T9 ≠ L' := fun q => by have := l9 _ hLs; rw [q] at this; exact Nat.lt_irrefl _ this
      exact Paired.snoc (Paired.mono (fun _ _ z => PickAt1.mono (insat3 k) z) hJ) ⟨T9, _, _, _, rfl, mem_sat.mpr ⟨hide3 (N9 _ (.head _)).1 nD (N9 _ (.head _)).2.1 nL, nL, by simp, (N9 _ (.head _)).2.2⟩⟩
    · refine CEnd.of KP (by assumption) (by assumption) (fun p hp => hp) fun k => ?_
      show PySem.Paired _ _ (hitsOf x (rows.take (i + 1)))
      rw [hits_no hri (by unfold isHit; rename (Txt.lstripChars _ _ == x) = false => q2; rw [q2]; exact Bool.and_false _)]
      exact Paired.mono (fun _ _ z => PickAt1.mono (insat3 k) z) hJ
    · refine CEnd.of KP (by assumption) (by assumption) (fun p hp => hp) fun k => ?_
      show PySem.Paired _ _ (hitsOf x (rows.take (i + 1)))
      rw [hits_no hri (by unfold isHit; rename (Txt.slice _ _ _ == _) = false => q2; rw [q2]; exact Bool.false_and _)]
      exact Paired.mono (fun _ _ z => PickAt1.mono (insat3 k) z) hJ
  · intro D C h' tk ys k fD fC hD F' hk' hJ
    rw [List.size_toArray, Paired.len hp, List.take_length] at hJ
    have hyl : ys.length ≤ 20 := by
      have := Paired.len hJ
      have h2 : (hitsOf x rows).length ≤ rows.length := by unfold hitsOf; rw [List.length_map]; exact List.length_filter_le _ _
      omega
    have N' : News (hideAll s.heap []) L' h' (sat (hideAll s.heap []) L' [] h') := news_sat
    have hDs : (D, listOf ys.toArray k) ∈ sat (hideAll s.heap []) L' [] h' := by
      have e := news_fresh F fD hD _ (.head _)
      exact mem_sat.mpr ⟨e.1, e.2.1, by simp, e.2.2⟩
    have hP : PySem.Paired (PickAt1 (InSat (hideAll s.heap []) L' [] h')) ys (hitsOf x rows) := Paired.mono (fun _ _ z => PickAt1.mono (fun a o _ y => by
      obtain ⟨e, c1, c2, c3⟩ := mem_sat.mp y
      exact mem_sat.mpr ⟨(of_hide3 e).1, c1, c2, c3⟩) z) hJ
    clear F N K₁ hJ
    k_steps
    rename News _ _ _ _ => N9
    obtain ⟨T9, e⟩ := name1 N9
    subst e
    rename ∀ _, _ ∈ sat _ _ _ _ → _ => l9
    have hR : PySem.Paired (PickAt1 (Heap.At _)) ys (hitsOf x rows) := Paired.mono (fun _ _ z => PickAt1.mono (fun a o _ y => (N9 _ (.tail _ y)).1) z) hP
    refine eq_empty (reads_list (F := PickAt1 (Heap.At _)) (f := hitData) (fun _ _ => reads_hit) hR ⟨_, (N9 _ (.tail _ hDs)).1, rfl, _, rfl⟩) (Reads.list (N9 _ (.head _)).1 rfl rfl .nil) (shaped_list (fun r q => can_hit (hits_val hr r q)) (fun _ _ => depth_hit _)) (by walk_at "my side") ?_
    cases hx0 : ((hitsOf x rows).map hitData).isEmpty with
    | true =>
      k_steps
      refine ret _ _ _ (Fr.keep (by assumption)) ?_
      have e : (hitsOf x rows).isEmpty = true := by simpa using hx0
      unfold inmostOf
      rw [if_pos e]
      rfl
    | false =>
      k_steps
      have e : (hitsOf x rows).isEmpty = false := by simpa using hx0
      have hpos : 0 < (hitsOf x rows).length := by
        cases q : hitsOf x rows with
        | nil => rw [q] at e; cases e
        | cons _ _ => exact Nat.succ_pos _
      refine call_min_tups (vs := ys) rfl ⟨_, (N9 _ (.tail _ hDs)).1, rfl, _, rfl⟩ hR hnd hpos (by walk_at "my side") ?_
      intro v h₉ tk₉ hv hk₉
      obtain ⟨r, hr9, a, t9, u9, n9, rfl, ha9⟩ := Paired.get hP hv
      have hm9 := mem_sat.mp ha9
      have ha' := hk₉ _ _ (N9 _ (.tail _ ha9)).1
      walk_at "my after"
      k_steps
      refine ret _ _ _ (Fr.keep (by assumption)) ?_
      unfold inmostOf
      rw [if_neg (by rw [e]; exact Bool.false_ne_true), hr9]
      exact ⟨a, _, _, _, rfl, ha', hm9.2.2.2⟩
end
section



theorem sat_fresh {h₀ h : PySem.Heap} {L : Addr} {m : Str → Option Value} (F : Fr h₀ L h m) {a : Addr} (h1 : a ≠ L) (h2 : h₀.get? a = none) (h3 : ∀ p ∈ sat h₀ L [] h, p.1 ≠ a) : h.get? a = none := by
  cases q : h.get? a with
  | none => rfl
  | some o => exact absurd rfl (h3 _ (mem_sat.mpr ⟨q, h1, by simp, h2⟩))
theorem new_ok {prog : Program} {w : World} {dp un : Nat} {fr : Option (List Env)} {gd : Option (List Code)} {s : Shared} {h₀ : PySem.Heap} {L : Addr} {m : Str → Option Value} {mean : ExcName → Option Value} {mg mb : Str → Option Value} {Q E : Value → Shared → Prop}
    (hd : dp + 5 < recursionLimit) (hu : un + 40 < cLine) (F : Fr h₀ L s.heap m)
    (X : (Mine.hd.heap_39 w.params).In h₀) (T : Top Mine.hd.view_39 lo mean mg mb h₀) {l : Addr} {rows : List (Str × Str)}
    (R : RowsAt (InSat h₀ L [] s.heap) l rows) (hr : ∀ r ∈ rows, RowOk r)
    (ret : ∀ x h' tk', Fr h₀ L h' m → (∀ a o, a ≠ L → s.heap.get? a = some o → h'.get? a = some o) → HdrAt (Fresh s.heap h') x l → Q (.ref x) { s with heap := h', toks := tk' }) :
    wpAny (model prog w) (Around.mk none dp fr gd un) (call (.ref 195) [.ref l]) Q E s := by
  refine' call_cls (K := Mine.hd.heap_39 w.params) (fI := 87) F X (news_sat (h₀ := h₀) (L := L) (ms := []) (h := s.heap)) ?k4 ?k5 ?k6 ?_
  case k4 => k_is
  case k5 => k_is
  case k6 => k_is
  intro x dx h' F' N' hlt hxd
  have hk : ∀ a o, a ≠ L → s.heap.get? a = some o → h'.get? a = some o := fun a o hL e => Kept.of (ms := []) F h' _ _ F' N' (fun p hp => .tail _ (.tail _ hp)) a o hL (by simp) e
  have nx := N' _ (.head _)
  have nd := N' _ (.tail _ (.head _))
  have fx : s.heap.get? x = none := sat_fresh F nx.2.1 nx.2.2 fun p hp q => Nat.lt_irrefl _ (Nat.lt_trans (q ▸ hlt p hp) hxd)
  have fd : s.heap.get? dx = none := sat_fresh F nd.2.1 nd.2.2 fun p hp q => Nat.lt_irrefl _ (q ▸ hlt p hp)
  with_unfolding_all refine' init_ok (x := x) (dx := dx) (l := l) ?hd ?hu (b := h₀) F'.keep X T nx.2.2 nd.2.2 nx.1 nd.1 (RowsAt.mono (fun a o _ e => hk a o (mem_sat.mp e).2.1 (mem_sat.mp e).1) R) hr ?_
  case hd => rw [show (Code.builtin "type.__call__" ⟨[Value.ref 195, Value.ref l], []⟩).weight = 1 from by rfl]; dsimp only; omega
  case hu => rw [show (Code.builtin "type.__call__" ⟨[Value.ref 195, Value.ref l], []⟩).cUnits = 1 from by rfl]; dsimp only; omega
  intro h₂ tk' hk₂ ⟨hx, hs, tk, hdx⟩
  refine ⟨rfl, ret x h₂ tk' ⟨F'.ns.at' fun o e => hk₂ _ _ (Ne.symm nx.2.1) (Ne.symm nd.2.1) e, fun a o e => hk₂ _ _ (fun q => ?_) (fun q => ?_) (F'.keep a o e), F'.above⟩ (fun a o hL e => hk₂ a o (fun q => ?_) (fun q => ?_) (hk a o hL e)) ⟨dx, hs, tk, ⟨hx, fx⟩, hdx, fd⟩⟩
  · rw [q, show h₀.get? x = none from nx.2.2] at e; cases e
  · rw [q, show h₀.get? dx = none from nd.2.2] at e; cases e
  · rw [q, fx] at e; cases e
  · rw [q, fd] at e; cases e
theorem new0_ok {prog : Program} {w : World} {dp un : Nat} {fr : Option (List Env)} {gd : Option (List Code)} {s : Shared} {h₀ : PySem.Heap} {L : Addr} {m : Str → Option Value} {mean : ExcName → Option Value} {mg mb : Str → Option Value} {Q E : Value → Shared → Prop}
    (hd : dp + 5 < recursionLimit) (hu : un + 40 < cLine) (F : Fr h₀ L s.heap m)
    (X : (Mine.hd.heap_39 w.params).In h₀) (T : Top Mine.hd.view_39 lo mean mg mb h₀)
    (ret : ∀ x l h' tk', Fr h₀ L h' m → (∀ a o, a ≠ L → s.heap.get? a = some o → h'.get? a = some o) → HdrAt (Fresh s.heap h') x l → h'.get? l = some (listOf [].toArray 0) → s.heap.get? l = none → Q (.ref x) { s with heap := h', toks := tk' }) :
    wpAny (model prog w) (Around.mk none dp fr gd un) (call (.ref 195) []) Q E s := by
  refine' call_cls (K := Mine.hd.heap_39 w.params) (fI := 87) F X (news_sat (h₀ := h₀) (L := L) (ms := []) (h := s.heap)) ?k4 ?k5 ?k6 ?_
  case k4 => k_is
  case k5 => k_is
  case k6 => k_is
  intro x dx h' F' N' hlt hxd
  have hk : ∀ a o, a ≠ L → s.heap.get? a = some o → h'.get? a = some o := fun a o hL e => Kept.of (ms := []) F h' _ _ F' N' (fun p hp => .tail _ (.tail _ hp)) a o hL (by simp) e
  have nx := N' _ (.head _)
  have nd := N' _ (.tail _ (.head _))
  have fx : s.heap.get? x = none := sat_fresh F nx.2.1 nx.2.2 fun p hp q => Nat.lt_irrefl _ (Nat.lt_trans (q ▸ hlt p hp) hxd)
  have fd : s.heap.get? dx = none := sat_fresh F nd.2.1 nd.2.2 fun p hp q => Nat.lt_irrefl _ (q ▸ hlt p hp)
  with_unfolding_all refine' init0_ok (x := x) (dx := dx) ?hd ?hu (b := h₀) F'.keep X T nx.2.2 nd.2.2 nx.1 nd.1 ?_
  case hd => rw [show (Code.builtin "type.__call__" ⟨[Value.ref 195], []⟩).weight = 1 from by rfl]; dsimp only; omega
  case hu => rw [show (Code.builtin "type.__call__" ⟨[Value.ref 195], []⟩).cUnits = 1 from by rfl]; dsimp only; omega
  intro h₂ tk' l hk₂ ⟨hx, hs, tk, hdx⟩ hl0 hl
  have hl1 : s.heap.get? l = none := by
    cases q : s.heap.get? l with
    | none => rfl
    | some o =>
      have hl0' : h'.get? l = none := hl0
      by_cases hL : l = L
      · obtain ⟨oL, _, _, e, _⟩ := F'.ns
        rw [hL, e] at hl0'; cases hl0'
      · rw [hk l o hL q] at hl0'; cases hl0'
  refine ⟨rfl, ret x l h₂ tk' ⟨F'.ns.at' fun o e => hk₂ _ _ (Ne.symm nx.2.1) (Ne.symm nd.2.1) e, fun a o e => hk₂ _ _ (fun q => ?_) (fun q => ?_) (F'.keep a o e), F'.above⟩ (fun a o hL e => hk₂ a o (fun q => ?_) (fun q => ?_) (hk a o hL e)) ⟨dx, hs, tk, ⟨hx, fx⟩, hdx, fd⟩ hl hl1⟩
  · rw [q, show h₀.get? x = none from nx.2.2] at e; cases e
  · rw [q, show h₀.get? dx = none from nd.2.2] at e; cases e
  · rw [q, fx] at e; cases e
  · rw [q, fd] at e; cases e
end
section



local macro_rules | `(tactic| omega) => `(tactic| lia)
structure Run where
  tabs : List (List (Str × Str))
  pile : List Int
  answers : List (Option Str)
noncomputable def dotName (x : Str) : Str := ⟨(dotLine x.cps.toList).toArray⟩
noncomputable def quoted (t : List (Str × Str)) : List (Str × Str) := t.map fun r => (dotName r.1, r.2)
noncomputable def Run.here (r : Run) : Nat := (r.pile.getLast?.getD 0).toNat
noncomputable def Run.table (r : Run) : List (Str × Str) := r.tabs.getD r.here []
noncomputable def setRow (t : List (Str × Str)) (n v : Str) : List (Str × Str) := match getRow t n with
  | some _ => t
  | none => t ++ [(n, v)]
noncomputable def runStep (i : Nat) (d : Deed) (r : Run) : Run :=
  if d.kind = 0 then ⟨r.tabs ++ [quoted r.table], r.pile ++ [(r.tabs.length : Int)], r.answers⟩
  else if d.kind = 3 then ⟨r.tabs, r.pile.take (max 1 (r.pile.length - 1)), r.answers⟩
  else if 8 ≤ d.idx then ⟨r.tabs, r.pile, r.answers ++ [none]⟩
  else ⟨r.tabs.set r.here (setRow r.table (locName (langOf d.idx) (encOf d.idx)) (tabs i)), r.pile, r.answers ++ [some ((getRow r.table (locName (langOf d.idx) (encOf d.idx))).getD (tabs i))]⟩
noncomputable def runOf (ds : List Deed) : Nat → Run
  | 0 => ⟨[[]], [0], []⟩
  | i + 1 => match ds[i]? with
    | some d => runStep i d (runOf ds i)
    | none => runOf ds i
/-- names and values as the law lays them -/
def RowsOk (i : Nat) (t : List (Str × Str)) : Prop := t.length ≤ i ∧ ∀ r ∈ t, (r.1.cps.size ≤ 4 + i ∧ ∀ c ∈ r.1.cps, nameCh c) ∧ (r.2.cps.size ≤ i ∧ ∀ c ∈ r.2.cps, c = 9)
structure RunOk (i : Nat) (r : Run) : Prop where
  tabsLen : r.tabs.length ≤ i + 1
  pilePos : 1 ≤ r.pile.length
  pileLen : r.pile.length ≤ i + 1
  pileIn : ∀ p ∈ r.pile, 0 ≤ p ∧ p < (r.tabs.length : Int)
  ansLen : r.answers.length ≤ i
  rows : ∀ t ∈ r.tabs, RowsOk i t

inductive HeadAt (K : Know) (v : Value) (t : Addr × List (Str × Str)) : Prop
  | mk (x) (w0 : v = .ref x) (w1 : HdrAt K x t.1) (w2 : RowsAt K t.1 t.2) : HeadAt K v t
theorem HeadAt.mono {K K' : Know} (hk : ∀ a o, stable o = true → K a o → K' a o) {v : Value} {t : Addr × List (Str × Str)} (h : HeadAt K v t) : HeadAt K' v t := by
  obtain ⟨x, e, a, b⟩ := h; exact ⟨x, e, a.mono hk, b.mono hk⟩
structure RunJ (out : List Addr) (h₀ : PySem.Heap) (L dl : Addr) (r : Run) (m : Str → Option Value) (h : PySem.Heap) (ah aa ap : Addr) (hs : List Value) (ts : List (Addr × List (Str × Str))) (ps as : List Value) (n1 n2 n3 : Nat) : Prop where
  deeds : m (Str.ofString "deeds") = some (.ref dl)
  mh : m (Str.ofString "heads") = some (.ref ah)
  ma : m (Str.ofString "answers") = some (.ref aa)
  mp : m (Str.ofString "pile") = some (.ref ap)
  gh : InSat h₀ L [] h ah (listOf hs.toArray n1)
  ga : InSat h₀ L [] h aa (listOf as.toArray n2)
  gp : InSat h₀ L [] h ap (listOf ps.toArray n3)
  hh : PySem.Paired (HeadAt (InSat h₀ L (ah :: aa :: ap :: out) h)) hs ts
  ht : ts.map (·.2) = r.tabs
  ne : ah ≠ aa ∧ ah ≠ ap ∧ aa ≠ ap
  nd : (ts.map (·.1)).Nodup
  nf : ∀ a ∈ ah :: aa :: ap :: ts.map (·.1), a ∉ out
  ip : IntsAre ps r.pile
  oa : PySem.Paired OptStr as r.answers
inductive RunS (out : List Addr) (h₀ : PySem.Heap) (L dl : Addr) (r : Run) (m : Str → Option Value) (h : PySem.Heap) : Prop
  | mk (ah) (aa) (ap) (hs) (ts) (ps) (as) (n1) (n2) (n3) (w0 : RunJ out h₀ L dl r m h ah aa ap hs ts ps as n1 n2 n3) : RunS out h₀ L dl r m h
theorem RunS.sk {out : List Addr} {h₀ : PySem.Heap} {L dl : Addr} {r : Run} {m : Str → Option Value} {h h' : PySem.Heap} (k : SK h h') (J : RunS out h₀ L dl r m h) : RunS out h₀ L dl r m h' := by
  obtain ⟨ah, aa, ap, hs, ts, ps, as, n1, n2, n3, J⟩ := J
  have kk := InSat.sk (h₀ := h₀) (L := L) (ms := []) k
  exact ⟨ah, aa, ap, hs, ts, ps, as, n1, n2, n3, J.deeds, J.mh, J.ma, J.mp, kk _ _ rfl J.gh, kk _ _ rfl J.ga, kk _ _ rfl J.gp, Paired.mono (fun _ _ => HeadAt.mono (InSat.sk k)) J.hh, J.ht, J.ne, J.nd, J.nf, J.ip, J.oa⟩
/-- the outer frames, up to their slots -/
def OutKept (out : List Addr) (h h' : PySem.Heap) : Prop := ∀ a ∈ out, ∀ o, h.get? a = some o → ∃ sl, h'.get? a = some { o with slots := sl }
inductive RunAt (K : Know) (P : Addr) (tabs : List (List (Str × Str))) (answers : List (Option Str)) : Prop
  | mk (ah) (aa) (hs) (ts) (as) (n) (n1) (n2) (w0 : K P (tupObj [.ref ah, .ref aa] n)) (w1 : K ah (listOf (hs : List Value).toArray n1)) (w2 : K aa (listOf (as : List Value).toArray n2)) (w3 : PySem.Paired (HeadAt K) hs ts) (w4 : ts.map (·.2) = tabs) (w5 : PySem.Paired OptStr as answers) : RunAt K P tabs answers

theorem HeadAt.monoL {K K' : Know} {l : Addr} (hk : ∀ a o, stable o = true → a ≠ l → K a o → K' a o) (hl : ∀ o, K l o → ∃ vs n, o = listOf vs n) {v : Value} {t : Addr × List (Str × Str)} (hne : t.1 ≠ l) (h : HeadAt K v t) : HeadAt K' v t := by
  obtain ⟨x, e, ⟨dx, hss, tk, h1, h2⟩, vs, n, h3, h4⟩ := h
  have ni : ∀ {C dx' : Addr} {a : Addr}, K a (instObj C dx') → a ≠ l := fun {C dx' a} q z => by
    subst z; obtain ⟨_, _, q'⟩ := hl _ q; simp at q'
  refine ⟨x, e, ⟨dx, hss, tk, hk _ _ rfl (ni h1) h1, hk _ _ rfl (fun z => ?_) h2⟩, vs, n, hk _ _ rfl hne h3, Paired.mono (fun w r ⟨a, t, u, k, e, q⟩ => ⟨a, t, u, k, e, hk _ _ rfl (fun z => ?_) q⟩) h4⟩
  · rw [z] at h2; obtain ⟨_, _, q'⟩ := hl _ h2; simp at q'
  · rw [z] at q; obtain ⟨_, _, q'⟩ := hl _ q; simp at q'
theorem Paired.setR {α β : Type} {F G : α → β → Prop} {l₁ : List α} {l₂ : List β} (h : PySem.Paired F l₁ l₂) : ∀ {p : Nat} {b : β}, (∀ j a c, j ≠ p → l₁[j]? = some a → l₂[j]? = some c → F a c → G a c) → (∀ a, l₁[p]? = some a → G a b) → PySem.Paired G l₁ (l₂.set p b) := by
  induction h with
  | nil => intro p b _ _; exact .nil
  | @cons a c l₁ l₂ x _ ih =>
    intro p b h1 h2
    cases p with
    | zero => exact .cons (h2 a rfl) (Paired.mono (fun _ _ z => z) (by
        have := ih (p := l₁.length) (b := b) (fun j a c hj e1 e2 z => h1 (j + 1) a c (by omega) (by simpa using e1) (by simpa using e2) z) (fun a e => by simp at e)
        rwa [List.set_eq_of_length_le (by rw [← Paired.len (by assumption)]; omega)] at this))
    | succ p => exact .cons (h1 0 a c (by omega) rfl rfl x) (ih (fun j a c hj e1 e2 z => h1 (j + 1) a c (by omega) (by simpa using e1) (by simpa using e2) z) (fun a e => h2 a (by simpa using e)))
section
variable {prog : Program} {w : World} {A₀ : Around} {E : Value → Shared → Prop} {s' : Shared} {h₀ h B : PySem.Heap} {outer : List Env} {L a e : Addr} {a0 : Value} {m : Str → Option Value} {name : Str} {scope : Scope} {cd : Value}
  {np : Pos} {b₀ : Stmt} {suite : List Stmt} {pos : Pos} {rest : List ExceptHandler} {Q : Flow → Shared → Prop} {news : List (Addr × Obj)}
  {p : Program} {loose : List Str} {mean : ExcName → Option Value} {mg mb : Str → Option Value} {x : Str} {X T' : String}
theorem caught_B (hfr : A₀.frames = some outer) (F : Fr h₀ L h m) (hsm : h.UpToSlots s'.heap) (hfl : Heap.FlyingW B (envOf name scope L a cd :: outer) e (.type X) a0 s'.heap) (hB : ∀ b o, h₀.get? b = some o → B.get? b = some o)
    (hl : ∀ q ∈ news, B.get? q.1 = some q.2 ∧ h₀.get? q.1 = none)
    (T : TopRead p loose mg mb h₀) (hv : bootBuiltins x = some (.type T'))
    (hexc : isSubtype (.type T') (.type "BaseException") = pure true) (hnt : isSubtype (.type ((Manifest.find? T').elim "type" fun y => y.metatype)) (.type "tuple") = pure false) (hsub : isSubtype (.type X) (.type T') = pure true)
    (k : ∀ h', Fr h₀ L h' m → News h₀ L h' news → h.UpToSlots h' →
      wpAny (model prog w) ((A₀.deeper (envOf name scope L a cd)).mark (some (.ref e))) (execs (b₀ :: suite) (envOf name scope L a cd)) Q E { s' with heap := h' })
    (h1 : x ∉ startupNames := by decide +kernel) (h2 : x ∉ loose := by decide +kernel) (h3 : x ∉ (recsOf p).map (·.name) := by decide +kernel) (h4 : x ∉ (litsOf p).map (·.1) := by decide +kernel) (h4c : x ∉ (clssOf p loose).map (·.name) := by decide +kernel) (hn : x ≠ "__name__" := by decide +kernel)
    (hk : scope.kind = .function := by rfl) (hx : (envOf name scope L a cd).kindOf x = some .globalImplicit := by rfl) (hd : (x == ("__debug__" : Str)) = false := by decide)
    (hE : PassesOwnAt (model prog w) ((A₀.deeper (envOf name scope L a cd)).mark (some (.ref e))) (A₀.deeper (envOf name scope L a cd)) (envOf name scope L a cd) E := by passes_own) :
    wpAny (model prog w) (A₀.deeper (envOf name scope L a cd)) (noteFrame (.ref e) (envOf name scope L a cd))
      (fun _ s₂ => wpAny (model prog w) (A₀.deeper (envOf name scope L a cd)) (setFlight (.ref e) none) (fun _ s₃ =>
        wpAny (model prog w) (A₀.deeper (envOf name scope L a cd)) (handleBy (.ref e) (envOf name scope L a cd) (.ExceptHandler (some (.Name x np)) none (b₀ :: suite) pos :: rest)) Q E s₃) E s₂) E s' := by
  have hL : B.get? L = none := by
    obtain ⟨_, ⟨L', _, hf, hn', _⟩, _⟩ := hfl.2.2.1
    obtain rfl : L = L' := Option.some.inj hf
    exact hn'
  refine wpAny_looks_onW (Around.frames_deeper hfr) rfl hfl fun h₄ hheld₄ hsm₄ => ?_
  refine wpAny_landsW hheld₄ fun h₅ hheld hsm₅' => ?_
  have hsm₅ := hsm₄.trans hsm₅'
  have hheld' := flyingW_base hB hheld
  have F₅ := F.of_stays hheld'.1 (hsm.trans hsm₅)
  obtain ⟨ob, hob, hobc⟩ := hheld'.there
  refine wpAny_handleBy_builtin (X := X) (T := T') (b := true) hexc hnt hsub (ld_builtin_at F₅ T.g (T.free x h1 h2 h3 h4 h4c) T.b ((T.builtins x hn).trans hv) ⟨rfl, ⟨ob, hob, hobc⟩, ?_⟩ hk hx hd)
  refine lands_againW hheld fun h₆ hfl₆ hsm₆ => ?_
  have F₆ := F.of_stays (flyingW_base hB hfl₆).1 ((hsm.trans hsm₅).trans hsm₆)
  exact wpAny_passesOwnAt hE (k h₆ F₆ (fun q hq => ⟨hfl₆.1 _ _ (hl q hq).1, (fun z => by have := (hl q hq).1; rw [z, hL] at this; cases this), (hl q hq).2⟩) ((hsm.trans hsm₅).trans hsm₆))
end
theorem out_keeps {g h : PySem.Heap} {out : List Addr} (h1 : ∀ a o, (hideAll g out).get? a = some o → h.get? a = some o) (h2 : OutKept out g h) : ∀ b o, g.get? b = some o → (∀ vs, o.data ≠ .fields vs) → ∃ o', h.get? b = some o' ∧ o'.data = o.data := by
  intro b o e _
  by_cases hb : b ∈ out
  · obtain ⟨sl, e'⟩ := h2 b hb o e; exact ⟨_, e', rfl⟩
  · exact ⟨o, h1 b o (hideAll_get _ e hb), rfl⟩
theorem below_run {A : Around} {base g h : PySem.Heap} {outer : List Env} {L a : Addr} {m : Str → Option Value} {name : Str} {scope : Scope} {cd : Value} (Kb : Below A base outer g) (F : Fr (hideAll g (framesOf outer)) L h m) (hLg : g.get? L = none) (JO : OutKept (framesOf outer) g h) (hk : scope.kind = .function := by rfl) :
    Below (A.deeper (envOf name scope L a cd)) base (envOf name scope L a cd :: outer) h := by
  have hbg : ∀ b o, base.get? b = some o → (hideAll g (framesOf outer)).get? b = some o := fun b o e => hideAll_get _ (Kb.stays b o e) fun hm => by
    rw [(Kb.frames.mem hm).1] at e; cases e
  refine ⟨Around.frames_deeper Kb.stack, fun b o e => F.keep b o (hbg b o e), ?_⟩
  refine Heap.FunFrames.cons (L := L) (m := m) (by rw [show (envOf name scope L a cd).scope = scope from rfl, hk]; decide) rfl F.ns ?_ (Kb.frames.of_keeps (out_keeps (fun a o e => F.keep a o e) JO))
  cases q : base.get? L with
  | none => rfl
  | some o => have := Kb.stays L o q; rw [hLg] at this; cases this
theorem PairAt.there {h : PySem.Heap} {pa : Addr} {i : Nat} (hpa : PairAt (Heap.At h) pa i) : ∃ o, h.get? pa = some o := by
  unfold PairAt at hpa
  split at hpa
  · obtain ⟨_, _, _, z⟩ := hpa; exact ⟨_, z⟩
  · split at hpa
    · obtain ⟨_, _, _, _, z⟩ := hpa; exact ⟨_, z⟩
    · obtain ⟨_, _, _, z, _⟩ := hpa; exact ⟨_, z⟩
theorem bad_ok {prog : Program} {w : World} {dp un : Nat} {outer : List Env} {gd : Option (List Code)} {s : Shared} {b base : PySem.Heap} {mean : ExcName → Option Value} {mg mb : Str → Option Value} {Q E : Value → Shared → Prop}
    (hd : dp + 1 < recursionLimit) (hu : un + 8 < cLine) (hb : ∀ a o, b.get? a = some o → s.heap.get? a = some o) (K : Below (Around.mk none dp (some outer) gd un) base outer s.heap) (hno : ∀ a ∈ framesOf outer, b.get? a = none)
    (X : (Mine.hd.heap_39 w.params).In b) (T : Top Mine.hd.view_39 lo mean mg mb b) {p : Addr} {i : Nat} (h8 : 8 ≤ i) (h10 : i < 10) (hpa : PairAt (Heap.At b) p i)
    (ret : ∀ h' tk' e a0, Heap.FlyingW (hideAll s.heap (framesOf outer)) outer e (.type "TypeError") a0 h' → s.heap.UpToSlots h' → E (.ref e) { s with heap := h', toks := tk' }) :
    wpAny (model prog w) (Around.mk none dp (some outer) gd un) (call (.ref 45) [.ref p]) Q E s := by
  obtain ⟨o, ho⟩ := hpa.there
  have hpn : p ∉ framesOf outer := fun hm => by rw [hno p hm] at ho; cases ho
  by_cases h : i = 8
  · unfold PairAt at hpa
    rw [if_pos h] at hpa
    obtain ⟨t8, v8, n8, hpa⟩ := hpa
    exact bad_num hd hu hb K hno X T hpn ⟨_, hb _ _ hpa, rfl, _, rfl⟩ ret
  · unfold PairAt at hpa
    rw [if_neg h, if_pos (by omega)] at hpa
    obtain ⟨t8, v8, w8, n8, hpa⟩ := hpa
    exact bad_three hd hu hb K hno X T hpn ⟨_, hb _ _ hpa, rfl, _, rfl⟩ ret
noncomputable def smallL (l : List (Option Str)) : Bool := l.all fun o => match o with
  | none => true
  | some x => decide (x.length ≤ 4)
theorem small_get {l : List (Option Str)} (h : smallL l = true) {i : Nat} {x : Str} (e : l.getD i none = some x) : x.length ≤ 4 := by
  rw [List.getD_eq_getElem?_getD] at e
  cases q : l[i]? with
  | none => rw [q] at e; cases e
  | some o =>
    rw [q] at e
    have e' : o = some x := e
    have := List.all_eq_true.mp h o (List.mem_of_getElem? q)
    rw [e'] at this
    exact of_decide_eq_true this
theorem lang_len {i : Nat} {x : Str} (e : langOf i = some x) : x.length ≤ 4 := small_get (by decide +kernel) e
theorem enc_len {i : Nat} {x : Str} (e : encOf i = some x) : x.length ≤ 4 := small_get (by decide +kernel) e
theorem loc_ok : ∀ i, i < 8 → (locName (langOf i) (encOf i)).cps.size ≤ 4 ∧ ∀ c ∈ (locName (langOf i) (encOf i)).cps, nameCh c := by
  intro i hi
  have key : ∀ i, i < 8 → (decide ((locName (langOf i) (encOf i)).cps.size ≤ 4) && (locName (langOf i) (encOf i)).cps.toList.all fun c => decide (c = 46 ∨ c = 97 ∨ c = 98 ∨ c = 65 ∨ c = 66 ∨ c = 67 ∨ c = 99)) = true := by decide +kernel
  have := Bool.and_eq_true_iff.mp (key i hi)
  refine ⟨of_decide_eq_true this.1, fun c hc => ?_⟩
  have q := of_decide_eq_true (List.all_eq_true.mp this.2 c (Array.mem_toList_iff.mpr hc))
  unfold nameCh
  omega
theorem ns_none {K : Frag} {h : PySem.Heap} {mc : Str → Option Value} {A : Addr} {n : Str} (X : K.In h) (G : h.Ns A mc) (e : nsIn K A n = some none) : mc n = none := by
  obtain ⟨o, es, ep, ho, hd, _, hf⟩ := G
  unfold nsIn at e
  split at e
  · rename_i c d es' n' sl q
    have := X _ _ q
    rw [ho] at this
    cases this
    cases hd
    split at e
    · cases e
    · rename_i he
      rw [← hf]
      unfold nsFind findBy
      rw [← Array.find?_toList, he]
      rfl
  · cases e
/-- the ends' tokens, told apart -/
def TokAt (h : PySem.Heap) (B : Nat) (dl : Addr) : Prop := ∃ vs n, h.get? dl = some (listOf (vs : List Value).toArray n) ∧ ∀ v ∈ vs, ∃ a x y z e u k, v = .ref a ∧ h.get? a = some (tupObj [x, y, z, .str e u] k) ∧ @LT.lt Nat _ 0 u ∧ @LT.lt Nat _ u B
inductive TokV (K : Know) (B : Nat) (v : Value) : Prop
  | mk (a) (x) (y) (z) (e) (u) (k) (w0 : v = .ref a) (w1 : K a (tupObj [x, y, z, .str e u] k)) (w2 : @LT.lt Nat _ 0 u) (w3 : @LT.lt Nat _ u B) : TokV K B v
theorem TokV.mono {K K' : Know} (hk : ∀ a o, stable o = true → K a o → K' a o) {B : Nat} {v : Value} (h : TokV K B v) : TokV K' B v := by
  obtain ⟨a, x, y, z, e, u, k, r, q, b, b'⟩ := h; exact ⟨a, x, y, z, e, u, k, r, hk _ _ rfl q, b, b'⟩
theorem TokAt.mono {h h' : PySem.Heap} {B B' : Nat} {dl : Addr} (hk : ∀ a vs n, h.get? a = some (listOf vs n) ∨ (∃ ws : List Value, h.get? a = some (tupObj ws n)) → ∀ o, h.get? a = some o → h'.get? a = some o) (hB : B ≤ B') (x : TokAt h B dl) : TokAt h' B' dl := by
  obtain ⟨vs, n, g, hall⟩ := x
  refine ⟨vs, n, hk _ _ _ (.inl g) _ g, fun v hv => ?_⟩
  obtain ⟨a, x, y, z, e, u, k, r, q, b1, b2⟩ := hall v hv
  exact ⟨a, x, y, z, e, u, k, r, hk _ #[] k (.inr ⟨_, q⟩) _ q, b1, Nat.lt_of_lt_of_le b2 hB⟩
end
section



local macro_rules | `(tactic| omega) => `(tactic| lia)
section
open PySem
/-- tokens are never taken back -/
theorem runs_toks {M : Model} {Γ : PySem.Ctx} {p : Pos} {t : Sem Fin} {fs : List Frame} {s : Shared} {e : End} {s' : Shared} (h : Runs M Γ p t fs s e s') : s.toks ≤ s'.toks := by
  induction h with
  | fresh _ ih => exact Nat.le_trans (Nat.le_succ _) ih
  | call _ _ h1 h2 => exact Nat.le_trans h1 h2
  | resumeFresh _ _ _ _ h1 h2 => exact Nat.le_trans h1 h2
  | resumeSuspended _ _ _ _ h1 h2 => exact Nat.le_trans h1 h2
  | segRet _ _ h1 h2 => exact Nat.le_trans h1 h2
  | segGen _ _ h1 h2 => exact Nat.le_trans h1 h2
  | segSuspGen _ _ _ _ h1 h2 => exact Nat.le_trans h1 h2
  | _ => first | exact Nat.le_refl _ | assumption
theorem wakes_toks {M : Model} {Γ : PySem.Ctx} {p : Pos} {g : Nat} {r : Resume} {s : Shared} {res : GenResult} {s' : Shared} (h : Wakes M Γ p g r s res s') : s.toks ≤ s'.toks := by
  unfold Wakes at h
  split at h
  · exact h.elim
  · split at h
    · obtain ⟨e₁, s₁, h1, _, _, rfl⟩ := h; have h2 := runs_toks h1; exact h2
    · obtain ⟨_, rfl⟩ := h; exact Nat.le_refl _
    · obtain ⟨_, rfl⟩ := h; exact Nat.le_refl _
  · obtain ⟨e₁, s₁, h1, _, _, rfl⟩ := h; have h2 := runs_toks h1; exact h2
  · obtain ⟨_, rfl⟩ := h; exact Nat.le_refl _
  · obtain ⟨_, rfl⟩ := h; exact Nat.le_refl _
theorem wp_toks {α : Type} {M : Model} {Γ : PySem.Ctx} {m : Sem α} {Q : α → Pos → Shared → Prop} {E : Value → Pos → Shared → Prop} {n : Nat} : ∀ {p : Pos} {s : Shared}, n ≤ s.toks → Sem.wp M Γ m (fun a p' s' => n ≤ s'.toks → Q a p' s') (fun a p' s' => n ≤ s'.toks → E a p' s') p s → Sem.wp M Γ m Q E p s := by
  induction m with
  | pure a => intro p s hn h; exact h hn
  | raise e => intro p s hn h; exact h hn
  | fresh k ih => intro p s hn h; exact ih _ (Nat.le_trans hn (Nat.le_succ _)) h
  | load a part k ih => intro p s hn h; rw [Sem.wp] at h ⊢; obtain ⟨o, h1, h2⟩ := h; exact ⟨o, h1, ih _ hn h2⟩
  | update a part f k ih => intro p s hn h; rw [Sem.wp] at h ⊢; exact ⟨h.1, ih _ hn h.2⟩
  | choose src m k ih => intro p s hn h; rw [Sem.wp] at h ⊢; exact ⟨h.1, ih _ hn h.2⟩
  | genState g k ih => intro p s hn h; rw [Sem.wp] at h ⊢; obtain ⟨o, h1, h2⟩ := h; exact ⟨o, h1, ih _ hn h2⟩
  | call c hd g l k ih => intro p s hn h; rw [Sem.wp] at h ⊢; obtain ⟨r, s', h1, h2⟩ := h; exact ⟨r, s', h1, ih _ (Nat.le_trans hn (runs_toks h1)) h2⟩
  | resume g r l k ih => intro p s hn h; rw [Sem.wp] at h ⊢; obtain ⟨r, s', h1, h2⟩ := h; exact ⟨r, s', h1, ih _ (Nat.le_trans hn (wakes_toks h1)) h2⟩
  | rule t k ih => intro p s hn h; rw [Sem.wp] at h ⊢; exact ih _ hn h
  | «at» p' k ih => intro p s hn h; rw [Sem.wp] at h ⊢; exact ih _ hn h
  | loadIfAlive a k ih => intro p s hn h; rw [Sem.wp] at h ⊢; exact ih _ hn h
  | point l k ih => intro p s hn h; rw [Sem.wp] at h ⊢; exact ih _ hn h
  | alloc o k ih => intro p s hn h; rw [Sem.wp] at h ⊢; exact ih _ hn h
  | ask k ih => intro p s hn h; rw [Sem.wp] at h ⊢; exact ih _ hn h
  | os q l k ih => intro p s hn h; rw [Sem.wp] at h ⊢; exact ih _ hn h
  | handled o k ih => intro p s hn h; rw [Sem.wp] at h ⊢; exact ih _ hn h
  | newGen c k ih => intro p s hn h; rw [Sem.wp] at h ⊢; exact ih _ hn h
  | stack k ih => intro p s hn h; rw [Sem.wp] at h ⊢; exact ih _ hn h
  | thread k ih => intro p s hn h; rw [Sem.wp] at h ⊢; exact ih _ hn h
  | _ => intro p s hn h; first | exact h | (rw [Sem.wp] at h; exact h.elim)
theorem wpAny_tk {α : Type} {M : Model} {A : Around} {t : Sem α} {Q : α → Shared → Prop} {E : Value → Shared → Prop} {s : Shared}
    (h : wpAny M A t (fun a s' => s.toks ≤ s'.toks → Q a s') (fun e s' => s.toks ≤ s'.toks → E e s') s) : wpAny M A t Q E s :=
  fun Γ p hΓ => wp_toks (Nat.le_refl _) (h Γ p hΓ)
/-- the same, the exceptions as they were -/
theorem wpAny_tk' {α : Type} {M : Model} {A : Around} {t : Sem α} {Q : α → Shared → Prop} {E : Value → Shared → Prop} {s : Shared}
    (h : wpAny M A t (fun a s' => s.toks ≤ s'.toks → Q a s') E s) : wpAny M A t Q E s :=
  wpAny_tk (wpAny_mono h (fun _ _ x => x) fun _ _ x _ => x)
end
section
variable {prog : Program} {w : World} {A : Around} {E : Value → Shared → Prop} {s : Shared} {env : Env} {h₀ : PySem.Heap} {target : PySem.Expr} {body : List Stmt} {Q : Flow → Shared → Prop}
inductive LoopMT (prog : Program) (w : World) (A : Around) (h₀ : PySem.Heap) (env : Env) (target : PySem.Expr) (body : List Stmt) (Q : Flow → Shared → Prop) (E : Value → Shared → Prop) (T₀ : Nat) (it : Value) (s : Shared) : Prop
  | mk (I : Addr) (fp wr : List Addr) (n : Nat) (P : Nat → Value → Prop) (St : Nat → PySem.Heap → Prop) (m : Str → Option Value) (J : Nat → (Str → Option Value) → PySem.Heap → Prop) (w0 : it = .ref I) (w1 : Walks prog w A I fp wr n P St) (w2 : env.locals ∉ fp) (w3 : (∀ b ∈ wr, h₀.get? b = none)) (w4 : (∀ i h, St i h → ∀ b ∈ wr, ∀ o, h.get? b = some o → stable o = false)) (w5 : St 0 s.heap) (w6 : Fr h₀ env.locals s.heap m) (w7 : J 0 m s.heap) (w8 : (∀ i m h h', SK h h' → J i m h → J i m h')) (w9 : (∀ i (s' : Shared) v (Q' : Unit → Shared → Prop), St i s'.heap → Q' () s' → wpAny (model prog w) A (letOwnedTupleGo target (.ref I) v) Q' E s')) (w10 : (∀ i v m₁ h tk, i < n → P i v → J i m₁ h → Fr h₀ env.locals h m₁ → St (i + 1) h → T₀ ≤ tk → wpAny (model prog w) A (assign target env v) (fun _ s₃ => wpAny (model prog w) A (execs body env) (TurnM h₀ env.locals fp h (J (i + 1)) s Q) E s₃) E { s with heap := h, toks := tk })) (w11 : ∀ h' tk m', Fr h₀ env.locals h' m' → J n m' h' → T₀ ≤ tk → Q .next { s with heap := h', toks := tk }) : LoopMT prog w A h₀ env target body Q E T₀ it s
theorem For_MT {iter : PySem.Expr} {pos : Pos} {m : Str → Option Value} (_F : Fr h₀ env.locals s.heap m)
    (h : wpAny (model prog w) A (eval iter env) (fun xv s₁ => wpAny (model prog w) A (pyIter xv) (fun it s₂ => LoopMT prog w A h₀ env target body Q E s.toks it s₂) E s₁) E s)
    (hs : ∀ x, foldedSetIterable iter env x = pure x)
    (hE : PassesOwn (model prog w) A env E := by passes_own) :
    wpAny (model prog w) A (exec (.For target iter body [] pos) env) Q E s := by
  refine wpAny_For (wpAny_tk' (wpAny_mono h (fun xv s₁ h₁ ht₁ => wpAny_tk' (wpAny_mono h₁ (fun it s₂ h₂ ht₂ => ?_) fun _ _ e => e)) fun _ _ e => e)) hs
  have ht := Nat.le_trans ht₁ ht₂
  obtain ⟨I, fp, wr, n, P, St, m, J, rfl, W, hLf, hwr, hun, hst, F, hJ, mono, hgo, turn, done⟩ := h₂
  have hLw : env.locals ∉ wr := fun q => hLf (W.sub _ q)
  have old : ∀ b o, h₀.get? b = some o → b ∉ wr := fun b o e hb => by rw [hwr b hb] at e; cases e
  refine codeAny_forLoop_any
    (fun k s' => ∃ h' tk m' i, s' = { s₂ with heap := h', toks := tk } ∧ St i h' ∧ Fr h₀ env.locals h' m' ∧ J i m' h' ∧ i ≤ n ∧ k = n + 1 - i ∧ s.toks ≤ tk) ?_ (n + 1)
    ⟨s₂.heap, s₂.toks, m, 0, rfl, hst, F, hJ, Nat.zero_le _, rfl, ht⟩
  rintro k s' ⟨h', tk, m', i, rfl, hst', F', hJ', hi, rfl, htk⟩
  have next : ∀ h₁ : PySem.Heap, (∀ b o, b ∉ wr → h'.get? b = some o → h₁.get? b = some o) → Fr h₀ env.locals h₁ m' ∧ SK h' h₁ := fun h₁ hk₁ =>
    ⟨⟨F'.ns.at' fun o e => hk₁ _ o hLw e, fun b o e => hk₁ b o (old b o e) (F'.keep b o e), F'.above⟩, fun a o q e => hk₁ a o (fun hb => by rw [hun _ _ hst' a hb o e] at q; cases q) e⟩
  by_cases hlt : i < n
  · refine wpAny_tk' (W.item i _ _ _ hlt hst' fun v h₁ tk₁ hP hst₁ hk₁ htk₁ => ?_)
    have htk₁' : s.toks ≤ tk₁ := Nat.le_trans htk htk₁
    obtain ⟨F₁, K₁⟩ := next h₁ hk₁
    refine wpAny_passesOwn hE (hgo (i + 1) _ v _ hst₁ ?_)
    refine wpAny_passesOwn hE (wpAny_tk' (wpAny_mono (turn i v m' h₁ tk₁ hlt hP (mono _ _ _ _ K₁ hJ') F₁ hst₁ htk₁') (fun _ s₃ h₃ ht₃ => wpAny_passesOwn hE (wpAny_tk' (wpAny_mono h₃ (fun f s₄ h₄ ht₄ => ?_) fun _ _ e => e))) fun _ _ e => e))
    have ht5 : s.toks ≤ s₄.toks := Nat.le_trans htk₁' (Nat.le_trans ht₃ ht₄)
    cases f with
    | ret v => exact h₄
    | brk => exact h₄
    | cont =>
      obtain ⟨h₅, tk₅, m₅, rfl, F₅, hf₅, hJ₅⟩ := h₄
      exact ⟨n + 1 - (i + 1), by omega, h₅, tk₅, m₅, i + 1, rfl, W.frame _ _ _ hst₁ hf₅, F₅, hJ₅, hlt, rfl, ht5⟩
    | next =>
      obtain ⟨h₅, tk₅, m₅, rfl, F₅, hf₅, hJ₅⟩ := h₄
      exact ⟨n + 1 - (i + 1), by omega, h₅, tk₅, m₅, i + 1, rfl, W.frame _ _ _ hst₁ hf₅, F₅, hJ₅, hlt, rfl, ht5⟩
  · have hin : i = n := by omega
    subst hin
    refine wpAny_tk' (W.done _ _ _ hst' fun h₁ tk₁ hk₁ htk₁ => wpAny_execs_nil ?_)
    obtain ⟨F₁, K₁⟩ := next h₁ hk₁
    exact done h₁ tk₁ m' F₁ (mono _ _ _ _ K₁ hJ') (Nat.le_trans htk htk₁)
theorem iter_range_MT {x : Str} {pos : Pos} {r : Addr} {n T₀ : Nat} {t u v : Tok} {m : Str → Option Value} (J : Nat → (Str → Option Value) → PySem.Heap → Prop) (hh : A.handled = none) (hr : IsRange s.heap r 0 (n : Int) 1 t u v) (hn : n ≤ 1000)
    (F : Fr h₀ env.locals s.heap m) (hJ : J 0 m s.heap) (mono : ∀ i m h h', SK h h' → J i m h → J i m h')
    (turn : ∀ i t' m₁ h tk I, i < n → J i m₁ h → Fr h₀ env.locals h m₁ → env.locals ≠ I → (∃ o, h.get? I = some o ∧ stable o = false) → h₀.get? I = none → T₀ ≤ tk →
      wpAny (model prog w) A (assign (.Name x pos) env (.int (i : Int) t')) (fun _ s₃ => wpAny (model prog w) A (execs body env) (TurnM h₀ env.locals [I] h (J (i + 1)) s Q) E s₃) E { s with heap := h, toks := tk })
    (done : ∀ h' tk m', Fr h₀ env.locals h' m' → J n m' h' → T₀ ≤ tk → Q .next { s with heap := h', toks := tk }) :
    wpAny (model prog w) A (pyIter (.ref r)) (fun it s₂ => LoopMT prog w A h₀ env (.Name x pos) body Q E T₀ it s₂) E s := by
  have hsz : Builtin.Range.rangeSize 0 (n : Int) 1 = n := by
    unfold Builtin.Range.rangeSize
    split
    · split
      · simp
      · omega
    · omega
  have hsmall : Builtin.Range.small 0 (n : Int) 1 = true := small_one (by omega) (by omega) (by omega) (by omega)
  refine wpAny_pyIter_range hr hsmall ?_
  have W := Walks.range (prog := prog) (w := w) hh s.heap.objs.size 0 1 n
  have hIL : env.locals ≠ s.heap.objs.size := Nat.ne_of_lt F.ns.lt
  refine ⟨_, _, _, n, _, _, m, J, rfl, W, ?_, ?_, ?_, ?_, F.push _, mono _ _ _ _ (SK.of_keeps fun a o e => PySem.Heap.get?_push_of_some _ e) hJ, mono, (fun i s' v Q' st hQ' => wpAny_pure hQ'), ?_, ?_⟩
  · simpa using hIL
  · intro b hb
    rw [List.mem_singleton.mp hb]
    exact next_is_new F
  · rintro i h st b hb o ho
    rw [List.mem_singleton.mp hb] at ho
    rw [st] at ho
    cases ho
    exact unstable rfl rfl
  · show PySem.Heap.get? _ _ = _
    rw [hsz]
    have q : (0 + ((0 : Nat) : Int) * 1 : Int) = 0 := by omega
    rw [q]
    exact PySem.Heap.get?_push_size _ rfl
  · rintro i v m₁ h tk hi ⟨t', rfl⟩ hJ₁ F₁ st htk
    have q : (0 + ((i : Nat) : Int) * 1 : Int) = i := by omega
    rw [q]
    exact turn i t' m₁ h tk _ hi hJ₁ F₁ hIL ⟨_, st, unstable rfl rfl⟩ (next_is_new F) htk
  · intro h' tk m' F' hJ' htk
    exact done h' tk m' F' hJ' htk
end

section
variable {prog : Program} {w : World} {A : Around} {E : Value → Shared → Prop} {s : Shared} {env : Env} {h₀ : PySem.Heap} {target : PySem.Expr} {body : List Stmt} {Q : Flow → Shared → Prop}
theorem iter_list_MT {l : Addr} {items : Array Value} {m : Str → Option Value} {T₀ : Nat} (J : Nat → (Str → Option Value) → PySem.Heap → Prop) (hh : A.handled = none) (hl : s.heap.IsList l items) (hLl : env.locals ≠ l)
    (F : Fr h₀ env.locals s.heap m) (hJ : J 0 m s.heap) (mono : ∀ i m h h', SK h h' → J i m h → J i m h')
    (turn : ∀ i v m₁ h tk I, items[i]? = some v → J i m₁ h → Fr h₀ env.locals h m₁ → h.IsListIter I l (i + 1) → h.IsList l items → env.locals ≠ I → T₀ ≤ tk →
      wpAny (model prog w) A (assign target env v) (fun _ s₃ => wpAny (model prog w) A (execs body env) (TurnM h₀ env.locals [I, l] h (J (i + 1)) s Q) E s₃) E { s with heap := h, toks := tk })
    (done : ∀ h' tk m', Fr h₀ env.locals h' m' → J items.size m' h' → T₀ ≤ tk → Q .next { s with heap := h', toks := tk }) :
    wpAny (model prog w) A (pyIter (.ref l)) (fun it s₂ => LoopMT prog w A h₀ env target body Q E T₀ it s₂) E s := by
  refine wpAny_pyIter_list hl ?_
  obtain ⟨ol, hol, _⟩ := id hl
  have hne : l ≠ s.heap.objs.size := Nat.ne_of_lt (Heap.lt_size hol)
  have W := Walks.list (prog := prog) (w := w) hh s.heap.objs.size l hne items
  have hIL : env.locals ≠ s.heap.objs.size := Nat.ne_of_lt F.ns.lt
  refine ⟨_, _, _, items.size, _, _, m, J, rfl, W, ?_, ?_, ?_, ⟨⟨_, Heap.get?_push_size _ rfl, rfl, rfl⟩, hl.push _⟩, F.push _, mono _ _ _ _ (SK.of_keeps fun a o e => Heap.get?_push_of_some _ e) hJ, mono, (fun i s' v Q' st hQ' => letGo_listiter st.1 hQ'), ?_, ?_⟩
  · intro hm
    rcases List.mem_cons.mp hm with e | hm
    · exact hIL e
    · exact hLl (List.mem_singleton.mp hm)
  · intro b hb
    rw [List.mem_singleton.mp hb]
    exact next_is_new F
  · rintro i h ⟨⟨o, ho, hc, hd⟩, _⟩ b hb o' ho'
    rw [List.mem_singleton.mp hb, ho] at ho'
    cases ho'
    exact unstable hc hd
  · intro i v m₁ h tk hi hP hJ₁ F₁ st htk
    exact turn i v m₁ h tk _ hP hJ₁ F₁ st.1 st.2 hIL htk
  · intro h' tk m' F' hJ' htk
    exact done h' tk m' F' hJ' htk
end
end
section



local macro_rules | `(tactic| omega) => `(tactic| lia)
section
open PySem PySem.Builtin PySem.Builtin.Str PySem.StrLaws
/-- pieces with a sign between them -/
noncomputable def jl (sep : List Nat) : List (List Nat) → List Nat
  | [] => []
  | [x] => x
  | x :: y :: r => x ++ sep ++ jl sep (y :: r)
theorem join_jl (sep : Str) : ∀ ps : List Str, (Str.join sep ps).cps.toList = jl sep.cps.toList (ps.map fun p => p.cps.toList)
  | [] => rfl
  | [x] => rfl
  | x :: y :: r => by
    show (x.cps ++ sep.cps ++ (Str.join sep (y :: r)).cps).toList = _
    rw [Array.toList_append, Array.toList_append, join_jl sep (y :: r)]
    rfl
theorem txtJoin_jl (sep : Str) (ps : List Str) : (Txt.join sep ps).cps.toList = jl sep.cps.toList (ps.map fun p => p.cps.toList) := by
  show (glued sep ps).cps.toList = _
  rw [glued_eq_join, join_jl]
theorem jl_len (sep : List Nat) {B : Nat} : ∀ ls : List (List Nat), (∀ l ∈ ls, l.length ≤ B) → (jl sep ls).length ≤ ls.length * (B + sep.length)
  | [], _ => Nat.zero_le _
  | [x], h => by have := h x (.head _); show x.length ≤ 1 * (B + sep.length); omega
  | x :: y :: r, h => by
    have h1 := h x (.head _)
    have h2 := jl_len sep (y :: r) fun l hl => h l (.tail _ hl)
    show (x ++ sep ++ jl sep (y :: r)).length ≤ (r.length + 1 + 1) * (B + sep.length)
    rw [List.length_append, List.length_append, Nat.succ_mul]
    have : (y :: r).length = r.length + 1 := rfl
    rw [this] at h2
    omega
noncomputable def cutsOf : Nat → List Nat → List Nat
  | _, [] => []
  | a, 13 :: 10 :: r => a :: cutsOf (a + 2) r
  | a, _ :: r => cutsOf (a + 1) r
theorem cuts_free : ∀ {l : List Nat} {a : Nat}, Lined l → cutsOf a l = []
  | [], _, _ => by rw [cutsOf]
  | c :: l, a, h => by
    have h1 := h c (.head _)
    rw [cutsOf]
    · exact cuts_free fun d hd => h d (.tail _ hd)
    · intro r e _; exact h1.2 e
theorem cuts_line : ∀ {l : List Nat} {a : Nat} {r : List Nat}, Lined l → cutsOf a (l ++ 13 :: 10 :: r) = (a + l.length) :: cutsOf (a + l.length + 2) r
  | [], a, r, _ => by rw [List.nil_append, cutsOf]; rfl
  | c :: l, a, r, h => by
    have h1 := h c (.head _)
    rw [List.cons_append, cutsOf]
    · rw [cuts_line fun d hd => h d (.tail _ hd), show a + 1 + l.length = a + (c :: l).length from by simp; omega]
    · intro q e _; exact h1.2 e
section
variable {x y : Str}
theorem body_no {n lim a : Nat} {st : Array Nat × Nat} (h : ¬ (((st.fst.size < lim ∧ st.snd ≤ a) ∧ a + y.length ≤ n) ∧ subAt x y a = true)) : occBody x y n lim a st = pure (ForInStep.yield (st.fst, st.snd)) := if_neg h
theorem body_yes {n lim a : Nat} {st : Array Nat × Nat} (h : ((st.fst.size < lim ∧ st.snd ≤ a) ∧ a + y.length ≤ n) ∧ subAt x y a = true) : occBody x y n lim a st = pure (ForInStep.yield (st.fst.push a, a + y.length)) := if_pos h
end
theorem occ_cuts {x y : Str} (hy : y.cps.toList = [13, 10]) : ∀ (k a : Nat) (f : Array Nat) (fr : Nat), k = x.length + 1 - a → f.size ≤ a → fr ≤ a →
    (forIn (List.range' a k) (f, fr) (occBody x y x.length (x.length + 1))).run.fst.toList = f.toList ++ cutsOf a (x.cps.toList.drop a) := by
  have hyl : y.length = 2 := by show y.cps.size = 2; rw [← Array.length_toList, hy]; rfl
  have hxl : x.cps.toList.length = x.length := by simp [Str.length]
  intro k
  induction k using Nat.strongRecOn with
  | ind k ih =>
    intro a f fr hk hf hfr
    match k, hk with
    | 0, hk =>
      have : x.cps.toList.drop a = [] := List.drop_of_length_le (by omega)
      rw [this, cutsOf]
      simp
    | k + 1, hk =>
      rw [List.range'_succ, List.forIn_cons]
      by_cases hm : (x.cps.toList.drop a).take 2 = [13, 10]
      · obtain ⟨r, hr⟩ : ∃ r, x.cps.toList.drop a = 13 :: 10 :: r := by
          refine ⟨(x.cps.toList.drop a).drop 2, ?_⟩
          have := List.take_append_drop 2 (x.cps.toList.drop a)
          rw [hm] at this
          exact this.symm
        have hlen : a + 2 ≤ x.length := by
          have := congrArg List.length hr
          rw [List.length_drop, hxl] at this
          simp only [List.length_cons] at this
          omega
        have hsub : subAt x y a = true := by rw [subAt_eq, hyl, hm, hy]; rfl
        have hb : occBody x y x.length (x.length + 1) a (f, fr) = pure (ForInStep.yield (f.push a, a + y.length)) := body_yes ⟨⟨⟨by show f.size < _; omega, hfr⟩, by omega⟩, hsub⟩
        rw [hb]
        show (forIn (List.range' (a + 1) k) (f.push a, a + y.length) (occBody x y x.length (x.length + 1))).run.fst.toList = _
        obtain ⟨k2, rfl⟩ : ∃ k2, k = k2 + 1 := ⟨k - 1, by omega⟩
        rw [List.range'_succ, List.forIn_cons]
        have hn : occBody x y x.length (x.length + 1) (a + 1) (f.push a, a + y.length) = pure (ForInStep.yield (f.push a, a + y.length)) := body_no (fun q => by
          have : a + y.length ≤ a + 1 := q.1.1.2
          omega)
        rw [hn]
        show (forIn (List.range' (a + 1 + 1) k2) (f.push a, a + y.length) (occBody x y x.length (x.length + 1))).run.fst.toList = _
        rw [ih k2 (by omega) (a + 1 + 1) (f.push a) (a + y.length) (by omega) (by rw [Array.size_push]; omega) (by omega), hr, cutsOf]
        have hd : x.cps.toList.drop (a + 1 + 1) = r := by
          have : x.cps.toList.drop (a + 2) = (x.cps.toList.drop a).drop 2 := by rw [List.drop_drop]
          rw [show a + 1 + 1 = a + 2 from rfl, this, hr]; rfl
        rw [hd]
        simp
      · have hb : occBody x y x.length (x.length + 1) a (f, fr) = pure (ForInStep.yield (f, fr)) := body_no (fun q => by
          have h1 := q.2
          rw [subAt_eq, hyl, hy] at h1
          exact hm (eq_of_beq h1))
        rw [hb]
        show (forIn (List.range' (a + 1) k) (f, fr) (occBody x y x.length (x.length + 1))).run.fst.toList = _
        rw [ih k (by omega) (a + 1) f fr (by omega) (by omega) (by omega)]
        congr 1
        cases hd : x.cps.toList.drop a with
        | nil =>
          have : x.cps.toList.drop (a + 1) = [] := by rw [← List.drop_drop, hd]; rfl
          rw [this]; simp only [cutsOf]
        | cons c r =>
          have hd2 : x.cps.toList.drop (a + 1) = r := by rw [← List.drop_drop, hd]; rfl
          rw [hd2, cutsOf]
          intro q e1 e2
          apply hm
          rw [hd, e1, e2]
          rfl
theorem parts_lines {x : Str} : ∀ (ls : List (List Nat)) (l : List Nat) (a : Nat), (∀ m ∈ l :: ls, Lined m) → x.cps.toList.drop a = jl [13, 10] (l :: ls) → a ≤ x.length →
    (partsFrom x 2 a (cutsOf a (x.cps.toList.drop a))).map (fun p => p.cps.toList) = l :: ls
  | [], l, a, h, e, ha => by
    have hxl : x.cps.toList.length = x.length := by simp [Str.length]
    rw [e]
    show (partsFrom x 2 a (cutsOf a l)).map _ = _
    rw [cuts_free (h l (.head _)), partsFrom]
    show [(strSub x a x.length).cps.toList] = _
    rw [strSub_toList, e]
    congr 1
    have e2 : (jl [13, 10] [l]) = l := rfl
    rw [e2]
    refine List.take_of_length_le ?_
    have := congrArg List.length e
    rw [List.length_drop, e2] at this
    omega
  | m :: ls, l, a, h, e, ha => by
    have hxl : x.cps.toList.length = x.length := by simp [Str.length]
    have hl := h l (.head _)
    have e2 : jl [13, 10] (l :: m :: ls) = l ++ 13 :: 10 :: jl [13, 10] (m :: ls) := by
      show l ++ [13, 10] ++ jl [13, 10] (m :: ls) = _
      rw [List.append_assoc]; rfl
    rw [e2] at e
    have hlen := congrArg List.length e
    rw [List.length_drop, List.length_append] at hlen
    simp only [List.length_cons] at hlen
    have hd : x.cps.toList.drop (a + l.length + 2) = jl [13, 10] (m :: ls) := by
      rw [show a + l.length + 2 = a + (l.length + 2) from by omega, ← List.drop_drop, e, ← List.drop_drop, List.drop_left]
      rfl
    rw [e, cuts_line hl, partsFrom]
    have ih := parts_lines ls m (a + l.length + 2) (fun q hq => h q (.tail _ hq)) hd (by omega)
    rw [hd] at ih
    rw [List.map_cons, ih]
    congr 1
    rw [strSub_toList, e, show a + l.length - a = l.length from by omega, List.take_left]
theorem split_lines {x : Str} {l m : List Nat} {ls : List (List Nat)} (h : ∀ q ∈ l :: m :: ls, Lined q) (e : x.cps.toList = jl [13, 10] (l :: m :: ls)) :
    (Txt.split x (Str.ofString "\r\n")).map (fun p => p.cps.toList) = l :: m :: ls ∧ (occurrences x (Str.ofString "\r\n") 0 x.length (x.length + 1)).isEmpty = false ∧
      Txt.split x (Str.ofString "\r\n") = partsBetween x (occurrences x (Str.ofString "\r\n") 0 x.length (x.length + 1)) (Str.ofString "\r\n").length := by
  have hxl : x.cps.toList.length = x.length := by simp [Str.length]
  have hy : (Str.ofString "\r\n").cps.toList = [13, 10] := rfl
  have e2 : jl [13, 10] (l :: m :: ls) = l ++ 13 :: 10 :: jl [13, 10] (m :: ls) := by
    show l ++ [13, 10] ++ jl [13, 10] (m :: ls) = _
    rw [List.append_assoc]; rfl
  have hocc : occurrences x (Str.ofString "\r\n") 0 x.length (x.length + 1) = cutsOf 0 x.cps.toList := by
    rw [occ_eq, occ_cuts hy (x.length + 1 - 0) 0 #[] 0 rfl (Nat.le_refl _) (Nat.le_refl _)]
    rfl
  have hcut : cutsOf 0 x.cps.toList = (0 + l.length) :: cutsOf (0 + l.length + 2) (jl [13, 10] (m :: ls)) := by rw [e, e2, cuts_line (h l (.head _))]
  have hne : (occurrences x (Str.ofString "\r\n") 0 x.length (x.length + 1)).isEmpty = false := by rw [hocc, hcut]; rfl
  have hlen : 2 ≤ x.length := by
    have := congrArg List.length e
    rw [e2, List.length_append, hxl] at this
    simp only [List.length_cons] at this
    omega
  have hk : (decide (x.length < (Str.ofString "\r\n").length) || decide (PySem.Builtin.Str.strKind x < PySem.Builtin.Str.strKind (Str.ofString "\r\n"))) = false := by
    have h1 : (Str.ofString "\r\n").length = 2 := rfl
    have h2 : PySem.Builtin.Str.strKind (Str.ofString "\r\n") = 1 := by decide +kernel
    have h3 : 1 ≤ PySem.Builtin.Str.strKind x := by unfold PySem.Builtin.Str.strKind; split <;> (try split) <;> omega
    rw [h1, h2]
    simp; omega
  have hsp : Txt.split x (Str.ofString "\r\n") = partsBetween x (occurrences x (Str.ofString "\r\n") 0 x.length (x.length + 1)) (Str.ofString "\r\n").length := by
    unfold Txt.split
    rw [if_neg (by rw [hk]; exact Bool.false_ne_true), if_neg (by rw [hne]; exact Bool.false_ne_true)]
  refine ⟨?_, hne, hsp⟩
  rw [hsp, partsBetween_eq, hocc]
  have := parts_lines (x := x) (m :: ls) l 0 h (by rw [List.drop_zero, e]) (Nat.zero_le _)
  rw [List.drop_zero] at this
  exact this
theorem replace_lines {x z : Str} {l m : List Nat} {ls : List (List Nat)} (h : ∀ q ∈ l :: m :: ls, Lined q) (e : x.cps.toList = jl [13, 10] (l :: m :: ls)) :
    (Txt.replace x (Str.ofString "\r\n") z).cps.toList = jl z.cps.toList (l :: m :: ls) := by
  obtain ⟨h1, h2, h3⟩ := split_lines h e
  unfold Txt.replace
  rw [h2, if_neg (by simp [show ((Str.ofString "\r\n").length == 0) = false from rfl]), ← h3]
  show (Txt.join z (Txt.split x (Str.ofString "\r\n"))).cps.toList = _
  rw [txtJoin_jl, h1]
end
noncomputable def lns (rows : List (Str × Str)) : List (List Nat) := rows.map (fun r => (rowText r).cps.toList) ++ [[], []]
theorem lns_eq (rows : List (Str × Str)) : (rows.map rowText ++ [Str.ofString "", Str.ofString ""]).map (fun p => p.cps.toList) = lns rows := by
  unfold lns; rw [List.map_append, List.map_map]; rfl
theorem strT_jl (rows : List (Str × Str)) : (strT rows).cps.toList = jl [13, 10] (lns rows) := by
  unfold strT; rw [txtJoin_jl, lns_eq]; rfl
theorem lns_two (rows : List (Str × Str)) : ∃ l m ls, lns rows = l :: m :: ls := by
  unfold lns
  cases rows with
  | nil => exact ⟨_, _, _, rfl⟩
  | cons r rs =>
    cases rs with
    | nil => exact ⟨_, _, _, rfl⟩
    | cons q qs => exact ⟨_, _, _, rfl⟩
def RowCh (r : Str × Str) : Prop := (∀ c ∈ r.1.cps, nameCh c) ∧ ∀ c ∈ r.2.cps, c = 9
theorem row_list (r : Str × Str) : (rowText r).cps.toList = r.1.cps.toList ++ 58 :: 32 :: r.2.cps.toList := by
  show (r.1.cps ++ (Str.ofString ": ").cps ++ r.2.cps).toList = _
  rw [Array.toList_append, Array.toList_append, List.append_assoc]; rfl
theorem row_lined {r : Str × Str} (h : RowCh r) : Lined (rowText r).cps.toList := by
  rw [row_list]
  intro c hc
  rcases List.mem_append.mp hc with hc | hc
  · have := h.1 c (Array.mem_toList_iff.mp hc)
    unfold nameCh at this
    omega
  · rcases List.mem_cons.mp hc with rfl | hc
    · omega
    rcases List.mem_cons.mp hc with rfl | hc
    · omega
    have := h.2 c (Array.mem_toList_iff.mp hc)
    omega
theorem lns_lined {rows : List (Str × Str)} (h : ∀ r ∈ rows, RowCh r) : ∀ l ∈ lns rows, Lined l := by
  intro l hl
  rcases List.mem_append.mp hl with hl | hl
  · obtain ⟨r, hr, rfl⟩ := List.mem_map.mp hl
    exact row_lined (h r hr)
  · intro c hc
    rcases List.mem_cons.mp hl with rfl | hl
    · cases hc
    · rw [List.mem_singleton.mp hl] at hc; cases hc
theorem dot_row (r : Str × Str) : (rowText (dotName r.1, r.2)).cps.toList = dotLine (rowText r).cps.toList := by
  rw [row_list, row_list]
  show (dotLine r.1.cps.toList).toArray.toList ++ _ = _
  rw [List.toList_toArray]
  cases hx : r.1.cps.toList with
  | nil => rfl
  | cons c l =>
    rw [List.cons_append, dotLine, dotLine]
    by_cases e : c = 46
    · rw [if_pos e, if_pos e]; rfl
    · rw [if_neg e, if_neg e]; rfl
theorem lns_quoted (rows : List (Str × Str)) : lns (quoted rows) = (lns rows).map dotLine := by
  unfold lns quoted
  rw [List.map_append, List.map_map, List.map_map]
  congr 1
  apply List.map_congr_left
  intro r _
  exact dot_row r
theorem jl_head {e : List Nat} {m : List Nat} {r : List (List Nat)} (he : e = [13]) (hm : Lined m) : (jl e (m :: r)).head? ≠ some 10 := by
  subst he
  cases m with
  | nil =>
    cases r with
    | nil => intro q; cases q
    | cons a b => intro q; cases q
  | cons c m =>
    have h1 := hm c (.head _)
    have : (jl [13] ((c :: m) :: r)).head? = some c := by cases r <;> rfl
    rw [this]
    intro q
    exact h1.1 (Option.some.inj q)
theorem nl_jl {e : List Nat} (he : e = [10] ∨ e = [13] ∨ e = [13, 10]) : ∀ ls : List (List Nat), (∀ l ∈ ls, Lined l) → nlList (jl e ls) = jl [13, 10] ls
  | [], _ => rfl
  | [x], h => by
    have := nlList_line (h x (.head _)) []
    rw [List.append_nil] at this
    show nlList x = x
    rw [this]; exact List.append_nil _
  | x :: y :: r, h => by
    have ih := nl_jl he (y :: r) fun l hl => h l (.tail _ hl)
    show nlList (x ++ e ++ jl e (y :: r)) = x ++ [13, 10] ++ jl [13, 10] (y :: r)
    rw [List.append_assoc, nlList_line (h x (.head _)), List.append_assoc]
    congr 1
    rcases he with he | he | he
    · rw [he] at ih ⊢
      show nlList (10 :: jl [10] (y :: r)) = 13 :: 10 :: jl [13, 10] (y :: r)
      rw [nlList_one (.inl rfl) (fun q => by cases q), ih]
    · have hh := jl_head (r := r) he (h y (.tail _ (.head _)))
      rw [he] at ih hh ⊢
      show nlList (13 :: jl [13] (y :: r)) = 13 :: 10 :: jl [13, 10] (y :: r)
      rw [nlList_one (.inr rfl) (fun _ => hh), ih]
    · rw [he] at ih ⊢
      show nlList (13 :: 10 :: jl [13, 10] (y :: r)) = 13 :: 10 :: jl [13, 10] (y :: r)
      rw [nlList_two, ih]
theorem dot_sep {b : Bool} {s : List Nat} : dotList b (13 :: 10 :: s) = 13 :: 10 :: dotList true s := by
  rw [dotList_plain (by simp), dotList_plain (by simp)]; rfl
theorem dot_jl : ∀ ls : List (List Nat), (∀ l ∈ ls, Lined l) → dotList true (jl [13, 10] ls) = jl [13, 10] (ls.map dotLine)
  | [], _ => rfl
  | [x], h => by
    show dotList true x = dotLine x
    by_cases hn : x = []
    · rw [hn]; rfl
    · have := dotList_head (h x (.head _)) hn []
      rw [List.append_nil] at this
      rw [this, show dotList false [] = [] from rfl, List.append_nil]
  | x :: y :: r, h => by
    have ih := dot_jl (y :: r) fun l hl => h l (.tail _ hl)
    show dotList true (x ++ [13, 10] ++ jl [13, 10] (y :: r)) = dotLine x ++ [13, 10] ++ jl [13, 10] ((y :: r).map dotLine)
    rw [List.append_assoc, List.append_assoc]
    by_cases hn : x = []
    · rw [hn]
      show dotList true (13 :: 10 :: jl [13, 10] (y :: r)) = _
      rw [dot_sep, ih]; rfl
    · rw [dotList_head (h x (.head _)) hn]
      congr 1
      show dotList false (13 :: 10 :: jl [13, 10] (y :: r)) = _
      rw [dot_sep, ih]; rfl
theorem end_list {f : Nat} (hf : f < 3) : (endOf f).cps.toList = [10] ∨ (endOf f).cps.toList = [13] ∨ (endOf f).cps.toList = [13, 10] := by
  match f, hf with
  | 0, _ => exact .inl rfl
  | 1, _ => exact .inr (.inl rfl)
  | 2, _ => exact .inr (.inr rfl)
section
variable {rows : List (Str × Str)} (h : ∀ r ∈ rows, RowCh r) {f : Nat} (hf : f < 3)
include h hf
theorem page_list : (Txt.replace (strT rows) (Str.ofString "\r\n") (endOf f)).cps.toList = jl (endOf f).cps.toList (lns rows) := by
  obtain ⟨l, m, ls, e⟩ := lns_two rows
  have hl := lns_lined h
  rw [e] at hl ⊢
  exact replace_lines hl (by rw [strT_jl, e])
theorem page_nl : nlList (Txt.replace (strT rows) (Str.ofString "\r\n") (endOf f)).cps.toList = jl [13, 10] (lns rows) := by
  rw [page_list h hf, nl_jl (end_list hf) _ (lns_lined h)]
theorem page_quote : quoteT (Txt.replace (strT rows) (Str.ofString "\r\n") (endOf f)) = strT (quoted rows) := by
  rw [quoteT_eq, page_nl h hf, dot_jl _ (lns_lined h), ← lns_quoted, ← strT_jl]
end
theorem dotName_list (x : Str) : (dotName x).cps.toList = dotLine x.cps.toList := by
  show (dotLine x.cps.toList).toArray.toList = _
  rw [List.toList_toArray]
theorem dotLine_mem {l : List Nat} {c : Nat} (h : c ∈ dotLine l) : c ∈ l := by
  cases l with
  | nil => exact h
  | cons d l =>
    rw [dotLine] at h
    split at h
    · rename_i e
      rcases List.mem_cons.mp h with rfl | h
      · rw [e]; exact .head _
      · rw [e]; exact h
    · exact h
theorem dotLine_len (l : List Nat) : (dotLine l).length ≤ l.length + 1 := by
  cases l with
  | nil => exact Nat.zero_le _
  | cons d l => rw [dotLine]; split <;> simp
theorem quoted_ch {rows : List (Str × Str)} (h : ∀ r ∈ rows, RowCh r) : ∀ r ∈ quoted rows, RowCh r := by
  intro r hr
  obtain ⟨q, hq, rfl⟩ := List.mem_map.mp hr
  refine ⟨fun c hc => (h q hq).1 c ?_, (h q hq).2⟩
  have := Array.mem_toList_iff.mpr hc
  rw [dotName_list] at this
  exact Array.mem_toList_iff.mp (dotLine_mem this)
theorem map_inj {α β : Type} {f : α → β} (hf : ∀ a b, f a = f b → a = b) : ∀ {l m : List α}, l.map f = m.map f → l = m
  | [], [], _ => rfl
  | [], _ :: _, h => by simp at h
  | _ :: _, [], h => by simp at h
  | a :: l, b :: m, h => by
    simp only [List.map_cons, List.cons.injEq] at h
    rw [hf _ _ h.1, map_inj hf h.2]
theorem split_quoted {rows : List (Str × Str)} (h : ∀ r ∈ rows, RowCh r) {f : Nat} (hf : f < 3) :
    Txt.split (quoteT (Txt.replace (strT rows) (Str.ofString "\r\n") (endOf f))) (Str.ofString "\r\n") = (quoted rows).map rowText ++ [Str.ofString "", Str.ofString ""] := by
  rw [page_quote h hf]
  obtain ⟨l, m, ls, e⟩ := lns_two (quoted rows)
  have hl := lns_lined (quoted_ch h)
  rw [e] at hl
  have := (split_lines hl (by rw [strT_jl, e])).1
  rw [← e, ← lns_eq] at this
  refine map_inj (fun a b q => ?_) this
  exact PySem.Str.ext' (Array.toList_inj.mp q)
theorem tabs_list (i : Nat) : (tabs i).cps.toList = List.replicate i 9 := by
  unfold tabs
  rw [show Str.ofString "\t" = ⟨#[9]⟩ from rfl, mul_one_list]
  rfl
theorem tabs_ok (i : Nat) : (tabs i).cps.size ≤ i ∧ ∀ c ∈ (tabs i).cps, c = 9 := by
  have h := tabs_list i
  refine ⟨?_, fun c hc => ?_⟩
  · rw [← Array.length_toList, h, List.length_replicate]; exact Nat.le_refl _
  · have := Array.mem_toList_iff.mpr hc
    rw [h] at this
    exact (List.mem_replicate.mp this).2
theorem RowsOk.ch {i : Nat} {rows : List (Str × Str)} (h : RowsOk i rows) : ∀ r ∈ rows, RowCh r := fun r hr => ⟨(h.2 r hr).1.2, (h.2 r hr).2.2⟩
theorem dotName_size (x : Str) : (dotName x).cps.size ≤ x.cps.size + 1 := by
  rw [← Array.length_toList, dotName_list, ← Array.length_toList]
  exact dotLine_len _
theorem quoted_ok {i : Nat} {rows : List (Str × Str)} (h : RowsOk i rows) : RowsOk (i + 1) (quoted rows) := by
  refine ⟨by unfold quoted; rw [List.length_map]; have := h.1; omega, fun r hr => ?_⟩
  have hc := quoted_ch h.ch r hr
  obtain ⟨q, hq, rfl⟩ := List.mem_map.mp hr
  have h1 := (h.2 q hq).1.1
  have h2 := (h.2 q hq).2.1
  have h3 := dotName_size q.1
  exact ⟨⟨by show (dotName q.1).cps.size ≤ _; omega, hc.1⟩, ⟨by show q.2.cps.size ≤ _; omega, hc.2⟩⟩
theorem quoted_row {i : Nat} {rows : List (Str × Str)} (h : RowsOk i rows) (hi : i ≤ 20) : ∀ q ∈ quoted rows, RowOk q := fun q hq => by
  have := (quoted_ok h).2 q hq
  exact ⟨⟨by omega, this.1.2⟩, ⟨by omega, this.2.2⟩⟩
theorem quoted_short {i : Nat} {rows : List (Str × Str)} (h : RowsOk i rows) (hi : i ≤ 20) : ∀ q ∈ quoted rows, (rowText q).length ≤ sizeLine := fun q hq => by
  have := (quoted_ok h).2 q hq
  have h1 : q.1.length = q.1.cps.size := rfl
  have h2 : q.2.length = q.2.cps.size := rfl
  rw [rowText_len, sizeLine_eq]; omega
theorem quoted_58 {rows : List (Str × Str)} (h : ∀ r ∈ rows, RowCh r) : ∀ q ∈ quoted rows, ∀ c ∈ q.1.cps, c ≠ 58 := fun q hq c hc => by
  have := (quoted_ch h q hq).1 c hc
  unfold nameCh at this
  omega
theorem lns_short {i : Nat} {rows : List (Str × Str)} (h : RowsOk i rows) : ∀ l ∈ lns rows, l.length ≤ 2 * i + 6 := by
  intro l hl
  rcases List.mem_append.mp hl with hl | hl
  · obtain ⟨r, hr, rfl⟩ := List.mem_map.mp hl
    have h1 := (h.2 r hr).1.1
    have h2 := (h.2 r hr).2.1
    rw [row_list]
    simp only [List.length_append, List.length_cons, Array.length_toList]
    omega
  · rcases List.mem_cons.mp hl with rfl | hl
    · exact Nat.zero_le _
    · rw [List.mem_singleton.mp hl]; exact Nat.zero_le _
theorem jl_short {i : Nat} {rows : List (Str × Str)} (h : RowsOk i rows) (hi : i ≤ 10) {e : List Nat} (he : e.length ≤ 2) : (jl e (lns rows)).length ≤ 400 := by
  have h1 := jl_len e (B := 2 * i + 6) _ (lns_short h)
  have h2 : (lns rows).length = rows.length + 2 := by unfold lns; simp
  have h3 := h.1
  rw [h2] at h1
  have h4 : (rows.length + 2) * (2 * i + 6 + e.length) ≤ 12 * 28 := Nat.mul_le_mul (by omega) (by omega)
  omega
theorem end_len {f : Nat} (hf : f < 3) : (endOf f).cps.toList.length ≤ 2 := by
  rcases end_list hf with e | e | e <;> rw [e] <;> simp
section
variable {i : Nat} {rows : List (Str × Str)} (h : RowsOk i rows) (hi : i ≤ 10) {f : Nat} (hf : f < 3)
include h hi hf
theorem size_replace : (strT rows).length + ((strT rows).length + 1) * (endOf f).length ≤ 16777216 := by
  have h1 : (strT rows).length ≤ 400 := by
    show (strT rows).cps.size ≤ _
    rw [← Array.length_toList, strT_jl]; exact jl_short h hi (by simp)
  have h2 : (endOf f).length ≤ 2 := by show (endOf f).cps.size ≤ 2; rw [← Array.length_toList]; exact end_len hf
  have h3 : ((strT rows).length + 1) * (endOf f).length ≤ 401 * 2 := Nat.mul_le_mul (by omega) h2
  omega
theorem size_page : (Txt.replace (strT rows) (Str.ofString "\r\n") (endOf f)).cps.size ≤ 1000 := by
  rw [← Array.length_toList, page_list h.ch hf]
  have := jl_short h hi (end_len hf)
  omega
theorem size_nl : (subAll (Txt.replace (strT rows) (Str.ofString "\r\n") (endOf f)) (Str.ofString "\r\n") (nlFnd (Txt.replace (strT rows) (Str.ofString "\r\n") (endOf f)).cps)).cps.size ≤ 10000 := by
  rw [subNl_eq, page_nl h.ch hf]
  show (jl [13, 10] (lns rows)).toArray.size ≤ _
  rw [List.size_toArray]
  have := jl_short h hi (e := [13, 10]) (by simp)
  omega
theorem size_quote : (quoteT (Txt.replace (strT rows) (Str.ofString "\r\n") (endOf f))).length ≤ 10000 := by
  rw [page_quote h.ch hf]
  show (strT (quoted rows)).cps.size ≤ _
  rw [← Array.length_toList, strT_jl]
  have h1 := jl_len [13, 10] (B := 2 * (i + 1) + 6) _ (lns_short (quoted_ok h))
  have h2 : (lns (quoted rows)).length = rows.length + 2 := by unfold lns quoted; simp
  have h3 := h.1
  rw [h2] at h1
  have h4 : (rows.length + 2) * (2 * (i + 1) + 6 + ([13, 10] : List Nat).length) ≤ 12 * 30 := Nat.mul_le_mul (by omega) (by simp; omega)
  omega
end
section
open PySem PySem.Builtin PySem.Builtin.Str PySem.StrLaws
theorem part_row {nm v : Str} (h : ∀ c ∈ nm.cps, c ≠ 58) : (Txt.partition (rowText (nm, v)) (Str.ofString ": ")).1 = nm ∧ (Txt.partition (rowText (nm, v)) (Str.ofString ": ")).2.1 = Str.ofString ": " ∧ (Txt.partition (rowText (nm, v)) (Str.ofString ": ")).2.2 = v := by
  have hx : (rowText (nm, v)).cps.toList = nm.cps.toList ++ 58 :: 32 :: v.cps.toList := row_list _
  have hlen : (rowText (nm, v)).length = nm.length + 2 + v.length := rowText_len _
  have hy : (Str.ofString ": ").length = 2 := rfl
  have hyl : (Str.ofString ": ").cps.toList = [58, 32] := rfl
  have hat : At (rowText (nm, v)) (Str.ofString ": ") (rowText (nm, v)).length nm.length := by
    refine ⟨by rw [hlen, hy]; omega, ?_⟩
    rw [subAt_eq, hy, hyl, hx]
    have : nm.length = nm.cps.toList.length := by simp [Str.length]
    rw [this, List.drop_left]
    rfl
  have hno : ∀ k, k < nm.length → ¬ At (rowText (nm, v)) (Str.ofString ": ") (rowText (nm, v)).length k := fun k hk q => by
    have q2 := q.2
    rw [subAt_eq, hy, hyl, hx] at q2
    have q3 := eq_of_beq q2
    have hk' : k < nm.cps.toList.length := by simpa [Str.length] using hk
    rw [List.drop_append_of_le_length (by omega), List.drop_eq_getElem_cons hk'] at q3
    rw [List.cons_append, List.take_succ_cons] at q3
    have q4 := (List.cons.inj q3).1
    exact h _ (Array.mem_toList_iff.mp (List.getElem_mem hk')) q4
  have hsl : nm.length = nm.cps.toList.length := by simp [Str.length]
  rcases occ_head (rowText (nm, v)) (Str.ofString ": ") 1 (Nat.le_refl _) with ⟨_, hn⟩ | ⟨i, r, e, ha, hn⟩
  · exact absurd hat (hn _)
  · have hi : i = nm.length := by
      rcases Nat.lt_trichotomy i nm.length with q | q | q
      · exact absurd ha (hno i q)
      · exact q
      · exact absurd hat (hn _ q)
    subst hi
    unfold Txt.partition
    rw [e]
    refine ⟨?_, rfl, ?_⟩
    · show strSub (rowText (nm, v)) 0 nm.length = nm
      apply Str.ext'
      apply Array.toList_inj.mp
      rw [strSub_toList, hx, List.drop_zero, Nat.sub_zero, hsl, List.take_left]
    · show strSub (rowText (nm, v)) (nm.length + (Str.ofString ": ").length) (rowText (nm, v)).length = v
      apply Str.ext'
      apply Array.toList_inj.mp
      rw [strSub_toList, hx, hlen, hy, ← List.drop_drop, hsl, List.drop_left]
      show (v.cps.toList).take _ = _
      exact List.take_of_length_le (by simp [Str.length])
end
end
section
theorem at_MRun : True := by
  w_top off
  k_with_none
  k_with "my side" => first | assumption | exact rfl | ((try simp only [depth_under_make, depth_under_kw, depth_in1, depth_deeper, depth_caller, units_in1, units_deeper, Around.mark_units, units_caller] at *); (try dsimp only [Around.deeper, Around.in1] at *); omega)
  k_with "my after" => ((rename (∀ _ _, _ → _) => zq_hkk); (have zq_F' := Fr.keeps' (by assumption) zq_hkk); (have zq_N' := News.keeps' (by assumption) zq_hkk); (try dsimp only); (try k_sweep); (try k_fold))
  k_with "exec For Name Call cons nil" => (k_here; (with_reducible show wpAny _ _ (exec (Stmt.For _ _ _ [] _) _) _ _ _); k_dflt (refine For_M (by assumption) ?_ (by intro _; rfl)))
  k_with "exec For Tuple Name cons nil" => (k_here; (with_reducible show wpAny _ _ (exec (Stmt.For _ _ _ [] _) _) _ _ _); k_dflt (refine For_M (by assumption) ?_ (by intro _; rfl)))
  k_with "exec For Name Subscript cons nil" => (k_here; (with_reducible show wpAny _ _ (exec (Stmt.For _ _ _ [] _) _) _ _ _); k_dflt (refine For_M (by assumption) ?_ (by intro _; rfl)))
  k_with "exec For Tuple Call cons nil" => (k_here; (with_reducible show wpAny _ _ (exec (Stmt.For _ _ _ [] _) _) _ _ _); k_dflt (refine For_M (by assumption) ?_ (by intro _; rfl)))
  k_with "subscriptTail Name Name ref int" => (k_here; (with_reducible show wpAny _ _ (subscriptTail _ _ (Value.ref _) (Value.int _ _)) _ _ _); k_dflt (refine' sub_at (by is_list) (by assumption) (by omega) ?_ (by with_unfolding_all rfl)))
  k_with "call builtin:len" => (k_here; (with_reducible show wpAny _ _ (PySem.call (Value.builtin "len") [Value.ref _]) _ _ _); k_dflt (refine' len_at (by is_list) (by assumption) (by omega) ?_); intro zq_t' zq_k')
  k_with "binaryOp Add ref ref" => (k_here; k_dflt (refine' add_at (by k_asm) (by k_asm) (by is_list) (by is_list) (by ((try simp only [List.length_cons, List.length_nil]); omega)) ?_; k_whole); intro zq_h' zq_d' zq_F' zq_N' zq_l1 zq_f1; (try simp only [AllLt] at zq_l1); (try k_sweep))
  k_with "subscriptTail Name UnaryOp ref int" => (k_here; (with_reducible show wpAny _ _ (subscriptTail _ _ (Value.ref _) (Value.int _ _)) _ _ _); k_dflt (refine' sub_last (by is_list) (by assumption) (by omega) ?_ (by with_unfolding_all rfl)))
  k_with "subscriptTail Name Subscript ref int" => (k_here; (with_reducible show wpAny _ _ (subscriptTail _ _ (Value.ref _) (Value.int _ _)) _ _ _); k_dflt (refine' sub_at (by is_list) (by assumption) (by omega) ?_ (by with_unfolding_all rfl)))
  k_with "call type:str" => (k_here; (with_reducible show wpAny _ _ (PySem.call (Value.type "str") [Value.ref _]) _ _ _); k_dflt (refine' kso_call (K := Mine.hd.heap_39 _) (f := 171) (by walk_at "my side") (by exact Frag.In.keeps (by assumption) (Fr.keep (by assumption))) (by k_inst) (by k_is) (by k_is) ?_; k_whole))
  k_with "Hid" => (refine Hid.use (by with_reducible assumption) ?_; try dsimp only)
  k_with "execs cons" => (k_here; (with_reducible refine execs_kont ?_); intro zq_R zq_hR; try dsimp only)
  k_with "eval ListComp" => (k_here; k_dflt (refine Comp_M (cl := []) (by assumption) (by rfl) (by decide) (by rfl) (by decide) ?_ (by intro _; rfl)))
  k_with "eval Name" => (k_here; (with_reducible show wpAny _ _ (eval (PySem.Expr.Name _ _) (compEnvC _ _ _ _)) _ _ _); k_dflt (refine' nameM_L (by assumption) (by exact rfl) ?_ (by exact rfl) (by exact rfl) (by decide)))
  k_with "eval Name" => (k_here; (with_reducible show wpAny _ _ (eval (PySem.Expr.Name _ _) (compEnvC _ _ _ _)) _ _ _); k_dflt (refine' nameM_C (by assumption) (by exact rfl) (by assumption) (by assumption) ?_ (by exact rfl) (by exact rfl) (by decide)))
  k_with "eval Name" => (k_here; (with_reducible show wpAny _ _ (eval (PySem.Expr.Name _ _) (compEnvC _ _ _ _)) _ _ _); k_dflt (refine' nameM_B (by assumption) (by assumption) (by k_asm) (by k_is) (by boot_fast) (by decide) ?_ (by exact rfl) (by exact rfl) (by exact rfl) (by exact rfl) (by decide)))
  k_with "storeName" => (k_here; (with_reducible show wpAny _ _ (storeName (compEnvC _ _ _ _) _ _) _ _ _); k_dflt (refine' storeM_L (by assumption) (by assumption) ?_ (by exact rfl) (by exact rfl)); intro zq_h' zq_F' zq_N'; (try k_sweep))
  k_with "forIn" => (k_here; (with_reducible show wpAny _ _ (testsOf [] _) _ _ _); refine tests_none ?_; (first | (refine ite_pos rfl ?_) | skip))
  k_with "forIn" => (k_here; (with_reducible show wpAny _ _ (testsOf [_] _) _ _ _); refine tests_two ?_)
  k_with "exec Assign cons ListComp" => (k_here; k_dflt (refine' Comp_MA (by assumption) (by with_unfolding_all rfl) (by with_unfolding_all exact rfl) (by decide) (by rfl) (by decide) (by rfl) (by rfl) ?_ (by (intro _; rfl))))
  k_with "exec For Name Call cons nil" => (k_here; (with_reducible show wpAny _ _ (exec (Stmt.For _ _ _ [] _) _) _ _ _); k_dflt (refine For_MT (by assumption) ?_ (by intro _; rfl)))
  k_with "call builtin:str.split" => (k_here; (with_reducible show wpAny _ _ (call (Value.builtin "str.split") _) _ _ _); k_dflt (refine' KSpl.split1 (by k_asm) (by k_asm) (by decide) ?_ (by (rw [sizeLine_eq]; omega))); intro zq_D' zq_l' zq_h' zq_k' zq_e' zq_a' zq_F' zq_N' zq_l1; (try k_lt zq_l1); (try k_sweep))
  k_with "call builtin:str.partition" => (k_here; (with_reducible show wpAny _ _ (call (Value.builtin "str.partition") [Value.str _ _, Value.str _ _]) _ _ _); (refine KXpa.partition (by k_asm) (by k_asm) (by decide) (by assumption) (by assumption) (by assumption) (by assumption) ?_); intro zq_D' _ _ _ _ _ zq_F' zq_N' zq_l1; (try k_lt zq_l1); (try k_sweep))
  k_with "subscriptTail Name Slice ref ref" => (k_here; (with_reducible show wpAny _ _ (subscriptTail _ (PySem.Expr.Slice none (some _) none _) _ _) _ _ _); k_dflt (refine' slice_m2 (s := ⟨_, _, _, _, _⟩) (by k_asm) (by k_asm) (by is_list) (by exact split_small (by assumption) (by assumption)) ?_ (by with_unfolding_all rfl) (by (intro _; with_unfolding_all rfl)); k_whole); intro zq_h' zq_d' zq_F' zq_N' zq_l1 zq_f1; (try simp only [AllLt] at zq_l1); (try k_sweep))
  trivial



local macro_rules | `(tactic| k_all) => `(tactic| exact sat_off (by simp))
local macro_rules | `(tactic| k_mem) => `(tactic| assumption)
local macro_rules | `(tactic| is_list) => `(tactic| exact News.isList (by assumption) (by k_mem))
theorem pick_m2 (vs : List Value) : slicePick vs.toArray none (some (-2)) none = (vs.take (vs.length - 2)).toArray := by
  rw [slicePick_plain]
  have e : clipAt vs.toArray.size (-2) = vs.length - 2 := by
    unfold clipAt
    rw [List.size_toArray]
    split <;> omega
  simp only [Option.elim, e, List.drop_zero, Nat.sub_zero]
section
variable {prog : Program} {w : World} {A : Around} {E : Value → Shared → Prop} {s : Shared} {h₀ : PySem.Heap} {L : Addr} {m : Str → Option Value} {news : List (Addr × Obj)}
theorem slice_m2 {value slice : PySem.Expr} {l : Addr} {vs : List Value} {t : Tok} {Q : Value → Shared → Prop} (F : Fr h₀ L s.heap m) (N : News h₀ L s.heap news) (hl : s.heap.IsList l vs.toArray) (hz : vs.length ≤ 100000)
    (h : ∀ h' d, Fr h₀ L h' m → News h₀ L h' ((d, listOf (vs.take (vs.length - 2)).toArray 0) :: news) → AllLt d news → s.heap.get? d = none → Q (.ref d) { s with heap := h' })
    (hs : subscripted slice false (.ref l) (.ref s.heap.objs.size) = operate [.ref s.heap.objs.size, .ref l] (getItem (.ref l) (.ref s.heap.objs.size)) := by with_unfolding_all rfl)
    (ht : ∀ r, letTemporaryGo value (.ref l) r = pure () := by intro _; with_unfolding_all rfl) :
    wpAny (model prog w) A (subscriptTail value slice (.ref l) (.ref s.heap.objs.size)) Q E { s with heap := s.heap.push { cls := .type "slice", data := .fields #[.none, .int (-2) t, .none] } } := by
  refine slice_list F N hl .none (.int _ _) (fun h' F' N' => ?_) hs ht (by rw [List.size_toArray, sizeLine_eq]; omega)
  rw [pick_m2] at N'
  exact h h' _ F' N' (allLt_of fun p hp => Nat.lt_succ_of_lt (Heap.lt_size (N p hp).1)) (Heap.get?_none_of_le (Nat.le_succ _))
end
inductive PartAt (K : Know) (v : Value) (r : Str × Str) : Prop
  | mk (a) (t) (x) (u) (n) (w0 : v = .ref a) (w1 : K a (tupObj [.str r.1 t, x, .str r.2 u] n)) : PartAt K v r
theorem PartAt.mono {K K' : Know} (hk : ∀ a o, stable o = true → K a o → K' a o) {v : Value} {r : Str × Str} (h : PartAt K v r) : PartAt K' v r := by
  obtain ⟨a, t, x, u, n, e, z⟩ := h; exact ⟨a, t, x, u, n, e, hk _ _ rfl z⟩
theorem split_small {l : List (Str × Tok)} {xs : List Str} (e : l.map (·.1) = xs) (h : xs.length ≤ 100000) : (strValues l).length ≤ 100000 := by
  have : (strValues l).length = xs.length := by rw [← e, List.length_map]; unfold strValues; rw [List.length_map]
  omega
theorem part_item {l : List (Str × Tok)} {rs : List (Str × Str)} {a b : Str} (e : l.map (·.1) = rs.map rowText ++ [a, b]) {i : Nat} {v : Value} (hv : ((strValues l).take ((strValues l).length - 2))[i]? = some v) : ∃ q t, rs[i]? = some q ∧ v = .str (rowText q) t := by
  have hl : (strValues l).length = rs.length + 2 := by
    have : (strValues l).length = (l.map (·.1)).length := by unfold strValues; simp
    rw [this, e]; simp
  have hi : i < rs.length := by
    have := (List.getElem?_eq_some_iff.mp hv).1
    rw [List.length_take] at this; omega
  refine ⟨rs[i], (l[i]?.map (·.2)).getD 0, List.getElem?_eq_getElem hi, ?_⟩
  rw [List.getElem?_take_of_lt (by omega)] at hv
  unfold strValues at hv
  rw [List.getElem?_map] at hv
  cases q : l[i]? with
  | none => rw [q] at hv; cases hv
  | some p =>
    rw [q] at hv
    have e1 : (l.map (·.1))[i]? = some p.1 := by rw [List.getElem?_map, q]; rfl
    rw [e, List.getElem?_append_left (by simpa using hi), List.getElem?_map, List.getElem?_eq_getElem hi] at e1
    have e2 : rowText rs[i] = p.1 := Option.some.inj e1
    rw [e2]
    simpa using hv.symm
theorem part_len {l : List (Str × Tok)} {rs : List (Str × Str)} {a b : Str} (e : l.map (·.1) = rs.map rowText ++ [a, b]) : ((strValues l).take ((strValues l).length - 2)).length = rs.length := by
  have hl : (strValues l).length = rs.length + 2 := by
    have : (strValues l).length = (l.map (·.1)).length := by unfold strValues; simp
    rw [this, e]; simp
  rw [List.length_take]; omega
theorem PartAt.off {h₀ h : PySem.Heap} {L : Addr} {v : Value} {r : Str × Str} (x : PartAt (InSat h₀ L [] h) v r) : PartAt (Heap.At h) v r := by
  obtain ⟨a, t, y, u, n, e, z⟩ := x; exact ⟨a, t, y, u, n, e, (mem_sat.mp z).1⟩
theorem insatH {h₀ h h' : PySem.Heap} {L C D : Addr} (k : ∀ a o, a ≠ C → h.get? a = some o → h'.get? a = some o) : ∀ a o, stable o = true → InSat h₀ L [] (hideAll (hideAll h [D, C]) [L]) a o → InSat h₀ L [] (hideAll (hideAll h' [D, C]) [L]) a o := by
  intro a o _ x
  obtain ⟨e, c1, c2, c3⟩ := mem_sat.mp x
  obtain ⟨e1, n1, n2, n3⟩ := of_hide3 e
  exact mem_sat.mpr ⟨hide3 (k a o n2 e1) n1 n2 n3, c1, c2, c3⟩
theorem insatH2 {h₀ h h' : PySem.Heap} {L C D : Addr} (k : ∀ a o, a ≠ C → h.get? a = some o → h'.get? a = some o) : ∀ a o, stable o = true → InSat h₀ L [] (hideAll h [D, C]) a o → InSat h₀ L [] (hideAll h' [D, C]) a o := by
  intro a o _ x
  obtain ⟨e, c1, c2, c3⟩ := mem_sat.mp x
  have hn : a ∉ [D, C] := fun z => by rw [hideAll_none _ z] at e; cases e
  exact mem_sat.mpr ⟨hideAll_get _ (k a o (fun q => hn (by rw [q]; exact .tail _ (.head _))) (of_hideAll _ e)) hn, c1, c2, c3⟩
/-- what a comprehension's turn knows of its place -/
theorem comp_place {h₀ h9 h2 : PySem.Heap} {L D C : Addr} {m : Str → Option Value} {ys : List Value} {k2 : Nat} (F9 : Fr h₀ L h9 m) (hD : h2.get? D = some (listOf ys.toArray k2)) (hDC : D ≠ C) (hk : ∀ a o, h9.get? a = some o → h2.get? a = some o) (fD : h9.get? D = none) (fC : h9.get? C = none) :
    (D, listOf ys.toArray k2) ∈ sat h₀ C [] h2 ∧ (∃ oL, (L, oL) ∈ sat h₀ C [] h2) ∧ L ≠ C ∧ L ≠ D := by
  have hb0 : ∀ a, h9.get? a = none → h₀.get? a = none := fun a q => by
    cases z : h₀.get? a with
    | none => rfl
    | some o => have := F9.keep a o z; rw [q] at this; cases this
  obtain ⟨oL, _, _, e, _⟩ := F9.ns
  have n1 : L ≠ C := fun z => by rw [z, fC] at e; cases e
  refine ⟨mem_sat.mpr ⟨hD, hDC, by simp, hb0 D fD⟩, ⟨oL, mem_sat.mpr ⟨hk _ _ e, n1, by simp, ?_⟩⟩, n1, fun z => by rw [z, fD] at e; cases e⟩
  cases z : h₀.get? L with
  | none => rfl
  | some o => exact absurd (Nat.lt_of_lt_of_le (Heap.lt_size z) F9.above) (Nat.lt_irrefl _)
theorem unhide2 {h₀ h : PySem.Heap} {L C D : Addr} {ms : List Addr} : ∀ a o, InSat h₀ L ms (hideAll (hideAll h [D, C]) [L]) a o → InSat h₀ L ms h a o := by
  intro a o y
  obtain ⟨e, c1, c2, c3⟩ := mem_sat.mp y
  exact mem_sat.mpr ⟨(of_hide3 e).1, c1, c2, c3⟩
theorem insatH3 {h₀ h h' : PySem.Heap} {L C D : Addr} {ms : List Addr} (k : ∀ a o, a ≠ C → h.get? a = some o → h'.get? a = some o) : ∀ a o, stable o = true → InSat h₀ L ms (hideAll h [D, C]) a o → InSat h₀ L ms (hideAll h' [D, C]) a o := by
  intro a o _ x
  obtain ⟨e, c1, c2, c3⟩ := mem_sat.mp x
  have hn : a ∉ [D, C] := fun z => by rw [hideAll_none _ z] at e; cases e
  exact mem_sat.mpr ⟨hideAll_get _ (k a o (fun q => hn (by rw [q]; exact .tail _ (.head _))) (of_hideAll _ e)) hn, c1, c2, c3⟩
theorem heads_there {K : Know} {hs : List Value} {ts : List (Addr × List (Str × Str))} (h : PySem.Paired (HeadAt K) hs ts) : ∀ a ∈ ts.map (·.1), ∃ o, K a o := by
  induction h with
  | nil => intro a ha; cases ha
  | cons x _ ih =>
    intro a ha
    rcases List.mem_cons.mp ha with e | ha
    · obtain ⟨_, _, _, vs, n, g, _⟩ := x; rw [e]; exact ⟨_, g⟩
    · exact ih a ha
theorem news_keepL {h₀ h h' : PySem.Heap} {L : Addr} {ms : List Addr} {a b c d : Addr × Obj} {r : List (Addr × Obj)} (N : News h₀ L h (a :: b :: c :: d :: r)) (hk : ∀ a o, a ≠ L → h.get? a = some o → h'.get? a = some o) :
    News h₀ L h' (a :: b :: c :: d :: sat h₀ L ms h') := by
  have up : ∀ q ∈ a :: b :: c :: d :: r, h'.get? q.1 = some q.2 ∧ q.1 ≠ L ∧ h₀.get? q.1 = none := fun q hm => ⟨hk _ _ (N _ hm).2.1 (N _ hm).1, (N _ hm).2⟩
  exact List.forall_mem_cons.mpr ⟨up _ (.head _), List.forall_mem_cons.mpr ⟨up _ (.tail _ (.head _)), List.forall_mem_cons.mpr ⟨up _ (.tail _ (.tail _ (.head _))), List.forall_mem_cons.mpr ⟨up _ (.tail _ (.tail _ (.tail _ (.head _)))), news_sat⟩⟩⟩⟩
theorem in4 {a b c d e : Addr} {r : List Addr} (z : a ∈ [b, c, d, e]) : a ∈ b :: c :: d :: e :: r := by
  simp only [List.mem_cons, List.not_mem_nil, or_false] at z ⊢
  rcases z with z | z | z | z
  · exact .inl z
  · exact .inr (.inl z)
  · exact .inr (.inr (.inl z))
  · exact .inr (.inr (.inr (.inl z)))
theorem not_in3 {a b c d e : Addr} {r : List Addr} (z : a ∉ b :: c :: d :: e :: r) : a ∉ b :: c :: d :: r := by
  simp only [List.mem_cons, not_or] at z ⊢
  exact ⟨z.1, z.2.1, z.2.2.1, z.2.2.2.2⟩
theorem allLt_get {d : Addr} : ∀ {l : List (Addr × Obj)}, AllLt d l → ∀ p ∈ l, p.1 < d
  | [], _, p, hp => nomatch hp
  | q :: l, h, p, hp => by
    rcases List.mem_cons.mp hp with e | hp
    · rw [e]; exact h.1
    · exact allLt_get h.2 p hp
theorem pile_last {ps : List Value} {pile : List Int} {n : Nat} (hi : IntsAre ps pile) (hpos : 1 ≤ pile.length) (hin : ∀ p ∈ pile, 0 ≤ p ∧ p < (n : Int)) : ∃ (p : Nat) (t : Tok), ps.getLast? = some (.int (p : Int) t) ∧ (pile.getLast?.getD 0).toNat = p ∧ p < n := by
  have hl := hi.length
  obtain ⟨x, t, e, e2⟩ := IntsAre.at hi (ps.length - 1) ps[ps.length - 1] (List.getElem?_eq_getElem (by omega))
  have hm := hin x (List.mem_of_getElem? e2)
  refine ⟨x.toNat, t, ?_, ?_, by omega⟩
  · rw [List.getLast?_eq_getElem?, List.getElem?_eq_getElem (by omega), e]
    congr 2
    omega
  · rw [List.getLast?_eq_getElem?, ← hl, e2]
    rfl
theorem off_inst {h : PySem.Heap} {a b C dx : Addr} {vs : Array Value} {n : Nat} (e1 : h.get? a = some (instObj C dx)) (e2 : h.get? b = some (listOf vs n)) : a ≠ b := by
  rintro rfl; rw [e1] at e2; simp at e2
theorem off_dict {h : PySem.Heap} {a b : Addr} {es : List DictEntry} {k : Nat} {vs : Array Value} {n : Nat} (e1 : h.get? a = some (dictOf es k)) (e2 : h.get? b = some (listOf vs n)) : a ≠ b := by
  rintro rfl; rw [e1] at e2; simp at e2
theorem news_there {h₀ h : PySem.Heap} {L : Addr} {news : List (Addr × Obj)} (N : News h₀ L h news) {ms : List Addr} (hm : ∀ a ∈ ms, ∃ o, (a, o) ∈ news) : ∀ a ∈ ms, ∃ o, h.get? a = some o := fun a ha => by
  obtain ⟨o, h1⟩ := hm a ha
  exact ⟨o, (N _ h1).1⟩
theorem set_same {α : Type} : ∀ {l : List α} {p : Nat} {a : α}, l[p]? = some a → l.set p a = l
  | [], _, _, h => by simp at h
  | b :: l, 0, a, h => by simp at h; simp [h]
  | b :: l, p + 1, a, h => by simp at h; simp [set_same h]
theorem off_tup {h : PySem.Heap} {a b : Addr} {ws : List Value} {k : Nat} {vs : Array Value} {n : Nat} (e1 : h.get? a = some (tupObj ws k)) (e2 : h.get? b = some (listOf vs n)) : a ≠ b := by
  rintro rfl; rw [e1] at e2; simp at e2
theorem fresh_off {h₀ h : PySem.Heap} {L T : Addr} {m : Str → Option Value} {ms : List Addr} (F : Fr h₀ L h m) (hT : h.get? T = none) (hms : ∀ a ∈ ms, ∃ o, h.get? a = some o) : T ≠ L ∧ T ∉ ms ∧ h₀.get? T = none := by
  refine ⟨fun q => ?_, fun q => ?_, ?_⟩
  · obtain ⟨oL, _, _, e, _⟩ := F.ns; rw [q, e] at hT; cases hT
  · obtain ⟨o, e⟩ := hms T q; rw [e] at hT; cases hT
  · cases q : h₀.get? T with
    | none => rfl
    | some o => rw [F.keep T o q] at hT; cases hT
theorem rows_grown {K K' : Know} {rvs rvs' : List Value} {rows : List (Str × Str)} {nm val : Str} (hk : ∀ a vs n, K a (tupObj vs n) → K' a (tupObj vs n)) (RP : PySem.Paired (RowAt K) rvs rows)
    (hm : match getRow rows nm with | some _ => rvs' = rvs | none => ∃ T t u k, rvs' = rvs ++ [.ref T] ∧ K' T (tupObj [.str nm t, .str val u] k)) : PySem.Paired (RowAt K') rvs' (setRow rows nm val) := by
  have hold : PySem.Paired (RowAt K') rvs rows := Paired.mono (fun _ _ ⟨a, t, u, n, e, q⟩ => ⟨a, t, u, n, e, hk _ _ _ q⟩) RP
  unfold setRow
  cases hg : getRow rows nm with
  | some y => rw [hg] at hm; obtain rfl : rvs' = rvs := hm; exact hold
  | none =>
    rw [hg] at hm
    obtain ⟨T, t, u, k, rfl, q⟩ := hm
    exact Paired.snoc hold ⟨T, t, u, k, rfl, q⟩
theorem run_ok {prog : Program} {w : World} {dp un : Nat} {outer : List Env} {gd : Option (List Code)} {s : Shared} {b base : PySem.Heap} {mean : ExcName → Option Value} {mg mb : Str → Option Value} {Q E : Value → Shared → Prop}
    (hd : dp + 20 < recursionLimit) (hu : un + 200 < cLine) (hb : ∀ a o, b.get? a = some o → s.heap.get? a = some o) (Kb : Below (Around.mk none dp (some outer) gd un) base outer s.heap ∧ True) (hno : ∀ a ∈ framesOf outer, b.get? a = none)
    (X : (Mine.hd.heap_39 w.params).In b) (T : Top Mine.hd.view_39 lo mean mg mb b) {dl : Addr} {ds : List Deed} (D : DeedsAt (Heap.At (hideAll s.heap (framesOf outer))) dl ds) (TK : TokAt (hideAll s.heap (framesOf outer)) s.toks dl) (hds : ds.length = 9) (hdo : ∀ d ∈ ds, d.Ok) (hrun : ∀ i, RunOk i (runOf ds i))
    (ret : ∀ h' tk' P, (∀ a o, (hideAll s.heap (framesOf outer)).get? a = some o → h'.get? a = some o) → OutKept (framesOf outer) s.heap h' → RunAt (Fresh s.heap h') P (runOf ds 9).tabs (runOf ds 9).answers → Q (.ref P) { s with heap := h', toks := tk' }) :
    wpAny (model prog w) (Around.mk none dp (some outer) gd un) (call (.ref 209) [.ref dl]) Q E s := by
  obtain ⟨vs, n, hl, hp⟩ := D
  refine wpAny_call ?_
  refine' enterM (binds := [(Str.ofString "deeds", .ref dl)]) (framesOf outer) hb hno X T ?k6 ?k7 ?k8 ?k9 ?kB ?_ ?c2 ?c3 ?c4 ?c5
  case k6 => k_is
  case k7 => k_is
  case k8 => (first | omega | (dsimp only [Around.deeper, Around.in1]; omega))
  case k9 => first | exact BindsTo.of_eq rfl | exact binds_K (Frag.In.keeps (by assumption) (by assumption)) rfl (by k_is) rfl rfl rfl
  case kB => exact locs rfl
  case c2 => exact rfl
  case c3 => exact rfl
  case c4 => exact rfl
  case c5 => decide
  k_whole
  intro L' h₁ hL F K₁ X' T'
  have N : News (hideAll s.heap (framesOf outer)) L' h₁ (sat (hideAll s.heap (framesOf outer)) L' [] h₁) := news_sat
  have hlg : (hideAll s.heap (framesOf outer)).IsList dl vs.toArray := ⟨_, hl, rfl, _, rfl⟩
  (try dsimp only)
  k_steps
  refine wpAny_tk' ?_
  with_unfolding_all refine' new0_ok ?hd ?hu (by assumption) (by assumption) (by assumption) ?_
  case hd => walk_at "my side"
  case hu => walk_at "my side"
  intro x0 l0 h' tk' F' hk0 H0 g0 n0 htk0
  have N' : News (hideAll s.heap (framesOf outer)) L' h' (sat (hideAll s.heap (framesOf outer)) L' [] h') := news_sat
  have l0L : l0 ≠ L' := fun q => by
    obtain ⟨oL, _, _, e, _⟩ := F.ns
    rw [q] at n0
    rw [show h₁.get? L' = none from n0] at e; cases e
  have hof : ∀ a ∈ framesOf outer, ∃ o, h₁.get? a = some o := fun a ha => by
    obtain ⟨_, o2, e2, _⟩ := Kb.1.frames.mem ha
    exact ⟨o2, K₁ _ _ e2⟩
  have H0' : HdrAt (InSat (hideAll s.heap (framesOf outer)) L' (framesOf outer) h') x0 l0 := HdrAt.mono (Fresh.insat (fun a o e => K₁ a o (of_hideAll _ e)) (by obtain ⟨oL, _, _, e, _⟩ := F.ns; exact ⟨oL, e⟩) hof) H0
  have g0' : InSat (hideAll s.heap (framesOf outer)) L' (framesOf outer) h' l0 (listOf [].toArray 0) := mem_sat.mpr ⟨g0, l0L, (fun z => by obtain ⟨o2, e2⟩ := hof _ z; rw [show h₁.get? l0 = none from n0] at e2; cases e2), by
    cases z : (hideAll s.heap (framesOf outer)).get? l0 with
    | none => rfl
    | some o => have q9 := K₁ _ _ (of_hideAll _ z); rw [show h₁.get? l0 = none from n0] at q9; cases q9⟩
  have O0 : ∀ a ∈ framesOf outer, ∀ o, s.heap.get? a = some o → InSat (hideAll s.heap (framesOf outer)) L' [] h' a o := fun a ha o e => by
    have hLn : s.heap.get? L' = none := by rw [hL]; exact Heap.get?_none_of_le (Nat.le_refl _)
    have hne : a ≠ L' := fun q => by rw [q, hLn] at e; cases e
    exact mem_sat.mpr ⟨hk0 a o hne (K₁ a o e), hne, by simp, hideAll_none _ ha⟩
  clear F N hk0 H0 g0
  (try dsimp only)
  k_steps
  rename News _ _ _ _ => N9
  rename IsRange _ _ _ _ _ _ _ _ => R9
  rename Fr _ _ _ _ => F9
  obtain ⟨aa, e⟩ := name1 N9
  subst e
  obtain ⟨ap, e⟩ := name2 N9
  subst e
  obtain ⟨ah, e⟩ := name3 N9
  subst e
  have hsub : ∀ a o, (hideAll s.heap (framesOf outer)).get? a = some o → s.heap.get? a = some o := fun a o e => of_hideAll _ e
  have hLn : s.heap.get? L' = none := by rw [hL]; exact Heap.get?_none_of_le (Nat.le_refl _)
  have hLL : ∀ a o, s.heap.get? a = some o → a ≠ L' := fun a o e q => by rw [q, hLn] at e; cases e
  have hhid : ∀ a ∈ framesOf outer, (hideAll s.heap (framesOf outer)).get? a = none := fun a ha => hideAll_none _ ha
  refine iter_range_MT (r := _) (n := 9) (fun i m h => RunS (framesOf outer) (hideAll s.heap (framesOf outer)) L' dl (runOf ds i) m h ∧ OutKept (framesOf outer) s.heap h) rfl R9 (by omega) (by assumption) ?hJ ?hM ?_ ?_
  case hM =>
    intro i m h h' k ⟨j1, j2⟩
    refine ⟨j1.sk k, fun a ha o e => ?_⟩
    obtain ⟨sl, e'⟩ := j2 a ha o e
    obtain ⟨_, o2, e2, hf⟩ := Kb.1.frames.mem ha
    rw [e] at e2
    cases e2
    exact ⟨sl, k _ _ (stable_nf hf) e'⟩
  case hJ =>
    have q0 := (by assumption : ∀ p ∈ sat (hideAll s.heap (framesOf outer)) L' [] h', p.1 < ah)
    have up : ∀ a o, stable o = true → InSat (hideAll s.heap (framesOf outer)) L' (framesOf outer) h' a o → InSat (hideAll s.heap (framesOf outer)) L' (ah :: aa :: ap :: framesOf outer) _ a o := fun a o _ x => by
      have x' : InSat (hideAll s.heap (framesOf outer)) L' [] h' a o := mem_sat.mpr ⟨(mem_sat.mp x).1, (mem_sat.mp x).2.1, by simp, (mem_sat.mp x).2.2.2⟩
      have q1 : @LT.lt Nat _ a ah := q0 _ x'
      exact mem_sat.mpr ⟨(N9 _ (.tail _ (.tail _ (.tail _ x')))).1, (mem_sat.mp x).2.1, by simp only [List.mem_cons, not_or]; exact ⟨neN (by omega), neN (by omega), neN (by omega), (mem_sat.mp x).2.2.1⟩, (mem_sat.mp x).2.2.2⟩
    refine ⟨⟨ah, aa, ap, [.ref x0], [(l0, [])], [.int 0 _], [], 0, 0, 0, rfl, rfl, rfl, rfl, insat_of N9 (.tail _ (.tail _ (.head _))) (by simp), insat_of N9 (.head _) (by simp), insat_of N9 (.tail _ (.head _)) (by simp),
      .cons ⟨x0, rfl, H0'.mono up, [], 0, up _ _ rfl g0', .nil⟩ .nil, rfl, ⟨neN (by omega), neN (by omega), neN (by omega)⟩, by simp, fun a ha hf => ?_, .cons _ _ .nil, .nil⟩, fun a ha o e => ⟨o.slots, (N9 _ (.tail _ (.tail _ (.tail _ (O0 a ha o e))))).1⟩⟩
    obtain ⟨_, o2, e2, _⟩ := Kb.1.frames.mem hf
    have q1 : @LT.lt Nat _ a ah := q0 _ (O0 a hf o2 e2)
    simp only [List.map_cons, List.map_nil, List.mem_cons, List.not_mem_nil, or_false] at ha
    rcases ha with e | e | e | e
    · exact absurd e (neN (by omega))
    · exact absurd e (neN (by omega))
    · exact absurd e (neN (by omega))
    · rw [e] at e2
      have e3 := K₁ _ _ e2
      rw [show h₁.get? l0 = none from n0] at e3; cases e3
  · intro i t' m₁ h tk I hi ⟨⟨ah, aa, ap, hs, ts, ps, as, n1, n2, n3, J⟩, JO⟩ F₁ hne hI hI0 htk
    have hlv : vs.length = 9 := by rw [Paired.len hp, hds]
    obtain ⟨dv, hdv⟩ : ∃ v, vs[i]? = some v := ⟨vs[i], List.getElem?_eq_getElem (by omega)⟩
    obtain ⟨d, hdi, a, pa, nv, td, ud, nd, rfl, ha, hpa, hnv⟩ := Paired.get hp hdv
    have F₂ := Fr.say F₁ [(Str.ofString "deeds", .ref dl), (Str.ofString "heads", .ref ah), (Str.ofString "pile", .ref ap), (Str.ofString "answers", .ref aa)]
      (List.forall_mem_cons.mpr ⟨J.deeds, List.forall_mem_cons.mpr ⟨J.mh, List.forall_mem_cons.mpr ⟨J.mp, List.forall_mem_cons.mpr ⟨J.ma, fun _ h => nomatch h⟩⟩⟩⟩)
    have hT : IsTup (hideAll s.heap (framesOf outer)) a [Value.int d.kind td, Value.ref pa, nv, Value.str (endOf d.fin) ud].toArray := ⟨_, ha, rfl, _, rfl⟩
    have hud : @LT.lt Nat _ 0 ud ∧ @LT.lt Nat _ ud s.toks := by
      obtain ⟨vs', n', g', hall⟩ := TK
      have hl2 : (hideAll s.heap (framesOf outer)).get? dl = some (listOf vs.toArray n) := hl
      rw [hl2] at g'
      obtain ⟨rfl, rfl⟩ : vs = vs' ∧ n = n' := by injection g' with g'; simpa using g'
      obtain ⟨a', x1, y1, z1, e1, u1, k1, e2, g2, hu1⟩ := hall _ (List.mem_of_getElem? hdv)
      cases e2
      rw [show (hideAll s.heap (framesOf outer)).get? a = _ from ha] at g2
      simp at g2
      obtain ⟨⟨_, _, _, _, rfl⟩, _⟩ := g2
      exact hu1
    have hok := hdo d (List.mem_of_getElem? hdi)
    have hR := hrun i
    have hnx : runOf ds (i + 1) = runStep i d (runOf ds i) := by rw [runOf, hdi]
    generalize hr0 : runOf ds i = r at *
    -- the current table
    have hpl : ps.length = r.pile.length := J.ip.length
    obtain ⟨p, tp, hlast, hhere, hpt⟩ := pile_last J.ip hR.pilePos hR.pileIn
    have hsl : hs.length = ts.length := Paired.len J.hh
    have htl : ts.length = r.tabs.length := by rw [← J.ht, List.length_map]
    have hpv : hs[p]? = some hs[p] := List.getElem?_eq_getElem (by omega)
    obtain ⟨⟨l, rows⟩, htb, x, hxe, HX, rvs, rn, RL, RP⟩ := Paired.get J.hh hpv
    rw [hxe] at hpv
    have hrows : r.table = rows := by
      unfold Run.table
      have : (ts.map (·.2))[p]? = some rows := by rw [List.getElem?_map, htb]; rfl
      rw [show r.here = p from hhere, List.getD_eq_getElem?_getD, ← J.ht, this]
      rfl
    have htb' : (l, rows) ∈ ts := List.mem_of_getElem? htb
    have hRows : RowsOk i rows := hR.rows rows (by rw [← J.ht]; exact List.mem_map.mpr ⟨_, htb', rfl⟩)
    obtain ⟨nha, nhp, nap⟩ := J.ne
    have gl := mem_sat.mp RL
    obtain ⟨nhl, nal, npl⟩ : ah ≠ l ∧ aa ≠ l ∧ ap ≠ l := by
      have := gl.2.2.1
      simp only [List.mem_cons, not_or] at this
      exact ⟨Ne.symm this.1, Ne.symm this.2.1, Ne.symm this.2.2.1⟩
    have nN : @Ne Nat ah aa ∧ @Ne Nat ah ap ∧ @Ne Nat aa ap ∧ @Ne Nat ah l ∧ @Ne Nat aa l ∧ @Ne Nat ap l := ⟨nha, nhp, nap, nhl, nal, npl⟩
    have gh := mem_sat.mp J.gh
    have ga := mem_sat.mp J.ga
    have gp := mem_sat.mp J.gp
    have N₂ : News (hideAll s.heap (framesOf outer)) L' h ((ah, listOf hs.toArray n1) :: (aa, listOf as.toArray n2) :: (ap, listOf ps.toArray n3) :: (l, listOf rvs.toArray rn) :: sat (hideAll s.heap (framesOf outer)) L' [ah, aa, ap, l] h) :=
      List.forall_mem_cons.mpr ⟨⟨gh.1, gh.2.1, gh.2.2.2⟩, List.forall_mem_cons.mpr ⟨⟨ga.1, ga.2.1, ga.2.2.2⟩, List.forall_mem_cons.mpr ⟨⟨gp.1, gp.2.1, gp.2.2.2⟩, List.forall_mem_cons.mpr ⟨⟨gl.1, gl.2.1, gl.2.2.2⟩, news_sat⟩⟩⟩⟩
    have KP : Kept (hideAll s.heap (framesOf outer)) h L' [ah, aa, ap, l] := Kept.of F₁
    have KPo : Kept (hideAll s.heap (framesOf outer)) h L' (ah :: aa :: ap :: l :: framesOf outer) := Kept.of F₁
    have hfpo : ∀ b ∈ [I], b ≠ L' ∧ b ∉ ah :: aa :: ap :: l :: framesOf outer := by
      intro b hb
      rw [List.mem_singleton.mp hb]
      refine ⟨Ne.symm hne, ?_⟩
      simp only [List.mem_cons, not_or]
      refine ⟨off_list hI gh.1, off_list hI ga.1, off_list hI gp.1, off_list hI gl.1, fun hm => ?_⟩
      obtain ⟨_, o2, e2, hf⟩ := Kb.1.frames.mem hm
      obtain ⟨sl, e3⟩ := JO I hm o2 e2
      obtain ⟨o4, e4, hu4⟩ := hI
      rw [e3] at e4
      cases e4
      rw [show stable { o2 with slots := sl } = true from stable_nf hf] at hu4
      cases hu4
    have lh2 : hs.length ≤ 10 := by have := hR.tabsLen; omega
    have la2 : as.length ≤ 10 := by have := Paired.len J.oa; have := hR.ansLen; omega
    have lp2 : ps.length ≤ 10 := by have := hR.pileLen; omega
    have hp1 : p < 1000 := by omega
    have hfp : ∀ b ∈ [I], b ≠ L' ∧ b ∉ [ah, aa, ap, l] := by
      intro b hb
      rw [List.mem_singleton.mp hb]
      exact ⟨Ne.symm hne, by simp [off_list hI gh.1, off_list hI ga.1, off_list hI gp.1, off_list hI gl.1]⟩
    obtain ⟨dx, hss, htk, hx1, hx2⟩ := HX
    have mx := mem_sat.mp hx1
    have mdx := mem_sat.mp hx2
    have hxs : (x, instObj 195 dx) ∈ sat (hideAll s.heap (framesOf outer)) L' [ah, aa, ap, l] h := mem_sat.mpr ⟨mx.1, mx.2.1, by simp [off_inst mx.1 gh.1, off_inst mx.1 ga.1, off_inst mx.1 gp.1, off_inst mx.1 gl.1], mx.2.2.2⟩
    have hxd : (dx, dictOf [⟨hss, .str (Str.ofString "_headers") htk, .ref l⟩] 1) ∈ sat (hideAll s.heap (framesOf outer)) L' [ah, aa, ap, l] h := mem_sat.mpr ⟨mdx.1, mdx.2.1, by simp [off_dict mdx.1 gh.1, off_dict mdx.1 ga.1, off_dict mdx.1 gp.1, off_dict mdx.1 gl.1], mdx.2.2.2⟩
    clear N9 F₁ F9
    have hsame : ∀ h' : PySem.Heap, (∀ a o, a ≠ L' → a ∉ [ah, aa, ap, l] → h.get? a = some o → h'.get? a = some o) → h'.get? l = some (listOf rvs.toArray rn) → ∀ a o, InSat (hideAll s.heap (framesOf outer)) L' (ah :: aa :: ap :: framesOf outer) h a o → h'.get? a = some o := fun h' k e a o q => by
      obtain ⟨q1, q2, q3, q4⟩ := mem_sat.mp q
      by_cases z : a = l
      · rw [z] at q1 ⊢; rw [gl.1] at q1; cases q1; exact e
      · refine k a o q2 ?_ q1
        simp only [List.mem_cons, List.not_mem_nil, or_false, not_or] at q3 ⊢
        exact ⟨q3.1, q3.2.1, q3.2.2.1, z⟩
    have hok2 : ∀ h' : PySem.Heap, (∀ a o, a ≠ L' → a ∉ [ah, aa, ap, l] → h.get? a = some o → h'.get? a = some o) → OutKept (framesOf outer) s.heap h' := fun h' k a ha o e => by
      obtain ⟨sl, e'⟩ := JO a ha o e
      have hd' : (hideAll s.heap (framesOf outer)).get? a = none := hhid a ha
      obtain ⟨_, o2, e2, hf⟩ := Kb.1.frames.mem ha
      rw [e] at e2
      cases e2
      refine ⟨sl, k _ _ (hLL a o e) (fun z => ?_) e'⟩
      refine J.nf a ?_ ha
      simp only [List.mem_cons, List.not_mem_nil, or_false] at z ⊢
      rcases z with z | z | z | z
      · exact .inl z
      · exact .inr (.inl z)
      · exact .inr (.inr (.inl z))
      · exact .inr (.inr (.inr (by rw [z]; exact List.mem_map.mpr ⟨_, htb', rfl⟩)))
    have hos : ∀ a ∈ framesOf outer, ∃ o, (a, o) ∈ sat (hideAll s.heap (framesOf outer)) L' [ah, aa, ap, l] h := fun a ha => by
      obtain ⟨_, o2, e2, hf⟩ := Kb.1.frames.mem ha
      obtain ⟨sl, e'⟩ := JO a ha o2 e2
      refine ⟨_, mem_sat.mpr ⟨e', hLL a o2 e2, fun z => ?_, hhid a ha⟩⟩
      refine J.nf a ?_ ha
      simp only [List.mem_cons, List.not_mem_nil, or_false] at z ⊢
      rcases z with z | z | z | z
      · exact .inl z
      · exact .inr (.inl z)
      · exact .inr (.inr (.inl z))
      · exact .inr (.inr (.inr (by rw [z]; exact List.mem_map.mpr ⟨_, htb', rfl⟩)))
    have hip := J.ip
    k_steps
    · have hk0 : d.kind = 0 := by omega
      rename Fr _ _ _ _ => F9
      rename News _ _ _ _ => N9
      have hkc := KP _ _ _ F9 N9 (fun p hp => .tail _ (.tail _ (.tail _ (.tail _ hp))))
      have hrs := hsame _ hkc (N9 _ (.tail _ (.tail _ (.tail _ (.head _))))).1
      have hrl : rows.length ≤ i := hRows.1
      refine wpAny_tk' ?_
      with_unfolding_all refine' str_ok (l := l) (rows := rows) ?hd ?hu F9.keep (by assumption) (by assumption) ⟨dx, hss, htk, hrs _ _ hx1, hrs _ _ hx2⟩ ⟨rvs, rn, (N9 _ (.tail _ (.tail _ (.tail _ (.head _))))).1, Paired.mono (fun _ _ => RowAt.mono fun a o _ q => hrs a o q) RP⟩ (fun r hr => ⟨⟨by have := (hRows.2 r hr).1.1; omega, (hRows.2 r hr).1.2⟩, ⟨by have := (hRows.2 r hr).2.1; omega, (hRows.2 r hr).2.2⟩⟩) (by omega) ?_
      case hd => walk_at "my side"
      case hu => walk_at "my side"
      intro h' tk' u' hk'
      walk_at "my after"
      unfold StrBack
      (try dsimp only)
      intro htk2
      have htk3 : @LT.lt Nat _ ud tk' := by
        dsimp only at htk0 htk htk2
        omega
      have hnb : NoneBooked h' := by
        obtain ⟨mc, hmc, _⟩ := T'.nolimit
        refine ⟨mc, hmc.at' (fun o e => Fr.keep (by assumption) _ _ e), ns_none X' hmc (by k_is)⟩
      k_steps
      refine SC.replaceA (by show @Ne Nat _ _; omega) (by show @Ne Nat _ _; omega) (by show @Ne Nat _ _; omega) ?hb ?_ hnb
      case hb => exact size_replace hRows (by omega) hok.fin
      intro t5 k5
      have hq5 : (Txt.replace (strT rows) (Str.ofString "\r\n") (endOf d.fin)).cps.size ≤ 1000 := size_page hRows (by omega) hok.fin
      have hq6 : (subAll (Txt.replace (strT rows) (Str.ofString "\r\n") (endOf d.fin)) (Str.ofString "\r\n") (nlFnd (Txt.replace (strT rows) (Str.ofString "\r\n") (endOf d.fin)).cps)).cps.size ≤ 10000 := size_nl hRows (by omega) hok.fin
      k_steps
      with_unfolding_all refine' quote_ok ?hd ?hu (Fr.keep (by assumption)) (by assumption) (by assumption) hq5 hq6 ?_
      case hd => walk_at "my side"
      case hu => walk_at "my side"
      intro h' tk' u' hk'
      walk_at "my after"
      have hq7 : (quoteT (Txt.replace (strT rows) (Str.ofString "\r\n") (endOf d.fin))).length ≤ 10000 := size_quote hRows (by omega) hok.fin
      have hspl : Txt.split (quoteT (Txt.replace (strT rows) (Str.ofString "\r\n") (endOf d.fin))) (Str.ofString "\r\n") = (quoted rows).map rowText ++ [Str.ofString "", Str.ofString ""] := split_quoted hRows.ch hok.fin
      have hspn : (Txt.split (quoteT (Txt.replace (strT rows) (Str.ofString "\r\n") (endOf d.fin))) (Str.ofString "\r\n")).length ≤ 100000 := by
        rw [hspl]; simp [quoted]; omega
      k_steps
      rename News _ _ _ _ => N9
      rename Fr _ _ _ _ => F9
      rename PySem.Heap => h9
      obtain ⟨as9, e⟩ := name1 N9
      subst e
      obtain ⟨as8, e⟩ := name2 N9
      subst e
      rename List.map _ _ = Txt.split _ _ => hm8
      rw [hspl] at hm8
      have hql : (quoted rows).length = rows.length := by unfold quoted; rw [List.length_map]
      have hpl9 := part_len hm8
      have m9 := N9 _ (.head _)
      have hsf := hsame _ (KP _ _ _ F9 N9 (fun p hp => .tail _ (.tail _ (.tail _ (.tail _ (.tail _ (.tail _ hp))))))) (N9 _ (.tail _ (.tail _ (.tail _ (.tail _ (.tail _ (.head _))))))).1
      have qch : ∀ q ∈ quoted rows, ∀ c ∈ q.1.cps, c ≠ 58 := quoted_58 hRows.ch
      have qlen : ∀ q ∈ quoted rows, (rowText q).length ≤ sizeLine := quoted_short hRows (by omega)
      have qok : ∀ q ∈ quoted rows, RowOk q := quoted_row hRows (by omega)
      refine iter_list_CA (l := as9) (items := ((strValues _).take ((strValues _).length - 2)).toArray) (fun i ys h => PySem.Paired (PartAt (InSat (hideAll s.heap (framesOf outer)) L' [] h)) ys ((quoted rows).take i)) rfl ⟨_, m9.1, rfl, _, rfl⟩ (by rw [List.size_toArray, hpl9, hql]; omega) F9 .nil
        (fun i ys h h' k q => Paired.mono (fun _ _ z => PartAt.mono (InSat.sk k) z) q) ?_ ?_
      · intro j v D C I2 ys k2 s₁ h2 tk2 mC E' _ hv hJ F₁ hIt hlst hD hyl hDC hk fD fC
        obtain ⟨q, tq, hqj, rfl⟩ := part_item hm8 (by simpa using hv)
        have KP2 : Kept (hideAll s.heap (framesOf outer)) h2 C [] := Kept.of F₁
        have N₁ : News (hideAll s.heap (framesOf outer)) C h2 (sat (hideAll s.heap (framesOf outer)) C [] h2) := news_sat
        have hpr := part_row (nm := q.1) (v := q.2) (qch q (List.mem_of_getElem? hqj))
        have hp1 : (Txt.partition (rowText q) (Str.ofString ": ")).1 = q.1 := hpr.1
        have hp2 : (Txt.partition (rowText q) (Str.ofString ": ")).2.1 = Str.ofString ": " := hpr.2.1
        have hp3 : (Txt.partition (rowText q) (Str.ofString ": ")).2.2 = q.2 := hpr.2.2
        have hp4 : (rowText q).length ≤ sizeLine := qlen q (List.mem_of_getElem? hqj)
        obtain ⟨hDs, ⟨oL, hLs⟩, nLC, nLD⟩ := comp_place F9 hD hDC hk fD fC
        k_steps
        rename News _ _ _ _ => N9
        obtain ⟨T9, e⟩ := name1 N9
        subst e
        refine CEnd.of KP2 (by assumption) N9 (fun p hp => .tail _ hp) fun k => ?_
        show PySem.Paired _ _ ((quoted rows).take (j + 1))
        rw [List.take_add_one, hqj]
        rename ∀ _, _ ∈ sat _ _ _ _ → _ => l9
        have nD : T9 ≠ D := fun q => by have := l9 _ hDs; rw [q] at this; exact Nat.lt_irrefl _ this
        have nL : T9 ≠ L' := fun q => by have := l9 _ hLs; rw [q] at this; exact Nat.lt_irrefl _ this
        exact Paired.snoc (Paired.mono (fun _ _ z => PartAt.mono (insatH k) z) hJ) ⟨T9, _, _, _, _, rfl, mem_sat.mpr ⟨hide3 (N9 _ (.head _)).1 nD (N9 _ (.head _)).2.1 nL, nL, by simp, (N9 _ (.head _)).2.2⟩⟩
      · intro D C h2 tk2 ys k2 fD fC hD F2 hk2 hJ
        rw [List.size_toArray, hpl9, List.take_length] at hJ
        have hP2 : PySem.Paired (PartAt (InSat (hideAll s.heap (framesOf outer)) L' [] h2)) ys (quoted rows) := Paired.mono (fun _ _ z => PartAt.mono (fun a o _ y => unhide2 a o y) z) hJ
        have hms9 := news_there N9 (ms := ah :: aa :: ap :: l :: framesOf outer) fun a ha => by
          rcases List.mem_cons.mp ha with e | ha
          · rw [e]; exact ⟨_, .tail _ (.tail _ (.head _))⟩
          rcases List.mem_cons.mp ha with e | ha
          · rw [e]; exact ⟨_, .tail _ (.tail _ (.tail _ (.head _)))⟩
          rcases List.mem_cons.mp ha with e | ha
          · rw [e]; exact ⟨_, .tail _ (.tail _ (.tail _ (.tail _ (.head _))))⟩
          rcases List.mem_cons.mp ha with e | ha
          · rw [e]; exact ⟨_, .tail _ (.tail _ (.tail _ (.tail _ (.tail _ (.head _)))))⟩
          obtain ⟨o, hm⟩ := hos a ha
          exact ⟨o, .tail _ (.tail _ (.tail _ (.tail _ (.tail _ (.tail _ hm)))))⟩
        have hDo := fresh_off F9 fD hms9
        have hup : ∀ q ∈ sat (hideAll s.heap (framesOf outer)) L' [ah, aa, ap, l] h, q ∈ sat (hideAll s.heap (framesOf outer)) L' [ah, aa, ap, l] h2 := fun q hq =>
          mem_sat.mpr ⟨hk2 _ _ (mem_sat.mp hq).2.1 (N9 _ (.tail _ (.tail _ (.tail _ (.tail _ (.tail _ (.tail _ hq))))))).1, (mem_sat.mp hq).2⟩
        have hDm : (D, listOf ys.toArray k2) ∈ sat (hideAll s.heap (framesOf outer)) L' [ah, aa, ap, l] h2 := mem_sat.mpr ⟨hD, hDo.1, (fun z => hDo.2.1 (by
          simp only [List.mem_cons, List.not_mem_nil, or_false] at z ⊢
          rcases z with z | z | z | z
          · exact .inl z
          · exact .inr (.inl z)
          · exact .inr (.inr (.inl z))
          · exact .inr (.inr (.inr (.inl z))))), hDo.2.2⟩
        have N2 : News (hideAll s.heap (framesOf outer)) L' h2 ((ah, listOf hs.toArray n1) :: (aa, listOf as.toArray n2) :: (ap, listOf ps.toArray n3) :: (l, listOf rvs.toArray rn) :: sat (hideAll s.heap (framesOf outer)) L' [ah, aa, ap, l] h2) := by
          have up : ∀ q : Addr × Obj, q ∈ (ah, listOf hs.toArray n1) :: (aa, listOf as.toArray n2) :: (ap, listOf ps.toArray n3) :: (l, listOf rvs.toArray rn) :: sat (hideAll s.heap (framesOf outer)) L' [ah, aa, ap, l] h → h2.get? q.1 = some q.2 ∧ q.1 ≠ L' ∧ (hideAll s.heap (framesOf outer)).get? q.1 = none := fun q hm => ⟨hk2 _ _ (N9 _ (.tail _ (.tail _ hm))).2.1 (N9 _ (.tail _ (.tail _ hm))).1, (N9 _ (.tail _ (.tail _ hm))).2⟩
          exact List.forall_mem_cons.mpr ⟨up _ (.head _), List.forall_mem_cons.mpr ⟨up _ (.tail _ (.head _)), List.forall_mem_cons.mpr ⟨up _ (.tail _ (.tail _ (.head _))), List.forall_mem_cons.mpr ⟨up _ (.tail _ (.tail _ (.tail _ (.head _)))), news_sat⟩⟩⟩⟩
        have hyl2 : ys.length ≤ 20 := by rw [Paired.len hP2, hql]; omega
        have hos2 : ∀ a ∈ framesOf outer, ∃ o, (a, o) ∈ sat (hideAll s.heap (framesOf outer)) L' [ah, aa, ap, l] h2 := fun a ha => by
          obtain ⟨o, hm⟩ := hos a ha
          exact ⟨o, hup _ hm⟩
        clear F9 N9 hms9
        (try dsimp only)
        k_steps
        rename News _ _ _ _ => N9
        rename Fr _ _ _ _ => F9
        rename PySem.Heap => h3
        have hms9 := news_there N9 (ms := ah :: aa :: ap :: l :: framesOf outer) fun a ha => by
          rcases List.mem_cons.mp ha with e | ha
          · rw [e]; exact ⟨_, .head _⟩
          rcases List.mem_cons.mp ha with e | ha
          · rw [e]; exact ⟨_, .tail _ (.head _)⟩
          rcases List.mem_cons.mp ha with e | ha
          · rw [e]; exact ⟨_, .tail _ (.tail _ (.head _))⟩
          rcases List.mem_cons.mp ha with e | ha
          · rw [e]; exact ⟨_, .tail _ (.tail _ (.tail _ (.head _)))⟩
          obtain ⟨o, hm⟩ := hos2 a ha
          exact ⟨o, .tail _ (.tail _ (.tail _ (.tail _ hm)))⟩
        have hP3 : PySem.Paired (PartAt (InSat (hideAll s.heap (framesOf outer)) L' [] h3)) ys (quoted rows) := Paired.mono (fun _ _ ⟨a, t, y, u, n, e, z⟩ => ⟨a, t, y, u, n, e, by
          obtain ⟨q1, q2, _, q4⟩ := mem_sat.mp z
          refine mem_sat.mpr ⟨(N9 _ (.tail _ (.tail _ (.tail _ (.tail _ (mem_sat.mpr ⟨q1, q2, ?_, q4⟩)))))).1, q2, by simp, q4⟩
          simp only [List.mem_cons, List.not_mem_nil, or_false, not_or]
          exact ⟨off_tup q1 (N2 _ (.head _)).1, off_tup q1 (N2 _ (.tail _ (.head _))).1, off_tup q1 (N2 _ (.tail _ (.tail _ (.head _)))).1, off_tup q1 (N2 _ (.tail _ (.tail _ (.tail _ (.head _))))).1⟩⟩) hP2
        have m8 := N9 _ (.tail _ (.tail _ (.tail _ (.tail _ hDm))))
        refine iter_list_C (l := D) (items := ys.toArray) (fun i zs h => PySem.Paired (RowAt (InSat (hideAll s.heap (framesOf outer)) L' (ah :: aa :: ap :: l :: framesOf outer) h)) zs ((quoted rows).take i)) rfl ⟨_, m8.1, rfl, _, rfl⟩ (by rw [List.size_toArray]; omega) F9 .nil
          (fun i zs h h' k q => Paired.mono (fun _ _ z => RowAt.mono (InSat.sk k) z) q) ?_ ?_
        · intro j v D2 C2 I2 zs k3 s₁ h4 tk4 mC E' _ hv hJ F₁ hIt hlst hD2 hyl hDC2 hk4 fD2 fC2
          obtain ⟨q, hqj, a, t1, x1, u1, n9, rfl, ha9⟩ := Paired.get hP3 (by simpa using hv)
          have KP2 : Kept (hideAll s.heap (framesOf outer)) h4 C2 [] := Kept.of F₁
          have N₁ : News (hideAll s.heap (framesOf outer)) C2 h4 (sat (hideAll s.heap (framesOf outer)) C2 [] h4) := news_sat
          obtain ⟨hDs, ⟨oL, hLs⟩, nLC, nLD⟩ := comp_place F9 hD2 hDC2 hk4 fD2 fC2
          have fC2' : h3.get? C2 = none := fC2
          have htm : (a, tupObj [.str q.1 t1, x1, .str q.2 u1] n9) ∈ sat (hideAll s.heap (framesOf outer)) C2 [] h4 := mem_sat.mpr ⟨hk4 _ _ (mem_sat.mp ha9).1, (fun z => by have := (mem_sat.mp ha9).1; rw [z, fC2'] at this; cases this), by simp, (mem_sat.mp ha9).2.2.2⟩
          have hmsC : ∀ b ∈ ah :: aa :: ap :: l :: framesOf outer, ∃ o, (b, o) ∈ sat (hideAll s.heap (framesOf outer)) C2 [] h4 := fun b hb => by
            obtain ⟨o, ho⟩ := hms9 b hb
            refine ⟨o, mem_sat.mpr ⟨hk4 _ _ ho, (fun z => by rw [z, fC2'] at ho; cases ho), by simp, ?_⟩⟩
            rcases List.mem_cons.mp hb with e | hb
            · rw [e]; exact gh.2.2.2
            rcases List.mem_cons.mp hb with e | hb
            · rw [e]; exact ga.2.2.2
            rcases List.mem_cons.mp hb with e | hb
            · rw [e]; exact gp.2.2.2
            rcases List.mem_cons.mp hb with e | hb
            · rw [e]; exact gl.2.2.2
            exact hhid _ hb
          clear F9 N9
          k_steps
          rename News _ _ _ _ => N9
          obtain ⟨T9, e⟩ := name1 N9
          subst e
          refine CEnd.of KP2 (by assumption) N9 (fun p hp => .tail _ hp) fun k => ?_
          show PySem.Paired _ _ ((quoted rows).take (j + 1))
          rw [List.take_add_one, hqj]
          rename ∀ _, _ ∈ sat _ _ _ _ → _ => l9
          have nD : T9 ≠ D2 := fun q => by have := l9 _ hDs; rw [q] at this; exact Nat.lt_irrefl _ this
          have nL : T9 ≠ L' := fun q => by have := l9 _ hLs; rw [q] at this; exact Nat.lt_irrefl _ this
          have nM : T9 ∉ ah :: aa :: ap :: l :: framesOf outer := fun q => by
            obtain ⟨o, ho⟩ := hmsC _ q
            exact Nat.lt_irrefl _ (l9 _ ho)
          refine Paired.snoc (Paired.mono (fun _ _ z => RowAt.mono (insatH3 k) z) hJ) ⟨T9, _, _, _, rfl, mem_sat.mpr ⟨hideAll_get _ (N9 _ (.head _)).1 (by simp [nD, (N9 _ (.head _)).2.1]), nL, nM, (N9 _ (.head _)).2.2⟩⟩
        · intro D2 C2 h4 tk4 zs k4 fD2 fC2 hD2 hk4 hJ4
          rw [List.size_toArray, Paired.len hP3, List.take_length] at hJ4
          have hDo2 := fresh_off F9 fD2 hms9
          have hk3' : ∀ a o, InSat (hideAll s.heap (framesOf outer)) L' (ah :: aa :: ap :: framesOf outer) h a o → h3.get? a = some o := fun a o q => by
            by_cases z : a = l
            · have q1 := (mem_sat.mp q).1
              rw [z] at q1 ⊢; rw [gl.1] at q1; cases q1
              exact (N9 _ (.tail _ (.tail _ (.tail _ (.head _))))).1
            · obtain ⟨q1, q2, q3, q4⟩ := mem_sat.mp q
              refine (N9 _ (.tail _ (.tail _ (.tail _ (.tail _ (hup _ (mem_sat.mpr ⟨q1, q2, ?_, q4⟩))))))).1
              simp only [List.mem_cons, List.not_mem_nil, or_false, not_or] at q3 ⊢
              exact ⟨q3.1, q3.2.1, q3.2.2.1, z⟩
          have hk3 : ∀ a o, InSat (hideAll s.heap (framesOf outer)) L' (ah :: aa :: ap :: framesOf outer) h a o → h4.get? a = some o := fun a o q => hk4 _ _ (hk3' a o q)
          have hR4 : PySem.Paired (RowAt (InSat (hideAll s.heap (framesOf outer)) L' (ah :: aa :: ap :: l :: framesOf outer) h4)) zs (quoted rows) := Paired.mono (fun _ _ z => RowAt.mono (fun a o _ y => by
            obtain ⟨y1, y2, y3, y4⟩ := mem_sat.mp y
            exact mem_sat.mpr ⟨of_hideAll _ y1, y2, y3, y4⟩) z) hJ4
          have hup4 : ∀ q ∈ sat (hideAll s.heap (framesOf outer)) L' [ah, aa, ap, l] h2, q ∈ sat (hideAll s.heap (framesOf outer)) L' [ah, aa, ap, l] h4 := fun q hq =>
            mem_sat.mpr ⟨hk4 _ _ (N9 _ (.tail _ (.tail _ (.tail _ (.tail _ hq))))).1, (mem_sat.mp hq).2⟩
          have F10 := Fr.keeps' F9 hk4
          have N10 := News.keeps' N9 hk4
          have N11 : News (hideAll s.heap (framesOf outer)) L' h4 ((ah, listOf hs.toArray n1) :: (aa, listOf as.toArray n2) :: (ap, _) :: (l, listOf rvs.toArray rn) :: sat (hideAll s.heap (framesOf outer)) L' [ah, aa, ap, l] h4) :=
            List.forall_mem_cons.mpr ⟨N10 _ (.head _), List.forall_mem_cons.mpr ⟨N10 _ (.tail _ (.head _)), List.forall_mem_cons.mpr ⟨N10 _ (.tail _ (.tail _ (.head _))), List.forall_mem_cons.mpr ⟨N10 _ (.tail _ (.tail _ (.tail _ (.head _)))), news_sat⟩⟩⟩⟩
          clear F9 N9 N10 N2
          (try dsimp only)
          k_steps
          rename News _ _ _ _ => N9
          rename Fr _ _ _ _ => F9
          have hD2o : ∀ o, o ∉ ([] : List Addr) := by simp
          with_unfolding_all refine' new_ok (l := D2) (rows := quoted rows) ?hd ?hu F9 (by assumption) (by assumption) ⟨zs, k4, mem_sat.mpr ⟨hD2, hDo2.1, by simp, hDo2.2.2⟩, Paired.mono (fun _ _ z => RowAt.mono (fun a o _ y => mem_sat.mpr ⟨(mem_sat.mp y).1, (mem_sat.mp y).2.1, by simp, (mem_sat.mp y).2.2.2⟩) z) hR4⟩ qok ?_
          case hd => walk_at "my side"
          case hu => walk_at "my side"
          intro x9 h5 tk5 F11 hk5 H9
          have hms5 := news_there N9 (ms := ah :: aa :: ap :: l :: framesOf outer) fun a ha => by
            rcases List.mem_cons.mp ha with e | ha
            · rw [e]; exact ⟨_, .head _⟩
            rcases List.mem_cons.mp ha with e | ha
            · rw [e]; exact ⟨_, .tail _ (.head _)⟩
            rcases List.mem_cons.mp ha with e | ha
            · rw [e]; exact ⟨_, .tail _ (.tail _ (.head _))⟩
            rcases List.mem_cons.mp ha with e | ha
            · rw [e]; exact ⟨_, .tail _ (.tail _ (.tail _ (.head _)))⟩
            obtain ⟨o, hm⟩ := hos2 a ha
            exact ⟨o, .tail _ (.tail _ (.tail _ (.tail _ (hup4 _ hm))))⟩
          have hH9 : HdrAt (InSat (hideAll s.heap (framesOf outer)) L' (ah :: aa :: ap :: l :: framesOf outer) h5) x9 D2 := HdrAt.mono (fun a o _ y => by
            have q := fresh_off F9 y.2 hms5
            exact mem_sat.mpr ⟨y.1, q⟩) H9
          have N12 := news_keepL (ms := [ah, aa, ap, l]) N9 hk5
          have hup5 : ∀ q ∈ sat (hideAll s.heap (framesOf outer)) L' [ah, aa, ap, l] h4, q ∈ sat (hideAll s.heap (framesOf outer)) L' [ah, aa, ap, l] h5 := fun q hq =>
            mem_sat.mpr ⟨hk5 _ _ (mem_sat.mp hq).2.1 (mem_sat.mp hq).1, (mem_sat.mp hq).2⟩
          have hD5 : h5.get? D2 = some (listOf zs.toArray k4) := hk5 _ _ hDo2.1 hD2
          have hk6 : ∀ a o, InSat (hideAll s.heap (framesOf outer)) L' (ah :: aa :: ap :: framesOf outer) h a o → h5.get? a = some o := fun a o q => hk5 _ _ (mem_sat.mp q).2.1 (hk3 a o q)
          have hR5 : PySem.Paired (RowAt (InSat (hideAll s.heap (framesOf outer)) L' (ah :: aa :: ap :: l :: framesOf outer) h5)) zs (quoted rows) := Paired.mono (fun _ _ z => RowAt.mono (fun a o _ y => by
            obtain ⟨y1, y2, y3, y4⟩ := mem_sat.mp y
            exact mem_sat.mpr ⟨hk5 _ _ y2 y1, y2, y3, y4⟩) z) hR4
          have hts := heads_there J.hh
          have hDt : D2 ∉ ts.map (·.1) := fun hm => by
            obtain ⟨o, q⟩ := hts _ hm
            have fD2' : h3.get? D2 = none := fD2
            rw [hk3' _ _ q] at fD2'; cases fD2'
          clear F9 N9 hR4
          (try clear N11)
          (try clear F10)
          (try dsimp only)
          k_steps
          rename News _ _ _ _ => N9
          refine TurnM.next' KP (by assumption) N9 (fun p hp => .tail _ (.tail _ (.tail _ (.tail _ (hup5 _ (hup4 _ (hup _ hp))))))) hfp fun k => ⟨?_, hok2 _ k⟩
          rw [hnx]
          unfold runStep
          rw [if_pos hk0, hrows]
          have hD6 : InSat (hideAll s.heap (framesOf outer)) L' [ah, aa, ap, l] h5 D2 (listOf zs.toArray k4) := mem_sat.mpr ⟨hD5, hDo2.1, (fun z => hDo2.2.1 (in4 z)), hDo2.2.2⟩
          have hfin : ∀ a o, InSat (hideAll s.heap (framesOf outer)) L' (ah :: aa :: ap :: l :: framesOf outer) h5 a o → InSat (hideAll s.heap (framesOf outer)) L' (ah :: aa :: ap :: framesOf outer) _ a o := fun a o q => by
            obtain ⟨q1, q2, q3, q4⟩ := mem_sat.mp q
            exact mem_sat.mpr ⟨(N9 _ (.tail _ (.tail _ (.tail _ (.tail _ (mem_sat.mpr ⟨q1, q2, (fun z => q3 (in4 z)), q4⟩)))))).1, q2, not_in3 q3, q4⟩
          refine ⟨ah, aa, ap, hs ++ [.ref x9], ts ++ [(D2, quoted rows)], ps ++ [_], as, n1 + 1, n2, n3 + 1, rfl, rfl, rfl, rfl, ?_, insat_of N9 (.tail _ (.head _)) (by simp), insat_of N9 (.tail _ (.tail _ (.head _))) (by simp), Paired.snoc (Paired.mono (fun _ _ z => HeadAt.mono (fun a o _ q => ?_) z) J.hh) ⟨x9, rfl, HdrAt.mono (fun a o _ q => hfin a o q) hH9, zs, k4, hfin _ _ (mem_sat.mpr ⟨hD5, hDo2.1, hDo2.2.1, hDo2.2.2⟩), Paired.mono (fun _ _ z => RowAt.mono (fun a o _ q => hfin a o q) z) hR5⟩, ?_, J.ne, ?_, ?_, ?_, J.oa⟩
          · have := N9 _ (.head _)
            exact mem_sat.mpr ⟨pushed this.1, this.2.1, by simp, this.2.2⟩
          · have q1 := hk6 a o q
            obtain ⟨_, q2, q3, q4⟩ := mem_sat.mp q
            by_cases z : a = l
            · have e1 := (mem_sat.mp q).1
              rw [z, gl.1] at e1
              cases e1
              rw [z]
              exact mem_sat.mpr ⟨(N9 _ (.tail _ (.tail _ (.tail _ (.head _))))).1, gl.2⟩
            · refine mem_sat.mpr ⟨(N9 _ (.tail _ (.tail _ (.tail _ (.tail _ (mem_sat.mpr ⟨q1, q2, ?_, q4⟩)))))).1, q2, q3, q4⟩
              simp only [List.mem_cons, List.not_mem_nil, or_false, not_or] at q3 ⊢
              exact ⟨q3.1, q3.2.1, q3.2.2.1, z⟩
          · rw [List.map_append, J.ht]; rfl
          · rw [List.map_append]
            exact List.nodup_append.mpr ⟨J.nd, by simp, fun a ha b hb e => by
              rw [List.mem_singleton.mp hb] at e
              have e' : a = D2 := e
              exact hDt (e' ▸ ha)⟩
          · intro a ha hf
            rw [List.map_append] at ha
            rcases List.mem_cons.mp ha with e | ha
            · exact J.nf a (by rw [e]; exact .head _) hf
            rcases List.mem_cons.mp ha with e | ha
            · exact J.nf a (by rw [e]; exact .tail _ (.head _)) hf
            rcases List.mem_cons.mp ha with e | ha
            · exact J.nf a (by rw [e]; exact .tail _ (.tail _ (.head _))) hf
            rcases List.mem_append.mp ha with ha | ha
            · exact J.nf a (.tail _ (.tail _ (.tail _ ha))) hf
            · have e : a = D2 := List.mem_singleton.mp ha
              exact hDo2.2.1 (by rw [← e]; exact .tail _ (.tail _ (.tail _ (.tail _ hf))))
          · rw [← htl]
            exact J.ip.append (.cons _ _ .nil)
    · rename News _ _ _ _ => N9
      obtain ⟨dn, e⟩ := name1 N9
      subst e
      rename ah < dn ∧ _ => l9
      have hsl9 := fun p hp => allLt_get l9.2.2.2.2 p hp
      refine TurnM.next' KP (by assumption) N9 (fun p hp => .tail _ (.tail _ (.tail _ (.tail _ (.tail _ hp))))) hfp fun k => ⟨?_, hok2 _ k⟩
      have hk0 : d.kind ≠ 0 := by omega
      have hk3 : d.kind = 3 := by omega
      rw [hnx]
      unfold runStep
      rw [if_neg hk0, if_pos hk3]
      have hcut : (if (r.pile.length : Int) - 1 > 1 then (r.pile.length : Int) - 1 else 1).toNat = max 1 (r.pile.length - 1) := by split <;> omega
      rename IntsAre _ (List.take _ _) => hI9
      rw [hcut] at hI9
      have e2 := hsame _ k (N9 _ (.tail _ (.tail _ (.tail _ (.tail _ (.head _)))))).1
      refine ⟨ah, aa, dn, hs, ts, _, as, _, _, 0, rfl, rfl, rfl, rfl, insat_of N9 (.tail _ (.head _)) (by simp), insat_of N9 (.tail _ (.tail _ (.head _))) (by simp), insat_of N9 (.head _) (by simp), Paired.mono (fun _ _ z => HeadAt.mono (fun a o _ q => mem_sat.mpr ⟨e2 a o q, (mem_sat.mp q).2.1, ?_, (mem_sat.mp q).2.2.2⟩) z) J.hh, J.ht, ⟨nha, neN (by omega), neN (by omega)⟩, J.nd, fun a ha => ?_, hI9, J.oa⟩
      rotate_left
      · rcases List.mem_cons.mp ha with e | ha
        · exact J.nf a (by rw [e]; exact .head _)
        · rcases List.mem_cons.mp ha with e | ha
          · exact J.nf a (by rw [e]; exact .tail _ (.head _))
          · rcases List.mem_cons.mp ha with e | ha
            · intro hf
              obtain ⟨o9, hm9⟩ := hos a hf
              have := hsl9 _ hm9
              rw [e] at this
              exact Nat.lt_irrefl _ this
            · exact J.nf a (.tail _ (.tail _ (.tail _ ha)))
      have q3 := (mem_sat.mp q).2.2.1
      simp only [List.mem_cons, List.not_mem_nil, or_false, not_or] at q3 ⊢
      refine ⟨q3.1, q3.2.1, ?_, q3.2.2.2⟩
      by_cases z : a = l
      · rw [z]; exact neN (by omega)
      · exact Nat.ne_of_lt (hsl9 (a, o) (mem_sat.mpr ⟨(mem_sat.mp q).1, (mem_sat.mp q).2.1, by simp only [List.mem_cons, List.not_mem_nil, or_false, not_or]; exact ⟨q3.1, q3.2.1, q3.2.2.1, z⟩, (mem_sat.mp q).2.2.2⟩))
    · have hkn0 : d.kind ≠ 0 := by omega
      have hkn3 : d.kind ≠ 3 := by omega
      have hid := hok.idx
      by_cases hbad : 8 ≤ d.idx
      · have hkc := KP _ _ _ (by assumption) (by assumption) (fun p hp => .tail _ (.tail _ (.tail _ (.tail _ hp))))
        have hoc := hok2 _ hkc
        have hLh : (hideAll s.heap (framesOf outer)).get? L' = none := by
          cases q : (hideAll s.heap (framesOf outer)).get? L' with
          | none => rfl
          | some o => rw [of_hideAll _ q] at hLn; cases hLn
        have hno' : ∀ a ∈ L' :: framesOf outer, (hideAll s.heap (framesOf outer)).get? a = none := fun a hm => by
          rcases List.mem_cons.mp hm with e | hm
          · rw [e]; exact hLh
          · exact hhid _ hm
        rename Fr _ _ _ _ => F9
        rename News _ _ _ _ => N9
        with_unfolding_all refine' bad_ok (b := hideAll s.heap (framesOf outer)) (base := base) ?hd ?hu F9.keep (below_run Kb.1 F9 hLn hoc) hno' (by assumption) (by assumption) hbad hid hpa ?_
        case hd => walk_at "my side"
        case hu => walk_at "my side"
        intro h' tk' e a0 hfl hus
        have hnl : ∀ a ∈ ah :: aa :: ap :: ts.map (·.1), a ≠ L' → a ∉ L' :: framesOf outer := fun a ha hL hm => by
          rcases List.mem_cons.mp hm with e | hm
          · exact hL e
          · exact J.nf a ha hm
        have hlts : l ∈ ts.map (·.1) := List.mem_map.mpr ⟨_, htb', rfl⟩
        refine caught_B (news := (ah, listOf hs.toArray n1) :: (aa, listOf as.toArray n2) :: (ap, listOf ps.toArray n3) :: (l, listOf rvs.toArray rn) :: sat (hideAll s.heap (framesOf outer)) L' (ah :: aa :: ap :: l :: framesOf outer) h) Kb.1.stack F9 hus hfl
          (fun b o q => hideAll_get _ (F9.keep b o q) fun hm => by rw [hno' b hm] at q; cases q) ?hl (topRead_of T') PyProof.Rows.Boot.«TypeError» PySem.F.isExc_TypeError PySem.F.notTuple_TypeError (by rw [isSubtype_type]; kernel_rfl) ?_
        case hl =>
          intro q hq
          rcases List.mem_cons.mp hq with e1 | hq
          · rw [e1]; exact ⟨hideAll_get _ (N9 _ (.head _)).1 (hnl _ (.head _) gh.2.1), gh.2.2.2⟩
          rcases List.mem_cons.mp hq with e1 | hq
          · rw [e1]; exact ⟨hideAll_get _ (N9 _ (.tail _ (.head _))).1 (hnl _ (.tail _ (.head _)) ga.2.1), ga.2.2.2⟩
          rcases List.mem_cons.mp hq with e1 | hq
          · rw [e1]; exact ⟨hideAll_get _ (N9 _ (.tail _ (.tail _ (.head _)))).1 (hnl _ (.tail _ (.tail _ (.head _))) gp.2.1), gp.2.2.2⟩
          rcases List.mem_cons.mp hq with e1 | hq
          · rw [e1]; exact ⟨hideAll_get _ (N9 _ (.tail _ (.tail _ (.tail _ (.head _))))).1 (hnl _ (.tail _ (.tail _ (.tail _ hlts))) gl.2.1), gl.2.2.2⟩
          obtain ⟨c1, c2, c3, c4⟩ := mem_sat.mp hq
          have c5 : q.1 ∉ [ah, aa, ap, l] := fun z => c3 (by
            simp only [List.mem_cons, List.not_mem_nil, or_false] at z ⊢
            rcases z with z | z | z | z
            · exact .inl z
            · exact .inr (.inl z)
            · exact .inr (.inr (.inl z))
            · exact .inr (.inr (.inr (.inl z))))
          refine ⟨hideAll_get _ (hkc _ _ c2 c5 c1) fun hm => ?_, c4⟩
          rcases List.mem_cons.mp hm with e | hm
          · exact c2 e
          · exact c3 (.tail _ (.tail _ (.tail _ (.tail _ hm))))
        clear F9 N9
        intro h9 F9 N9 hu9
        clear nN
        k_steps
        refine append_at (hsz := by rw [List.size_toArray, sizeLine_eq]; omega) (N9 _ (.tail _ (.head _))).1 fun h8 hs8 ho8 => ?_
        have F8 := F9.change hs8 ga.2.1 ga.2.2.2
        have N8 := news_set (pre := [(ah, listOf hs.toArray n1)]) N9 (by intro q hq; rw [List.mem_singleton.mp hq]; exact nha) (List.forall_mem_cons.mpr ⟨Ne.symm nap, List.forall_mem_cons.mpr ⟨Ne.symm nal, sat_off (.tail _ (.head _))⟩⟩) hs8 ho8
        have ho9 : OutKept (framesOf outer) s.heap h8 := fun a ha o e => by
          obtain ⟨sl, e1⟩ := hoc a ha o e
          obtain ⟨_, o2, e2, hf⟩ := Kb.1.frames.mem ha
          rw [e] at e2
          cases e2
          obtain ⟨sl2, e3⟩ := hu9 a _ e1 hf
          exact ⟨sl2, (hs8.2 a (fun z => J.nf a (by rw [z]; exact .tail _ (.head _)) ha)).trans e3⟩
        clear F9 N9
        k_steps
        rename News _ _ _ _ => N9
        refine TurnM.next' KPo (by assumption) N9 (fun p hp => .tail _ (.tail _ (.tail _ (.tail _ hp)))) hfpo fun k => ⟨?_, ho9⟩
        rw [hnx]
        unfold runStep
        rw [if_neg hkn0, if_neg hkn3, if_pos hbad]
        refine ⟨ah, aa, ap, hs, ts, ps, as ++ [.none], n1, n2 + 1, n3, rfl, rfl, rfl, rfl, insat_of N9 (.head _) (by simp), ?_, insat_of N9 (.tail _ (.tail _ (.head _))) (by simp), Paired.mono (fun _ _ z => HeadAt.mono (fun a o _ q => mem_sat.mpr ⟨?_, (mem_sat.mp q).2.1, (mem_sat.mp q).2.2.1, (mem_sat.mp q).2.2.2⟩) z) J.hh, J.ht, J.ne, J.nd, J.nf, J.ip, Paired.snoc J.oa (show OptStr .none none from rfl)⟩
        · have := N9 _ (.tail _ (.head _))
          exact mem_sat.mpr ⟨pushed this.1, this.2.1, by simp, this.2.2⟩
        · by_cases z : a = l
          · have q1 := (mem_sat.mp q).1
            rw [z] at q1 ⊢; rw [gl.1] at q1; cases q1
            exact (N9 _ (.tail _ (.tail _ (.tail _ (.head _))))).1
          · obtain ⟨q1, q2, q3, q4⟩ := mem_sat.mp q
            refine (N9 _ (.tail _ (.tail _ (.tail _ (.tail _ (mem_sat.mpr ⟨q1, q2, ?_, q4⟩)))))).1
            simp only [List.mem_cons, not_or] at q3 ⊢
            exact ⟨q3.1, q3.2.1, q3.2.2.1, z, q3.2.2.2⟩
      · have hlt8 : d.idx < 8 := by omega
        have hpa2 := hpa
        unfold PairAt at hpa2
        rw [if_neg (by omega), if_neg (by omega)] at hpa2
        obtain ⟨lv, ev, np, hp0, hlo, heo⟩ := hpa2
        have hname := loc_ok d.idx hlt8
        rename Fr _ _ _ _ => F9
        with_unfolding_all refine' build_ok (l := langOf d.idx) (e := encOf d.idx) ?hd ?hu F9.keep (by assumption) (by assumption) ⟨_, F9.keep _ _ hp0, rfl, _, rfl⟩ hlo heo (fun x e => Nat.le_trans (lang_len e) (by omega)) (fun x e => Nat.le_trans (enc_len e) (by omega)) ?_
        case hd => walk_at "my side"
        case hu => walk_at "my side"
        intro h' tk' u' hk'
        walk_at "my after"
        k_steps
        rename Fr _ _ _ _ => F9
        rename News _ _ _ _ => N9
        have hkc := KP _ _ _ F9 N9 (fun p hp => .tail _ (.tail _ (.tail _ (.tail _ hp))))
        have hrs := hsame _ hkc (N9 _ (.tail _ (.tail _ (.tail _ (.head _))))).1
        have hi9 : i ≤ 9 := by omega
        have htabs := tabs_ok i
        have hrl : rows.length ≤ i := hRows.1
        with_unfolding_all refine' setdefault_ok (l := l) (rows := rows) (val := tabs i) ?hd ?hu F9.keep (by assumption) (by assumption) gl.2.2.2 ⟨dx, hss, htk, hrs _ _ hx1, hrs _ _ hx2⟩ (N9 _ (.tail _ (.tail _ (.tail _ (.head _))))).1 (Paired.mono (fun _ _ => RowAt.mono fun a o _ q => hrs a o q) RP) ⟨by omega, hname.2⟩ ⟨by omega, htabs.2⟩ (fun r hr => ⟨by have := (hRows.2 r hr).1.1; omega, (hRows.2 r hr).1.2⟩) (by omega) ?_
        case hd => walk_at "my side"
        case hu => walk_at "my side"
        intro v h' tk' hk' ⟨rvs', n', hl', RP'⟩ ⟨u', hv'⟩
        subst hv'
        have hnL : l ≠ L' := gl.2.1
        have F10 : Fr (hideAll s.heap (framesOf outer)) L' h' _ := ⟨F9.ns.at' fun o e => hk' _ _ (Ne.symm hnL) e, fun a o e => hk' a o (fun z => by rw [z, gl.2.2.2] at e; cases e) (F9.keep a o e), F9.above⟩
        have hms := news_there N9 (ms := ah :: aa :: ap :: l :: framesOf outer) fun a ha => by
          rcases List.mem_cons.mp ha with e | ha
          · rw [e]; exact ⟨_, .head _⟩
          rcases List.mem_cons.mp ha with e | ha
          · rw [e]; exact ⟨_, .tail _ (.head _)⟩
          rcases List.mem_cons.mp ha with e | ha
          · rw [e]; exact ⟨_, .tail _ (.tail _ (.head _))⟩
          rcases List.mem_cons.mp ha with e | ha
          · rw [e]; exact ⟨_, .tail _ (.tail _ (.tail _ (.head _)))⟩
          obtain ⟨o, hm⟩ := hos a ha
          exact ⟨o, .tail _ (.tail _ (.tail _ (.tail _ hm)))⟩
        have RPm : match getRow rows (locName (langOf d.idx) (encOf d.idx)) with
          | some _ => rvs' = rvs
          | none => ∃ T t u k, rvs' = rvs ++ [.ref T] ∧ InSat (hideAll s.heap (framesOf outer)) L' (ah :: aa :: ap :: l :: framesOf outer) h' T (tupObj [.str (locName (langOf d.idx) (encOf d.idx)) t, .str (tabs i) u] k) := by
          cases hg : getRow rows (locName (langOf d.idx) (encOf d.idx)) with
          | some y => rw [hg] at RP'; exact RP'
          | none =>
            rw [hg] at RP'
            obtain ⟨T, t, u, k, e1, e2, e3⟩ := RP'
            have q := fresh_off F9 e3 hms
            exact ⟨T, t, u, k, e1, mem_sat.mpr ⟨e2, q⟩⟩
        have hup : ∀ q ∈ sat (hideAll s.heap (framesOf outer)) L' [ah, aa, ap, l] h, q ∈ sat (hideAll s.heap (framesOf outer)) L' [ah, aa, ap, l] h' := fun q hq =>
          mem_sat.mpr ⟨hk' _ _ (sat_off (.tail _ (.tail _ (.tail _ (.head _)))) q hq) (N9 _ (.tail _ (.tail _ (.tail _ (.tail _ hq))))).1, (mem_sat.mp hq).2⟩
        have N10 : News (hideAll s.heap (framesOf outer)) L' h' ((ah, listOf hs.toArray n1) :: (aa, listOf as.toArray n2) :: (ap, listOf ps.toArray n3) :: (l, listOf rvs'.toArray n') :: sat (hideAll s.heap (framesOf outer)) L' [ah, aa, ap, l] h') := by
          have up : ∀ q : Addr × Obj, q.1 ≠ l → q ∈ (ah, listOf hs.toArray n1) :: (aa, listOf as.toArray n2) :: (ap, listOf ps.toArray n3) :: (l, listOf rvs.toArray rn) :: sat (hideAll s.heap (framesOf outer)) L' [ah, aa, ap, l] h → h'.get? q.1 = some q.2 ∧ q.1 ≠ L' ∧ (hideAll s.heap (framesOf outer)).get? q.1 = none := fun q hq hm => ⟨hk' _ _ hq (N9 _ hm).1, (N9 _ hm).2⟩
          exact List.forall_mem_cons.mpr ⟨up _ nhl (.head _), List.forall_mem_cons.mpr ⟨up _ nal (.tail _ (.head _)), List.forall_mem_cons.mpr ⟨up _ npl (.tail _ (.tail _ (.head _))), List.forall_mem_cons.mpr ⟨⟨hl', gl.2.1, gl.2.2.2⟩, news_sat⟩⟩⟩⟩
        clear F9 N9
        (try dsimp only)
        k_steps
        rename News _ _ _ _ => N9
        refine TurnM.next' KP (by assumption) N9 (fun p hp => .tail _ (.tail _ (.tail _ (.tail _ (hup p hp))))) hfp fun k => ⟨?_, hok2 _ k⟩
        have hpz : p < ts.length := by omega
        rw [hnx]
        unfold runStep
        rw [if_neg hkn0, if_neg hkn3, if_neg hbad, hrows, show r.here = p from hhere]
        refine ⟨ah, aa, ap, hs, ts.set p (l, setRow rows (locName (langOf d.idx) (encOf d.idx)) (tabs i)), ps, as ++ [.str _ u'], n1, n2 + 1, n3, rfl, rfl, rfl, rfl, insat_of N9 (.head _) (by simp), ?_, insat_of N9 (.tail _ (.tail _ (.head _))) (by simp), ?_, ?_, J.ne, ?_, ?_, J.ip, Paired.snoc J.oa ⟨_, rfl⟩⟩
        · have := N9 _ (.tail _ (.head _))
          exact mem_sat.mpr ⟨pushed this.1, this.2.1, by simp, this.2.2⟩
        · refine Paired.setR J.hh (fun j v t hj e1 e2 z => HeadAt.monoL (l := l) (fun a o _ hal q => ?_) (fun o q => ?_) (fun q => ?_) z) (fun v e1 => ?_)
          · obtain ⟨q1, q2, q3, q4⟩ := mem_sat.mp q
            refine mem_sat.mpr ⟨k a o q2 ?_ q1, q2, q3, q4⟩
            simp only [List.mem_cons, List.not_mem_nil, or_false, not_or] at q3 ⊢
            exact ⟨q3.1, q3.2.1, q3.2.2.1, hal⟩
          · have q1 := (mem_sat.mp q).1
            rw [gl.1] at q1; cases q1
            exact ⟨_, _, rfl⟩
          · have m1 : (ts.map (·.1))[j]? = some l := by rw [List.getElem?_map, e2]; exact congrArg some q
            have m2 : (ts.map (·.1))[p]? = some l := by rw [List.getElem?_map, htb]; rfl
            obtain ⟨l1, e3⟩ := List.getElem?_eq_some_iff.mp m1
            obtain ⟨l2, e4⟩ := List.getElem?_eq_some_iff.mp m2
            exact hj ((List.getElem_inj J.nd).mp (e3.trans e4.symm))
          · rw [hpv] at e1
            cases e1
            have hl9 := N9 _ (.tail _ (.tail _ (.tail _ (.head _))))
            refine ⟨x, rfl, ⟨dx, hss, htk, ?_, ?_⟩, rvs', n', mem_sat.mpr ⟨hl9.1, gl.2⟩, ?_⟩
            · exact mem_sat.mpr ⟨(N9 (x, instObj 195 dx) (.tail _ (.tail _ (.tail _ (.tail _ (hup _ hxs)))))).1, (mem_sat.mp hx1).2⟩
            · exact mem_sat.mpr ⟨(N9 (dx, dictOf [⟨hss, .str (Str.ofString "_headers") htk, .ref l⟩] 1) (.tail _ (.tail _ (.tail _ (.tail _ (hup _ hxd)))))).1, (mem_sat.mp hx2).2⟩
            · refine rows_grown (fun a vs n q => ?_) RP ?_
              · obtain ⟨q1, q2, q3, q4⟩ := mem_sat.mp q
                refine mem_sat.mpr ⟨k a _ q2 ?_ q1, q2, q3, q4⟩
                simp only [List.mem_cons, List.not_mem_nil, or_false, not_or] at q3 ⊢
                exact ⟨q3.1, q3.2.1, q3.2.2.1, off_tup q1 gl.1⟩
              · cases hg : getRow rows (locName (langOf d.idx) (encOf d.idx)) with
                | some y => rw [hg] at RPm; exact RPm
                | none =>
                  rw [hg] at RPm
                  obtain ⟨T, t, u, k2, e1, e2⟩ := RPm
                  obtain ⟨q1, q2, q3, q4⟩ := mem_sat.mp e2
                  simp only [List.mem_cons, not_or] at q3
                  refine ⟨T, t, u, k2, e1, mem_sat.mpr ⟨(N9 _ (.tail _ (.tail _ (.tail _ (.tail _ (mem_sat.mpr ⟨q1, q2, ?_, q4⟩)))))).1, q2, ?_, q4⟩⟩
                  · simp only [List.mem_cons, List.not_mem_nil, or_false, not_or]; exact ⟨q3.1, q3.2.1, q3.2.2.1, q3.2.2.2.1⟩
                  · simp only [List.mem_cons, not_or]; exact ⟨q3.1, q3.2.1, q3.2.2.1, q3.2.2.2.2⟩
        · rw [List.map_set, J.ht]
        · rw [List.map_set, show (ts.map (·.1)).set p l = ts.map (·.1) from set_same (by rw [List.getElem?_map, htb]; rfl)]
          exact J.nd
        · rw [List.map_set, show (ts.map (·.1)).set p l = ts.map (·.1) from set_same (by rw [List.getElem?_map, htb]; rfl)]
          exact J.nf
  · intro h tk m' F₁ ⟨⟨ah, aa, ap, hs, ts, ps, as, n1, n2, n3, J⟩, JO⟩ htk
    have F₂ := Fr.say F₁ [(Str.ofString "heads", .ref ah), (Str.ofString "answers", .ref aa)] (List.forall_mem_cons.mpr ⟨J.mh, List.forall_mem_cons.mpr ⟨J.ma, fun _ h => nomatch h⟩⟩)
    have N₂ : News (hideAll s.heap (framesOf outer)) L' h (sat (hideAll s.heap (framesOf outer)) L' [] h) := news_sat
    have KP : Kept (hideAll s.heap (framesOf outer)) h L' [] := Kept.of F₁
    clear N9 F₁ F9
    (try dsimp only)
    k_steps
    rename News _ _ _ _ => N9
    obtain ⟨T9, e⟩ := name1 N9
    subst e
    have k := KP _ _ _ (by assumption) N9 (fun p hp => .tail _ hp)
    have hfr : ∀ a, a ∉ framesOf outer → (hideAll s.heap (framesOf outer)).get? a = none → s.heap.get? a = none := fun a h1 h2 => by
      cases q : s.heap.get? a with
      | none => rfl
      | some o => rw [hideAll_get _ q h1] at h2; cases h2
    have kk : ∀ a o, stable o = true → InSat (hideAll s.heap (framesOf outer)) L' (ah :: aa :: ap :: framesOf outer) h a o → Fresh s.heap _ a o := fun a o _ x => ⟨k _ _ (mem_sat.mp x).2.1 (by simp) (mem_sat.mp x).1, hfr a (fun z => (mem_sat.mp x).2.2.1 (.tail _ (.tail _ (.tail _ z)))) (mem_sat.mp x).2.2.2⟩
    have k1 : ∀ a o, a ∈ ah :: aa :: ap :: ts.map (·.1) → InSat (hideAll s.heap (framesOf outer)) L' [] h a o → Fresh s.heap _ a o := fun a o ha x => ⟨k _ _ (mem_sat.mp x).2.1 (by simp) (mem_sat.mp x).1, hfr a (J.nf a ha) (mem_sat.mp x).2.2.2⟩
    rename ∀ _, _ ∈ sat _ _ _ _ → _ => l9
    refine ret _ _ T9 (Fr.keep (by assumption)) (fun a ha o e => ?_) ⟨ah, aa, hs, ts, as, _, n1, n2, ⟨(N9 _ (.head _)).1, hfr T9 (fun z => ?_) (N9 _ (.head _)).2.2⟩, k1 _ _ (.head _) J.gh, k1 _ _ (.tail _ (.head _)) J.ga, Paired.mono (fun _ _ x => HeadAt.mono kk x) J.hh, J.ht, J.oa⟩
    · obtain ⟨sl, e'⟩ := JO a ha o e
      exact ⟨sl, k _ _ (hLL a o e) (by simp) e'⟩
    · obtain ⟨_, o2, e2, hf⟩ := Kb.1.frames.mem z
      obtain ⟨sl, e'⟩ := JO T9 z o2 e2
      exact Nat.lt_irrefl _ (l9 (T9, _) (mem_sat.mpr ⟨e', hLL T9 o2 e2, by simp, hhid T9 z⟩))
end
section
theorem at_MDeeds : True := by
  w_top off
  k_with_none
  k_with "my side" => first | assumption | exact rfl | ((try simp only [depth_under_make, depth_under_kw, depth_in1, depth_deeper, depth_caller, units_in1, units_deeper, Around.mark_units, units_caller] at *); (try dsimp only [Around.deeper, Around.in1] at *); omega)
  k_with "my after" => ((rename (∀ _ _, _ → _) => zq_hkk); (have zq_F' := Fr.keeps' (by assumption) zq_hkk); (have zq_N' := News.keeps' (by assumption) zq_hkk); (try dsimp only); (try k_sweep); (try k_fold))
  k_with "ahead of omega" => ((with_reducible show @Ne Nat _ _); first | exact nb0 (by with_reducible assumption) | exact nb1 (by with_reducible assumption) | exact nb2 (by with_reducible assumption) | exact nb3 (by with_reducible assumption) | exact nb4 (by with_reducible assumption) | exact nb5 (by with_reducible assumption) | exact nb6 (by with_reducible assumption) | exact nb7 (by with_reducible assumption) | exact nb8 (by with_reducible assumption) | exact nb9 (by with_reducible assumption) | exact nb10 (by with_reducible assumption) | exact nb11 (by with_reducible assumption) | exact nb12 (by with_reducible assumption) | exact nz1 (by with_reducible assumption) | exact nz2 (by with_reducible assumption) | exact nz3 (by with_reducible assumption) | exact nz4 (by with_reducible assumption) | exact nz5 (by with_reducible assumption) | exact nz6 (by with_reducible assumption) | exact nz7 (by with_reducible assumption) | exact nz8 (by with_reducible assumption) | exact nz9 (by with_reducible assumption) | exact nz10 (by with_reducible assumption) | exact nz11 (by with_reducible assumption) | exact nz12 (by with_reducible assumption))
  k_with "eval ListComp" => (k_here; k_dflt (refine Comp_M (cl := []) (by assumption) (by rfl) (by decide) (by rfl) (by decide) ?_ (by intro _; rfl)))
  k_with "eval Name" => (k_here; (with_reducible show wpAny _ _ (eval (PySem.Expr.Name _ _) (compEnvC _ _ _ _)) _ _ _); k_dflt (refine' nameM_L (by assumption) (by exact rfl) ?_ (by exact rfl) (by exact rfl) (by decide)))
  k_with "eval Name" => (k_here; (with_reducible show wpAny _ _ (eval (PySem.Expr.Name _ _) (compEnvC _ _ _ _)) _ _ _); k_dflt (refine' nameM_C (by assumption) (by exact rfl) (by assumption) (by assumption) ?_ (by exact rfl) (by exact rfl) (by decide)))
  k_with "eval Name" => (k_here; (with_reducible show wpAny _ _ (eval (PySem.Expr.Name _ _) (compEnvC _ _ _ _)) _ _ _); k_dflt (refine' nameM_B (by assumption) (by assumption) (by k_asm) (by k_is) (by boot_fast) (by decide) ?_ (by exact rfl) (by exact rfl) (by exact rfl) (by exact rfl) (by decide)))
  k_with "storeName" => (k_here; (with_reducible show wpAny _ _ (storeName (compEnvC _ _ _ _) _ _) _ _ _); k_dflt (refine' storeM_L (by assumption) (by assumption) ?_ (by exact rfl) (by exact rfl)); intro zq_h' zq_F' zq_N'; (try k_sweep))
  k_with "forIn" => (k_here; (with_reducible show wpAny _ _ (testsOf [] _) _ _ _); refine tests_none ?_; (first | (refine ite_pos rfl ?_) | skip))
  k_with "forIn" => (k_here; (with_reducible show wpAny _ _ (testsOf [_] _) _ _ _); refine tests_two ?_)
  k_with "eval ListComp" => (k_here; k_dflt (refine wpAny_tk' ?_; refine' Comp_M (by assumption) (by with_unfolding_all exact rfl) (by decide) (by rfl) (by decide) ?_ (by (intro _; rfl))))
  k_with "exec For Name Call cons nil" => (k_here; (with_reducible show wpAny _ _ (exec (Stmt.For _ _ _ [] _) _) _ _ _); k_dflt (refine For_M (by assumption) ?_ (by intro _; rfl)))
  k_with "exec For Tuple Name cons nil" => (k_here; (with_reducible show wpAny _ _ (exec (Stmt.For _ _ _ [] _) _) _ _ _); k_dflt (refine For_M (by assumption) ?_ (by intro _; rfl)))
  k_with "exec For Name Subscript cons nil" => (k_here; (with_reducible show wpAny _ _ (exec (Stmt.For _ _ _ [] _) _) _ _ _); k_dflt (refine For_M (by assumption) ?_ (by intro _; rfl)))
  k_with "exec For Tuple Call cons nil" => (k_here; (with_reducible show wpAny _ _ (exec (Stmt.For _ _ _ [] _) _) _ _ _); k_dflt (refine For_M (by assumption) ?_ (by intro _; rfl)))
  k_with "exec For Name Subscript cons nil" => (k_here; (with_reducible show wpAny _ _ (exec (Stmt.For _ _ _ [] _) _) _ _ _); k_dflt (refine For_MT (by assumption) ?_ (by intro _; rfl)))
  k_with "Hid" => (refine Hid.use (by with_reducible assumption) ?_; try dsimp only)
  k_with "execs cons" => (k_here; (with_reducible refine execs_kont ?_); intro zq_R zq_hR; try dsimp only)
  k_with "subscriptTail Name Name ref int" => (k_here; (with_reducible show wpAny _ _ (subscriptTail _ _ (Value.ref _) (Value.int _ _)) _ _ _); k_dflt (refine' sub_at (by is_list) (by assumption) (by omega) ?_ (by with_unfolding_all rfl)))
  k_with "call builtin:len" => (k_here; (with_reducible show wpAny _ _ (PySem.call (Value.builtin "len") [Value.ref _]) _ _ _); k_dflt (refine' len_at (by is_list) (by assumption) (by omega) ?_); intro zq_t' zq_k')
  k_with "binaryOp Add ref ref" => (k_here; k_dflt (refine' add_at (by k_asm) (by k_asm) (by is_list) (by is_list) (by ((try simp only [List.length_cons, List.length_nil]); omega)) ?_; k_whole); intro zq_h' zq_d' zq_F' zq_N' zq_l1 zq_f1; (try simp only [AllLt] at zq_l1); (try k_sweep))
  k_with "subscriptTail Name Slice ref ref" => (k_here; (with_reducible show wpAny _ _ (subscriptTail _ (PySem.Expr.Slice none (some _) none _) _ _) _ _ _); k_dflt (refine' slice_to (s := ⟨_, _, _, _, _⟩) (by k_asm) (by k_asm) (by is_list) (by assumption) (by omega) ?_ (by with_unfolding_all rfl) (by (intro _; with_unfolding_all rfl)); k_whole); intro zq_h' zq_d' zq_F' zq_N' zq_l1 zq_f1 zq_i1; (try simp only [AllLt] at zq_l1); (try k_sweep))
  k_with "compareOp NotEq ref ref" => (k_here; (with_reducible show wpAny _ _ (compareOp CmpOp.NotEq (Value.ref _) (Value.ref _)) _ _ _); k_dflt (refine' ne_intsK (by is_list) (by assumption) (by is_list) (by assumption) (by walk_at "my side") ?_; k_whole))
  k_with "setItem ref int" => (k_here; k_dflt (refine' set_at (by k_asm) (by k_asm) (by k_updF) (by first | assumption | omega) (by omega) ?_); intro zq_h' zq_n' zq_F' zq_N'; (try dsimp only at zq_N'); (try k_sweep))
  k_with "subscriptTail Name BinOp ref int" => (k_here; (with_reducible show wpAny _ _ (subscriptTail _ _ (Value.ref _) (Value.int _ _)) _ _ _); k_dflt (refine' sub_atE (by assumption) (by is_list) (by assumption) (by omega) ?_ (by with_unfolding_all rfl)))
  trivial



local macro_rules | `(tactic| omega) => `(tactic| k_extra "ahead of omega")
local macro_rules | `(tactic| k_all) => `(tactic| exact sat_off (by simp))
local macro_rules | `(tactic| k_mem) => `(tactic| assumption)
local macro_rules | `(tactic| is_list) => `(tactic| exact News.isList (by assumption) (by k_mem))
section
open PySem PySem.Builtin
variable {prog : Program} {w : World} {A : Around} {E : Value → Shared → Prop} {s : Shared} {h₀ : PySem.Heap} {L : Addr} {m : Str → Option Value} {news : List (Addr × Obj)}
theorem news_put {h₀ h h' : PySem.Heap} {L d : Addr} {o o' : Obj} {news : List (Addr × Obj)} {g : Obj → List (Addr × Obj)} (N : News h₀ L h news) (U : UpdF d o news g) (hs : Heap.SameBut d h h') (ho : h'.get? d = some o') : News h₀ L h' (g o') := by
  obtain ⟨own, rest, rfl, hg, h1, h2⟩ := U.split
  exact hg o' ▸ N.setAt h1 h2 hs ho
theorem updF_mem {d : Addr} {o : Obj} : ∀ {l : List (Addr × Obj)} {g : Obj → List (Addr × Obj)}, UpdF d o l g → (d, o) ∈ l
  | _, _, .head _ => .head _
  | _, _, .tail _ u => .tail _ (updF_mem u)
theorem set_atK {l : Addr} {vs : List Value} {n i : Nat} {k : Int} {t : Tok} {v : Value} {g : Obj → List (Addr × Obj)} {Q : Unit → Shared → Prop} (F : Fr h₀ L s.heap m) (N : News h₀ L s.heap news) (U : UpdF l (listOf vs.toArray n) news g) (hki : k = (i : Int)) (h0 : 0 ≤ k) (hf : k < 2 ^ 63) (hi : i < vs.length)
    (h : ∀ h' n', Fr h₀ L h' m → News h₀ L h' (g (listOf (vs.set i v).toArray n')) → Q () { s with heap := h' }) :
    wpAny (model prog w) A (setItem (.ref l) (.int k t) v) Q E s := by
  have hm := N _ (updF_mem U)
  have ho : s.heap.get? l = some (listOf vs.toArray n) := hm.1
  have hl : s.heap.IsList l vs.toArray := ⟨_, ho, rfl, _, rfl⟩
  unfold setItem
  try with_reducible refine wpAny_holding ?_
  first | refine wpAny_bind (wpAny_pure ?_) | skip
  refine wpAny_bind (wpAny_sequenceKey hl.typeIs (by decide) ?_)
  refine wpAny_bind (wpAny_callSpecial?_slot (name := Str.ofString "__setitem__") hl.typeIs PySem.slot_list_setitem
    (wpAny_call_entry PySem.slot_list_setitem hl.typeIs PySem.entry_list_setitem ?_ (PySem.args_list_setitem _ _ _)))
  show wpAny _ _ (Builtin.List.listSubscript? (.int k t) >>= _) _ _ s
  refine wpAny_bind (wpAny_listSubscript_int (fitsIndex_of h0 hf) ?_)
  clear hf
  subst hki
  have hx' : vs.toArray[i]? = some vs[i] := by simp [hi]
  show wpAny _ _ ((seqItemAt l i >>= fun r => pure (r.map (i, ·))) >>= _) _ _ s
  refine wpAny_bind (wpAny_bind (wpAny_seqItemAt ho rfl (wpAny_pure ?_)))
  rw [hx']
  show wpAny _ _ (setSeqItemAt l i v >>= _) _ _ s
  obtain ⟨n', hd'⟩ := Obj.data_mapSeq (o := listOf vs.toArray n) rfl (·.setIfInBounds i v)
  have e : (listOf vs.toArray n).mapSeq (·.setIfInBounds i v) = listOf (vs.set i v).toArray n' := by
    have q : ((listOf vs.toArray n).mapSeq (·.setIfInBounds i v)) = { listOf vs.toArray n with data := ((listOf vs.toArray n).mapSeq (·.setIfInBounds i v)).data } := by
      unfold Obj.mapSeq; rfl
    rw [q, hd']
    simp [W.listOf]
  have hg : (s.heap.update l (Obj.mapSeq (·.setIfInBounds i v))).get? l = some (listOf (vs.set i v).toArray n') := by
    rw [← e]
    exact Heap.get?_update_self _ ho (Obj.isFreed_of_seq hd')
  have hs : Heap.SameBut l s.heap (s.heap.update l (Obj.mapSeq (·.setIfInBounds i v))) := Heap.SameBut.update ..
  have hQ : Q () { s with heap := s.heap.update l (Obj.mapSeq (·.setIfInBounds i v)) } := by
    refine h _ n' ⟨F.ns.sameBut hs (Ne.symm hm.2.1), fun b ob e => (hs.2 b (fun q => ?_)).trans (F.keep b ob e), F.above⟩ (news_put N U hs hg)
    have z := hm.2.2
    rw [q] at e
    rw [show h₀.get? l = none from z] at e
    cases e
  refine wpAny_bind (wpAny_setSeqItemAt ho rfl ?_)
  first
    | exact wpAny_bind (wpAny_pure (wpAny_pure ⟨.none, rfl, wpAny_pure hQ⟩))
    | exact wpAny_pure ⟨.none, rfl, wpAny_pure hQ⟩
theorem set_at {l : Addr} {vs : List Value} {n i : Nat} {t : Tok} {v : Value} {g : Obj → List (Addr × Obj)} {Q : Unit → Shared → Prop} (F : Fr h₀ L s.heap m) (N : News h₀ L s.heap news) (U : UpdF l (listOf vs.toArray n) news g) (hi : i < vs.length) (hk : i < 1000)
    (h : ∀ h' n', Fr h₀ L h' m → News h₀ L h' (g (listOf (vs.set i v).toArray n')) → Q () { s with heap := h' }) :
    wpAny (model prog w) A (setItem (.ref l) (.int (i : Int) t) v) Q E s :=
  set_atK F N U rfl (by omega) (by omega) hi h
end
theorem sub_atE {prog : Program} {w : World} {A : Around} {E : Value → Shared → Prop} {s : Shared} {value slice : PySem.Expr} {l : Addr} {vs : List Value} {x : Int} {i : Nat} {v : Value} {u : Tok} {Q : Value → Shared → Prop} (hx : x = (i : Int)) (hl : s.heap.IsList l vs.toArray) (hv : vs[i]? = some v) (hi : i < 1000) (h : Q v s)
    (hs : subscripted slice false (.ref l) (.int x u) = operate [.ref l, .int x u] (getItem (.ref l) (.int x u)) := by with_unfolding_all rfl) :
    wpAny (model prog w) A (subscriptTail value slice (.ref l) (.int x u)) Q E s := by
  subst hx
  exact sub_at hl hv hi h hs
structure SumsJ (h₀ : PySem.Heap) (L as_ : Addr) (m : Str → Option Value) (h : PySem.Heap) : Prop where
  sums : m (Str.ofString "sums") = some (.ref as_) ∧ ∃ ws ss n, h.get? as_ = some (listOf ws.toArray n) ∧ IntsAre ws ss ∧ ss.length = 9
  place : ∃ (j : Nat) (t : Tok), m (Str.ofString "place") = some (.int (j : Int) t) ∧ j < 9
theorem SumsJ.sk {h₀ : PySem.Heap} {L as_ : Addr} {m : Str → Option Value} {h h' : PySem.Heap} (k : SK h h') (J : SumsJ h₀ L as_ m h) : SumsJ h₀ L as_ m h' := by
  obtain ⟨⟨e, ws, ss, n, g, x, y⟩, z⟩ := J
  exact ⟨⟨e, ws, ss, n, k _ _ rfl g, x, y⟩, z⟩
theorem ints_set : ∀ {vs : List Value} {ns : List Int}, IntsAre vs ns → ∀ (j : Nat) (n : Int) {t : Tok}, IntsAre (vs.set j (.int n t)) (ns.set j n)
  | _, _, .nil, _, _, _ => .nil
  | _, _, .cons a u r, 0, n, _ => .cons n _ r
  | _, _, .cons a u r, j + 1, n, _ => .cons a u (ints_set r j n)
theorem place_eq {j : Nat} {t : Tok} : some (Value.int (((j : Int) + 1).fmod 9) t) = some (Value.int (((j + 1) % 9 : Nat) : Int) t) := by
  rw [Int.fmod_eq_emod_of_nonneg _ (by omega)]
  rfl
theorem optStr_of {y : Str} {t : Tok} {x : Option Str} (h : x = some y) : OptStr (.str y t) x := by subst h; exact ⟨_, rfl⟩
theorem optStr_none {x : Option Str} (h : x = none) : OptStr .none x := by subst h; rfl
theorem pair_good {K : Know} {pa : Addr} {p : Nat} {lv ev : Value} {n : Nat} (h8 : p ≠ 8) (h9 : p ≠ 9) (h : K pa (tupObj [lv, ev] n)) (hl : OptStr lv (langOf p)) (he : OptStr ev (encOf p)) : PairAt K pa p := by
  unfold PairAt; rw [if_neg h8, if_neg h9]; exact ⟨_, _, _, h, hl, he⟩
theorem pair_num {K : Know} {pa : Addr} {t v0 : Tok} {n : Nat} (h : K pa (tupObj [.int 0 v0, .str (Str.ofString "a") t] n)) : PairAt K pa 8 := by
  unfold PairAt; rw [if_pos rfl]; exact ⟨_, _, _, h⟩
theorem pair_three {K : Know} {pa : Addr} {t u v : Tok} {n : Nat} (h : K pa (tupObj [.str (Str.ofString "") t, .str (Str.ofString "a") u, .str (Str.ofString "b") v] n)) : PairAt K pa 9 := by
  unfold PairAt; rw [if_neg (by decide), if_pos rfl]; exact ⟨_, _, _, _, h⟩
theorem fmod_nat (x : Int) {m : Nat} (hm : 0 < m) : ∃ k : Nat, k < m ∧ x.fmod (m : Int) = (k : Int) := by
  have h0 : 0 ≤ x.fmod (m : Int) := Int.fmod_nonneg_of_pos _ (by omega)
  have h1 : x.fmod (m : Int) < (m : Int) := Int.fmod_lt_of_pos _ (by omega)
  exact ⟨(x.fmod (m : Int)).toNat, by omega, by omega⟩
theorem insatC {h₀ h h' : PySem.Heap} {L C D : Addr} (k : ∀ a o, a ≠ C → h.get? a = some o → h'.get? a = some o) : ∀ a o, stable o = true → InSat h₀ L [] (hideAll h [D, C]) a o → InSat h₀ L [] (hideAll h' [D, C]) a o := by
  intro a o _ x
  obtain ⟨e, c1, c2, c3⟩ := mem_sat.mp x
  have hn : a ∉ [D, C] := fun z => by rw [hideAll_none _ z] at e; cases e
  exact mem_sat.mpr ⟨hideAll_get _ (k a o (fun q => hn (by rw [q]; exact .tail _ (.head _))) (of_hideAll _ e)) hn, c1, c2, c3⟩
theorem deedAt_of {K : Know} {a pa : Addr} {nv : Value} {x : Int} {kd p f : Nat} {t u : Tok} {n : Nat} (hx : x = (kd : Int)) (h : K a (tupObj [.int x t, .ref pa, nv, .str (endOf f) u] n)) (hp : PairAt K pa p) (hn : OptStr nv (nameOf p)) : DeedAt K (.ref a) ⟨kd, p, f⟩ := by
  subst hx
  exact ⟨a, pa, nv, t, u, n, rfl, h, hp, hn⟩
theorem deeds_ok {prog : Program} {w : World} {dp un : Nat} {fr : Option (List Env)} {gd : Option (List Code)} {s : Shared} {b : PySem.Heap} {mean : ExcName → Option Value} {mg mb : Str → Option Value} {Q E : Value → Shared → Prop}
    (hd : dp + 1 < recursionLimit) (hu : un + 100 < cLine) (hb : ∀ a o, b.get? a = some o → s.heap.get? a = some o)
    (X : (Mine.hd.heap_39 w.params).In b) (T : Top Mine.hd.view_39 lo mean mg mb b) {l : Addr} {vs : List Value} {ns : List Int}
    (hl : s.heap.IsList l vs.toArray) (hi : IntsAre vs ns) (hn : ns.length ≤ 63)
    (ret : ∀ P ds h' tk', (∀ a o, s.heap.get? a = some o → h'.get? a = some o) → DeedsAt (Fresh s.heap h') P ds → ds.length = 9 → (∀ d ∈ ds, d.Ok) → TokAt h' tk' P → Q (.ref P) { s with heap := h', toks := tk' }) :
    wpAny (model prog w) (Around.mk none dp fr gd un) (call (.ref 204) [.ref l]) Q E s := by
  refine wpAny_call ?_
  refine' enterC (binds := [(Str.ofString "script", .ref l)]) [] hb (by simp) X T ?k6 ?k7 ?k8 ?k9 ?kB ?kD ?_ ?c2 ?c3 ?c4
  case k6 => k_is
  case k7 => k_is
  case kD => decide +kernel
  case k8 => (first | omega | (dsimp only [Around.deeper, Around.in1]; omega))
  case k9 => first | exact BindsTo.of_eq rfl | exact binds_K (Frag.In.keeps (by assumption) (by assumption)) rfl (by k_is) rfl rfl rfl
  case kB => exact rfl
  case c2 => exact rfl
  case c3 => exact rfl
  case c4 => exact rfl
  k_whole
  intro L' h₁ tk0 cells hL F K₁ N Y X' T'
  have hY := CellsAre.three Y
  obtain ⟨oc1, oc2, oc3, hE', d1', d2', d3'⟩ := hY
  subst hE'
  have hvl : vs.length ≤ 63 := by rw [hi.length]; exact hn
  have hlg : (hideAll s.heap []).IsList l vs.toArray := hl
  (try dsimp only)
  k_steps
  rename News _ _ _ _ => N9
  obtain ⟨as9, e⟩ := name1 N9
  subst e
  obtain ⟨as_, e⟩ := name2 N9
  subst e
  rename IntsAre (List.take 63 vs) _ => hi9
  have nas : as_ ≠ as9 := neN (by omega)
  have m9 := N9 _ (.head _)
  have ms := N9 _ (.tail _ (.head _))
  have hc1 := N9 _ (.tail _ (.tail _ (.head _)))
  have hc2 := N9 _ (.tail _ (.tail _ (.tail _ (.head _))))
  have hc3 := N9 _ (.tail _ (.tail _ (.tail _ (.tail _ (.head _)))))
  have st1 : stable oc1 = true := stable_nf (by rw [d1']; intro _ q; cases q)
  have st2 : stable oc2 = true := stable_nf (by rw [d2']; intro _ q; cases q)
  have st3 : stable oc3 = true := stable_nf (by rw [d3']; intro _ q; cases q)
  refine iter_list_MT (l := as9) (items := (vs.take 63).toArray) (fun i m h => SumsJ (hideAll s.heap []) L' as_ m h ∧ h.get? (L' + 1 + 1 + 1) = some oc1 ∧ h.get? (L' + 1 + 1) = some oc2 ∧ h.get? (L' + 1) = some oc3) rfl ⟨_, m9.1, rfl, _, rfl⟩ (Ne.symm m9.2.1) (by assumption) ?hJ
    (fun _ _ _ _ k j => ⟨j.1.sk k, k _ _ st1 j.2.1, k _ _ st2 j.2.2.1, k _ _ st3 j.2.2.2⟩) ?_ ?_
  case hJ => exact ⟨⟨⟨rfl, [_, _, _, _, _, _, _, _, _], _, 0, ms.1, .cons _ _ (.cons _ _ (.cons _ _ (.cons _ _ (.cons _ _ (.cons _ _ (.cons _ _ (.cons _ _ (.cons _ _ .nil)))))))), rfl⟩, 0, _, rfl, by omega⟩, hc1.1, hc2.1, hc3.1⟩
  · intro i v m₁ h tk I hv ⟨⟨⟨e1, ws, ss, n, g, his, hsl⟩, j, tj, e2, hj⟩, g1, g2, g3⟩ F₁ hIt hlst hne htk
    obtain ⟨nv, t, rfl, _⟩ := IntsAre.at hi9 i v (by simpa using hv)
    have hwl : ws.length = 9 := by rw [his.length]; exact hsl
    obtain ⟨nv', t', hw0, _⟩ := IntsAre.at his j ws[j] (List.getElem?_eq_getElem (by omega))
    have hw' : ws[j]? = some (.int nv' t') := by rw [List.getElem?_eq_getElem (by omega), hw0]
    have F₂ := Fr.say F₁ [(Str.ofString "sums", .ref as_), (Str.ofString "place", .int (j : Int) tj)] (List.forall_mem_cons.mpr ⟨e1, List.forall_mem_cons.mpr ⟨e2, fun _ h => nomatch h⟩⟩)
    have N₂ : News (hideAll s.heap []) L' h ((as_, listOf ws.toArray n) :: sat (hideAll s.heap []) L' [as_] h) :=
      List.forall_mem_cons.mpr ⟨⟨g, ms.2⟩, news_sat⟩
    have KP : Kept (hideAll s.heap []) h L' [as_] := Kept.of F₁
    have hIa : I ≠ as_ := off_list ⟨_, hIt.choose_spec.1, unstable hIt.choose_spec.2.1 hIt.choose_spec.2.2⟩ g
    have hjb : j < 1000 := by omega
    have hjw : j < ws.length := by omega
    have hfp : ∀ b ∈ [I, as9], b ≠ L' ∧ b ∉ [as_] := by
      intro b hb
      rcases List.mem_cons.mp hb with rfl | hb
      · exact ⟨Ne.symm hne, by simpa using hIa⟩
      · rw [List.mem_singleton.mp hb]; exact ⟨m9.2.1, by simpa using Ne.symm nas⟩
    clear N9 F₁
    k_steps
    rename News _ _ _ _ => N9
    refine TurnM.next' KP (by assumption) N9 (fun p hp => .tail _ hp) hfp fun k => ?_
    refine ⟨⟨⟨rfl, _, ss.set j (nv' + nv.fmod 1000000), _, (N9 _ (.head _)).1, ints_set his _ _, by rw [List.length_set]; exact hsl⟩, ((j + 1) % 9), _, place_eq, by omega⟩, k _ _ hc1.2.1 (by simp only [List.mem_singleton]; exact neN (by omega)) g1, k _ _ hc2.2.1 (by simp only [List.mem_singleton]; exact neN (by omega)) g2, k _ _ hc3.2.1 (by simp only [List.mem_singleton]; exact neN (by omega)) g3⟩
  · intro h tk m' F₁ ⟨⟨⟨e1, ws, ss, n, g, his, hsl⟩, _⟩, g1, g2, g3⟩ htk
    have htk9 : @LT.lt Nat _ 0 tk := by
      dsimp only at htk
      omega
    have hwl : ws.length = 9 := by rw [his.length]; exact hsl
    have F₂ := Fr.say F₁ [(Str.ofString "sums", .ref as_)] (List.forall_mem_cons.mpr ⟨e1, fun _ h => nomatch h⟩)
    have N₂ : News (hideAll s.heap []) L' h [(as_, listOf ws.toArray n), (L' + 1 + 1 + 1, oc1), (L' + 1 + 1, oc2), (L' + 1, oc3)] :=
      List.forall_mem_cons.mpr ⟨⟨g, ms.2⟩, List.forall_mem_cons.mpr ⟨⟨g1, hc1.2⟩, List.forall_mem_cons.mpr ⟨⟨g2, hc2.2⟩, List.forall_mem_cons.mpr ⟨⟨g3, hc3.2⟩, fun _ h => nomatch h⟩⟩⟩⟩
    clear N9 F₁
    (try dsimp only)
    k_steps
    rename News _ _ _ _ => N9
    rename PySem.Heap => h9
    obtain ⟨ae, e⟩ := name1 N9
    subst e
    obtain ⟨an, e⟩ := name2 N9
    subst e
    obtain ⟨ap, e⟩ := name3 N9
    subst e
    have hin : ∀ p : Addr × Obj, (h9.get? p.1 = some p.2 ∧ p.1 ≠ L' ∧ (hideAll s.heap []).get? p.1 = none) → InSat (hideAll s.heap []) L' [] h9 p.1 p.2 := fun p q => mem_sat.mpr ⟨q.1, q.2.1, by simp, q.2.2⟩
    have hE := N9 _ (.head _)
    have hNm := N9 _ (.tail _ (.head _))
    have hPr := N9 _ (.tail _ (.tail _ (.head _)))
    obtain ⟨pvs, pn, hPr', hpairs⟩ : ∃ (pvs : List Value) (pn : Nat), (ap, listOf pvs.toArray pn) ∈ sat (hideAll s.heap []) L' [] h9 ∧ ∀ p : Nat, p < 10 → ∃ pa, pvs[p]? = some (.ref pa) ∧ PairAt (InSat (hideAll s.heap []) L' [] h9) pa p := by
      refine ⟨[_, _, _, _, _, _, _, _, _, _], 0, hin _ hPr, fun p hp => ?_⟩
      match p, hp with
      | 0, _ => exact ⟨_, rfl, pair_good (by decide) (by decide) (hin _ (N9 _ (.tail _ (.tail _ (.tail _ (.tail _ (.tail _ (.tail _ (.tail _ (.tail _ (.tail _ (.tail _ (.tail _ (.tail _ (.head _))))))))))))))) (optStr_of rfl) (optStr_of rfl)⟩
      | 1, _ => exact ⟨_, rfl, pair_good (by decide) (by decide) (hin _ (N9 _ (.tail _ (.tail _ (.tail _ (.tail _ (.tail _ (.tail _ (.tail _ (.tail _ (.tail _ (.tail _ (.tail _ (.head _)))))))))))))) (optStr_of rfl) (optStr_of rfl)⟩
      | 2, _ => exact ⟨_, rfl, pair_good (by decide) (by decide) (hin _ (N9 _ (.tail _ (.tail _ (.tail _ (.tail _ (.tail _ (.tail _ (.tail _ (.tail _ (.tail _ (.tail _ (.head _))))))))))))) (optStr_of rfl) (optStr_of rfl)⟩
      | 3, _ => exact ⟨_, rfl, pair_good (by decide) (by decide) (hin _ (N9 _ (.tail _ (.tail _ (.tail _ (.tail _ (.tail _ (.tail _ (.tail _ (.tail _ (.tail _ (.head _)))))))))))) (optStr_of rfl) (optStr_of rfl)⟩
      | 4, _ => exact ⟨_, rfl, pair_good (by decide) (by decide) (hin _ (N9 _ (.tail _ (.tail _ (.tail _ (.tail _ (.tail _ (.tail _ (.tail _ (.tail _ (.head _))))))))))) (optStr_none rfl) (optStr_of rfl)⟩
      | 5, _ => exact ⟨_, rfl, pair_good (by decide) (by decide) (hin _ (N9 _ (.tail _ (.tail _ (.tail _ (.tail _ (.tail _ (.tail _ (.tail _ (.head _)))))))))) (optStr_none rfl) (optStr_none rfl)⟩
      | 6, _ => exact ⟨_, rfl, pair_good (by decide) (by decide) (hin _ (N9 _ (.tail _ (.tail _ (.tail _ (.tail _ (.tail _ (.tail _ (.head _))))))))) (optStr_of rfl) (optStr_of rfl)⟩
      | 7, _ => exact ⟨_, rfl, pair_good (by decide) (by decide) (hin _ (N9 _ (.tail _ (.tail _ (.tail _ (.tail _ (.tail _ (.head _)))))))) (optStr_of rfl) (optStr_none rfl)⟩
      | 8, _ => exact ⟨_, rfl, pair_num (hin _ (N9 _ (.tail _ (.tail _ (.tail _ (.tail _ (.head _)))))))⟩
      | 9, _ => exact ⟨_, rfl, pair_three (hin _ (N9 _ (.tail _ (.tail _ (.tail _ (.head _))))))⟩
    obtain ⟨nvs, nn, hNm', hnames⟩ : ∃ (nvs : List Value) (nn : Nat), (an, listOf nvs.toArray nn) ∈ sat (hideAll s.heap []) L' [] h9 ∧ ∀ p : Nat, p < 10 → ∃ nv, nvs[p]? = some nv ∧ OptStr nv (nameOf p) := by
      refine ⟨[_, _, _, _, _, _, _, _, _, _], 0, hin _ hNm, fun p hp => ?_⟩
      match p, hp with
      | 0, _ => exact ⟨_, rfl, optStr_of rfl⟩
      | 1, _ => exact ⟨_, rfl, optStr_of rfl⟩
      | 2, _ => exact ⟨_, rfl, optStr_of rfl⟩
      | 3, _ => exact ⟨_, rfl, optStr_of rfl⟩
      | 4, _ => exact ⟨_, rfl, optStr_of rfl⟩
      | 5, _ => exact ⟨_, rfl, optStr_of rfl⟩
      | 6, _ => exact ⟨_, rfl, optStr_of rfl⟩
      | 7, _ => exact ⟨_, rfl, optStr_of rfl⟩
      | 8, _ => exact ⟨_, rfl, optStr_none rfl⟩
      | 9, _ => exact ⟨_, rfl, optStr_none rfl⟩
    obtain ⟨evs, en, hEn', hends⟩ : ∃ (evs : List Value) (en : Nat), (ae, listOf evs.toArray en) ∈ sat (hideAll s.heap []) L' [] h9 ∧ ∀ p : Nat, p < 3 → ∃ t, evs[p]? = some (.str (endOf p) t) ∧ @LT.lt Nat _ 0 t ∧ @LT.lt Nat _ t (tk + 28) := by
      refine ⟨[_, _, _], 0, hin _ hE, fun p hp => ?_⟩
      match p, hp with
      | 0, _ => exact ⟨_, rfl, Nat.succ_pos _, by omega⟩
      | 1, _ => exact ⟨_, rfl, Nat.succ_pos _, by omega⟩
      | 2, _ => exact ⟨_, rfl, Nat.succ_pos _, by omega⟩
    have hS := N9 (as_, listOf ws.toArray n) (.tail _ (.tail _ (.tail _ (.tail _ (.tail _ (.tail _ (.tail _ (.tail _ (.tail _ (.tail _ (.tail _ (.tail _ (.tail _ (.head _))))))))))))))
    have hC1 := hin _ (N9 _ (.tail _ (.tail _ (.tail _ (.tail _ (.tail _ (.tail _ (.tail _ (.tail _ (.tail _ (.tail _ (.tail _ (.tail _ (.tail _ (.tail _ (.head _))))))))))))))))
    have hC2 := hin _ (N9 _ (.tail _ (.tail _ (.tail _ (.tail _ (.tail _ (.tail _ (.tail _ (.tail _ (.tail _ (.tail _ (.tail _ (.tail _ (.tail _ (.tail _ (.tail _ (.head _)))))))))))))))))
    have hC3 := hin _ (N9 _ (.tail _ (.tail _ (.tail _ (.tail _ (.tail _ (.tail _ (.tail _ (.tail _ (.tail _ (.tail _ (.tail _ (.tail _ (.tail _ (.tail _ (.tail _ (.tail _ (.head _))))))))))))))))))
    clear hin hE hNm hPr N9
    refine iter_list_C (l := as_) (items := ws.toArray) (fun i ys h => ∃ ds, PySem.Paired (DeedAt (InSat (hideAll s.heap []) L' [] h)) ys ds ∧ (∀ d ∈ ds, d.Ok) ∧ ds.length = i ∧ ∀ v ∈ ys, TokV (InSat (hideAll s.heap []) L' [] h) (tk + 28) v) rfl ⟨_, hS.1, rfl, _, rfl⟩ (by rw [List.size_toArray]; omega) (by assumption) ⟨[], .nil, fun _ q => (nomatch q), rfl, fun _ q => (nomatch q)⟩
      (fun i ys h h' k ⟨ds, p, q, r, t⟩ => ⟨ds, Paired.mono (fun _ _ z => DeedAt.mono (InSat.sk k) z) p, q, r, fun v hv => TokV.mono (InSat.sk k) (t v hv)⟩) ?_ ?_
    · intro i v D C I ys k s₁ h tk mC E' _ hv ⟨ds, hp, hok, hlen, htv⟩ F₁ hIt hlst hD hyl hDC hk fD fC
      obtain ⟨nv, t, rfl, _⟩ := IntsAre.at his i v (by simpa using hv)
      obtain ⟨kd, hkd, hkde⟩ := fmod_nat nv (m := 4) (by omega)
      obtain ⟨p, hp10, hpe⟩ := fmod_nat (nv.fdiv 4) (m := 10) (by omega)
      obtain ⟨f, hf3, hfe⟩ := fmod_nat (nv.fdiv 40) (m := 3) (by omega)
      obtain ⟨pa, hpv, hpa⟩ := hpairs p hp10
      obtain ⟨nm, hnv, hnm⟩ := hnames p hp10
      obtain ⟨te, hev, hte⟩ := hends f hf3
      have hp1 : p < 1000 := by omega
      have hf1 : f < 1000 := by omega
      have KP : Kept (hideAll s.heap []) h C [] := Kept.of F₁
      have N₁ : News (hideAll s.heap []) C h (sat (hideAll s.heap []) C [] h) := news_sat
      have up : ∀ a o, InSat (hideAll s.heap []) L' [] h9 a o → InSat (hideAll s.heap []) C [] h a o := fun a o q => by
        obtain ⟨e, c1, c2, c3⟩ := mem_sat.mp q
        exact mem_sat.mpr ⟨hk _ _ e, (fun z => by rw [z] at e; rw [show h9.get? C = none from fC] at e; cases e), c2, c3⟩
      have hcm1 : (_, _) ∈ sat (hideAll s.heap []) C [] h := up _ _ hC1
      have hcm2 : (_, _) ∈ sat (hideAll s.heap []) C [] h := up _ _ hC2
      have hcm3 : (_, _) ∈ sat (hideAll s.heap []) C [] h := up _ _ hC3
      have hPs : (_, _) ∈ sat (hideAll s.heap []) C [] h := up _ _ hPr'
      have hNs : (_, _) ∈ sat (hideAll s.heap []) C [] h := up _ _ hNm'
      have hEs : (_, _) ∈ sat (hideAll s.heap []) C [] h := up _ _ hEn'
      have hb0 : ∀ a, h9.get? a = none → (hideAll s.heap []).get? a = none := fun a q => by
        cases z : (hideAll s.heap []).get? a with
        | none => rfl
        | some o =>
          have := Fr.keep (by assumption : Fr (hideAll s.heap []) L' h9 _) a o z
          rw [q] at this; cases this
      have hDs : (D, listOf ys.toArray k) ∈ sat (hideAll s.heap []) C [] h := mem_sat.mpr ⟨hD, hDC, by simp, hb0 D fD⟩
      have hLs : ∃ oL, (L', oL) ∈ sat (hideAll s.heap []) C [] h := by
        obtain ⟨oL, _, _, e, _⟩ := Fr.ns (by assumption : Fr (hideAll s.heap []) L' h9 _)
        refine ⟨oL, mem_sat.mpr ⟨hk _ _ e, (fun z => by rw [z] at e; rw [show h9.get? C = none from fC] at e; cases e), by simp, ?_⟩⟩
        cases z : (hideAll s.heap []).get? L' with
        | none => rfl
        | some o => exact absurd (Nat.lt_of_lt_of_le (Heap.lt_size z) (Fr.above (by assumption : Fr (hideAll s.heap []) L' h9 _))) (Nat.lt_irrefl _)
      obtain ⟨oL, hLs⟩ := hLs
      clear hpairs hnames hends hPr' hNm' hEn' hC1 hC2 hC3
      rename Fr (hideAll s.heap []) L' h9 _ => F99
      clear F99
      k_steps
      rename News _ _ _ _ => N9
      obtain ⟨T9, e⟩ := name1 N9
      subst e
      refine CEnd.of KP (by assumption) N9 (fun p hp => .tail _ hp) fun k => ?_
      rename ∀ _, _ ∈ sat _ _ _ _ → _ => l9
      have nD : T9 ≠ D := fun q => by have := l9 _ hDs; rw [q] at this; exact Nat.lt_irrefl _ this
      have nL : T9 ≠ L' := fun q => by have := l9 _ hLs; rw [q] at this; exact Nat.lt_irrefl _ this
      have hT9 := mem_sat.mpr ⟨hideAll_get [D, C] (N9 _ (.head _)).1 (by simp [nD, (N9 _ (.head _)).2.1]), nL, (by simp : T9 ∉ ([] : List Addr)), (N9 _ (.head _)).2.2⟩
      refine ⟨ds ++ [⟨kd, p, f⟩], Paired.snoc (Paired.mono (fun _ _ z => DeedAt.mono (insatC k) z) hp) (deedAt_of hkde hT9 (PairAt.mono (fun a o st q => ?_) hpa) hnm), ?_, by rw [List.length_append, hlen]; rfl, ?_⟩
      rotate_left 2
      · intro v hv
        rcases List.mem_append.mp hv with hv | hv
        · exact TokV.mono (insatC k) (htv v hv)
        · rw [List.mem_singleton.mp hv]
          exact ⟨T9, _, _, _, _, te, _, rfl, hT9, hte.1, hte.2⟩
      · obtain ⟨e, c1, c2, c3⟩ := mem_sat.mp q
        have e' := hk _ _ e
        have hC : a ≠ C := fun z => by rw [z] at e; rw [show h9.get? C = none from fC] at e; cases e
        have hD' : a ≠ D := fun z => by rw [z] at e; rw [show h9.get? D = none from fD] at e; cases e
        exact mem_sat.mpr ⟨hideAll_get _ (k _ _ hC e') (by simp [hD', hC]), c1, c2, c3⟩
      · intro d hd
        rcases List.mem_append.mp hd with q | q
        · exact hok d q
        · rw [List.mem_singleton.mp q]
          exact ⟨by omega, hp10, hf3⟩
    · intro D C h' tk ys k fD fC hD hk ⟨ds, hp, hok, hlen, htv⟩ htkB
      rw [List.size_toArray, hwl] at hlen
      have F' := Fr.keeps' (by assumption : Fr (hideAll s.heap []) L' h9 _) hk
      have N' : News (hideAll s.heap []) L' h' (sat (hideAll s.heap []) L' [] h') := news_sat
      have hDn : s.heap.get? D = none := by
        cases z : s.heap.get? D with
        | none => rfl
        | some o =>
          have := Fr.keep (by assumption : Fr (hideAll s.heap []) L' h9 _) D o z
          rw [show h9.get? D = none from fD] at this; cases this
      rename Fr (hideAll s.heap []) L' h9 _ => F99
      clear F99
      k_steps
      refine ret D ds _ _ (Fr.keep (by assumption)) ⟨ys, k, ⟨hD, hDn⟩, Paired.mono (fun _ _ z => DeedAt.mono (fun a o _ q => ?_) z) hp⟩ hlen hok ⟨ys, k, hD, fun v hv => ?_⟩
      · obtain ⟨e, c1, c2, c3⟩ := mem_sat.mp q
        exact ⟨of_hideAll _ e, c3⟩
      · obtain ⟨a, x, y, z, e, u, kk, r, q, b1, b2⟩ := htv v hv
        refine ⟨a, x, y, z, e, u, kk, r, of_hideAll _ (mem_sat.mp q).1, b1, ?_⟩
        dsimp only at htkB
        omega
end
section



local macro_rules | `(tactic| omega) => `(tactic| lia)
theorem lower_list {x : Str} (h : NameOk x) : (Txt.lower x).cps.toList = x.cps.toList.map lo1 := by
  rw [h.lower_eq]
  show (x.cps.map lo1).toList = _
  rw [Array.toList_map]
theorem str_ext {a b : Str} (h : a.cps.toList = b.cps.toList) : a = b := PySem.Str.ext' (Array.toList_inj.mp h)
theorem lower_iff {a b : Str} (ha : NameOk a) (hb : NameOk b) : Txt.lower a = Txt.lower b ↔ a.cps.toList.map lo1 = b.cps.toList.map lo1 := by
  rw [← lower_list ha, ← lower_list hb]
  exact ⟨fun h => by rw [h], str_ext⟩
theorem lo1_dot {c : Nat} : lo1 c = 46 ↔ c = 46 := by
  unfold lo1
  constructor
  · intro h
    split at h
    · omega
    · exact h
  · rintro rfl; rfl
theorem dotLine_low : ∀ {l m : List Nat}, (dotLine l).map lo1 = (dotLine m).map lo1 ↔ l.map lo1 = m.map lo1
  | [], [] => Iff.rfl
  | [], d :: m => by
    rw [dotLine]
    constructor
    · intro h; rw [dotLine] at h; split at h <;> simp at h
    · intro h; simp at h
  | c :: l, [] => by
    constructor
    · intro h; rw [dotLine, dotLine] at h; split at h <;> simp at h
    · intro h; simp at h
  | c :: l, d :: m => by
    rw [dotLine, dotLine]
    by_cases hc : c = 46
    · by_cases hd : d = 46
      · rw [if_pos hc, if_pos hd, hc, hd]
        simp
      · rw [if_pos hc, if_neg hd]
        constructor
        · intro h
          simp only [List.map_cons, List.cons.injEq] at h
          exact absurd (lo1_dot.mp h.1.symm) hd
        · intro h
          simp only [List.map_cons, List.cons.injEq] at h
          rw [hc] at h
          exact absurd (lo1_dot.mp h.1.symm) hd
    · by_cases hd : d = 46
      · rw [if_neg hc, if_pos hd]
        constructor
        · intro h
          simp only [List.map_cons, List.cons.injEq] at h
          exact absurd (lo1_dot.mp h.1) hc
        · intro h
          simp only [List.map_cons, List.cons.injEq] at h
          rw [hd] at h
          exact absurd (lo1_dot.mp h.1) hc
      · rw [if_neg hc, if_neg hd]
theorem dotName_nameOk {x : Str} (h : x.cps.size ≤ 59) (hc : ∀ c ∈ x.cps, nameCh c) : NameOk (dotName x) := by
  refine ⟨Nat.le_trans (dotName_size x) (by omega), fun c q => hc c ?_⟩
  have := Array.mem_toList_iff.mpr q
  rw [dotName_list] at this
  exact Array.mem_toList_iff.mp (dotLine_mem this)
/-- a name that may get one dot more -/
def Nm (x : Str) : Prop := x.cps.size ≤ 40 ∧ ∀ c ∈ x.cps, nameCh c
theorem Nm.ok {x : Str} (h : Nm x) : NameOk x := ⟨by have := h.1; omega, h.2⟩
theorem Nm.dot {x : Str} (h : Nm x) : NameOk (dotName x) := dotName_nameOk (by have := h.1; omega) h.2
theorem dotName_lower {a b : Str} (ha : Nm a) (hb : Nm b) : Txt.lower (dotName a) = Txt.lower (dotName b) ↔ Txt.lower a = Txt.lower b := by
  rw [lower_iff ha.dot hb.dot, lower_iff ha.ok hb.ok, dotName_list, dotName_list]
  exact dotLine_low
theorem cut_one (n : Nat) : PySem.Builtin.Str.strSliceIndices none (some 1) 1 (n + 1) = [0] := by
  unfold PySem.Builtin.Str.strSliceIndices
  have e : max (0 : Int) (min (1 : Int) ((n + 1 : Nat) : Int)) = 1 := by omega
  simp only [show ¬ ((1 : Int) < 0) from by decide, show (1 : Int) > 0 from by decide, if_true, if_false, e]
  decide
theorem slice_head (x : Str) : (Txt.slice x none (some 1)).cps.toList = x.cps.toList.take 1 := by
  have hl : x.length = x.cps.toList.length := by simp [Str.length]
  unfold Txt.slice
  cases hx : x.cps.toList with
  | nil =>
    have h0 : x.length = 0 := by rw [hl, hx]; rfl
    rw [h0, if_pos (by decide), hx]
    rfl
  | cons c r =>
    have h0 : x.length = r.length + 1 := by rw [hl, hx]; rfl
    rw [h0, cut_one]
    have h1 : x.cps[0]? = some c := by rw [← Array.getElem?_toList, hx]; rfl
    cases r with
    | nil => rw [if_pos (by decide), hx]; rfl
    | cons d r =>
      rw [if_neg (by simp)]
      simp [h1]
theorem head_dot {x : Str} : (Txt.slice x none (some 1) == Str.ofString ".") = true ↔ x.cps.toList.head? = some 46 := by
  have e : (Txt.slice x none (some 1) == Str.ofString ".") = true ↔ (Txt.slice x none (some 1)).cps.toList = [46] :=
    ⟨fun h => by rw [eq_of_beq h]; rfl, fun h => by rw [show Txt.slice x none (some 1) = Str.ofString "." from str_ext h]; exact beq_self_eq_true _⟩
  rw [e, slice_head]
  cases x.cps.toList with
  | nil => simp
  | cons c r => simp
theorem seenName_list {way home : List Int} {nm : Str} : (seenName way home nm).cps.toList = (if nm.cps.toList.head? = some 46 then List.replicate ((way.length : Int) - (home.length : Int)).toNat 46 else []) ++ nm.cps.toList := by
  unfold seenName
  by_cases h : (Txt.slice nm none (some 1) == Str.ofString ".") = true
  · rw [if_pos h, if_pos (head_dot.mp h)]
    show ((Txt.mul (Str.ofString ".") _).cps ++ nm.cps).toList = _
    rw [Array.toList_append, show Str.ofString "." = ⟨#[46]⟩ from rfl, mul_one_list]
  · rw [if_neg h, if_neg (fun q => h (head_dot.mpr q))]
    rfl
theorem seenName_dot {way home : List Int} {nm : Str} {z : Int} (h : home.length ≤ way.length) : seenName (way ++ [z]) home nm = dotName (seenName way home nm) := by
  apply str_ext
  rw [dotName_list, seenName_list, seenName_list]
  by_cases hd : nm.cps.toList.head? = some 46
  · rw [if_pos hd, if_pos hd, List.length_append]
    have e : (((way.length + [z].length : Nat) : Int) - (home.length : Int)).toNat = ((way.length : Int) - (home.length : Int)).toNat + 1 := by
      simp only [List.length_cons, List.length_nil]; omega
    rw [e]
    obtain ⟨r, hr⟩ : ∃ r, nm.cps.toList = 46 :: r := by
      cases q : nm.cps.toList with
      | nil => rw [q] at hd; cases hd
      | cons c r => rw [q] at hd; cases hd; exact ⟨r, rfl⟩
    rw [hr]
    cases ((way.length : Int) - (home.length : Int)).toNat with
    | zero => show 46 :: 46 :: r = dotLine (46 :: r); rw [dotLine, if_pos rfl]
    | succ k =>
      rw [List.replicate_succ, List.replicate_succ]
      show 46 :: 46 :: (List.replicate k 46 ++ 46 :: r) = dotLine (46 :: (List.replicate k 46 ++ 46 :: r))
      rw [dotLine, if_pos rfl]
  · rw [if_neg hd, if_neg hd]
    cases q : nm.cps.toList with
    | nil => rfl
    | cons c r =>
      have hc : c ≠ 46 := fun e => hd (by rw [q, e]; rfl)
      show c :: r = dotLine (c :: r)
      rw [dotLine, if_neg hc]
def AccOk (acc : List (Str × Str)) : Prop := ∀ r ∈ acc, Nm r.1
def ToldOk (x : Told) : Prop := ∀ nm, x.2.2 = some nm → nm.cps.size ≤ 3 ∧ ∀ c ∈ nm.cps, nameCh c
theorem seenName_nm {way home : List Int} {nm : Str} (hw : way.length ≤ 30) (hs : nm.cps.size ≤ 3) (hc : ∀ c ∈ nm.cps, nameCh c) : Nm (seenName way home nm) := by
  have e := @seenName_list way home nm
  refine ⟨?_, fun c q => ?_⟩
  · have h9 : nm.cps.toList.length = nm.cps.size := Array.length_toList
    rw [← Array.length_toList, e, List.length_append, h9]
    split
    · rw [List.length_replicate]; omega
    · show 0 + _ ≤ _; omega
  · have := Array.mem_toList_iff.mpr q
    rw [e] at this
    rcases List.mem_append.mp this with h | h
    · split at h
      · rw [(List.mem_replicate.mp h).2]; unfold nameCh; decide
      · cases h
    · exact hc c (Array.mem_toList_iff.mp h)
theorem any_iff {acc : List (Str × Str)} {b : Str} : ((acc.map fun r => Txt.lower r.1).any fun x => x == Txt.lower b) = true ↔ ∃ r ∈ acc, Txt.lower r.1 = Txt.lower b := by
  rw [List.any_eq_true]
  constructor
  · rintro ⟨x, hx, e⟩
    obtain ⟨r, hr, rfl⟩ := List.mem_map.mp hx
    exact ⟨r, hr, eq_of_beq e⟩
  · rintro ⟨r, hr, e⟩
    exact ⟨_, List.mem_map.mpr ⟨r, hr, rfl⟩, by rw [e]; exact beq_self_eq_true _⟩
theorem seenAdd_ok {way home : List Int} {xt : Nat} {nm : Str} {acc : List (Str × Str)} (hw : way.length ≤ 30) (hs : nm.cps.size ≤ 3) (hc : ∀ c ∈ nm.cps, nameCh c) (h : AccOk acc) : AccOk (seenAdd way home xt nm acc) := by
  unfold seenAdd
  split
  · exact h
  · intro r hr
    rcases List.mem_append.mp hr with hr | hr
    · exact h r hr
    · rw [List.mem_singleton.mp hr]; exact seenName_nm hw hs hc
theorem seenStep_ok {way opened : List Int} {T : Int} {acc : List (Str × Str)} {x : Told} (hw : way.length ≤ 30) (hx : ToldOk x) (h : AccOk acc) : AccOk (seenStep way opened T acc x) := by
  unfold seenStep
  split
  · exact h
  · rename_i nm e
    obtain ⟨hs, hc⟩ := hx nm e
    (repeat' split) <;> first | exact h | exact seenAdd_ok hw hs hc h
theorem seenAdd_dot {way home : List Int} {xt : Nat} {nm : Str} {acc : List (Str × Str)} {z : Int} (hl : home.length ≤ way.length) (hw : way.length ≤ 29) (hs : nm.cps.size ≤ 3) (hc : ∀ c ∈ nm.cps, nameCh c) (h : AccOk acc) :
    quoted (seenAdd way home xt nm acc) = seenAdd (way ++ [z]) home xt nm (quoted acc) := by
  have hn : Nm (seenName way home nm) := seenName_nm (by omega) hs hc
  have key : (((quoted acc).map fun r => Txt.lower r.1).any fun x => x == Txt.lower (seenName (way ++ [z]) home nm)) = ((acc.map fun r => Txt.lower r.1).any fun x => x == Txt.lower (seenName way home nm)) := by
    rw [Bool.eq_iff_iff, any_iff, any_iff, seenName_dot hl]
    constructor
    · rintro ⟨r, hr, e⟩
      obtain ⟨q, hq, rfl⟩ := List.mem_map.mp hr
      exact ⟨q, hq, (dotName_lower (h q hq) hn).mp e⟩
    · rintro ⟨r, hr, e⟩
      exact ⟨_, List.mem_map.mpr ⟨r, hr, rfl⟩, (dotName_lower (h r hr) hn).mpr e⟩
  unfold seenAdd
  rw [key]
  split
  · rfl
  · unfold quoted
    rw [List.map_append, seenName_dot hl]
    rfl
/-- what a deed told knows of the scopes that there were -/
structure ToldIn (n : Nat) (i : Int) (x : Told) : Prop where
  ok : ToldOk x
  turn : (x.1 : Int) < i
  home : ∀ k ∈ x.2.1, 0 ≤ k ∧ k < (n : Int)
theorem take_snoc_ne {way home : List Int} {z : Int} (hz : z ∉ home) (hl : way.length < home.length) : (way ++ [z]).take home.length ≠ home := by
  intro e
  have h1 : z ∈ (way ++ [z]).take home.length := by
    rw [List.take_of_length_le (by simp; omega)]
    simp
  rw [e] at h1
  exact hz h1
theorem getD_app {l : List Int} {k : Nat} {z : Int} (h : k < l.length) : (l ++ [z]).getD k 0 = l.getD k 0 := by
  rw [List.getD_eq_getElem?_getD, List.getD_eq_getElem?_getD, List.getElem?_append_left h]
theorem getD_last {l : List Int} {z : Int} : (l ++ [z]).getD l.length 0 = z := by
  rw [List.getD_eq_getElem?_getD, List.getElem?_append_right (Nat.le_refl _)]
  simp
theorem seenStep_dot {way opened : List Int} {T : Int} {acc : List (Str × Str)} {x : Told} {n : Nat} {i : Int} (hx : ToldIn n i x) (hT : i ≤ T) (hon : opened.length = n) (hway : ∀ k ∈ way, 0 ≤ k ∧ k < (n : Int)) (hw : way.length ≤ 29) (h : AccOk acc) :
    quoted (seenStep way opened T acc x) = seenStep (way ++ [(n : Int)]) (opened ++ [i]) T (quoted acc) x := by
  obtain ⟨xt, xh, xn⟩ := x
  have ht : (xt : Int) < i := hx.turn
  cases xn with
  | none => rfl
  | some nm =>
    obtain ⟨hs, hc⟩ := hx.ok nm rfl
    have hT' : ¬ T ≤ (xt : Int) := by omega
    by_cases hlen : xh.length ≤ way.length
    · have htk : (way ++ [(n : Int)]).take xh.length = way.take xh.length := by rw [List.take_append_of_le_length hlen]
      by_cases hp : way.take xh.length = xh
      · have hp' : (way ++ [(n : Int)]).take xh.length = xh := htk.trans hp
        have hlt' : (xh.length : Int) < ((way ++ [(n : Int)]).length : Int) := by rw [List.length_append]; simp; omega
        by_cases hlt : (xh.length : Int) < (way.length : Int)
        · have hkl : xh.length < way.length := by omega
          have hm : way.getD xh.length 0 ∈ way := by
            rw [List.getD_eq_getElem?_getD, List.getElem?_eq_getElem hkl]; exact List.getElem_mem hkl
          have hin := hway _ hm
          have e1 : (way ++ [(n : Int)]).getD (xh.length : Int).toNat 0 = way.getD (xh.length : Int).toNat 0 := getD_app (by simpa using hkl)
          have e2 : (opened ++ [i]).getD ((way ++ [(n : Int)]).getD (xh.length : Int).toNat 0).toNat 0 = opened.getD (way.getD (xh.length : Int).toNat 0).toNat 0 := by
            rw [e1]
            refine getD_app ?_
            have : (xh.length : Int).toNat = xh.length := by simp
            rw [this]; omega
          by_cases h4 : opened.getD (way.getD (xh.length : Int).toNat 0).toNat 0 < (xt : Int)
          · rw [seen_e3 hT' hp hlt h4, seen_e3 hT' hp' hlt' (by rw [e2]; exact h4)]
          · rw [seen_e4 hT' hp hlt h4, seen_e4 hT' hp' hlt' (by rw [e2]; exact h4)]
            exact seenAdd_dot hlen hw hs hc h
        · have hkl : xh.length = way.length := by omega
          have e2 : (opened ++ [i]).getD ((way ++ [(n : Int)]).getD (xh.length : Int).toNat 0).toNat 0 = i := by
            have : (xh.length : Int).toNat = way.length := by simp [hkl]
            rw [this, getD_last]
            have : ((n : Int)).toNat = opened.length := by simp [hon]
            rw [this, getD_last]
          rw [seen_e5 hT' hp hlt, seen_e4 hT' hp' hlt' (by rw [e2]; omega)]
          exact seenAdd_dot hlen hw hs hc h
      · rw [seen_e2 hT' hp, seen_e2 hT' (fun q => hp (htk.symm.trans q))]
    · have hz : (n : Int) ∉ xh := fun q => by have := hx.home _ q; omega
      rw [seen_e2 hT' (fun q => by have := congrArg List.length q; rw [List.length_take] at this; omega), seen_e2 hT' (take_snoc_ne hz (by omega))]
theorem seen_quoted {way opened : List Int} {T : Int} {n : Nat} {i : Int} (hT : i ≤ T) (hon : opened.length = n) (hway : ∀ k ∈ way, 0 ≤ k ∧ k < (n : Int)) (hw : way.length ≤ 29) : ∀ (told : List Told) (acc : List (Str × Str)), (∀ x ∈ told, ToldIn n i x) → AccOk acc →
    quoted (told.foldl (seenStep way opened T) acc) = told.foldl (seenStep (way ++ [(n : Int)]) (opened ++ [i]) T) (quoted acc)
  | [], _, _, _ => rfl
  | x :: told, acc, hx, h => by
    rw [List.foldl_cons, List.foldl_cons, ← seenStep_dot (hx x (.head _)) hT hon hway hw h]
    exact seen_quoted hT hon hway hw told _ (fun y hy => hx y (.tail _ hy)) (seenStep_ok (by omega) (hx x (.head _)).ok h)
/-- scopes that come later change nothing -/
theorem seenStep_more {way opened : List Int} {T : Int} {acc : List (Str × Str)} {x : Told} {z : Int} (hway : ∀ k ∈ way, 0 ≤ k ∧ k < (opened.length : Int)) : seenStep way (opened ++ [z]) T acc x = seenStep way opened T acc x := by
  obtain ⟨xt, xh, xn⟩ := x
  cases xn with
  | none => rfl
  | some nm =>
    unfold seenStep
    dsimp only
    by_cases hlt : (xh.length : Int) < (way.length : Int)
    · have hkl : xh.length < way.length := by omega
      have hm : way.getD xh.length 0 ∈ way := by
        rw [List.getD_eq_getElem?_getD, List.getElem?_eq_getElem hkl]; exact List.getElem_mem hkl
      have hin := hway _ hm
      have e2 : (opened ++ [z]).getD (way.getD (xh.length : Int).toNat 0).toNat 0 = opened.getD (way.getD (xh.length : Int).toNat 0).toNat 0 := by
        refine getD_app ?_
        have : (xh.length : Int).toNat = xh.length := by simp
        rw [this]; omega
      rw [e2]
    · rw [if_neg hlt, if_neg hlt]
theorem seen_more {way opened : List Int} {T : Int} {z : Int} (hway : ∀ k ∈ way, 0 ≤ k ∧ k < (opened.length : Int)) (told : List Told) : seenOf way (opened ++ [z]) T told = seenOf way opened T told := by
  unfold seenOf
  generalize ([] : List (Str × Str)) = acc
  induction told generalizing acc with
  | nil => rfl
  | cons x told ih => rw [List.foldl_cons, List.foldl_cons, seenStep_more hway, ih]
theorem seen_snoc {w o : List Int} {T : Int} {told : List Told} {x : Told} : seenOf w o T (told ++ [x]) = seenStep w o T (seenOf w o T told) x := by
  unfold seenOf; rw [List.foldl_append]; rfl
theorem skip_turn {w o : List Int} {T : Int} {acc : List (Str × Str)} {x : Told} (h : T ≤ (x.1 : Int)) : seenStep w o T acc x = acc := by
  obtain ⟨xt, xh, xn⟩ := x
  cases xn with
  | none => rfl
  | some nm => exact seen_e1 h
theorem any_get {acc : List (Str × Str)} {nm : Str} : ((acc.map fun r => Txt.lower r.1).any fun x => x == Txt.lower nm) = (getRow acc nm).isSome := by
  unfold getRow
  rw [Option.isSome_map, List.any_map, Bool.eq_iff_iff, List.find?_isSome, List.any_eq_true]
  rfl
theorem seenName_self {here : List Int} {nm : Str} : seenName here here nm = nm := by
  apply str_ext
  rw [seenName_list]
  split
  · simp
  · rfl
theorem own_step {here opened : List Int} {T : Int} {acc : List (Str × Str)} {i : Nat} {nm : Str} (h : (i : Int) < T) : seenStep here opened T acc (i, here, some nm) = setRow acc nm (tabs i) := by
  rw [seen_e5 (by omega) (by rw [List.take_length]) (by omega)]
  unfold seenAdd setRow
  rw [seenName_self, any_get]
  cases getRow acc nm with
  | none => rfl
  | some v => rfl
theorem getRow_setRow {t : List (Str × Str)} {nm v : Str} : getRow (setRow t nm v) nm = some ((getRow t nm).getD v) := by
  unfold setRow
  cases h : getRow t nm with
  | some y => exact h
  | none =>
    show getRow (t ++ [(nm, v)]) nm = some v
    unfold getRow at h ⊢
    rw [List.find?_append]
    have h0 : t.find? (fun r => Txt.lower r.1 == Txt.lower nm) = none := by
      cases q : t.find? (fun r => Txt.lower r.1 == Txt.lower nm) with
      | none => rfl
      | some z => rw [q] at h; cases h
    rw [h0]
    simp
noncomputable def dueOf (opened : List Int) (told : List Told) (x : Told) : Option Str := match x.2.2 with
  | none => none
  | some nm => getRow (seenOf x.2.1 opened ((x.1 : Int) + 1) told) nm
theorem due_more {opened : List Int} {told : List Told} {x : Told} {z : Int} (h : ∀ k ∈ x.2.1, 0 ≤ k ∧ k < (opened.length : Int)) : dueOf (opened ++ [z]) told x = dueOf opened told x := by
  unfold dueOf
  split
  · rfl
  · rw [seen_more h]
theorem due_later {opened : List Int} {told : List Told} {x y : Told} (h : (x.1 : Int) + 1 ≤ (y.1 : Int)) : dueOf opened (told ++ [y]) x = dueOf opened told x := by
  unfold dueOf
  split
  · rfl
  · rw [seen_snoc, skip_turn h]
theorem name_some : ∀ i, i < 8 → nameOf i = some (locName (langOf i) (encOf i)) := by
  intro i hi
  match i, hi with
  | 0, _ => rfl
  | 1, _ => rfl
  | 2, _ => rfl
  | 3, _ => rfl
  | 4, _ => rfl
  | 5, _ => rfl
  | 6, _ => rfl
  | 7, _ => rfl
theorem name_none : ∀ i, 8 ≤ i → i < 10 → nameOf i = none := by
  intro i h hi
  match i, h, hi with
  | 8, _, _ => rfl
  | 9, _, _ => rfl
theorem name_three : ∀ i, i < 8 → (locName (langOf i) (encOf i)).cps.size ≤ 3 := by decide +kernel
structure Inv (i : Nat) (R : Run) (P : Plan) : Prop where
  here : R.pile = P.here
  root : P.ways[0]? = some [0]
  nT : R.tabs.length = P.ways.length
  nO : P.opened.length = P.ways.length
  nW : P.ways.length ≤ i + 1
  wayIn : ∀ w ∈ P.ways, ∀ k ∈ w, 0 ≤ k ∧ k < (P.ways.length : Int)
  wayLen : ∀ w ∈ P.ways, 1 ≤ w.length ∧ w.length ≤ i + 1
  last : ∀ (j : Nat) w, P.ways[j]? = some w → w.getLast? = some (j : Int)
  pre : ∀ (j : Nat) w, P.ways[j]? = some w → ∀ k, 1 ≤ k → k ≤ w.length → ∃ q : Nat, P.ways[q]? = some (w.take k)
  hereW : ∃ p : Nat, P.ways[p]? = some P.here
  opIn : ∀ (j : Nat) t, 1 ≤ j → P.opened[j]? = some t → t < (i : Int)
  told : ∀ x ∈ P.told, ToldIn P.ways.length i x ∧ ∃ p : Nat, P.ways[p]? = some x.2.1
  tabs : ∀ (j : Nat) w t, P.ways[j]? = some w → R.tabs[j]? = some t → ∀ T : Int, (i : Int) ≤ T → t = seenOf w P.opened T P.told
  ans : R.answers = P.told.map (dueOf P.opened P.told)
theorem Inv.zero : Inv 0 ⟨[[]], [0], []⟩ ⟨[0], [[0]], [0], []⟩ := by
  refine ⟨rfl, rfl, rfl, rfl, Nat.le_refl _, ?_, ?_, ?_, ?_, ⟨0, rfl⟩, ?_, ?_, ?_, rfl⟩
  · intro w hw k hk; rw [List.mem_singleton.mp hw] at hk; rw [List.mem_singleton.mp hk]; simp
  · intro w hw; rw [List.mem_singleton.mp hw]; simp
  · intro j w h
    match j, h with
    | 0, h => cases h; rfl
    | j + 1, h => simp at h
  · intro j w h k h1 h2
    match j, h with
    | 0, h =>
      cases h
      have : k = 1 := by simp at h2; omega
      subst this
      exact ⟨0, rfl⟩
    | j + 1, h => simp at h
  · intro j t h1 h2
    match j, h1, h2 with
    | j + 1, _, h2 => simp at h2
  · intro x hx; cases hx
  · intro j w t h1 h2 T _
    match j, h1, h2 with
    | 0, h1, h2 => cases h2; rfl
    | j + 1, h1, h2 => simp at h1
/-- the page of the scope that one is in -/
theorem Inv.cur {i : Nat} {R : Run} {P : Plan} (I : Inv i R P) : ∃ p : Nat, P.ways[p]? = some P.here ∧ R.here = p ∧ R.tabs[p]? = some R.table ∧ ∀ T : Int, (i : Int) ≤ T → R.table = seenOf P.here P.opened T P.told := by
  obtain ⟨p, hp⟩ := I.hereW
  have hl := I.last p _ hp
  have hh : R.here = p := by
    unfold Run.here
    rw [I.here, hl]
    simp
  have hlt : p < R.tabs.length := by rw [I.nT]; exact (List.getElem?_eq_some_iff.mp hp).1
  have ht : R.tabs[p]? = some R.table := by
    unfold Run.table
    rw [hh, List.getD_eq_getElem?_getD, List.getElem?_eq_getElem hlt]
    rfl
  exact ⟨p, hp, hh, ht, fun T hT => I.tabs p _ _ hp ht T hT⟩
theorem Inv.back {i : Nat} {R : Run} {P : Plan} (I : Inv i R P) : Inv (i + 1) ⟨R.tabs, R.pile.take (max 1 (R.pile.length - 1)), R.answers⟩ { P with here := P.here.take (max 1 (P.here.length - 1)) } := by
  obtain ⟨p, hp⟩ := I.hereW
  have hlen := I.wayLen _ (List.mem_of_getElem? hp)
  refine ⟨by rw [I.here], I.root, I.nT, I.nO, Nat.le_succ_of_le I.nW, I.wayIn, fun w hw => ⟨(I.wayLen w hw).1, Nat.le_succ_of_le (I.wayLen w hw).2⟩, I.last, I.pre, I.pre p _ hp _ (by omega) (by omega), fun j t h1 h2 => by have := I.opIn j t h1 h2; omega, fun x hx => ?_, fun j w t h1 h2 T hT => I.tabs j w t h1 h2 T (by omega), I.ans⟩
  obtain ⟨⟨a, b, c⟩, d⟩ := I.told x hx
  exact ⟨⟨a, by omega, c⟩, d⟩

theorem get_snoc_lt {α : Type} {l : List α} {a : α} {j : Nat} (h : j < l.length) : (l ++ [a])[j]? = l[j]? := List.getElem?_append_left h
theorem get_snoc_eq {α : Type} {l : List α} {a : α} : (l ++ [a])[l.length]? = some a := by
  rw [List.getElem?_append_right (Nat.le_refl _)]; simp
theorem get_snoc {α : Type} {l : List α} {a b : α} {j : Nat} (h : (l ++ [a])[j]? = some b) : (j < l.length ∧ l[j]? = some b) ∨ (j = l.length ∧ b = a) := by
  rcases Nat.lt_or_ge j l.length with q | q
  · rw [get_snoc_lt q] at h; exact .inl ⟨q, h⟩
  · rw [List.getElem?_append_right q] at h
    have h2 := (List.getElem?_eq_some_iff.mp h).1
    simp at h2
    have e : j = l.length := by omega
    subst e
    simp at h
    exact .inr ⟨rfl, h.symm⟩
theorem Inv.open_ {i : Nat} {R : Run} {P : Plan} (I : Inv i R P) (hi : i ≤ 20) :
    Inv (i + 1) ⟨R.tabs ++ [quoted R.table], R.pile ++ [(R.tabs.length : Int)], R.answers⟩ ⟨P.here ++ [(P.ways.length : Int)], P.ways ++ [P.here ++ [(P.ways.length : Int)]], P.opened ++ [(i : Int)], P.told⟩ := by
  obtain ⟨p, hp, hh, ht, htab⟩ := I.cur
  have hm := List.mem_of_getElem? hp
  have hlen := I.wayLen _ hm
  have hin := I.wayIn _ hm
  have hon : ∀ w ∈ P.ways, ∀ k ∈ w, 0 ≤ k ∧ k < (P.opened.length : Int) := fun w hw k hk => by rw [I.nO]; exact I.wayIn w hw k hk
  refine ⟨by rw [I.here, I.nT], by rw [get_snoc_lt (List.getElem?_eq_some_iff.mp I.root).1]; exact I.root, by simp [I.nT], by simp [I.nO], by simp; exact I.nW, ?_, ?_, ?_, ?_, ⟨P.ways.length, get_snoc_eq⟩, ?_, ?_, ?_, ?_⟩
  · intro w hw k hk
    rw [List.length_append]
    simp only [List.length_cons, List.length_nil]
    rcases List.mem_append.mp hw with hw | hw
    · have := I.wayIn w hw k hk; omega
    · rw [List.mem_singleton.mp hw] at hk
      rcases List.mem_append.mp hk with hk | hk
      · have := hin k hk; omega
      · rw [List.mem_singleton.mp hk]; omega
  · intro w hw
    rcases List.mem_append.mp hw with hw | hw
    · have := I.wayLen w hw; omega
    · rw [List.mem_singleton.mp hw, List.length_append]; simp; omega
  · intro j w h
    rcases get_snoc h with ⟨q, h⟩ | ⟨q, rfl⟩
    · exact I.last j w h
    · rw [q]; simp
  · intro j w h k h1 h2
    rcases get_snoc h with ⟨q, h⟩ | ⟨q, rfl⟩
    · obtain ⟨z, hz⟩ := I.pre j w h k h1 h2
      exact ⟨z, by rw [get_snoc_lt (List.getElem?_eq_some_iff.mp hz).1]; exact hz⟩
    · rw [List.length_append] at h2
      simp only [List.length_cons, List.length_nil] at h2
      by_cases e : k = P.here.length + 1
      · refine ⟨P.ways.length, ?_⟩
        rw [get_snoc_eq, List.take_of_length_le (by simp; omega)]
      · obtain ⟨z, hz⟩ := I.pre p _ hp k h1 (by omega)
        refine ⟨z, ?_⟩
        rw [get_snoc_lt (List.getElem?_eq_some_iff.mp hz).1, hz, List.take_append_of_le_length (by omega)]
  · intro j t h1 h2
    rcases get_snoc h2 with ⟨q, h2⟩ | ⟨q, rfl⟩
    · have := I.opIn j t h1 h2; omega
    · omega
  · intro x hx
    obtain ⟨⟨a, b, c⟩, z, hz⟩ := I.told x hx
    refine ⟨⟨a, by omega, fun k hk => by have := c k hk; rw [List.length_append]; simp only [List.length_cons, List.length_nil]; omega⟩, z, ?_⟩
    rw [get_snoc_lt (List.getElem?_eq_some_iff.mp hz).1]; exact hz
  · intro j w t h1 h2 T hT
    rcases get_snoc h1 with ⟨q, h1⟩ | ⟨q, rfl⟩
    · rw [get_snoc_lt (by rw [I.nT]; exact q)] at h2
      rw [seen_more (hon w (List.mem_of_getElem? h1))]
      exact I.tabs j w t h1 h2 T (by omega)
    · rw [q, ← I.nT, get_snoc_eq] at h2
      obtain rfl := Option.some.inj h2
      rw [htab T (by omega)]
      exact seen_quoted (n := P.ways.length) (i := i) (by omega) I.nO hin (by omega) P.told [] (fun x hx => (I.told x hx).1) (fun r hr => by cases hr)
  · show R.answers = P.told.map _
    rw [I.ans]
    apply List.map_congr_left
    intro x hx
    refine (due_more fun k hk => ?_).symm
    rw [I.nO]
    exact (I.told x hx).1.home k hk
/-- a deed told in one scope, seen from another -/
theorem other_step {i : Nat} {R : Run} {P : Plan} (I : Inv i R P) {j p : Nat} {w : List Int} (hw : P.ways[j]? = some w) (hp : P.ways[p]? = some P.here) (hj : j ≠ p) {T : Int} {acc : List (Str × Str)} {nm : Str} (hT : (i : Int) < T) : seenStep w P.opened T acc (i, P.here, some nm) = acc := by
  by_cases hpre : w.take P.here.length = P.here
  · have hne : w.length ≠ P.here.length := fun e => by
      rw [← e, List.take_length] at hpre
      have h1 := I.last j w hw
      have h2 := I.last p _ hp
      rw [hpre] at h1
      rw [h1] at h2
      simp at h2
      exact hj (by omega)
    have hle : P.here.length ≤ w.length := by
      have := congrArg List.length hpre
      rw [List.length_take] at this
      omega
    have hlt : (P.here.length : Int) < (w.length : Int) := by omega
    refine seen_e3 (by omega) hpre hlt ?_
    have hkl : P.here.length < w.length := by omega
    have h0 : (P.here.length : Int).toNat = P.here.length := by simp
    rw [h0]
    -- the scope that the way goes through next
    obtain ⟨q, hq⟩ := I.pre j w hw (P.here.length + 1) (by omega) (by omega)
    have hlq := I.last q _ hq
    have hg : w.getD P.here.length 0 = (q : Int) := by
      rw [List.getD_eq_getElem?_getD, List.getElem?_eq_getElem hkl]
      rw [List.take_succ_eq_append_getElem hkl, List.getLast?_append] at hlq
      simpa using hlq
    have hpos : 1 ≤ P.here.length := (I.wayLen _ (List.mem_of_getElem? hp)).1
    have hq1 : 1 ≤ q := by
      rcases Nat.eq_zero_or_pos q with e | e
      · subst e
        rw [I.root] at hq
        have := congrArg (fun o => (o.map List.length).getD 0) hq
        simp at this
        omega
      · exact e
    rw [hg]
    have hqo : q < P.opened.length := by rw [I.nO]; exact (List.getElem?_eq_some_iff.mp hq).1
    have e3 : P.opened.getD (q : Int).toNat 0 = P.opened[q] := by
      rw [List.getD_eq_getElem?_getD]; simp [hqo]
    rw [e3]
    exact I.opIn q _ hq1 (List.getElem?_eq_getElem hqo)
  · exact seen_e2 (by omega) hpre

theorem Inv.tell {i : Nat} {R : Run} {P : Plan} {idx : Nat} (I : Inv i R P) (h8 : idx < 8) :
    Inv (i + 1) ⟨R.tabs.set R.here (setRow R.table (locName (langOf idx) (encOf idx)) (Mine.tabs i)), R.pile, R.answers ++ [some ((getRow R.table (locName (langOf idx) (encOf idx))).getD (Mine.tabs i))]⟩ { P with told := P.told ++ [(i, P.here, nameOf idx)] } := by
  obtain ⟨p, hp, hh, ht, htab⟩ := I.cur
  have hm := List.mem_of_getElem? hp
  have hname := name_some idx h8
  have hsz := name_three idx h8
  have hch := (loc_ok idx h8).2
  generalize locName (langOf idx) (encOf idx) = nm at *
  rw [hname, hh]
  refine ⟨I.here, I.root, by rw [List.length_set]; exact I.nT, I.nO, Nat.le_succ_of_le I.nW, I.wayIn, fun w hw => ⟨(I.wayLen w hw).1, Nat.le_succ_of_le (I.wayLen w hw).2⟩, I.last, I.pre, I.hereW, fun j t h1 h2 => by have := I.opIn j t h1 h2; omega, ?_, ?_, ?_⟩
  · intro x hx
    rcases List.mem_append.mp hx with hx | hx
    · obtain ⟨⟨a, b, c⟩, d⟩ := I.told x hx
      exact ⟨⟨a, by omega, c⟩, d⟩
    · rw [List.mem_singleton.mp hx]
      exact ⟨⟨(fun nm' q => by cases q; exact ⟨hsz, hch⟩), by show (i : Int) < ((i + 1 : Nat) : Int); omega, I.wayIn _ hm⟩, p, hp⟩
  · intro j w t h1 h2 T hT
    rw [seen_snoc]
    by_cases hj : j = p
    · subst hj
      rw [hp] at h1
      obtain rfl := Option.some.inj h1
      rw [List.getElem?_set_self (List.getElem?_eq_some_iff.mp ht).1] at h2
      obtain rfl := Option.some.inj h2
      rw [own_step (by omega), ← htab T (by omega)]
    · rw [List.getElem?_set_ne (Ne.symm hj)] at h2
      rw [other_step I h1 hp hj (by omega)]
      exact I.tabs j w t h1 h2 T (by omega)
  · show R.answers ++ _ = (P.told ++ _).map _
    rw [List.map_append, I.ans]
    congr 1
    · apply List.map_congr_left
      intro x hx
      refine (due_later ?_).symm
      have := (I.told x hx).1.turn
      show (x.1 : Int) + 1 ≤ (i : Int)
      omega
    · show [_] = [dueOf _ _ _]
      congr 1
      show _ = getRow (seenOf P.here P.opened ((i : Int) + 1) (P.told ++ [(i, P.here, some nm)])) nm
      rw [seen_snoc, own_step (by omega), ← htab _ (by omega), getRow_setRow]
theorem Inv.tellBad {i : Nat} {R : Run} {P : Plan} {idx : Nat} (I : Inv i R P) (h8 : 8 ≤ idx) (h10 : idx < 10) :
    Inv (i + 1) ⟨R.tabs, R.pile, R.answers ++ [none]⟩ { P with told := P.told ++ [(i, P.here, nameOf idx)] } := by
  obtain ⟨p, hp, hh, ht, htab⟩ := I.cur
  have hm := List.mem_of_getElem? hp
  rw [name_none idx h8 h10]
  refine ⟨I.here, I.root, I.nT, I.nO, Nat.le_succ_of_le I.nW, I.wayIn, fun w hw => ⟨(I.wayLen w hw).1, Nat.le_succ_of_le (I.wayLen w hw).2⟩, I.last, I.pre, I.hereW, fun j t h1 h2 => by have := I.opIn j t h1 h2; omega, ?_, ?_, ?_⟩
  · intro x hx
    rcases List.mem_append.mp hx with hx | hx
    · obtain ⟨⟨a, b, c⟩, d⟩ := I.told x hx
      exact ⟨⟨a, by omega, c⟩, d⟩
    · rw [List.mem_singleton.mp hx]
      exact ⟨⟨(fun nm q => by cases q), by show (i : Int) < ((i + 1 : Nat) : Int); omega, I.wayIn _ hm⟩, p, hp⟩
  · intro j w t h1 h2 T hT
    rw [seen_snoc]
    exact I.tabs j w t h1 h2 T (by omega)
  · show R.answers ++ _ = (P.told ++ _).map _
    rw [List.map_append, I.ans]
    congr 1
    apply List.map_congr_left
    intro x hx
    refine (due_later ?_).symm
    have := (I.told x hx).1.turn
    show (x.1 : Int) + 1 ≤ (i : Int)
    omega
theorem Inv.step {i : Nat} {R : Run} {P : Plan} {d : Deed} (I : Inv i R P) (hd : d.Ok) (hi : i ≤ 20) : Inv (i + 1) (runStep i d R) (planStep i d P) := by
  unfold runStep planStep
  by_cases h0 : d.kind = 0
  · rw [if_pos h0, if_pos h0]; exact I.open_ hi
  · rw [if_neg h0, if_neg h0]
    by_cases h3 : d.kind = 3
    · rw [if_pos h3, if_pos h3]; exact I.back
    · rw [if_neg h3, if_neg h3]
      by_cases h8 : 8 ≤ d.idx
      · rw [if_pos h8]; exact I.tellBad h8 hd.idx
      · rw [if_neg h8]; exact I.tell (idx := d.idx) (by omega)
theorem inv_all {ds : List Deed} (hd : ∀ d ∈ ds, d.Ok) (hl : ds.length ≤ 20) : ∀ i, i ≤ ds.length → Inv i (runOf ds i) (planOf ds i)
  | 0, _ => Inv.zero
  | i + 1, h => by
    have ih := inv_all hd hl i (by omega)
    have e : ds[i]? = some ds[i] := List.getElem?_eq_getElem (by omega)
    rw [runOf, planOf, e]
    exact ih.step (hd _ (List.getElem_mem _)) (by omega)
theorem RowsOk.succ {i : Nat} {t : List (Str × Str)} (h : RowsOk i t) : RowsOk (i + 1) t :=
  ⟨Nat.le_succ_of_le h.1, fun r hr => ⟨⟨by have := (h.2 r hr).1.1; omega, (h.2 r hr).1.2⟩, by have := (h.2 r hr).2.1; omega, (h.2 r hr).2.2⟩⟩
theorem RunOk.succ {i : Nat} {R : Run} (h : RunOk i R) : RunOk (i + 1) R :=
  ⟨Nat.le_succ_of_le h.tabsLen, h.pilePos, Nat.le_succ_of_le h.pileLen, h.pileIn, Nat.le_succ_of_le h.ansLen, fun t ht => (h.rows t ht).succ⟩
theorem RunOk.tab {i : Nat} {R : Run} (h : RunOk i R) : RowsOk i R.table := by
  unfold Run.table
  rw [List.getD_eq_getElem?_getD]
  cases q : R.tabs[R.here]? with
  | none => exact ⟨Nat.zero_le _, fun r hr => by cases hr⟩
  | some t => exact h.rows t (List.mem_of_getElem? q)
theorem RunOk.step {i : Nat} {R : Run} {d : Deed} (h : RunOk i R) (hd : d.Ok) : RunOk (i + 1) (runStep i d R) := by
  have h1 := h.tabsLen
  have h2 := h.pilePos
  have h3 := h.pileLen
  have h4 := h.ansLen
  unfold runStep
  by_cases k0 : d.kind = 0
  · rw [if_pos k0]
    refine ⟨by simp; omega, by simp, by simp; omega, ?_, by simp; omega, ?_⟩
    · intro p hp
      rw [List.length_append]
      simp only [List.length_cons, List.length_nil]
      rcases List.mem_append.mp hp with hp | hp
      · have := h.pileIn p hp; omega
      · rw [List.mem_singleton.mp hp]; omega
    · intro t ht
      rcases List.mem_append.mp ht with ht | ht
      · exact (h.rows t ht).succ
      · rw [List.mem_singleton.mp ht]; exact quoted_ok h.tab
  · rw [if_neg k0]
    by_cases k3 : d.kind = 3
    · rw [if_pos k3]
      refine ⟨Nat.le_succ_of_le h1, ?_, ?_, fun p hp => h.pileIn p (List.mem_of_mem_take hp), Nat.le_succ_of_le h4, fun t ht => (h.rows t ht).succ⟩
      · rw [List.length_take]; omega
      · rw [List.length_take]; omega
    · rw [if_neg k3]
      by_cases k8 : 8 ≤ d.idx
      · rw [if_pos k8]
        exact ⟨Nat.le_succ_of_le h1, h2, Nat.le_succ_of_le h3, h.pileIn, by simp; omega, fun t ht => (h.rows t ht).succ⟩
      · rw [if_neg k8]
        have hl := loc_ok d.idx (by omega)
        have ht := tabs_ok i
        refine ⟨by simp; omega, h2, Nat.le_succ_of_le h3, by simpa using h.pileIn, by simp; omega, ?_⟩
        intro t hm
        rcases List.mem_or_eq_of_mem_set hm with hm | rfl
        · exact (h.rows t hm).succ
        · unfold setRow
          cases getRow R.table (locName (langOf d.idx) (encOf d.idx)) with
          | some v => exact h.tab.succ
          | none =>
            refine ⟨by simp; exact h.tab.1, fun r hr => ?_⟩
            rcases List.mem_append.mp hr with hr | hr
            · exact h.tab.succ.2 r hr
            · rw [List.mem_singleton.mp hr]
              exact ⟨⟨by have := hl.1; show (locName _ _).cps.size ≤ _; omega, hl.2⟩, ⟨by have := ht.1; show (tabs i).cps.size ≤ _; omega, ht.2⟩⟩
theorem runOk_all {ds : List Deed} (hd : ∀ d ∈ ds, d.Ok) : ∀ i, RunOk i (runOf ds i)
  | 0 => by
    refine ⟨by simp [runOf], by simp [runOf], by simp [runOf], by simp [runOf], by simp [runOf], ?_⟩
    intro t ht
    have e : t = [] := List.mem_singleton.mp ht
    rw [e]
    exact ⟨Nat.zero_le _, fun r hr => by cases hr⟩
  | i + 1 => by
    have ih := runOk_all hd i
    rw [runOf]
    cases q : ds[i]? with
    | none => exact ih.succ
    | some d => exact ih.step (hd d (List.mem_of_getElem? q))
/-- names in a scope's table: no two alike, none with more dots than there are scopes -/
structure TabOk (d : Nat) (rows : List (Str × Str)) : Prop where
  nm : ∀ r ∈ rows, Nm r.1
  val : ∀ r ∈ rows, ValOk r.2
  len : ∀ r ∈ rows, r.1.length ≤ d + 2
  nd : (rows.map fun r => Txt.lower r.1).Nodup
theorem TabOk.add {w home opened : List Int} {xt : Nat} {nm : Str} {acc : List (Str × Str)} (h : TabOk w.length acc) (hw : w.length ≤ 30) (hh : 1 ≤ home.length) (ht : xt ≤ 50) (hs : nm.cps.size ≤ 3) (hc : ∀ c ∈ nm.cps, nameCh c) (hd : 1 ≤ w.length) : TabOk w.length (seenAdd w home xt nm acc) := by
  unfold seenAdd
  split
  · exact h
  · rename_i hn
    have hnm := seenName_nm (way := w) (home := home) hw hs hc
    have htb := tabs_ok xt
    refine ⟨fun r hr => ?_, fun r hr => ?_, fun r hr => ?_, ?_⟩
    · rcases List.mem_append.mp hr with hr | hr
      · exact h.nm r hr
      · rw [List.mem_singleton.mp hr]; exact hnm
    · rcases List.mem_append.mp hr with hr | hr
      · exact h.val r hr
      · rw [List.mem_singleton.mp hr]; exact ⟨by show (tabs xt).cps.size ≤ _; omega, htb.2⟩
    · rcases List.mem_append.mp hr with hr | hr
      · exact h.len r hr
      · rw [List.mem_singleton.mp hr]
        show (seenName w home nm).cps.size ≤ _
        have h9 : nm.cps.toList.length = nm.cps.size := Array.length_toList
        rw [← Array.length_toList, seenName_list, List.length_append, h9]
        split
        · rw [List.length_replicate]; omega
        · show 0 + _ ≤ _; omega
    · rw [List.map_append]
      refine List.nodup_append.mpr ⟨h.nd, by simp, fun a ha b hb e => hn ?_⟩
      rw [List.map_singleton, List.mem_singleton] at hb
      rw [List.any_eq_true]
      exact ⟨a, ha, by rw [e, hb]; exact beq_self_eq_true _⟩
theorem TabOk.step {w opened : List Int} {T : Int} {acc : List (Str × Str)} {x : Told} (h : TabOk w.length acc) (hw : w.length ≤ 30) (hd : 1 ≤ w.length) (hx : ToldOk x) (hh : 1 ≤ x.2.1.length) (ht : x.1 ≤ 50) : TabOk w.length (seenStep w opened T acc x) := by
  unfold seenStep
  split
  · exact h
  · rename_i nm e
    obtain ⟨hs, hc⟩ := hx nm e
    (repeat' split) <;> first | exact h | exact h.add (opened := opened) hw hh ht hs hc hd
theorem tabOk_seen {w opened : List Int} {T : Int} (hw : w.length ≤ 30) (hd : 1 ≤ w.length) {told : List Told} (ht : ∀ x ∈ told, ToldOk x ∧ 1 ≤ x.2.1.length ∧ x.1 ≤ 50) : TabOk w.length (seenOf w opened T told) := by
  unfold seenOf
  have : ∀ acc, TabOk w.length acc → TabOk w.length (told.foldl (seenStep w opened T) acc) := by
    induction told with
    | nil => intro acc h; exact h
    | cons x told ih =>
      intro acc h
      rw [List.foldl_cons]
      obtain ⟨a, b, c⟩ := ht x (.head _)
      exact ih (fun y hy => ht y (.tail _ hy)) _ (h.step hw hd a b c)
  exact this [] ⟨(fun r hr => by cases hr), (fun r hr => by cases hr), (fun r hr => by cases hr), by simp⟩
section
open PySem PySem.Builtin PySem.Builtin.Str PySem.StrLaws
theorem drop_takeWhile {p : Nat → Bool} : ∀ l : List Nat, l.drop (l.takeWhile p).length = l.dropWhile p
  | [] => rfl
  | a :: l => by
    rw [List.takeWhile_cons, List.dropWhile_cons]
    by_cases h : p a = true
    · rw [if_pos h, if_pos h]
      show l.drop (l.takeWhile p).length = _
      exact drop_takeWhile l
    · rw [if_neg h, if_neg h]; rfl
theorem lstrip_list (x y : Str) : (Txt.lstripChars x y).cps.toList = x.cps.toList.dropWhile y.cps.contains := by
  rw [← drop_takeWhile]
  unfold Txt.lstripChars Txt.stripBy
  by_cases h : stripSame y.cps.contains true false x = true
  · rw [if_pos h]
    unfold stripSame at h
    have h0 := eq_of_beq (Bool.and_eq_true_iff.mp h).1
    have h1 : (x.cps.toList.takeWhile y.cps.contains).length = 0 := h0
    rw [h1]; rfl
  · rw [if_neg h]
    show (strSub x (x.cps.toList.takeWhile y.cps.contains).length x.length).cps.toList = _
    rw [strSub_toList]
    exact List.take_of_length_le (by simp [Str.length])
end
theorem dot_contains (c : Nat) : (Str.ofString ".").cps.contains c = (c == 46) := by
  rw [show (Str.ofString ".").cps = #[46] from rfl, Bool.eq_iff_iff]
  simp
theorem dropDots {c : Nat} (hc : c ≠ 46) : ∀ l : List Nat, l.dropWhile (Str.ofString ".").cps.contains = [c] ↔ ∃ k, l = List.replicate k 46 ++ [c]
  | [] => by
    constructor
    · intro h; simp at h
    · rintro ⟨k, h⟩; have := congrArg List.length h; simp at this
  | a :: l => by
    rw [List.dropWhile_cons, dot_contains]
    by_cases ha : a = 46
    · rw [if_pos (by simp [ha]), dropDots hc l]
      constructor
      · rintro ⟨k, h⟩; exact ⟨k + 1, by rw [ha, h, List.replicate_succ]; rfl⟩
      · rintro ⟨k, h⟩
        cases k with
        | zero => rw [ha] at h; simp at h; exact absurd h.1.symm hc
        | succ k => rw [List.replicate_succ, List.cons_append] at h; exact ⟨k, (List.cons.inj h).2⟩
    · rw [if_neg (by simp [ha])]
      constructor
      · intro h; exact ⟨0, by rw [h]; rfl⟩
      · rintro ⟨k, h⟩
        cases k with
        | zero => exact h
        | succ k => rw [List.replicate_succ, List.cons_append] at h; exact absurd (List.cons.inj h).1 ha
theorem letter_list {x : Str} (hx : letterOk x) : ∃ c, x.cps.toList = [c] ∧ (c = 97 ∨ c = 98) := by
  rcases hx with rfl | rfl
  · exact ⟨97, rfl, .inl rfl⟩
  · exact ⟨98, rfl, .inr rfl⟩
theorem rowAt_list {x : Str} (hx : letterOk x) (k : Nat) : (rowAt x k).cps.toList = List.replicate (k + 1) 46 ++ x.cps.toList := by
  rw [rowAt_eq hx]
theorem hit_iff {x : Str} (hx : letterOk x) {r : Str × Str} (hr : Nm r.1) : isHit x r = true ↔ ∃ k, (Txt.lower r.1).cps.toList = (rowAt x k).cps.toList := by
  obtain ⟨c, hc, hc2⟩ := letter_list hx
  have hc46 : c ≠ 46 := by omega
  have hlow := lower_list hr.ok
  have e1 : (Txt.lstripChars (Txt.lower r.1) (Str.ofString ".") == x) = true ↔ (Txt.lower r.1).cps.toList.dropWhile (Str.ofString ".").cps.contains = [c] := by
    rw [← lstrip_list, ← hc]
    exact ⟨fun h => by rw [eq_of_beq h], fun h => by rw [str_ext h]; exact beq_self_eq_true _⟩
  unfold isHit
  rw [Bool.and_eq_true, head_dot, e1, dropDots hc46]
  have hh : r.1.cps.toList.head? = some 46 ↔ (Txt.lower r.1).cps.toList.head? = some 46 := by
    rw [hlow, List.head?_map]
    cases r.1.cps.toList.head? with
    | none => simp
    | some d => simp [lo1_dot]
  rw [hh]
  constructor
  · rintro ⟨h1, k, h2⟩
    cases k with
    | zero => rw [h2] at h1; simp at h1; exact absurd h1 hc46
    | succ k => exact ⟨k, by rw [h2, rowAt_list hx, hc]⟩
  · rintro ⟨k, h⟩
    rw [h, rowAt_list hx, hc]
    exact ⟨by rw [List.replicate_succ]; rfl, k + 1, rfl⟩
theorem rowAt_lower {x : Str} (hx : letterOk x) {k : Nat} (hk : k ≤ 50) : Txt.lower (rowAt x k) = rowAt x k := by
  apply str_ext
  rw [lower_list (rowAt_ok hx hk), rowAt_list hx, List.map_append, List.map_replicate]
  obtain ⟨c, hc, hc2⟩ := letter_list hx
  rw [hc]
  rcases hc2 with rfl | rfl <;> rfl
theorem lower_len {x : Str} (h : NameOk x) : (Txt.lower x).cps.toList.length = x.length := by
  rw [lower_list h, List.length_map]; simp [Str.length]
theorem better_iff {rs : List (Int × Str)} {i j : Nat} : better rs i j = true ↔ (rs.getD i (0, Str.ofString "")).1 < (rs.getD j (0, Str.ofString "")).1 := by
  unfold better; exact decide_eq_true_iff
theorem argBest_min (rs : List (Int × Str)) : ∀ k i, i ≤ k → (rs.getD (argBest (better rs) k) (0, Str.ofString "")).1 ≤ (rs.getD i (0, Str.ofString "")).1
  | 0, i, h => by
    have : i = 0 := by omega
    subst this
    exact Int.le_refl _
  | k + 1, i, h => by
    have ih := argBest_min rs k
    rw [argBest]
    by_cases hb : better rs (k + 1) (argBest (better rs) k) = true
    · rw [if_pos hb]
      have hb' := better_iff.mp hb
      by_cases e : i = k + 1
      · rw [e]; exact Int.le_refl _
      · exact Int.le_trans (Int.le_of_lt hb') (ih i (by omega))
    · rw [if_neg hb]
      have hb' := Int.not_lt.mp fun q => hb (better_iff.mpr q)
      by_cases e : i = k + 1
      · rw [e]; exact hb'
      · exact ih i (by omega)
theorem nodup_inj {α β : Type} {f : α → β} : ∀ {l : List α}, (l.map f).Nodup → ∀ {a b : α}, a ∈ l → b ∈ l → f a = f b → a = b
  | c :: l, h, a, b, ha, hb, e => by
    rw [List.map_cons, List.nodup_cons] at h
    obtain ⟨h1, h2⟩ := h
    rcases List.mem_cons.mp ha with ea | ha'
    · rcases List.mem_cons.mp hb with eb | hb'
      · rw [ea, eb]
      · exact absurd (List.mem_map.mpr ⟨b, hb', by rw [← e, ea]⟩) h1
    · rcases List.mem_cons.mp hb with eb | hb'
      · exact absurd (List.mem_map.mpr ⟨a, ha', by rw [e, eb]⟩) h1
      · exact nodup_inj h2 ha' hb' e
section
variable {x : Str} {rows : List (Str × Str)} {d : Nat} (hx : letterOk x) (h : TabOk d rows) (hd : d ≤ 30)
include hx h hd
theorem hits_nodup : ((hitsOf x rows).map (·.1)).Nodup := by
  unfold hitsOf
  rw [List.map_map]
  have hp : (rows.filter (isHit x)).Pairwise fun a b => Txt.lower a.1 ≠ Txt.lower b.1 := (List.pairwise_map.mp h.nd).filter _
  refine List.pairwise_map.mpr (hp.imp_of_mem fun {a b} ha hb hne e => hne ?_)
  have ma := List.mem_filter.mp ha
  have mb := List.mem_filter.mp hb
  obtain ⟨k, hk⟩ := (hit_iff hx (h.nm a ma.1)).mp ma.2
  obtain ⟨m, hm⟩ := (hit_iff hx (h.nm b mb.1)).mp mb.2
  have la := lower_len (h.nm a ma.1).ok
  have lb := lower_len (h.nm b mb.1).ok
  rw [hk, Array.length_toList, rowAt_size hx] at la
  rw [hm, Array.length_toList, rowAt_size hx] at lb
  have e' : ((a.1.length : Int) - 1) = (b.1.length : Int) - 1 := e
  have : k = m := by omega
  subst this
  exact str_ext (hk.trans hm.symm)
/-- a row that the look finds is a hit -/
theorem get_hit {k : Nat} (hk : k ≤ 50) {v : Str} (hg : getRow rows (rowAt x k) = some v) : ((k : Int) + 1, v) ∈ hitsOf x rows := by
  unfold getRow at hg
  cases q : rows.find? (fun r => Txt.lower r.1 == Txt.lower (rowAt x k)) with
  | none => rw [q] at hg; cases hg
  | some r =>
    rw [q] at hg
    obtain rfl : r.2 = v := Option.some.inj hg
    have hm := List.mem_of_find?_eq_some q
    have he := eq_of_beq (List.find?_some (p := fun (r : Str × Str) => Txt.lower r.1 == Txt.lower (rowAt x k)) q)
    rw [rowAt_lower hx hk] at he
    have hit : isHit x r = true := (hit_iff hx (h.nm r hm)).mpr ⟨k, by rw [he]⟩
    have hl := lower_len (h.nm r hm).ok
    rw [he, Array.length_toList, rowAt_size hx] at hl
    unfold hitsOf
    refine List.mem_map.mpr ⟨r, List.mem_filter.mpr ⟨hm, hit⟩, ?_⟩
    rw [← hl]
    congr 1
    omega
theorem hit_get {m : Int} {v : Str} (hm : (m, v) ∈ hitsOf x rows) : ∃ k : Nat, m = (k : Int) + 1 ∧ k ≤ d ∧ getRow rows (rowAt x k) = some v := by
  unfold hitsOf at hm
  obtain ⟨r, hr, e⟩ := List.mem_map.mp hm
  have mr := List.mem_filter.mp hr
  obtain ⟨k, hk⟩ := (hit_iff hx (h.nm r mr.1)).mp mr.2
  have hl := lower_len (h.nm r mr.1).ok
  rw [hk, Array.length_toList, rowAt_size hx] at hl
  have hlen := h.len r mr.1
  have e1 : ((r.1.length : Int) - 1) = m := congrArg Prod.fst e
  have e2 : r.2 = v := congrArg Prod.snd e
  have hkd : k ≤ d := by omega
  refine ⟨k, by omega, hkd, ?_⟩
  have hlow : Txt.lower r.1 = Txt.lower (rowAt x k) := by rw [rowAt_lower hx (by omega)]; exact str_ext hk
  unfold getRow
  cases q : rows.find? (fun r => Txt.lower r.1 == Txt.lower (rowAt x k)) with
  | none =>
    have := List.find?_eq_none.mp q r mr.1
    rw [hlow] at this
    simp at this
  | some r' =>
    have hm' := List.mem_of_find?_eq_some q
    have he' := eq_of_beq (List.find?_some (p := fun (r : Str × Str) => Txt.lower r.1 == Txt.lower (rowAt x k)) q)
    have : r' = r := nodup_inj h.nd hm' mr.1 (he'.trans hlow.symm)
    rw [this, ← e2]; rfl
theorem look_inmost : lookFrom rows (rowAt x 0) (d + 1) = inmostOf x rows := by
  unfold inmostOf
  by_cases hn : hitsOf x rows = []
  · rw [hn]
    show _ = none
    refine look_miss fun k _ hk => ?_
    cases q : getRow rows (rowAt x k) with
    | none => rfl
    | some v => have := get_hit hx h hd (by omega) q; rw [hn] at this; cases this
  · have hpos : 0 < (hitsOf x rows).length := List.length_pos_iff.mpr hn
    have hne : (hitsOf x rows).isEmpty = false := by
      cases q : hitsOf x rows with
      | nil => exact absurd q hn
      | cons _ _ => rfl
    rw [hne, if_neg Bool.false_ne_true]
    have hle := argBest_le (better (hitsOf x rows)) ((hitsOf x rows).length - 1)
    have hlt : argBest (better (hitsOf x rows)) ((hitsOf x rows).length - 1) < (hitsOf x rows).length := by omega
    have hmin := argBest_min (hitsOf x rows) ((hitsOf x rows).length - 1)
    generalize hb : argBest (better (hitsOf x rows)) ((hitsOf x rows).length - 1) = b at *
    rw [List.getElem?_eq_getElem hlt]
    have hm := List.getElem_mem hlt
    have hbd : (hitsOf x rows).getD b (0, Str.ofString "") = (hitsOf x rows)[b] := by rw [List.getD_eq_getElem?_getD, List.getElem?_eq_getElem hlt]; rfl
    cases hv : (hitsOf x rows)[b] with
    | mk m v =>
      rw [hv] at hm
      obtain ⟨k, rfl, hkd, hg⟩ := hit_get hx h hd hm
      have hlow : ∀ j, 0 ≤ j → j < k → getRow rows (rowAt x j) = none := fun j _ hj => by
        cases q : getRow rows (rowAt x j) with
        | none => rfl
        | some v' =>
          have hmem := get_hit hx h hd (by omega) q
          obtain ⟨i, hi, e⟩ := List.getElem_of_mem hmem
          have hmi := hmin i (by omega)
          have hid : (hitsOf x rows).getD i (0, Str.ofString "") = (hitsOf x rows)[i] := by rw [List.getD_eq_getElem?_getD, List.getElem?_eq_getElem hi]; rfl
          rw [hbd, hv, hid, e] at hmi
          dsimp only at hmi
          omega
      rw [look_hit (i := k) (j := 0) hlow hg (Nat.zero_le _) (by omega)]
      have hsz : (rowAt x k).length = k + 2 := rowAt_size hx k
      rw [hsz]
      congr 2
      omega
end
end
section
theorem at_T10 : True := by
  w_top off
  k_with_none
  k_with "my side" => first | assumption | exact rfl | ((try simp only [depth_under_make, depth_under_kw, depth_in1, depth_deeper, depth_caller, units_in1, units_deeper, Around.mark_units, units_caller] at *); (try dsimp only [Around.deeper, Around.in1] at *); omega)
  k_with "my after" => ((rename (∀ _ _, _ → _) => zq_hkk); (have zq_F' := Fr.keeps' (by assumption) zq_hkk); (have zq_N' := News.keeps' (by assumption) zq_hkk); (try dsimp only); (try k_sweep); (try k_fold))
  k_with "ahead of omega" => ((with_reducible show @Ne Nat _ _); first | exact nb0 (by with_reducible assumption) | exact nb1 (by with_reducible assumption) | exact nb2 (by with_reducible assumption) | exact nb3 (by with_reducible assumption) | exact nb4 (by with_reducible assumption) | exact nb5 (by with_reducible assumption) | exact nb6 (by with_reducible assumption) | exact nb7 (by with_reducible assumption) | exact nb8 (by with_reducible assumption) | exact nb9 (by with_reducible assumption) | exact nb10 (by with_reducible assumption) | exact nb11 (by with_reducible assumption) | exact nb12 (by with_reducible assumption) | exact nz1 (by with_reducible assumption) | exact nz2 (by with_reducible assumption) | exact nz3 (by with_reducible assumption) | exact nz4 (by with_reducible assumption) | exact nz5 (by with_reducible assumption) | exact nz6 (by with_reducible assumption) | exact nz7 (by with_reducible assumption) | exact nz8 (by with_reducible assumption) | exact nz9 (by with_reducible assumption) | exact nz10 (by with_reducible assumption) | exact nz11 (by with_reducible assumption) | exact nz12 (by with_reducible assumption))
  k_with "subscriptTail Name Name ref int" => (k_here; (with_reducible show wpAny _ _ (subscriptTail _ _ (Value.ref _) (Value.int _ _)) _ _ _); k_dflt (refine' sub_at (by is_list) (by assumption) (by omega) ?_ (by with_unfolding_all rfl)))
  k_with "call builtin:len" => (k_here; (with_reducible show wpAny _ _ (PySem.call (Value.builtin "len") [Value.ref _]) _ _ _); k_dflt (refine' len_at (by is_list) (by assumption) (by omega) ?_); intro zq_t' zq_k')
  k_with "binaryOp Add ref ref" => (k_here; k_dflt (refine' add_at (by k_asm) (by k_asm) (by is_list) (by is_list) (by ((try simp only [List.length_cons, List.length_nil]); omega)) ?_; k_whole); intro zq_h' zq_d' zq_F' zq_N' zq_l1 zq_f1; (try simp only [AllLt] at zq_l1); (try k_sweep))
  k_with "Hid" => (refine Hid.use (by with_reducible assumption) ?_; try dsimp only)
  k_with "execs cons" => (k_here; (with_reducible refine execs_kont ?_); intro zq_R zq_hR; try dsimp only)
  k_with "eval ListComp" => (k_here; k_dflt (refine Comp_M (cl := []) (by assumption) (by rfl) (by decide) (by rfl) (by decide) ?_ (by intro _; rfl)))
  k_with "eval Name" => (k_here; (with_reducible show wpAny _ _ (eval (PySem.Expr.Name _ _) (compEnvC _ _ _ _)) _ _ _); k_dflt (refine' nameM_L (by assumption) (by exact rfl) ?_ (by exact rfl) (by exact rfl) (by decide)))
  k_with "eval Name" => (k_here; (with_reducible show wpAny _ _ (eval (PySem.Expr.Name _ _) (compEnvC _ _ _ _)) _ _ _); k_dflt (refine' nameM_C (by assumption) (by exact rfl) (by assumption) (by assumption) ?_ (by exact rfl) (by exact rfl) (by decide)))
  k_with "eval Name" => (k_here; (with_reducible show wpAny _ _ (eval (PySem.Expr.Name _ _) (compEnvC _ _ _ _)) _ _ _); k_dflt (refine' nameM_B (by assumption) (by assumption) (by k_asm) (by k_is) (by boot_fast) (by decide) ?_ (by exact rfl) (by exact rfl) (by exact rfl) (by exact rfl) (by decide)))
  k_with "storeName" => (k_here; (with_reducible show wpAny _ _ (storeName (compEnvC _ _ _ _) _ _) _ _ _); k_dflt (refine' storeM_L (by assumption) (by assumption) ?_ (by exact rfl) (by exact rfl)); intro zq_h' zq_F' zq_N'; (try k_sweep))
  k_with "forIn" => (k_here; (with_reducible show wpAny _ _ (testsOf [] _) _ _ _); refine tests_none ?_; (first | (refine ite_pos rfl ?_) | skip))
  k_with "forIn" => (k_here; (with_reducible show wpAny _ _ (testsOf [_] _) _ _ _); refine tests_two ?_)
  k_with "exec Assign cons ListComp" => (k_here; k_dflt (refine' Comp_MA (by assumption) (by with_unfolding_all rfl) (by with_unfolding_all exact rfl) (by decide) (by rfl) (by decide) (by rfl) (by rfl) ?_ (by (intro _; rfl))))
  k_with "exec For Tuple Call cons nil" => (k_here; (with_reducible show wpAny _ _ (exec (Stmt.For (PySem.Expr.Tuple _ _ _) _ _ [] _) _) _ _ _); k_dflt (refine For_Z (by assumption) ?_ (by intro _; rfl)))
  k_with "exec For Name List cons nil" => (k_here; (with_reducible show wpAny _ _ (exec (Stmt.For _ _ _ [] _) _) _ _ _); k_dflt (refine For_L (by assumption) ?_ (by intro _; rfl)))
  k_with "exec For Tuple Name cons nil" => (k_here; (with_reducible show wpAny _ _ (exec (Stmt.For _ _ _ [] _) _) _ _ _); k_dflt (refine For_M (by assumption) ?_ (by intro _; rfl)))
  trivial



local macro_rules | `(tactic| omega) => `(tactic| k_extra "ahead of omega")
local macro_rules | `(tactic| k_qdec) => `(tactic| decide +kernel)
local macro_rules | `(tactic| k_all) => `(tactic| exact sat_off (by simp))
local macro_rules | `(tactic| k_mem) => `(tactic| assumption)
local macro_rules | `(tactic| is_list) => `(tactic| exact News.isList (by assumption) (by k_mem))
section
variable {prog : Program} {w : World} {A : Around} {E : Value → Shared → Prop} {s : Shared} {env : Env} {h₀ : PySem.Heap} {elts : List PySem.Expr} {ek : Nat} {epos : Pos} {body : List Stmt} {Q : Flow → Shared → Prop}
def TurnZ (h₀ : PySem.Heap) (L : Addr) (h : PySem.Heap) (J : (Str → Option Value) → Prop) (s : Shared) (Q : Flow → Shared → Prop) (f : Flow) (s₂ : Shared) : Prop :=
  match f with
  | .ret v => Q (.ret v) s₂
  | .brk => Q .next s₂
  | _ => ∃ h' tk m', s₂ = { s with heap := h', toks := tk } ∧ Fr h₀ L h' m' ∧ (∀ a o, a ≠ L → h.get? a = some o → h'.get? a = some o) ∧ J m'
inductive LoopZ (prog : Program) (w : World) (A : Around) (h₀ : PySem.Heap) (env : Env) (elts : List PySem.Expr) (ek : Nat) (epos : Pos) (body : List Stmt) (Q : Flow → Shared → Prop) (E : Value → Shared → Prop) (it : Value) (s : Shared) : Prop
  | mk (I : Addr) (fp wr : List Addr) (n : Nat) (Pt : Nat → Array Value → Prop) (St : Nat → PySem.Heap → Prop) (Mid : Nat → Addr → PySem.Heap → Prop) (m : Str → Option Value) (B : PySem.Heap) (J : Nat → (Str → Option Value) → Prop) (w0 : it = .ref I) (w1 : WalksT prog w A I fp wr n Pt St Mid) (w2 : env.locals ∉ fp) (w3 : (∀ b ∈ wr, h₀.get? b = none ∧ B.get? b = none)) (w4 : St 0 s.heap) (w5 : Fr h₀ env.locals s.heap m) (w6 : J 0 m) (w7 : (∀ a o, a ≠ env.locals → B.get? a = some o → s.heap.get? a = some o)) (w8 : (∀ i vals T m₁ h tk, i < n → Pt i vals → J i m₁ → Fr h₀ env.locals h m₁ → (∀ a o, a ≠ env.locals → B.get? a = some o → h.get? a = some o) → h.IsTuple T vals → wpAny (model prog w) A (assign (.Tuple elts ek epos) env (.ref T)) (fun _ s₃ => wpAny (model prog w) A (execs body env) (TurnZ h₀ env.locals h (J (i + 1)) s Q) E s₃) E { s with heap := h, toks := tk })) (w9 : ∀ h' tk m', Fr h₀ env.locals h' m' → J n m' → (∀ a o, a ≠ env.locals → B.get? a = some o → h'.get? a = some o) → Q .next { s with heap := h', toks := tk }) : LoopZ prog w A h₀ env elts ek epos body Q E it s
theorem For_Z {iter : PySem.Expr} {pos : Pos} {m₀ : Str → Option Value} (_F : Fr h₀ env.locals s.heap m₀)
    (h : wpAny (model prog w) A (eval iter env) (fun xv s₁ => wpAny (model prog w) A (pyIter xv) (fun it s₂ => LoopZ prog w A h₀ env elts ek epos body Q E it s₂) E s₁) E s)
    (hs : ∀ x, foldedSetIterable iter env x = pure x)
    (hE : PassesOwn (model prog w) A env E := by passes_own) :
    wpAny (model prog w) A (exec (.For (.Tuple elts ek epos) iter body [] pos) env) Q E s := by
  refine wpAny_For (wpAny_mono h (fun xv s₁ h₁ => wpAny_mono h₁ (fun it s₂ h₂ => ?_) fun _ _ e => e) fun _ _ e => e) hs
  obtain ⟨I, fp, wr, n, Pt, St, Mid, m, B, J, rfl, W, hLf, hwr, hst, F, hJ, hB, turn, done⟩ := h₂
  have hLw : env.locals ∉ wr := fun q => hLf (W.sub _ q)
  refine codeAny_forLoop_any
    (fun k s' => ∃ h' tk m' i, s' = { s₂ with heap := h', toks := tk } ∧ St i h' ∧ Fr h₀ env.locals h' m' ∧ J i m' ∧ (∀ a o, a ≠ env.locals → B.get? a = some o → h'.get? a = some o) ∧ i ≤ n ∧ k = n + 1 - i) ?_ (n + 1)
    ⟨s₂.heap, s₂.toks, m, 0, rfl, hst, F, hJ, hB, Nat.zero_le _, rfl⟩
  rintro k s' ⟨h', tk, m', i, rfl, hst', F', hJ', hB', hi, rfl⟩
  have next : ∀ h₁ h₂ : PySem.Heap, (∀ b o, b ∉ wr → h₁.get? b = some o → h₂.get? b = some o) → Fr h₀ env.locals h₁ m' → (∀ a o, a ≠ env.locals → B.get? a = some o → h₁.get? a = some o) → Fr h₀ env.locals h₂ m' ∧ (∀ a o, a ≠ env.locals → B.get? a = some o → h₂.get? a = some o) := fun h₁ h₂ hk F₁ hB₁ =>
    ⟨⟨F₁.ns.at' fun o e => hk _ o hLw e, fun b o e => hk b o (fun q => by rw [(hwr b q).1] at e; cases e) (F₁.keep b o e), F₁.above⟩, fun a o hL e => hk a o (fun q => by rw [(hwr a q).2] at e; cases e) (hB₁ a o hL e)⟩
  by_cases hlt : i < n
  · refine W.item i _ _ _ hlt hst' fun T vals h₁ tk₁ hP _ hT hM hk₁ => ?_
    obtain ⟨F₁, B₁⟩ := next h' h₁ hk₁ F' hB'
    refine wpAny_passesOwn hE (W.go elts ek epos i T _ _ _ hM fun h₂ hst₂ hk₂ => ?_)
    obtain ⟨F₂, B₂⟩ := next h₁ h₂ hk₂ F₁ B₁
    have hTw := W.apart i T h₁ hM
    have hT₂ : h₂.IsTuple T vals := by
      obtain ⟨o, e, r⟩ := hT
      exact ⟨o, hk₂ T o hTw e, r⟩
    refine wpAny_passesOwn hE (wpAny_mono (turn i vals T m' h₂ tk₁ hlt hP hJ' F₂ B₂ hT₂) (fun _ s₃ h₃ => wpAny_passesOwn hE (wpAny_mono h₃ (fun f s₄ h₄ => ?_) fun _ _ e => e)) fun _ _ e => e)
    cases f with
    | ret v => exact h₄
    | brk => exact h₄
    | cont =>
      obtain ⟨h₅, tk₅, m₅, rfl, F₅, hf₅, hJ₅⟩ := h₄
      exact ⟨n + 1 - (i + 1), by omega, h₅, tk₅, m₅, i + 1, rfl, W.frame _ _ _ hst₂ (fun b hb o e => hf₅ b o (fun q => hLf (q ▸ hb)) e), F₅, hJ₅, fun a o hL e => hf₅ a o hL (B₂ a o hL e), hlt, rfl⟩
    | next =>
      obtain ⟨h₅, tk₅, m₅, rfl, F₅, hf₅, hJ₅⟩ := h₄
      exact ⟨n + 1 - (i + 1), by omega, h₅, tk₅, m₅, i + 1, rfl, W.frame _ _ _ hst₂ (fun b hb o e => hf₅ b o (fun q => hLf (q ▸ hb)) e), F₅, hJ₅, fun a o hL e => hf₅ a o hL (B₂ a o hL e), hlt, rfl⟩
  · have hin : i = n := by omega
    subst hin
    refine W.done _ _ _ hst' fun h₁ tk₁ hk₁ => wpAny_execs_nil ?_
    obtain ⟨F₁, B₁⟩ := next h' h₁ hk₁ F' hB'
    exact done h₁ tk₁ m' F₁ hJ' B₁
theorem loop_zip {E₁ E₂ : Value → Shared → Prop} {l1 l2 : Addr} {xs ys : Array Value} {m : Str → Option Value} (J : Nat → (Str → Option Value) → Prop) (hh : A.handled = none) (F : Fr h₀ env.locals s.heap m) (hl1 : s.heap.IsList l1 xs) (hl2 : s.heap.IsList l2 ys) (n1 : l1 ≠ env.locals) (n2 : l2 ≠ env.locals) (h0 : J 0 m)
    (turn : ∀ i x y T m₁ h tk (s₁ : Shared), (∃ h₁ tk₁, s₁ = { s with heap := h₁, toks := tk₁ }) → xs[i]? = some x → ys[i]? = some y → J i m₁ → Fr h₀ env.locals h m₁ → (∀ a o, a ≠ env.locals → s.heap.get? a = some o → h.get? a = some o) → h.IsTuple T #[x, y] →
      wpAny (model prog w) A (assign (.Tuple elts ek epos) env (.ref T)) (fun _ s₃ => wpAny (model prog w) A (execs body env) (TurnZ h₀ env.locals h (J (i + 1)) s₁ Q) E s₃) E { s₁ with heap := h, toks := tk })
    (done : ∀ h' tk m', Fr h₀ env.locals h' m' → J (min xs.size ys.size) m' → (∀ a o, a ≠ env.locals → s.heap.get? a = some o → h'.get? a = some o) → Q .next { s with heap := h', toks := tk }) :
    wpAny (model prog w) A (call (.type "zip") [.ref l1, .ref l2]) (fun xv s₁ => wpAny (model prog w) A (pyIter xv) (fun it s₂ => LoopZ prog w A h₀ env elts ek epos body Q E it s₂) E₂ s₁) E₁ s := by
  refine zip_rows F hl1 hl2 fun h' z TI TO i1 i2 D hst F' hk hz hTO hi1 hi2 hLz => ?_
  have W := WalksT.zip2 (prog := prog) (w := w) hh z TI TO i1 i2 l1 l2 D xs ys
  refine W.self 0 _ _ _ hst ?_
  have old : ∀ (b : Addr), s.heap.objs.size ≤ b → s.heap.get? b = none := fun b hb => Heap.get?_none_of_le hb
  have hnone : ∀ b, s.heap.get? b = none → h₀.get? b = none := fun b q => by
    cases z : h₀.get? b with
    | none => rfl
    | some o => rw [F.keep b o z] at q; cases q
  have hTI : env.locals ≠ TI := fun q => by
    obtain ⟨o, es, ep, e, d, _⟩ := F'.ns
    rw [q, hst.2.1] at e
    cases e
    cases d
  refine ⟨z, [z, TI, TO, i1, i2, l1, l2], [z, TO, i1, i2], min xs.size ys.size, _, _, _, m, s.heap, J, rfl, W, ?_, ?_, hst, F', h0, fun a o _ e => hk a o e, ?_, ?_⟩
  · intro hm
    simp only [List.mem_cons, List.not_mem_nil, or_false] at hm
    rcases hm with e | e | e | e | e | e | e
    · exact Nat.ne_of_lt hLz.1 e
    · exact hTI e
    · exact Nat.ne_of_lt hLz.2.1 e
    · exact Nat.ne_of_lt hLz.2.2.1 e
    · exact Nat.ne_of_lt hLz.2.2.2 e
    · exact n1 e.symm
    · exact n2 e.symm
  · intro b hb
    have hs : s.heap.get? b = none := by
      simp only [List.mem_cons, List.not_mem_nil, or_false] at hb
      rcases hb with e | e | e | e <;> rw [e]
      · exact old _ hz
      · exact old _ hTO
      · exact old _ hi1
      · exact old _ hi2
    exact ⟨hnone b hs, hs⟩
  · rintro i vals T m₁ h tk _ ⟨x, y, hx, hy, rfl⟩ hJ F₁ hB hT
    exact turn i x y T m₁ h tk { s with heap := h' } ⟨h', s.toks, rfl⟩ hx hy hJ F₁ hB hT
  · intro h'' tk m' F₁ hJ hB
    exact done h'' tk m' F₁ hJ hB
end
section
variable {prog : Program} {w : World} {A : Around} {E : Value → Shared → Prop} {s : Shared} {env : Env} {h₀ : PySem.Heap} {target : PySem.Expr} {body : List Stmt} {Q : Flow → Shared → Prop}
/-- a loop over a list that the body leaves as it is: all that was there stays -/
inductive LoopL (prog : Program) (w : World) (A : Around) (h₀ : PySem.Heap) (env : Env) (target : PySem.Expr) (body : List Stmt) (Q : Flow → Shared → Prop) (E : Value → Shared → Prop) (it : Value) (s : Shared) : Prop
  | mk (I : Addr) (fp wr : List Addr) (n : Nat) (P : Nat → Value → Prop) (St : Nat → PySem.Heap → Prop) (m : Str → Option Value) (B : PySem.Heap) (J : Nat → (Str → Option Value) → Prop) (w0 : it = .ref I) (w1 : Walks prog w A I fp wr n P St) (w2 : env.locals ∉ fp) (w3 : (∀ b ∈ wr, h₀.get? b = none ∧ B.get? b = none)) (w4 : St 0 s.heap) (w5 : Fr h₀ env.locals s.heap m) (w6 : J 0 m) (w7 : (∀ a o, a ≠ env.locals → B.get? a = some o → s.heap.get? a = some o)) (w8 : (∀ i (s' : Shared) v (Q' : Unit → Shared → Prop), St i s'.heap → Q' () s' → wpAny (model prog w) A (letOwnedTupleGo target (.ref I) v) Q' E s')) (w9 : (∀ i v m₁ h tk, i < n → P i v → J i m₁ → Fr h₀ env.locals h m₁ → (∀ a o, a ≠ env.locals → B.get? a = some o → h.get? a = some o) → wpAny (model prog w) A (assign target env v) (fun _ s₃ => wpAny (model prog w) A (execs body env) (TurnZ h₀ env.locals h (J (i + 1)) s Q) E s₃) E { s with heap := h, toks := tk })) (w10 : ∀ h' tk m', Fr h₀ env.locals h' m' → J n m' → (∀ a o, a ≠ env.locals → B.get? a = some o → h'.get? a = some o) → Q .next { s with heap := h', toks := tk }) : LoopL prog w A h₀ env target body Q E it s
theorem For_L {iter : PySem.Expr} {pos : Pos} {m₀ : Str → Option Value} (_F : Fr h₀ env.locals s.heap m₀)
    (h : wpAny (model prog w) A (eval iter env) (fun xv s₁ => wpAny (model prog w) A (pyIter xv) (fun it s₂ => LoopL prog w A h₀ env target body Q E it s₂) E s₁) E s)
    (hs : ∀ x, foldedSetIterable iter env x = pure x)
    (hE : PassesOwn (model prog w) A env E := by passes_own) :
    wpAny (model prog w) A (exec (.For target iter body [] pos) env) Q E s := by
  refine wpAny_For (wpAny_mono h (fun xv s₁ h₁ => wpAny_mono h₁ (fun it s₂ h₂ => ?_) fun _ _ e => e) fun _ _ e => e) hs
  obtain ⟨I, fp, wr, n, P, St, m, B, J, rfl, W, hLf, hwr, hst, F, hJ, hB, hgo, turn, done⟩ := h₂
  have hLw : env.locals ∉ wr := fun q => hLf (W.sub _ q)
  refine codeAny_forLoop_any
    (fun k s' => ∃ h' tk m' i, s' = { s₂ with heap := h', toks := tk } ∧ St i h' ∧ Fr h₀ env.locals h' m' ∧ J i m' ∧ (∀ a o, a ≠ env.locals → B.get? a = some o → h'.get? a = some o) ∧ i ≤ n ∧ k = n + 1 - i) ?_ (n + 1)
    ⟨s₂.heap, s₂.toks, m, 0, rfl, hst, F, hJ, hB, Nat.zero_le _, rfl⟩
  rintro k s' ⟨h', tk, m', i, rfl, hst', F', hJ', hB', hi, rfl⟩
  have next : ∀ h₁ h₂ : PySem.Heap, (∀ b o, b ∉ wr → h₁.get? b = some o → h₂.get? b = some o) → Fr h₀ env.locals h₁ m' → (∀ a o, a ≠ env.locals → B.get? a = some o → h₁.get? a = some o) → Fr h₀ env.locals h₂ m' ∧ (∀ a o, a ≠ env.locals → B.get? a = some o → h₂.get? a = some o) := fun h₁ h₂ hk F₁ hB₁ =>
    ⟨⟨F₁.ns.at' fun o e => hk _ o hLw e, fun b o e => hk b o (fun q => by rw [(hwr b q).1] at e; cases e) (F₁.keep b o e), F₁.above⟩, fun a o hL e => hk a o (fun q => by rw [(hwr a q).2] at e; cases e) (hB₁ a o hL e)⟩
  by_cases hlt : i < n
  · refine W.item i _ _ _ hlt hst' fun v h₁ tk₁ hP hst₁ hk₁ => ?_
    obtain ⟨F₁, B₁⟩ := next h' h₁ hk₁ F' hB'
    refine wpAny_passesOwn hE (hgo (i + 1) _ v _ hst₁ ?_)
    refine wpAny_passesOwn hE (wpAny_mono (turn i v m' h₁ tk₁ hlt hP hJ' F₁ B₁) (fun _ s₃ h₃ => wpAny_passesOwn hE (wpAny_mono h₃ (fun f s₄ h₄ => ?_) fun _ _ e => e)) fun _ _ e => e)
    cases f with
    | ret v => exact h₄
    | brk => exact h₄
    | cont =>
      obtain ⟨h₅, tk₅, m₅, rfl, F₅, hf₅, hJ₅⟩ := h₄
      exact ⟨n + 1 - (i + 1), by omega, h₅, tk₅, m₅, i + 1, rfl, W.frame _ _ _ hst₁ (fun b hb o e => hf₅ b o (fun q => hLf (q ▸ hb)) e), F₅, hJ₅, fun a o hL e => hf₅ a o hL (B₁ a o hL e), hlt, rfl⟩
    | next =>
      obtain ⟨h₅, tk₅, m₅, rfl, F₅, hf₅, hJ₅⟩ := h₄
      exact ⟨n + 1 - (i + 1), by omega, h₅, tk₅, m₅, i + 1, rfl, W.frame _ _ _ hst₁ (fun b hb o e => hf₅ b o (fun q => hLf (q ▸ hb)) e), F₅, hJ₅, fun a o hL e => hf₅ a o hL (B₁ a o hL e), hlt, rfl⟩
  · have hin : i = n := by omega
    subst hin
    refine W.done _ _ _ hst' fun h₁ tk₁ hk₁ => wpAny_execs_nil ?_
    obtain ⟨F₁, B₁⟩ := next h' h₁ hk₁ F' hB'
    exact done h₁ tk₁ m' F₁ hJ' B₁
theorem loop_list {E₁ : Value → Shared → Prop} {l : Addr} {xs : Array Value} {m : Str → Option Value} (J : Nat → (Str → Option Value) → Prop) (hh : A.handled = none) (F : Fr h₀ env.locals s.heap m) (hl : s.heap.IsList l xs) (n1 : l ≠ env.locals) (h0 : J 0 m)
    (turn : ∀ i x m₁ h tk (s₁ : Shared), (∃ h₁ tk₁, s₁ = { s with heap := h₁, toks := tk₁ }) → xs[i]? = some x → J i m₁ → Fr h₀ env.locals h m₁ → (∀ a o, a ≠ env.locals → s.heap.get? a = some o → h.get? a = some o) →
      wpAny (model prog w) A (assign target env x) (fun _ s₃ => wpAny (model prog w) A (execs body env) (TurnZ h₀ env.locals h (J (i + 1)) s₁ Q) E s₃) E { s₁ with heap := h, toks := tk })
    (done : ∀ h' tk m', Fr h₀ env.locals h' m' → J xs.size m' → (∀ a o, a ≠ env.locals → s.heap.get? a = some o → h'.get? a = some o) → Q .next { s with heap := h', toks := tk }) :
    wpAny (model prog w) A (pyIter (.ref l)) (fun it s₂ => LoopL prog w A h₀ env target body Q E it s₂) E₁ s := by
  refine wpAny_pyIter_list hl ?_
  obtain ⟨ol, hol, _⟩ := id hl
  have hne : l ≠ s.heap.objs.size := Nat.ne_of_lt (Heap.lt_size hol)
  have W := Walks.list (prog := prog) (w := w) hh s.heap.objs.size l hne xs
  have hIL : env.locals ≠ s.heap.objs.size := Nat.ne_of_lt F.ns.lt
  refine ⟨_, _, _, xs.size, _, _, m, s.heap, J, rfl, W, ?_, ?_, ⟨⟨_, Heap.get?_push_size _ rfl, rfl, rfl⟩, hl.push _⟩, F.push _, h0, fun a o _ e => Heap.get?_push_of_some _ e, (fun i s' v Q' st hQ' => letGo_listiter st.1 hQ'), ?_, ?_⟩
  · intro hm
    rcases List.mem_cons.mp hm with e | hm
    · exact hIL e
    · exact n1 (List.mem_singleton.mp hm).symm
  · intro b hb
    rw [List.mem_singleton.mp hb]
    exact ⟨next_is_new F, Heap.get?_none_of_le (Nat.le_refl _)⟩
  · intro i v m₁ h tk _ hP hJ F₁ hB
    exact turn i v m₁ h tk { s with heap := s.heap.push { cls := .type "list_iterator", data := .fields #[.ref l, .int 0 0] } } ⟨_, s.toks, rfl⟩ hP hJ F₁ hB
  · intro h' tk m' F₁ hJ hB
    exact done h' tk m' F₁ hJ hB
end
theorem fr_ns_off {h₀ h : PySem.Heap} {L : Addr} {m : Str → Option Value} (F : Fr h₀ L h m) {a : Addr} {cls : Value} {vs : Array Value} {n : Nat} (e : h.get? a = some { cls := cls, data := .seq vs n }) : a ≠ L := by
  rintro rfl
  obtain ⟨o, es, ep, ho, hd, _⟩ := F.ns
  rw [e] at ho
  cases ho
  cases hd
theorem tokAt_hide {h₀ h : PySem.Heap} {L : Addr} {m : Str → Option Value} (F : Fr h₀ L h m) {B B' : Nat} {dl : Addr} (x : TokAt h B dl) (hB : B ≤ B') : TokAt (hideAll h [L]) B' dl :=
  TokAt.mono (fun a vs n q o e => hideAll_get _ e (by
    simp only [List.mem_singleton]
    rcases q with q | ⟨ws, q⟩
    · exact fr_ns_off F q
    · exact fr_ns_off F q)) hB x
theorem insat_hide {h₀ h : PySem.Heap} {L : Addr} : ∀ a o, stable o = true → InSat h₀ L [] h a o → Heap.At (hideAll h [L]) a o := fun a o _ x => hideAll_get _ (mem_sat.mp x).1 (by simpa using (mem_sat.mp x).2.1)
theorem fr_out {h₀ h h' : PySem.Heap} {L : Addr} {m : Str → Option Value} (F : Fr h₀ L h m) (k1 : ∀ a o, (hideAll h [L]).get? a = some o → h'.get? a = some o) (k2 : OutKept [L] h h') : Fr h₀ L h' m := by
  have hL : h₀.get? L = none := by
    cases q : h₀.get? L with
    | none => rfl
    | some o => exact absurd (Heap.lt_size q) (Nat.not_lt.mpr F.above)
  obtain ⟨o, es, ep, ho, hd, r⟩ := F.ns
  obtain ⟨sl, e⟩ := k2 L (.head _) o ho
  exact ⟨⟨_, es, ep, e, hd, r⟩, fun a o e' => k1 a o (hideAll_get _ (F.keep a o e') (fun q => by rw [List.mem_singleton.mp q, hL] at e'; cases e')), F.above⟩
theorem tokAt_keep {h₀ h h' : PySem.Heap} {L : Addr} {m : Str → Option Value} (F : Fr h₀ L h m) (k : ∀ a o, a ≠ L → h.get? a = some o → h'.get? a = some o) {B B' : Nat} {dl : Addr} (x : TokAt h B dl) (hB : B ≤ B') : TokAt h' B' dl :=
  TokAt.mono (fun a vs n q o e => k a o (by
    rcases q with q | ⟨ws, q⟩
    · exact fr_ns_off F q
    · exact fr_ns_off F q) e) hB x
theorem RunAt.mono {K K' : Know} (hk : ∀ a o, stable o = true → K a o → K' a o) {P : Addr} {tabs : List (List (Str × Str))} {answers : List (Option Str)} (h : RunAt K P tabs answers) : RunAt K' P tabs answers := by
  obtain ⟨ah, aa, hs, ts, as, n, n1, n2, a, b, c, d, e, f⟩ := h
  exact ⟨ah, aa, hs, ts, as, n, n1, n2, hk _ _ rfl a, hk _ _ rfl b, hk _ _ rfl c, Paired.mono (fun _ _ => HeadAt.mono hk) d, e, f⟩
theorem fr_there {h₀ h : PySem.Heap} {L : Addr} {m : Str → Option Value} (F : Fr h₀ L h m) : ∃ o, h.get? L = some o := by
  obtain ⟨oL, _, _, e, _⟩ := F.ns; exact ⟨oL, e⟩
theorem insat_at {h₀ h : PySem.Heap} {L : Addr} : ∀ a o, stable o = true → InSat h₀ L [] h a o → Heap.At h a o := fun a o _ x => (mem_sat.mp x).1
theorem insat_keep {h₀ h h' : PySem.Heap} {L : Addr} (k : ∀ a o, a ≠ L → h.get? a = some o → h'.get? a = some o) : ∀ a o, stable o = true → InSat h₀ L [] h a o → InSat h₀ L [] h' a o := fun a o _ x =>
  mem_sat.mpr ⟨k a o (mem_sat.mp x).2.1 (mem_sat.mp x).1, (mem_sat.mp x).2⟩
theorem Inv.args {R : Run} {P : Plan} (I : Inv 9 R P) : (∀ w ∈ P.ways, 1 ≤ w.length ∧ w.length ≤ 10 ∧ ∀ x ∈ w, 0 ≤ x ∧ x < (P.opened.length : Int)) ∧ P.opened.length ≤ 10 ∧
    (∀ x ∈ P.told, (x.1 ≤ 10 ∧ x.2.1.length ≤ 10 ∧ ∀ nm, x.2.2 = some nm → nm.length ≤ 4) ∧ ToldOk x ∧ 1 ≤ x.2.1.length ∧ x.1 ≤ 50) := by
  refine ⟨fun w hw => ⟨(I.wayLen w hw).1, (I.wayLen w hw).2, fun x hx => by rw [I.nO]; exact I.wayIn w hw x hx⟩, by rw [I.nO]; exact I.nW, fun x hx => ?_⟩
  obtain ⟨⟨a, b, c⟩, p, hp⟩ := I.told x hx
  have hl := I.wayLen _ (List.mem_of_getElem? hp)
  exact ⟨⟨by omega, hl.2, fun nm e => Nat.le_trans (a nm e).1 (by omega)⟩, a, hl.1, by omega⟩
theorem TabOk.rowOk {d : Nat} {rows : List (Str × Str)} (h : TabOk d rows) : ∀ r ∈ rows, RowOk r := fun r hr => ⟨(h.nm r hr).ok, h.val r hr⟩
theorem rows_reads {h : PySem.Heap} {l : Addr} {vs : List Value} {n : Nat} {rows : List (Str × Str)} (g : h.get? l = some (listOf vs.toArray n)) (hp : PySem.Paired (RowAt (Heap.At h)) vs rows) : Reads h (.ref l) (.list (rows.map rowData)) [l] :=
  reads_list (F := RowAt (Heap.At h)) (f := rowData) (fun _ _ => reads_row) hp ⟨_, g, rfl, _, rfl⟩
theorem rows_shaped {rows : List (Str × Str)} (h : ∀ r ∈ rows, RowOk r) : PySem.SeqAt.shaped (.list (rows.map rowData)) = true := shaped_list (fun r hr => can_row (h r hr).1.str (h r hr).2.str) fun r _ => depth_row r
theorem rows_mix {rows : List (Str × Str)} : PySem.SeqAt.noMix (.list (rows.map rowData)) (.list (rows.map rowData)) = true := by
  simp only [PySem.SeqAt.noMix]; exact noMix_all fun r _ => mix_row r
theorem rows_at {h₀ h : PySem.Heap} {L : Addr} {ms : List Addr} {vs : List Value} {rows : List (Str × Str)} (p : PySem.Paired (RowAt (InSat h₀ L ms h)) vs rows) : PySem.Paired (RowAt (Heap.At h)) vs rows := Paired.mono (fun _ _ z => RowAt.mono (fun a o _ x => (mem_sat.mp x).1) z) p
theorem insat_get {h₀ h : PySem.Heap} {L a : Addr} {ms : List Addr} {o : Obj} (x : InSat h₀ L ms h a o) : h.get? a = some o := (mem_sat.mp x).1
/-- a pick as data -/
noncomputable def pickData : Option (Int × Str) → PyData
  | none => .none
  | some r => hitData r
theorem pick_reads {h : PySem.Heap} {v : Value} {r : Option (Int × Str)} (x : PickAt (Heap.At h) v r) : Reads h v (pickData r) [] := by
  cases r with
  | none => rw [show v = .none from x]; exact .none
  | some q =>
    obtain ⟨k, y⟩ := q
    obtain ⟨a, t, u, n, rfl, ha⟩ := x
    exact reads_hit ⟨a, t, u, n, rfl, ha⟩
theorem PickAt.mono {K K' : Know} (hk : ∀ a o, stable o = true → K a o → K' a o) {v : Value} {r : Option (Int × Str)} (x : PickAt K v r) : PickAt K' v r := by
  cases r with
  | none => exact x
  | some q =>
    obtain ⟨k, y⟩ := q
    obtain ⟨a, t, u, n, e, ha⟩ := x
    exact ⟨a, t, u, n, e, hk _ _ rfl ha⟩
theorem pick_shaped {x : Str} {rows : List (Str × Str)} (hr : ∀ r ∈ rows, RowOk r) : PySem.SeqAt.shaped (pickData (inmostOf x rows)) = true := by
  unfold inmostOf
  split
  · exact shaped_of (by simp [pickData, PyData.canLay0]) (by simp [pickData, PyData.depth])
  · cases q : (hitsOf x rows)[argBest (better (hitsOf x rows)) ((hitsOf x rows).length - 1)]? with
    | none => exact shaped_of (by simp [pickData, PyData.canLay0]) (by simp [pickData, PyData.depth])
    | some r => exact shaped_of (can_hit (hits_val hr r (List.mem_of_getElem? q))) (Nat.le_trans (depth_hit r) (by omega))
theorem pick_mix (r : Option (Int × Str)) : PySem.SeqAt.noMix (pickData r) (pickData r) = true := by
  cases r with
  | none => simp [pickData, PySem.SeqAt.noMix]
  | some q => exact mix_hit q
/-- what the last loop holds -/
structure DueJ (h₀ : PySem.Heap) (L ao at_ aa ad : Addr) (ovs tvs as : List Value) (on tn an : Nat) (told : List Told) (dues : List (Option Str)) (m : Str → Option Value) (h : PySem.Heap) : Prop where
  mo : m (Str.ofString "opened") = some (.ref ao)
  mt : m (Str.ofString "told") = some (.ref at_)
  ma : m (Str.ofString "answers") = some (.ref aa)
  md : m (Str.ofString "due") = some (.ref ad)
  go : InSat h₀ L [ad, L + 1] h ao (listOf ovs.toArray on)
  gt : InSat h₀ L [ad, L + 1] h at_ (listOf tvs.toArray tn)
  tv : PySem.Paired (ToldAt (InSat h₀ L [ad, L + 1] h)) tvs told
  ga : InSat h₀ L [ad, L + 1] h aa (listOf as.toArray an)
  gd : ∃ (ys : List Value) (n : Nat), h.get? ad = some (listOf ys.toArray n) ∧ PySem.Paired OptStr ys dues
  gc : ∃ (oc : Obj) (v : Option Value), h.get? (L + 1) = some oc ∧ oc.data = .cell v
theorem cell_stable {o : Obj} {v : Option Value} (h : o.data = .cell v) : stable o = true := stable_nf (by rw [h]; intro _ q; cases q)
theorem DueJ.sk {h₀ : PySem.Heap} {L ao at_ aa ad : Addr} {ovs tvs as : List Value} {on tn an : Nat} {told : List Told} {dues : List (Option Str)} {m : Str → Option Value} {h h' : PySem.Heap} (k : SK h h') (J : DueJ h₀ L ao at_ aa ad ovs tvs as on tn an told dues m h) : DueJ h₀ L ao at_ aa ad ovs tvs as on tn an told dues m h' := by
  obtain ⟨e1, e2, e3, e4, go, gt, tv, ga, ⟨ys, n, gd, x⟩, oc, v, gc, d⟩ := J
  have kk := InSat.sk (h₀ := h₀) (L := L) (ms := [ad, L + 1]) k
  exact ⟨e1, e2, e3, e4, kk _ _ rfl go, kk _ _ rfl gt, Paired.mono (fun _ _ z => ToldAt.mono kk z) tv, kk _ _ rfl ga, ⟨ys, n, k _ _ rfl gd, x⟩, oc, v, k _ _ (cell_stable d) gc, d⟩
noncomputable def sameOf (nm : Str) (rows : List (Str × Str)) : List Str := (rows.filter fun r => Txt.lower r.1 == Txt.lower nm).map (·.2)
theorem same_get (nm : Str) (rows : List (Str × Str)) : getRow rows nm = (sameOf nm rows).head? := by
  unfold getRow sameOf
  rw [List.head?_map, List.head?_filter]
theorem same_yes {nm : Str} {rows : List (Str × Str)} {i : Nat} {r : Str × Str} (hri : rows[i]? = some r) (h : (Txt.lower r.1 == Txt.lower nm) = true) : sameOf nm (rows.take (i + 1)) = sameOf nm (rows.take i) ++ [r.2] := by
  unfold sameOf
  rw [List.take_add_one, hri, List.filter_append, List.map_append]
  simp [h]
theorem same_no {nm : Str} {rows : List (Str × Str)} {i : Nat} {r : Str × Str} (hri : rows[i]? = some r) (h : (Txt.lower r.1 == Txt.lower nm) = false) : sameOf nm (rows.take (i + 1)) = sameOf nm (rows.take i) := by
  unfold sameOf
  rw [List.take_add_one, hri, List.filter_append, List.map_append]
  simp [h]
theorem due_none {opened : List Int} {told : List Told} {t : Nat} {w : List Int} : dueOf opened told (t, w, none) = none := rfl
theorem due_some {opened : List Int} {told : List Told} {t : Nat} {w : List Int} {nm : Str} {rows : List (Str × Str)} (h : rows = seenOf w opened ((t : Int) + 1) told) : dueOf opened told (t, w, some nm) = (sameOf nm rows).head? := by
  rw [h, ← same_get]; rfl
theorem opts_reads {h : PySem.Heap} {l : Addr} {vs : List Value} {n : Nat} {rs : List (Option Str)} (g : h.get? l = some (listOf vs.toArray n)) (hp : PySem.Paired OptStr vs rs) : Reads h (.ref l) (.list (rs.map optData)) [l] :=
  reads_list (F := OptStr) (f := optData) (fun _ _ => reads_opt) hp ⟨_, g, rfl, _, rfl⟩
theorem can_opt {r : Option Str} (h : ∀ x, r = some x → PyData.strOk x = true) : PyData.canLay0 (optData r) = true := by
  cases r with
  | none => simp [optData, PyData.canLay0]
  | some x => simp [optData, PyData.canLay0, h x rfl]
theorem opts_shaped {rs : List (Option Str)} (h : ∀ r ∈ rs, ∀ x, r = some x → PyData.strOk x = true) : PySem.SeqAt.shaped (.list (rs.map optData)) = true :=
  shaped_list (fun r hr => can_opt (h r hr)) fun r _ => depth_opt r
theorem opts_mix {rs : List (Option Str)} : PySem.SeqAt.noMix (.list (rs.map optData)) (.list (rs.map optData)) = true := by
  simp only [PySem.SeqAt.noMix]; exact noMix_all fun r _ => mix_opt r
theorem ToldAt.monoC {K K' : Know} (hk : ∀ a o, (∀ v, o.data ≠ .cell v) → K a o → K' a o) {v : Value} {x : Told} (z : ToldAt K v x) : ToldAt K' v x := by
  obtain ⟨a, t, hv, nv, n, e, q, ⟨a2, vs, n2, e2, q2, i2⟩, o⟩ := z
  exact ⟨a, t, hv, nv, n, e, hk _ _ (fun _ q => nomatch q) q, ⟨a2, vs, n2, e2, hk _ _ (fun _ q => nomatch q) q2, i2⟩, o⟩
theorem list_nc {vs : Array Value} {n : Nat} {v : Option Value} : (listOf vs n).data ≠ .cell v := by intro q; cases q
theorem due_end {h₀ h h6 h9 : PySem.Heap} {L ao at_ aa ad I : Addr} {ovs tvs as ys : List Value} {on tn an n9 tk : Nat} {told : List Told} {dues dues' : List (Option Str)} {m' : Str → Option Value} {v : Value} {x : Option Str} {oc : Obj} {vc : Option Value} {s : Shared} {Q : Flow → Shared → Prop}
    (F : Fr h₀ L h9 m') (kI : ∀ b ∈ [I, at_], ∀ o, h.get? b = some o → h9.get? b = some o)
    (e1 : m' (Str.ofString "opened") = some (.ref ao)) (e2 : m' (Str.ofString "told") = some (.ref at_)) (e3 : m' (Str.ofString "answers") = some (.ref aa)) (e4 : m' (Str.ofString "due") = some (.ref ad))
    (k : ∀ a o, a ≠ L → a ∉ [ad, L + 1] → h6.get? a = some o → h9.get? a = some o)
    (go : InSat h₀ L [ad, L + 1] h6 ao (listOf ovs.toArray on)) (gt : InSat h₀ L [ad, L + 1] h6 at_ (listOf tvs.toArray tn)) (tv : PySem.Paired (ToldAt (InSat h₀ L [ad, L + 1] h6)) tvs told) (ga : InSat h₀ L [ad, L + 1] h6 aa (listOf as.toArray an))
    (gd : h9.get? ad = some (listOf (ys.toArray.push v) n9)) (yd : PySem.Paired OptStr ys dues) (hv : OptStr v x) (gc : h9.get? (L + 1) = some oc) (dc : oc.data = .cell vc) (e : dues' = dues ++ [x]) :
    TurnM h₀ L [I, at_] h (DueJ h₀ L ao at_ aa ad ovs tvs as on tn an told dues') s Q .next { s with heap := h9, toks := tk } := by
  subst e
  have kk := InSat.st (h₀ := h₀) (L := L) (ms := [ad, L + 1]) k
  exact ⟨h9, tk, m', rfl, F, kI, e1, e2, e3, e4, kk _ _ rfl go, kk _ _ rfl gt, Paired.mono (fun _ _ z => ToldAt.mono kk z) tv, kk _ _ rfl ga, ⟨_, _, pushed gd, Paired.snoc yd hv⟩, oc, vc, gc, dc⟩
theorem due_take {opened : List Int} {told : List Told} {i : Nat} {x : Told} (h : told[i]? = some x) : (told.take (i + 1)).map (dueOf opened told) = (told.take i).map (dueOf opened told) ++ [dueOf opened told x] := by
  rw [List.take_add_one, h, List.map_append]; rfl
theorem due_ok {ds : List Deed} (hInv : Inv 9 (runOf ds 9) (planOf ds 9)) : ∀ r ∈ (planOf ds 9).told.map (dueOf (planOf ds 9).opened (planOf ds 9).told), ∀ x, r = some x → PyData.strOk x = true := by
  intro r hr x hx
  obtain ⟨⟨xt, xh, xn⟩, hm, rfl⟩ := List.mem_map.mp hr
  obtain ⟨ar1, ar2, ar3⟩ := hInv.args
  obtain ⟨p9, hp9⟩ := (hInv.told _ hm).2
  have hxw := ar1 _ (List.mem_of_getElem? hp9)
  have hTab := tabOk_seen (w := xh) (opened := (planOf ds 9).opened) (T := (xt : Int) + 1) (Nat.le_trans hxw.2.1 (by omega)) hxw.1 (fun x hx => (ar3 x hx).2)
  cases xn with
  | none => cases hx
  | some nm =>
    have hx' : getRow (seenOf xh (planOf ds 9).opened ((xt : Int) + 1) (planOf ds 9).told) nm = some x := hx
    unfold getRow at hx'
    obtain ⟨r, q, rfl⟩ := Option.map_eq_some_iff.mp hx'
    exact (hTab.val r (List.mem_of_find?_eq_some q)).str
theorem law_go : PySem.Challenge.rw_st0019_01.Holds := by
  refine Mine.hd ?_
  k_go0
  rename Fr _ _ _ _ => F
  rename News _ _ _ _ => N0
  rename Below _ _ _ _ => K0
  rename PySem.Heap.IsList _ _ _ => hL
  rename IntsAre _ _ => hI
  rename ¬ _ < _ => hlen
  rename Frag.In _ _ => KX
  rename Top _ _ _ _ _ _ => T
  rename PySem.Obj => oc
  rename _ = Data.cell _ => hoc
  have sc : stable oc = true := stable_nf (by rw [hoc]; intro _ q; cases q)
  have K0' := And.intro K0 True.intro
  clear K0
  (try dsimp only)
  k_steps
  rename Fr _ _ _ _ => F
  rename Shared => s₁
  refine wpAny_tk' ?_
  with_unfolding_all refine' deeds_ok (b := _) (vs := _) (ns := _) ?hd ?hu F.keep KX T (Fr.lst F hL) hI (by omega) ?_
  case hd => decide +kernel
  case hu => decide +kernel
  intro dl ds h' tk' hk' D hdl hdo TK ht1
  have F1 := Fr.keeps' F hk'
  have D1 : DeedsAt (InSat s₁.heap s₁.heap.objs.size [] h') dl ds := D.mono (Fresh.insat F.keep (by obtain ⟨oL, _, _, e, _⟩ := F.ns; exact ⟨oL, e⟩) (by simp))
  have N1 : News s₁.heap s₁.heap.objs.size h' (sat s₁.heap s₁.heap.objs.size [] h') := news_sat
  have c1 : InSat s₁.heap s₁.heap.objs.size [] h' (s₁.heap.objs.size + 1) oc := mem_sat.mpr ⟨hk' _ _ (N0 _ (.head _)).1, (N0 _ (.head _)).2.1, by simp, (N0 _ (.head _)).2.2⟩
  clear F N0
  have KP1 : Kept s₁.heap h' s₁.heap.objs.size [] := Kept.of F1
  have TKk : ∀ h9 : PySem.Heap, (∀ a o, a ≠ s₁.heap.objs.size → h'.get? a = some o → h9.get? a = some o) → TokAt h9 tk' dl := fun h9 k => tokAt_keep F1 k TK (Nat.le_refl _)
  (try dsimp only)
  k_steps
  rename Fr _ _ _ _ => F9
  rename News _ _ _ _ => N9
  have k9 := KP1 _ _ _ F9 N9 (fun p hp => hp)
  have D2 := D1.mono (InSat.st (ms := []) k9)
  have TK2 := TKk _ fun a o hL e => k9 a o hL (by simp) e
  have hLn : s₁.heap.get? s₁.heap.objs.size = none := Heap.get?_none_of_le (Nat.le_refl _)
  refine wpAny_tk' ?_
  with_unfolding_all refine' run_ok (b := s₁.heap) (base := s₁.heap) ?hd ?hu F9.keep ⟨pushX K0'.1 F9 rfl rfl, trivial⟩ (fun a ha => by rw [List.mem_singleton.mp ha]; exact hLn) KX T (D2.mono insat_hide) (tokAt_hide F9 TK2 (Nat.le_succ _)) hdl hdo (runOk_all hdo) ?_
  case hd => decide +kernel
  case hu => decide +kernel
  intro h2 tk2 P hk2 ho2 R2 ht2
  have F2 := fr_out F9 hk2 ho2
  have kL : ∀ a o, a ≠ s₁.heap.objs.size → InSat s₁.heap s₁.heap.objs.size [] _ a o → h2.get? a = some o := fun a o hL x => hk2 a o (hideAll_get _ (mem_sat.mp x).1 (by simpa [framesOf, envOfC] using hL))
  have D3 : DeedsAt (InSat s₁.heap s₁.heap.objs.size [] h2) dl ds := D2.mono fun a o _ x => mem_sat.mpr ⟨kL a o (mem_sat.mp x).2.1 x, (mem_sat.mp x).2⟩
  obtain ⟨ah, aa, hs, ts, as, nP, n1, n2, gP, gh, ga, hheads, hts, hans⟩ := R2.mono (Fresh.insat F9.keep (fr_there F9) (ms := []) (by simp))
  have hPm : (P, tupObj [.ref ah, .ref aa] nP) ∈ sat s₁.heap s₁.heap.objs.size [] h2 := gP
  have N2 : News s₁.heap s₁.heap.objs.size h2 (sat s₁.heap s₁.heap.objs.size [] h2) := news_sat
  have KP2 : Kept s₁.heap h2 s₁.heap.objs.size [] := Kept.of F2
  have c2 : InSat s₁.heap s₁.heap.objs.size [] h2 (s₁.heap.objs.size + 1) oc := mem_sat.mpr ⟨kL _ _ (mem_sat.mp c1).2.1 (InSat.st (ms := []) k9 _ _ sc c1), (mem_sat.mp c1).2⟩
  clear F9 N9 k9 TKk TK2 D2 KP1 kL c1
  (try dsimp only)
  k_steps
  rename Fr _ _ _ _ => F9
  rename News _ _ _ _ => N9
  have k9 := KP2 _ _ _ F9 N9 (fun p hp => hp)
  have D4 := D3.mono (InSat.st (ms := []) k9)
  with_unfolding_all refine' plan_ok (b := s₁.heap) ?hd ?hu F9.keep KX T (D4.mono insat_at) hdl hdo ?_
  case hd => decide +kernel
  case hu => decide +kernel
  intro h3 tk3 P2 hk3 HP
  have F3 := Fr.keeps' F9 hk3
  have kk : ∀ a o, stable o = true → InSat s₁.heap s₁.heap.objs.size [] h2 a o → InSat s₁.heap s₁.heap.objs.size [] h3 a o := insat_keep fun a o hL e => hk3 a o (k9 a o hL (by simp) e)
  have gh3 := kk _ _ rfl gh
  have ga3 := kk _ _ rfl ga
  have c3 := kk _ _ sc c2
  have hh3 : PySem.Paired (HeadAt (InSat s₁.heap s₁.heap.objs.size [] h3)) hs ts := Paired.mono (fun _ _ z => HeadAt.mono kk z) hheads
  obtain ⟨aw, ao, at_, nP2, ws, wn, os, on, tvs, tn, gP2, gw, hws, go, hos, gt, htv⟩ := HP.mono (Fresh.insat F9.keep (fr_there F9) (ms := []) (by simp))
  have hPm2 : (P2, tupObj [.ref aw, .ref ao, .ref at_] nP2) ∈ sat s₁.heap s₁.heap.objs.size [] h3 := gP2
  have N3 : News s₁.heap s₁.heap.objs.size h3 (sat s₁.heap s₁.heap.objs.size [] h3) := news_sat
  have KP3 : Kept s₁.heap h3 s₁.heap.objs.size [] := Kept.of F3
  clear F9 N9 k9 kk D3 D4 KP2 hPm gh ga hheads gP c2
  (try dsimp only)
  k_steps
  rename Fr _ _ _ _ => F9
  rename News _ _ _ _ => N9
  have k9 := KP3 _ _ _ F9 N9 (fun p hp => hp)
  have kk := InSat.st (h₀ := s₁.heap) (ms := []) k9
  have gh4 := kk _ _ rfl gh3
  have ga4 := kk _ _ rfl ga3
  have c4 := kk _ _ sc c3
  have gw4 := kk _ _ rfl gw
  have go4 := kk _ _ rfl go
  have gt4 := kk _ _ rfl gt
  have hh4 := Paired.mono (fun _ _ z => HeadAt.mono kk z) hh3
  have hws4 := Paired.mono (fun _ _ z => IntsAt.mono kk z) hws
  have htv4 := Paired.mono (fun _ _ z => ToldAt.mono kk z) htv
  clear N9 k9 kk KP3 gh3 ga3 gw go gt hh3 hws htv hPm2 gP2 c3
  have hInv := inv_all hdo (by omega) 9 (by omega)
  have mh := mem_sat.mp gh4
  have mw := mem_sat.mp gw4
  refine loop_zip (l1 := ah) (l2 := aw) (xs := hs.toArray) (ys := ws.toArray) (fun i m => m (Str.ofString "opened") = some (.ref ao) ∧ m (Str.ofString "told") = some (.ref at_) ∧ m (Str.ofString "answers") = some (.ref aa)) rfl F9 ⟨_, mh.1, rfl, _, rfl⟩ ⟨_, mw.1, rfl, _, rfl⟩ mh.2.1 mw.2.1 ?h0 ?_ ?_
  case h0 => exact ⟨rfl, rfl, rfl⟩
  · intro i x y T9 m₁ h tk s₂ hs2 hx hy ⟨e1, e2, e3⟩ F₁ hB hT9
    have kb : ∀ a o, stable o = true → InSat s₁.heap s₁.heap.objs.size [] _ a o → InSat s₁.heap s₁.heap.objs.size [] h a o := insat_keep hB
    obtain ⟨⟨l, rows⟩, htb, xh, rfl, HX, RX⟩ := Paired.get hh4 (by simpa using hx)
    obtain ⟨way, hway, awy, wvs, wn2, rfl, gwy, hwi⟩ := Paired.get hws4 (by simpa using hy)
    have F₂ := Fr.say F₁ [(Str.ofString "opened", .ref ao), (Str.ofString "told", .ref at_), (Str.ofString "answers", .ref aa)]
      (List.forall_mem_cons.mpr ⟨e1, List.forall_mem_cons.mpr ⟨e2, List.forall_mem_cons.mpr ⟨e3, fun _ h => nomatch h⟩⟩⟩)
    have N₂ : News s₁.heap s₁.heap.objs.size h (sat s₁.heap s₁.heap.objs.size [] h) := news_sat
    have KP : Kept s₁.heap h s₁.heap.objs.size [] := Kept.of F₁
    have gwy5 := kb _ _ rfl gwy
    have HX5 := HX.mono kb
    have RX5 := RX.mono kb
    have hT' : IsTup h T9 [Value.ref xh, Value.ref awy].toArray := hT9
    have F9k := F9
    clear F₁ F9
    obtain ⟨dx, hss, htk, hx1, hx2⟩ := HX5
    obtain ⟨rvs, rn, RL, RP⟩ := RX5
    have hxs : (xh, instObj 195 dx) ∈ sat s₁.heap s₁.heap.objs.size [] h := hx1
    have hxd : (dx, dictOf [⟨hss, .str (Str.ofString "_headers") htk, .ref l⟩] 1) ∈ sat s₁.heap s₁.heap.objs.size [] h := hx2
    have hwm : (awy, listOf wvs.toArray wn2) ∈ sat s₁.heap s₁.heap.objs.size [] h := gwy5
    have hwl := hwi.length
    have htab : rows = seenOf way (planOf ds 9).opened 9 (planOf ds 9).told := hInv.tabs i way rows hway (by rw [← hts, List.getElem?_map, htb]; rfl) 9 (by omega)
    obtain ⟨ar1, ar2, ar3⟩ := hInv.args
    have hway' := ar1 _ (List.mem_of_getElem? hway)
    have hTab := tabOk_seen (w := way) (opened := (planOf ds 9).opened) (T := 9) (by omega) hway'.1 (fun x hx => (ar3 x hx).2)
    rw [← htab] at hTab
    have hrl : rows.length ≤ 10 := by
      have := seen_len way (planOf ds 9).opened 9 (planOf ds 9).told []
      rw [htab]; unfold seenOf; simp at this
      have h9 := (planOf_small ds 9).2.2.2.2
      omega
    clear F9k
    k_steps
    rename Fr _ _ _ _ => F9
    rename News _ _ _ _ => N9
    have k9 := KP _ _ _ F9 N9 (fun p hp => hp)
    have kk := InSat.st (h₀ := s₁.heap) (ms := []) k9
    have kkb : ∀ a o, stable o = true → InSat s₁.heap s₁.heap.objs.size [] _ a o → InSat s₁.heap s₁.heap.objs.size [] _ a o := fun a o st x => kk a o st (kb a o st x)
    with_unfolding_all refine' seen_ok (b := s₁.heap) (way := way) (opened := (planOf ds 9).opened) (told := (planOf ds 9).told) (turns := 9) ?hd ?hu F9.keep KX T (mem_sat.mp (kk _ _ rfl gwy5)).1 hwi (mem_sat.mp (kkb _ _ rfl go4)).1 hos (mem_sat.mp (kkb _ _ rfl gt4)).1 (Paired.mono (fun _ _ z => ToldAt.mono (fun a o st x => (mem_sat.mp (kkb a o st x)).1) z) htv4) hway'.2.1 ar2 (Nat.le_trans (planOf_small ds 9).2.2.2.2 (by omega)) hway'.2.2 (by omega) (by omega) (fun x hx => (ar3 x hx).1) ?_
    case hd => decide +kernel
    case hu => decide +kernel
    intro h6 tk6 R6 hk6 HR6
    rw [← htab] at HR6
    obtain ⟨zs, zn, gR6, hzs⟩ := HR6.mono (Fresh.insat F9.keep (fr_there F9) (ms := []) (by simp))
    have F6 := Fr.keeps' F9 hk6
    have k6 : ∀ a o, stable o = true → InSat s₁.heap s₁.heap.objs.size [] h a o → InSat s₁.heap s₁.heap.objs.size [] h6 a o := insat_keep fun a o hL e => hk6 a o (k9 a o hL (by simp) e)
    have hxs6 : (xh, instObj 195 dx) ∈ sat s₁.heap s₁.heap.objs.size [] h6 := k6 _ _ rfl hxs
    have hxd6 : (dx, dictOf [⟨hss, .str (Str.ofString "_headers") htk, .ref l⟩] 1) ∈ sat s₁.heap s₁.heap.objs.size [] h6 := k6 _ _ rfl hxd
    have hwm6 : (awy, listOf wvs.toArray wn2) ∈ sat s₁.heap s₁.heap.objs.size [] h6 := k6 _ _ rfl hwm
    have RL6 := k6 _ _ rfl RL
    have RP6 := Paired.mono (fun _ _ z => RowAt.mono k6 z) RP
    have N6 : News s₁.heap s₁.heap.objs.size h6 (sat s₁.heap s₁.heap.objs.size [] h6) := news_sat
    have KP6 : Kept s₁.heap h6 s₁.heap.objs.size [] := Kept.of F6
    have KT : ∀ (h' : PySem.Heap), (∀ a o, a ≠ s₁.heap.objs.size → h6.get? a = some o → h'.get? a = some o) → ∀ a o, a ≠ s₁.heap.objs.size → h.get? a = some o → h'.get? a = some o := fun h' k a o hL e => k a o hL (hk6 a o (k9 a o hL (by simp) e))
    clear F9 N9 k9 kk kkb hxs hxd hwm KP RL RP
    (try dsimp only)
    k_steps
    rename Fr _ _ _ _ => F9
    rename News _ _ _ _ => N9
    have k9 := KP6 _ _ _ F9 N9 (fun p hp => hp)
    have kk := InSat.st (h₀ := s₁.heap) (ms := []) k9
    have hrv : rvs.length = rows.length := Paired.len RP6
    with_unfolding_all refine' items_ok (b := s₁.heap) (l := l) (vs := rvs) ?hd ?hu F9.keep KX T ⟨dx, hss, htk, (N9 _ hxs6).1, (N9 _ hxd6).1⟩ (mem_sat.mp (kk _ _ rfl RL6)).1 (by omega) ?_
    case hd => decide +kernel
    case hu => decide +kernel
    intro h7 tk7 D7 hk7 fD7 gD7
    have k7 : ∀ a o, stable o = true → InSat s₁.heap s₁.heap.objs.size [] h6 a o → InSat s₁.heap s₁.heap.objs.size [] h7 a o := insat_keep fun a o hL e => hk7 a o (k9 a o hL (by simp) e)
    have F7 := Fr.keeps' F9 hk7
    have hxs7 : (xh, instObj 195 dx) ∈ sat s₁.heap s₁.heap.objs.size [] h7 := k7 _ _ rfl hxs6
    have hxd7 : (dx, dictOf [⟨hss, .str (Str.ofString "_headers") htk, .ref l⟩] 1) ∈ sat s₁.heap s₁.heap.objs.size [] h7 := k7 _ _ rfl hxd6
    have hwm7 : (awy, listOf wvs.toArray wn2) ∈ sat s₁.heap s₁.heap.objs.size [] h7 := k7 _ _ rfl hwm6
    have RL7 := k7 _ _ rfl RL6
    have RP7 := Paired.mono (fun _ _ z => RowAt.mono k7 z) RP6
    have gR7 := k7 _ _ rfl gR6
    have hzs7 := Paired.mono (fun _ _ z => RowAt.mono k7 z) hzs
    have N7 : News s₁.heap s₁.heap.objs.size h7 (sat s₁.heap s₁.heap.objs.size [] h7) := news_sat
    have gD7' : InSat s₁.heap s₁.heap.objs.size [] h7 D7 (listOf rvs.toArray 0) := mem_sat.mpr ⟨gD7, (fresh_off F9 fD7 (ms := []) (by simp)).1, by simp, (fresh_off F9 fD7 (ms := []) (by simp)).2.2⟩
    have KP7 : Kept s₁.heap h7 s₁.heap.objs.size [] := Kept.of F7
    have KT7 : ∀ (h' : PySem.Heap), (∀ a o, a ≠ s₁.heap.objs.size → h7.get? a = some o → h'.get? a = some o) → ∀ a o, a ≠ s₁.heap.objs.size → h.get? a = some o → h'.get? a = some o := fun h' k => KT h' fun a o hL e => k a o hL (hk7 a o (k9 a o hL (by simp) e))
    have hq1 := rows_reads (insat_get gD7') (rows_at RP7)
    have hq2 := rows_reads (insat_get gR7) (rows_at hzs7)
    have hq3 := rows_shaped hTab.rowOk
    clear F9 N9 k9 kk hxs6 hxd6 hwm6 KP6 KT RL6 RP6 gR6 hzs
    (try dsimp only)
    with_unfolding_all refine' nameX_L F7 ?v1 ?_ ?x1 ?x2
    case x1 => rfl
    case x2 => rfl
    case v1 => rfl
    refine ne_self hq1 hq2 hq3 rows_mix (by with_unfolding_all show callerA.units + 3 + 64 < cLine; decide +kernel) ?_
    clear hq1 hq2 hq3
    k_steps
    rename Fr _ _ _ _ => F9
    rename News _ _ _ _ => N9
    obtain ⟨lA, e⟩ := name1 N9
    subst e
    have mA := N9 _ (.head _)
    have k9 := KP7 _ _ _ F9 N9 (fun p hp => .tail _ hp)
    have kk := InSat.st (h₀ := s₁.heap) (ms := []) k9
    have hxs8 := kk _ _ rfl hxs7
    have hxd8 := kk _ _ rfl hxd7
    have hwm8 := kk _ _ rfl hwm7
    have RL8 := kk _ _ rfl RL7
    have RP8 := Paired.mono (fun _ _ z => RowAt.mono kk z) RP7
    have gR8 := kk _ _ rfl gR7
    have hzs8 := Paired.mono (fun _ _ z => RowAt.mono kk z) hzs7
    refine loop_list (l := lA) (fun i m => m (Str.ofString "head") = some (.ref xh) ∧ m (Str.ofString "way") = some (.ref awy) ∧ m (Str.ofString "rows") = some (.ref R6) ∧ m (Str.ofString "opened") = some (.ref ao) ∧ m (Str.ofString "told") = some (.ref at_) ∧ m (Str.ofString "answers") = some (.ref aa)) rfl F9 ⟨_, mA.1, rfl, _, rfl⟩ mA.2.1 ?h0 ?_ ?_
    case h0 => exact ⟨rfl, rfl, rfl, rfl, rfl, rfl⟩
    · intro i2 x2 m2 h9 tk9 s9 hs9 hx2 ⟨f1, f2, f3, f4, f5, f6⟩ F₁ hB
      obtain ⟨y, ty, rfl, hy⟩ : ∃ y t, x2 = .str y t ∧ letterOk y := by
        match i2, hx2 with
        | 0, q => exact ⟨_, _, (Option.some.inj q).symm, .inl rfl⟩
        | 1, q => exact ⟨_, _, (Option.some.inj q).symm, .inr rfl⟩
        | i2 + 2, q => simp at q
      have k9b : ∀ a o, stable o = true → InSat s₁.heap s₁.heap.objs.size [] _ a o → InSat s₁.heap s₁.heap.objs.size [] h9 a o := insat_keep hB
      have F₂ := Fr.say F₁ [(Str.ofString "head", .ref xh), (Str.ofString "way", .ref awy), (Str.ofString "rows", .ref R6), (Str.ofString "opened", .ref ao), (Str.ofString "told", .ref at_), (Str.ofString "answers", .ref aa)]
        (List.forall_mem_cons.mpr ⟨f1, List.forall_mem_cons.mpr ⟨f2, List.forall_mem_cons.mpr ⟨f3, List.forall_mem_cons.mpr ⟨f4, List.forall_mem_cons.mpr ⟨f5, List.forall_mem_cons.mpr ⟨f6, fun _ h => nomatch h⟩⟩⟩⟩⟩⟩)
      have N₂ : News s₁.heap s₁.heap.objs.size h9 (sat s₁.heap s₁.heap.objs.size [] h9) := news_sat
      have KP9 : Kept s₁.heap h9 s₁.heap.objs.size [] := Kept.of F₁
      have hxs9 : (xh, instObj 195 dx) ∈ sat s₁.heap s₁.heap.objs.size [] h9 := k9b _ _ rfl hxs8
      have hxd9 : (dx, dictOf [⟨hss, .str (Str.ofString "_headers") htk, .ref l⟩] 1) ∈ sat s₁.heap s₁.heap.objs.size [] h9 := k9b _ _ rfl hxd8
      have hwm9 : (awy, listOf wvs.toArray wn2) ∈ sat s₁.heap s₁.heap.objs.size [] h9 := k9b _ _ rfl hwm8
      have RL9 := k9b _ _ rfl RL8
      have RP9 := Paired.mono (fun _ _ z => RowAt.mono k9b z) RP8
      have gR9 := k9b _ _ rfl gR8
      have hzs9 := Paired.mono (fun _ _ z => RowAt.mono k9b z) hzs8
      have hwvl : wvs.length = way.length := hwl
      clear F₁ F9 N9
      k_steps
      rename Fr _ _ _ _ => F9
      rename News _ _ _ _ => N9
      have k10 := KP9 _ _ _ F9 N9 (fun p hp => hp)
      have kk := InSat.st (h₀ := s₁.heap) (ms := []) k10
      with_unfolding_all refine' look_ok (b := s₁.heap) (l := l) (rows := rows) (far := way.length + 1) ?hd ?hu F9.keep KX T ⟨dx, hss, htk, insat_get (kk _ _ rfl hxs9), insat_get (kk _ _ rfl hxd9)⟩ ⟨rvs, rn, insat_get (kk _ _ rfl RL9), rows_at (Paired.mono (fun _ _ z => RowAt.mono kk z) RP9)⟩ hy (fun r hr => (hTab.rowOk r hr).1) (by omega) ?_
      case hd => decide +kernel
      case hu => decide +kernel
      intro v10 h10 tk10 hk10 P10
      rw [look_inmost hy hTab (by omega)] at P10
      have P10' := PickAt.mono (Fresh.insat F9.keep (fr_there F9) (ms := []) (by simp)) P10
      have F10 := Fr.keeps' F9 hk10
      have j10 : ∀ a o, stable o = true → InSat s₁.heap s₁.heap.objs.size [] h9 a o → InSat s₁.heap s₁.heap.objs.size [] h10 a o := insat_keep fun a o hL e => hk10 a o (k10 a o hL (by simp) e)
      have gR10 := j10 _ _ rfl gR9
      have hzs10 := Paired.mono (fun _ _ z => RowAt.mono j10 z) hzs9
      have N10 : News s₁.heap s₁.heap.objs.size h10 (sat s₁.heap s₁.heap.objs.size [] h10) := news_sat
      have KP10 : Kept s₁.heap h10 s₁.heap.objs.size [] := Kept.of F10
      have KT10 : ∀ (h' : PySem.Heap), (∀ a o, a ≠ s₁.heap.objs.size → h10.get? a = some o → h'.get? a = some o) → ∀ a o, a ≠ s₁.heap.objs.size → h9.get? a = some o → h'.get? a = some o := fun h' k a o hL e => k a o hL (hk10 a o (k10 a o hL (by simp) e))
      clear F9 N9 k10 kk hxs9 hxd9 hwm9 KP9 RL9 RP9 gR9 hzs9 P10
      (try dsimp only)
      k_steps
      rename Fr _ _ _ _ => F9
      rename News _ _ _ _ => N9
      have k11 := KP10 _ _ _ F9 N9 (fun p hp => hp)
      have kk := InSat.st (h₀ := s₁.heap) (ms := []) k11
      with_unfolding_all refine' inmost_ok (b := s₁.heap) (x := y) (rows := rows) ?hd ?hu F9.keep KX T ⟨zs, zn, insat_get (kk _ _ rfl gR10), rows_at (Paired.mono (fun _ _ z => RowAt.mono kk z) hzs10)⟩ hy hTab.rowOk (hits_nodup hy hTab (by omega)) (by omega) ?_
      case hd => decide +kernel
      case hu => decide +kernel
      intro v12 h12 tk12 hk12 P12
      have P12' := PickAt.mono (Fresh.insat F9.keep (fr_there F9) (ms := []) (by simp)) P12
      have F12 := Fr.keeps' F9 hk12
      have j12 : ∀ a o, stable o = true → InSat s₁.heap s₁.heap.objs.size [] h10 a o → InSat s₁.heap s₁.heap.objs.size [] h12 a o := insat_keep fun a o hL e => hk12 a o (k11 a o hL (by simp) e)
      have P10'' := PickAt.mono j12 P10'
      have N12 : News s₁.heap s₁.heap.objs.size h12 (sat s₁.heap s₁.heap.objs.size [] h12) := news_sat
      have KP12 : Kept s₁.heap h12 s₁.heap.objs.size [] := Kept.of F12
      have KT12 : ∀ (h' : PySem.Heap), (∀ a o, a ≠ s₁.heap.objs.size → h12.get? a = some o → h'.get? a = some o) → ∀ a o, a ≠ s₁.heap.objs.size → h9.get? a = some o → h'.get? a = some o := fun h' k => KT10 h' fun a o hL e => k a o hL (hk12 a o (k11 a o hL (by simp) e))
      have hq1 := pick_reads (PickAt.mono insat_at P10'')
      have hq2 := pick_reads (PickAt.mono insat_at P12')
      have hq3 := pick_shaped (x := y) hTab.rowOk
      clear F9 N9 k11 kk KP10 gR10 hzs10 P12 P10' KT10 P10'' P12'
      (try dsimp only)
      refine ne_self hq1 hq2 hq3 (pick_mix _) (by with_unfolding_all show callerA.units + 3 + 64 < cLine; decide +kernel) ?_
      clear hq1 hq2 hq3
      k_steps
      rename Fr _ _ _ _ => F9
      rename News _ _ _ _ => N9
      have k13 := KP12 _ _ _ F9 N9 (fun p hp => hp)
      show TurnZ _ _ _ _ _ _ Flow.next _
      exact ⟨_, _, _, rfl, F9, KT12 _ fun a o hL e => k13 a o hL (by simp) e, rfl, rfl, rfl, rfl, rfl, rfl⟩
    · intro h' tk' m' F₁ ⟨f1, f2, f3, f4, f5, f6⟩ hB
      have kz := KT7 h' fun a o hL e => hB a o hL (k9 a o hL (by simp) e)
      have F₂ := Fr.say F₁ [(Str.ofString "opened", .ref ao), (Str.ofString "told", .ref at_), (Str.ofString "answers", .ref aa)]
        (List.forall_mem_cons.mpr ⟨f4, List.forall_mem_cons.mpr ⟨f5, List.forall_mem_cons.mpr ⟨f6, fun _ h => nomatch h⟩⟩⟩)
      have N₂ : News s₁.heap s₁.heap.objs.size h' (sat s₁.heap s₁.heap.objs.size [] h') := news_sat
      have KP9 : Kept s₁.heap h' s₁.heap.objs.size [] := Kept.of F₁
      clear F₁ F9 N9
      (try dsimp only)
      k_steps
      rename Fr _ _ _ _ => F9
      rename News _ _ _ _ => N9
      have k13 := KP9 _ _ _ F9 N9 (fun p hp => hp)
      show TurnZ _ _ _ _ _ _ Flow.next _
      exact ⟨_, _, _, rfl, F9, fun a o hL e => k13 a o hL (by simp) (kz a o hL e), rfl, rfl, rfl⟩
  · intro h5 tk5 m5 F₁ ⟨e1, e2, e3⟩ hB
    have kb : ∀ a o, stable o = true → InSat s₁.heap s₁.heap.objs.size [] _ a o → InSat s₁.heap s₁.heap.objs.size [] h5 a o := insat_keep hB
    have go5 := kb _ _ rfl go4
    have gt5 := kb _ _ rfl gt4
    have ga5 := kb _ _ rfl ga4
    have c5 := kb _ _ sc c4
    have htv5 := Paired.mono (fun _ _ z => ToldAt.mono kb z) htv4
    have F₂ := Fr.say F₁ [(Str.ofString "opened", .ref ao), (Str.ofString "told", .ref at_), (Str.ofString "answers", .ref aa)]
      (List.forall_mem_cons.mpr ⟨e1, List.forall_mem_cons.mpr ⟨e2, List.forall_mem_cons.mpr ⟨e3, fun _ h => nomatch h⟩⟩⟩)
    have N₂ : News s₁.heap s₁.heap.objs.size h5 (sat s₁.heap s₁.heap.objs.size [] h5) := news_sat
    have KP5 : Kept s₁.heap h5 s₁.heap.objs.size [] := Kept.of F₁
    obtain ⟨ar1, ar2, ar3⟩ := hInv.args
    clear F₁ F9 kb go4 gt4 ga4 c4 htv4 gh4 gw4 hh4 hws4 mh mw hB
    (try dsimp only)
    k_steps
    rename Fr _ _ _ _ => F9
    rename News _ _ _ _ => N9
    obtain ⟨ad, e⟩ := name1 N9
    subst e
    rename ∀ _, _ ∈ sat _ _ _ _ → _ => l9
    have k9 := KP5 _ _ _ F9 N9 (fun p hp => .tail _ hp)
    have mD := N9 _ (.head _)
    have mC := (mem_sat.mp c5).2
    have c9 := k9 _ _ mC.1 (by simp) (mem_sat.mp c5).1
    have up : ∀ a o, (∀ v, o.data ≠ .cell v) → InSat s₁.heap s₁.heap.objs.size [] h5 a o → InSat s₁.heap s₁.heap.objs.size [ad, s₁.heap.objs.size + 1] _ a o := fun a o hc x =>
      mem_sat.mpr ⟨k9 a o (mem_sat.mp x).2.1 (by simp) (mem_sat.mp x).1, (mem_sat.mp x).2.1, by
        simp only [List.mem_cons, List.not_mem_nil, or_false, not_or]
        refine ⟨fun q => ?_, fun q => ?_⟩
        · have := l9 _ x; rw [q] at this; exact Nat.lt_irrefl _ this
        · have := (mem_sat.mp x).1; rw [q, (mem_sat.mp c5).1] at this; cases this; exact hc _ hoc, (mem_sat.mp x).2.2.2⟩
    have go9 := up _ _ (fun _ => list_nc) go5
    have gt9 := up _ _ (fun _ => list_nc) gt5
    have ga9 := up _ _ (fun _ => list_nc) ga5
    have tv9 := Paired.mono (fun _ _ z => ToldAt.monoC up z) htv5
    have nAt := (mem_sat.mp gt9).2
    have lac : @LT.lt Nat _ (s₁.heap.objs.size + 1) ad := l9 _ c5

    refine iter_list_M (l := at_) (items := tvs.toArray) (fun i m h => DueJ s₁.heap s₁.heap.objs.size ao at_ aa ad os tvs as on tn n2 (planOf ds 9).told (((planOf ds 9).told.take i).map (dueOf (planOf ds 9).opened (planOf ds 9).told)) m h) rfl ?h2 ?h3 F9 ?h4 (fun _ _ _ _ k j => j.sk k) ?_ ?_
    case h2 => exact ⟨_, (mem_sat.mp gt9).1, rfl, _, rfl⟩
    case h3 => exact Ne.symm nAt.1
    case h4 => exact ⟨rfl, rfl, rfl, rfl, go9, gt9, tv9, ga9, ⟨[], 0, mD.1, .nil⟩, ⟨oc, _, c9, hoc⟩⟩
    · clear k9 up F9 N9 go9 gt9 ga9 tv9 go5 gt5 ga5 htv5 c5 KP5 l9 c9
      intro i v m₁ h tk I hv J F₁ hI hlst hne
      obtain ⟨e1, e2, e3, e4, go, gt, tv, ga, ⟨ys, n, gd, yd⟩, oc2, vc, gc, dc⟩ := J
      obtain ⟨x, hxi, a, t1, hv1, nv, n1, rfl, ha, ⟨ah2, hvs, hn, e6, hah, hints⟩, hnv⟩ := Paired.get tv (by simpa using hv)
      subst e6
      have F₂ := Fr.say F₁ [(Str.ofString "opened", .ref ao), (Str.ofString "told", .ref at_), (Str.ofString "answers", .ref aa), (Str.ofString "due", .ref ad)]
        (List.forall_mem_cons.mpr ⟨e1, List.forall_mem_cons.mpr ⟨e2, List.forall_mem_cons.mpr ⟨e3, List.forall_mem_cons.mpr ⟨e4, fun _ h => nomatch h⟩⟩⟩⟩)
      have N₂ : News s₁.heap s₁.heap.objs.size h ((ad, listOf ys.toArray n) :: (s₁.heap.objs.size + 1, oc2) :: sat s₁.heap s₁.heap.objs.size [ad, s₁.heap.objs.size + 1] h) :=
        List.forall_mem_cons.mpr ⟨⟨gd, mD.2⟩, List.forall_mem_cons.mpr ⟨⟨gc, mC.1, mC.2.2⟩, news_sat⟩⟩
      have KP : Kept s₁.heap h s₁.heap.objs.size [ad, s₁.heap.objs.size + 1] := Kept.of F₁
      have hT : IsTup h a [Value.int x.1 t1, Value.ref ah2, nv].toArray := ⟨_, insat_get ha, rfl, _, rfl⟩
      have hI' : ∃ o, h.get? I = some o ∧ stable o = false := by obtain ⟨o, ho, hc, hd⟩ := hI; exact ⟨o, ho, unstable hc hd⟩
      have hfp : ∀ b ∈ [I, at_], b ≠ s₁.heap.objs.size ∧ b ∉ [ad, s₁.heap.objs.size + 1] := by
        intro b hb
        rcases List.mem_cons.mp hb with rfl | hb
        · refine ⟨Ne.symm hne, ?_⟩
          simp only [List.mem_cons, List.not_mem_nil, or_false, not_or]
          refine ⟨off_list hI' gd, ?_⟩
          rintro rfl
          obtain ⟨o, e, q⟩ := hI'
          rw [gc] at e
          cases e
          rw [cell_stable dc] at q
          cases q
        · rw [List.mem_singleton.mp hb]
          exact ⟨nAt.1, nAt.2.1⟩
      have hxm := ar3 x (List.mem_of_getElem? hxi)
      obtain ⟨p9, hp9⟩ := (hInv.told x (List.mem_of_getElem? hxi)).2
      have hxw := ar1 _ (List.mem_of_getElem? hp9)
      have hysl : ys.length ≤ 10 := by
        rw [Paired.len yd, List.length_map, List.length_take]
        have := (planOf_small ds 9).2.2.2.2
        omega
      clear F₁
      obtain ⟨xt, xh, xn⟩ := x
      dsimp only at *
      k_steps
      rename Fr _ _ _ _ => F9
      rename News _ _ _ _ => N9
      rename PySem.Obj => oc3
      rename oc3.data = Data.cell (some _) => dN
      obtain ⟨⟨q1, q2, q3⟩, q4, q5, q6⟩ := hxm
      have k9 := KP _ _ _ F9 N9 (fun p hp => .tail _ (.tail _ hp))
      have kk := InSat.st (h₀ := s₁.heap) (ms := [ad, s₁.heap.objs.size + 1]) k9
      with_unfolding_all refine' seen_ok (b := s₁.heap) (way := xh) (opened := (planOf ds 9).opened) (told := (planOf ds 9).told) (turns := (xt : Int) + 1) ?hd ?hu F9.keep KX T (insat_get (kk _ _ rfl hah)) hints (insat_get (kk _ _ rfl go)) hos (insat_get (kk _ _ rfl gt)) (Paired.mono (fun _ _ z => ToldAt.mono (fun a o st x => insat_get (kk a o st x)) z) tv) hxw.2.1 ar2 (Nat.le_trans (planOf_small ds 9).2.2.2.2 (by omega)) hxw.2.2 (by omega) (by omega) (fun x hx => (ar3 x hx).1) ?_
      case hd => decide +kernel
      case hu => decide +kernel
      intro h6 tk6 R6 hk6 HR6
      obtain ⟨zs, zn, gR6, hzs⟩ := HR6.mono (Fresh.insat F9.keep (fr_there F9) (ms := [ad, s₁.heap.objs.size + 1]) (by
        intro a hm
        rcases List.mem_cons.mp hm with rfl | hm
        · exact ⟨_, (N9 _ (.head _)).1⟩
        · rw [List.mem_singleton.mp hm]; exact ⟨_, (N9 _ (.tail _ (.head _))).1⟩))
      have F6 := Fr.keeps' F9 hk6
      have k6 : ∀ a o, stable o = true → InSat s₁.heap s₁.heap.objs.size [ad, s₁.heap.objs.size + 1] h a o → InSat s₁.heap s₁.heap.objs.size [ad, s₁.heap.objs.size + 1] h6 a o := fun a o st x => mem_sat.mpr ⟨hk6 _ _ (insat_get (kk a o st x)), (mem_sat.mp x).2⟩
      have go6 := k6 _ _ rfl go
      have gt6 := k6 _ _ rfl gt
      have ga6 := k6 _ _ rfl ga
      have tv6 := Paired.mono (fun _ _ z => ToldAt.mono k6 z) tv
      have N6 : News s₁.heap s₁.heap.objs.size h6 ((ad, listOf ys.toArray n) :: (s₁.heap.objs.size + 1, oc3) :: sat s₁.heap s₁.heap.objs.size [ad, s₁.heap.objs.size + 1] h6) :=
        List.forall_mem_cons.mpr ⟨⟨hk6 _ _ (N9 _ (.head _)).1, mD.2⟩, List.forall_mem_cons.mpr ⟨⟨hk6 _ _ (N9 _ (.tail _ (.head _))).1, mC.1, mC.2.2⟩, news_sat⟩⟩
      have KP6 : Kept s₁.heap h6 s₁.heap.objs.size [ad, s₁.heap.objs.size + 1] := Kept.of F6
      have kI : ∀ b ∈ [I, at_], ∀ o, h.get? b = some o → h6.get? b = some o := fun b hb o e => hk6 _ _ (k9 b o (hfp b hb).1 (hfp b hb).2 e)
      have hTab := tabOk_seen (w := xh) (opened := (planOf ds 9).opened) (T := (xt : Int) + 1) (by omega) hxw.1 (fun x hx => (ar3 x hx).2)
      have hdue := fun nm => due_some (t := xt) (w := xh) (nm := nm) (rfl : seenOf xh (planOf ds 9).opened ((xt : Int) + 1) (planOf ds 9).told = _)
      have hrl := seen_len xh (planOf ds 9).opened ((xt : Int) + 1) (planOf ds 9).told []
      have h9l := (planOf_small ds 9).2.2.2.2
      generalize hrows : seenOf xh (planOf ds 9).opened ((xt : Int) + 1) (planOf ds 9).told = rows at hzs hTab hdue
      have hrl2 : rows.length ≤ 10 := by rw [← hrows]; unfold seenOf; simp at hrl; omega
      clear F9 N9 k9 kk HR6 KP k6 hI' hI hlst hT gc gd ha hah go gt ga tv hrows hrl h9l
      (try dsimp only)
      cases xn with
      | none =>
        obtain rfl : nv = .none := hnv
        k_steps
        rename Fr _ _ _ _ => F9
        rename News _ _ _ _ => N9
        have k9 := KP6 _ _ _ F9 N9 (fun p hp => .tail _ (.tail _ hp))
        have kk := InSat.st (h₀ := s₁.heap) (ms := [ad, s₁.heap.objs.size + 1]) k9
        have gc9 := (N9 _ (.tail _ (.head _))).1
        have gd9 := (N9 _ (.head _)).1
        refine iter_list_CA (l := R6) (items := zs.toArray) (fun i ys h => ys = []) rfl ⟨_, insat_get (kk _ _ rfl gR6), rfl, _, rfl⟩ (by rw [List.size_toArray, Paired.len hzs]; omega) F9 rfl (fun _ _ _ _ _ q => q) ?_ ?_
        · intro i2 v D C I2 ys2 k s₂ h7 tk7 mm E' _ hv2 hJ F₁ hIt hlst2 hD hyl hDC hk fD fC
          obtain ⟨r, hri, a, t2, u2, n3, rfl, ha⟩ := Paired.get hzs (by simpa using hv2)
          have hrow := hTab.rowOk r (List.mem_of_getElem? hri)
          have hlen1 : r.1.length ≤ 60 := hrow.1.1
          have hT : IsTup h7 a [Value.str r.1 t2, Value.str r.2 u2].toArray := ⟨_, hk _ _ (insat_get (kk _ _ rfl ha)), rfl, _, rfl⟩
          have KPc : Kept s₁.heap h7 C [] := Kept.of F₁
          have N₁ : News s₁.heap C h7 (sat s₁.heap C [] h7) := news_sat
          have hcC : s₁.heap.objs.size + 1 ≠ C := fun q => by have e := gc9; rw [q] at e; rw [show Heap.get? _ C = none from fC] at e; cases e
          have hcm : (s₁.heap.objs.size + 1, oc3) ∈ sat s₁.heap C [] h7 := mem_sat.mpr ⟨hk _ _ gc9, hcC, by simp, mC.2.2⟩
          clear F9 N9 k9 kk KP6
          k_steps
          exact CEnd.of KPc (by assumption) (by assumption) (fun p hp => hp) fun k => hJ
        · intro D C h7 tk7 ys2 k fD fC hD F' hk' hJ
          have nD : D ∉ [ad, s₁.heap.objs.size + 1] := fun q => by
            rcases List.mem_cons.mp q with rfl | q
            · rw [show Heap.get? _ D = none from fD] at gd9; cases gd9
            · rw [List.mem_singleton.mp q] at fD; rw [show Heap.get? _ _ = none from fD] at gc9; cases gc9
          have hDs : (D, listOf ys2.toArray k) ∈ sat s₁.heap s₁.heap.objs.size [ad, s₁.heap.objs.size + 1] h7 := by
            have e := news_fresh F9 fD hD _ (.head _)
            exact mem_sat.mpr ⟨e.1, e.2.1, nD, e.2.2⟩
          have nAd : ad ≠ s₁.heap.objs.size := mD.2.1
          have N7 : News s₁.heap s₁.heap.objs.size h7 ((ad, listOf ys.toArray n) :: (s₁.heap.objs.size + 1, oc3) :: sat s₁.heap s₁.heap.objs.size [ad, s₁.heap.objs.size + 1] h7) :=
            List.forall_mem_cons.mpr ⟨⟨hk' _ _ nAd gd9, mD.2⟩, List.forall_mem_cons.mpr ⟨⟨hk' _ _ mC.1 gc9, mC.1, mC.2.2⟩, news_sat⟩⟩
          have KP7 : Kept s₁.heap h7 s₁.heap.objs.size [ad, s₁.heap.objs.size + 1] := Kept.of F'
          have k67 : ∀ a o, a ≠ s₁.heap.objs.size → a ∉ [ad, s₁.heap.objs.size + 1] → h6.get? a = some o → h7.get? a = some o := fun a o h1 h2 e => hk' a o h1 (k9 a o h1 h2 e)
          clear F9 N9 kk KP6 k9
          obtain rfl : ys2 = [] := hJ
          k_steps
          rename Fr _ _ _ _ => F9
          rename News _ _ _ _ => N9
          have k9 := KP7 _ _ _ F9 N9 (fun p hp => .tail _ (.tail _ hp))
          exact due_end F9 (fun b hb o e => k9 _ _ (hfp b hb).1 (hfp b hb).2 (k67 _ _ (hfp b hb).1 (hfp b hb).2 (kI b hb o e))) rfl rfl rfl rfl (fun a o h1 h2 e => k9 a o h1 h2 (k67 a o h1 h2 e)) go6 gt6 tv6 ga6 (N9 _ (.head _)).1 yd (show OptStr .none (dueOf _ _ (xt, xh, none)) from rfl) (N9 _ (.tail _ (.head _))).1 dN (due_take hxi)
      | some nm =>
        obtain ⟨un1, rfl⟩ := hnv
        have hnl := q3 nm rfl
        k_steps
        rename Fr _ _ _ _ => F9
        rename News _ _ _ _ => N9
        have k9 := KP6 _ _ _ F9 N9 (fun p hp => .tail _ (.tail _ hp))
        have kk := InSat.st (h₀ := s₁.heap) (ms := [ad, s₁.heap.objs.size + 1]) k9
        have gc9 := (N9 _ (.tail _ (.head _))).1
        have gd9 := (N9 _ (.head _)).1
        refine iter_list_CA (l := R6) (items := zs.toArray) (fun i ys h => StrsAre ys (sameOf nm (rows.take i))) rfl ⟨_, insat_get (kk _ _ rfl gR6), rfl, _, rfl⟩ (by rw [List.size_toArray, Paired.len hzs]; omega) F9 .nil (fun _ _ _ _ _ q => q) ?_ ?_
        · intro i2 v D C I2 ys2 k s₂ h7 tk7 mm E' _ hv2 hJ F₁ hIt hlst2 hD hyl hDC hk fD fC
          obtain ⟨r, hri, a, t2, u2, n3, rfl, ha⟩ := Paired.get hzs (by simpa using hv2)
          have hrow := hTab.rowOk r (List.mem_of_getElem? hri)
          have hlen1 : r.1.length ≤ 60 := hrow.1.1
          have hT : IsTup h7 a [Value.str r.1 t2, Value.str r.2 u2].toArray := ⟨_, hk _ _ (insat_get (kk _ _ rfl ha)), rfl, _, rfl⟩
          have KPc : Kept s₁.heap h7 C [] := Kept.of F₁
          have N₁ : News s₁.heap C h7 (sat s₁.heap C [] h7) := news_sat
          have hcC : s₁.heap.objs.size + 1 ≠ C := fun q => by have e := gc9; rw [q] at e; rw [show Heap.get? _ C = none from fC] at e; cases e
          have hcm : (s₁.heap.objs.size + 1, oc3) ∈ sat s₁.heap C [] h7 := mem_sat.mpr ⟨hk _ _ gc9, hcC, by simp, mC.2.2⟩
          clear F9 N9 k9 kk KP6
          k_steps
          · refine CEnd.of KPc (by assumption) (by assumption) (fun p hp => hp) fun k => ?_
            show StrsAre _ (sameOf nm (rows.take (i2 + 1)))
            rw [same_yes hri (by assumption)]
            exact StrsAre.snoc hJ
          · refine CEnd.of KPc (by assumption) (by assumption) (fun p hp => hp) fun k => ?_
            show StrsAre _ (sameOf nm (rows.take (i2 + 1)))
            rw [same_no hri (by assumption)]
            exact hJ
        · intro D C h7 tk7 ys2 k fD fC hD F' hk' hJ
          have nD : D ∉ [ad, s₁.heap.objs.size + 1] := fun q => by
            rcases List.mem_cons.mp q with rfl | q
            · rw [show Heap.get? _ D = none from fD] at gd9; cases gd9
            · rw [List.mem_singleton.mp q] at fD; rw [show Heap.get? _ _ = none from fD] at gc9; cases gc9
          have hDs : (D, listOf ys2.toArray k) ∈ sat s₁.heap s₁.heap.objs.size [ad, s₁.heap.objs.size + 1] h7 := by
            have e := news_fresh F9 fD hD _ (.head _)
            exact mem_sat.mpr ⟨e.1, e.2.1, nD, e.2.2⟩
          have nAd : ad ≠ s₁.heap.objs.size := mD.2.1
          have N7 : News s₁.heap s₁.heap.objs.size h7 ((ad, listOf ys.toArray n) :: (s₁.heap.objs.size + 1, oc3) :: sat s₁.heap s₁.heap.objs.size [ad, s₁.heap.objs.size + 1] h7) :=
            List.forall_mem_cons.mpr ⟨⟨hk' _ _ nAd gd9, mD.2⟩, List.forall_mem_cons.mpr ⟨⟨hk' _ _ mC.1 gc9, mC.1, mC.2.2⟩, news_sat⟩⟩
          have KP7 : Kept s₁.heap h7 s₁.heap.objs.size [ad, s₁.heap.objs.size + 1] := Kept.of F'
          have k67 : ∀ a o, a ≠ s₁.heap.objs.size → a ∉ [ad, s₁.heap.objs.size + 1] → h6.get? a = some o → h7.get? a = some o := fun a o h1 h2 e => hk' a o h1 (k9 a o h1 h2 e)
          clear F9 N9 kk KP6 k9
          rw [List.size_toArray, Paired.len hzs, List.take_length] at hJ
          generalize hsm : sameOf nm rows = sm at hJ
          have hsl : ys2.length ≤ 10 := by
            rw [hJ.length, ← hsm]; unfold sameOf; rw [List.length_map]; exact Nat.le_trans (List.length_filter_le _ _) hrl2
          cases hJ with
          | nil =>
            have hz := hdue nm
            rw [hsm] at hz
            k_steps
            rename Fr _ _ _ _ => F9
            rename News _ _ _ _ => N9
            have k9 := KP7 _ _ _ F9 N9 (fun p hp => .tail _ (.tail _ hp))
            exact due_end F9 (fun b hb o e => k9 _ _ (hfp b hb).1 (hfp b hb).2 (k67 _ _ (hfp b hb).1 (hfp b hb).2 (kI b hb o e))) rfl rfl rfl rfl (fun a o h1 h2 e => k9 a o h1 h2 (k67 a o h1 h2 e)) go6 gt6 tv6 ga6 (N9 _ (.head _)).1 yd (by rw [hz]; rfl) (N9 _ (.tail _ (.head _))).1 dN (due_take hxi)
          | cons y ty tl =>
            have hz := hdue nm
            rw [hsm] at hz
            k_steps
            rename Fr _ _ _ _ => F9
            rename News _ _ _ _ => N9
            have k9 := KP7 _ _ _ F9 N9 (fun p hp => .tail _ (.tail _ hp))
            exact due_end F9 (fun b hb o e => k9 _ _ (hfp b hb).1 (hfp b hb).2 (k67 _ _ (hfp b hb).1 (hfp b hb).2 (kI b hb o e))) rfl rfl rfl rfl (fun a o h1 h2 e => k9 a o h1 h2 (k67 a o h1 h2 e)) go6 gt6 tv6 ga6 (N9 _ (.head _)).1 yd (by rw [hz]; exact ⟨_, rfl⟩) (N9 _ (.tail _ (.head _))).1 dN (due_take hxi)
    · clear k9 up F9 N9 go9 gt9 ga9 tv9 go5 gt5 ga5 c5 KP5 l9 c9
      intro h8 tk8 m8 F₁ J
      obtain ⟨_, _, e3, e4, _, _, _, ga, ⟨ys, n, gd, yd⟩, _⟩ := J
      rw [List.size_toArray, Paired.len htv5, List.take_length] at yd
      have hans' := hans
      rw [hInv.ans] at hans'
      have F₂ := Fr.say F₁ [(Str.ofString "answers", .ref aa), (Str.ofString "due", .ref ad)]
        (List.forall_mem_cons.mpr ⟨e3, List.forall_mem_cons.mpr ⟨e4, fun _ h => nomatch h⟩⟩)
      have N₂ : News s₁.heap s₁.heap.objs.size h8 (sat s₁.heap s₁.heap.objs.size [] h8) := news_sat
      have hq1 := opts_reads (insat_get ga) hans'
      have hq2 := opts_reads gd yd
      have hq3 := opts_shaped (due_ok hInv)
      clear F₁ htv5 hans
      (try dsimp only)
      k_steps
      refine eq_self hq1 hq2 hq3 opts_mix (by with_unfolding_all show callerA.units + 3 + 64 < cLine; decide +kernel) ?_
      clear hq1 hq2 hq3
      k_steps
end
end Mine
theorem PySem.Challenge.cw_st0019_01_holds : PySem.Challenge.rw_st0019_01.Holds := by
  exact Mine.law_go
