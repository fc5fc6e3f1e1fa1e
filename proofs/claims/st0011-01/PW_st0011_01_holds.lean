import PyProof.Rows.All
import Wide.All
import OpenK.AllK
import Wide.FinOn
import Lean
import PySem.Challenge.RW_st0011_01
open PySem PySem.W PyProof.Rows PySem.Calls PySem.Spec
set_option Elab.async false
set_option maxRecDepth 100000
set_option maxHeartbeats 8000000
namespace Mine
open_top hd for PySem.Challenge.rw_st0011_01
end Mine

namespace Mine
theorem offB1 : True := by
  w_top off
  trivial
open Sem (wp)

section
variable {M : Model} {A : Around} {R : GenEnd} {Y : Protocol} {n : Nat} {s₀ : Shared} {c : Code} {fs : List Frame} {s : Shared} {env : Env}
  {K : Flow → Sem Fin} {H : Value → Sem Fin} {gd : Bool → Bool} {lv : List Value → List Value}

theorem seg_of {α : Type} {m : Sem α} {K : α → Sem Fin} {H : Value → Sem Fin} {gd lv}
    (h : wpAny M (A.over c fs) m (fun a s' => Seg M A R Y n s₀ c (K a) fs s') (fun _ _ => False) s) :
    Seg M A R Y n s₀ c (m.wrap K H gd lv) fs s := seg_wrap (wpAny_mono h (fun _ _ x => x) fun _ _ x => x.elim)

theorem seg_bw {α β : Type} {m : Sem α} {K : α → Sem β} {K' : β → Sem Fin} {H' : Value → Sem Fin} {gd lv}
    (h : wpAny M (A.over c fs) m (fun a s' => Seg M A R Y n s₀ c ((K a).wrap K' H' gd lv) fs s') (fun _ _ => False) s) : Seg M A R Y n s₀ c ((m >>= K).wrap K' H' gd lv) fs s :=
  seg_bind_wrap (wpAny_mono h (fun _ _ x => x) fun _ _ x => x.elim)

theorem seg_If {test : Expr} {body orelse : List Stmt} {pos : Pos}
    (h : wpAny M (A.over c fs) (isTrue test env (eval test env)) (fun b s' => if b = true then Seg M A R Y n s₀ c ((execs body env).wrap K H gd lv) fs s' else Seg M A R Y n s₀ c ((execs orelse env).wrap K H gd lv) fs s') (fun _ _ => False) s) :
    Seg M A R Y n s₀ c ((exec (.If test body orelse pos) env).wrap K H gd lv) fs s := by
  rw [arm_exec_If]
  refine seg_bw (wpAny_standAt ?_)
  refine seg_bw (wpAny_mono h (fun b s' hb => ?_) fun _ _ x => x)
  cases b with
  | true => rw [if_pos rfl] at hb; exact hb
  | false => rw [if_neg Bool.false_ne_true] at hb; exact hb

theorem seg_For {target iter : Expr} {body orelse : List Stmt} {pos : Pos}
    (h : wpAny M (A.over c fs) (eval iter env) (fun x s₁ => wpAny M (A.over c fs) (pyIter x) (fun it s₂ => ∀ p (kk : Except Value Flow → Sem Fin), (∀ f, kk (.ok f) = K f) →
      Seg M A R Y n s₀ (.forLoop target it body orelse env) (M.den (.forLoop target it body orelse env))
      (.ret kk none (gd false) (lv []) c p [] :: fs) s₂) (fun _ _ => False) s₁) (fun _ _ => False) s)
    (hs : ∀ x, foldedSetIterable iter env x = pure x) :
    Seg M A R Y n s₀ c ((exec (.For target iter body orelse pos) env).wrap K H gd lv) fs s := by
  rw [exec_For]
  refine seg_bw (wpAny_standAt ?_)
  refine seg_bw (wpAny_mono h (fun x s₁ h₁ => ?_) fun _ _ x => x)
  rw [hs x]
  refine seg_bw (wpAny_pure ?_)
  refine seg_bw (wpAny_standAt ?_)
  refine seg_bw (wpAny_holding (wpAny_mono h₁ (fun it s₂ h₂ => ?_) fun _ _ x => x))
  exact seg_call fun p => h₂ p _ fun _ => rfl
end

section
variable {prog : Program} {w : World} {A : Around} {R : GenEnd} {Y : Protocol} {n : Nat} {s₀ : Shared} {fs : List Frame} {s : Shared} {env : Env}

theorem seg_forLoop {target it} {body : List Stmt}
    (h : wpAny (model prog w) (A.over (.forLoop target it body [] env) fs) (pyNext it) (fun r s₁ => match r with
      | none => Seg (model prog w) A R Y n s₀ (.forLoop target it body [] env) (.pure (.again (.block [] env))) fs s₁
      | some v => wpAny (model prog w) (A.over (.forLoop target it body [] env) fs) (assign target env v) (fun _ s₂ =>
          ∀ H', Seg (model prog w) A R Y n s₀ (.forLoop target it body [] env) ((execs body env).wrap (fun f => match f with
            | .next | .cont => .pure (.again (.forLoop target it body [] env))
            | .brk => .pure (.done .next)
            | .ret v => .pure (.done (.ret v))) H' id id) fs s₂) (fun _ _ => False) s₁) (fun _ _ => False) s)
    (ht : ∀ v, letOwnedTupleGo target it v = pure ()) :
    Seg (model prog w) A R Y n s₀ (.forLoop target it body [] env) ((model prog w).den (.forLoop target it body [] env)) fs s := by
  show Seg _ A R Y n s₀ _ ((forTurn target it body [] env).onRaise _) fs s
  unfold forTurn
  rw [Sem.onRaise_eq_wrap]
  refine seg_bw (wpAny_standAt ?_)
  refine seg_bw (wpAny_onRaise (wpAny_mono h (fun r s₁ h₁ => ?_) fun _ _ x => x.elim))
  cases r with
  | none => exact h₁
  | some v =>
    simp only at h₁
    dsimp only
    rw [ht v]
    refine seg_bw (wpAny_pure ?_)
    refine seg_bw (wpAny_mono h₁ (fun _ s₂ h₂ => ?_) fun _ _ x => x)
    rw [Sem.bind_eq_wrap', Sem.wrap_wrap]
    rw [Sem.wrap_congr (execs body env) _ _ (K' := fun f => match f with
            | .next | .cont => .pure (.again (.forLoop target it body [] env))
            | .brk => .pure (.done .next)
            | .ret v => .pure (.done (.ret v))) (fun f => by cases f <;> rfl) (fun _ => rfl)]
    exact h₂ _

/-- a loop's body that is left by `return` or by its end, seen from the frame below -/
theorem seg_back {K : Flow → Sem Fin} {kk : Except Value Flow → Sem Fin} {g l c c₁ p₁ h kp} {M : Model} (hkk : ∀ f, kk (.ok f) = K f) (f : Flow) (hk : Seg M A R Y n s₀ c₁ (K f) fs s) :
    Seg M A R Y n s₀ c (.pure (.done f)) (.ret kk h g l c₁ p₁ kp :: fs) s := seg_leaf (.ok f) (by rw [← hkk] at hk; exact hk)
end
end Mine

namespace Mine
theorem offC1 : True := by
  w_top off
  trivial
local macro_rules | `(tactic| walk_at "no such place") => `(tactic| skip)
local macro_rules | `(tactic| walk_at "no such place") => `(tactic| skip)
local macro_rules | `(tactic| walk_at "no such place") => `(tactic| skip)
local macro_rules | `(tactic| walk_at "no such place") => `(tactic| skip)
local macro_rules | `(tactic| walk_at "no such place") => `(tactic| skip)
local macro_rules | `(tactic| walk_at "no such place") => `(tactic| skip)
theorem fillK : (∀ P, hd.heap_39 P = hd.heap_39 P) ∧ PySem.Challenge.rw_st0011_01 = PySem.Challenge.rw_st0011_01 := by
  k_fill
  exact ⟨fun _ => rfl, rfl⟩

abbrev PW : Program := PySem.Challenge.pw_st0011_01
def giStmts : List Stmt := match (PySem.Challenge.pw_st0011_01.main.body.drop 7) with | .FunctionDef _ _ b _ _ _ _ _ _ _ :: _ => b | _ => []
def giScope : Scope := match (PySem.Challenge.pw_st0011_01.main.body.drop 7) with | .FunctionDef _ _ _ _ _ _ sc _ _ _ :: _ => sc | _ => default
def giT : Expr := match giStmts with | [_, .For t _ _ _ _] => t | _ => default
def giB : List Stmt := match giStmts with | [_, .For _ _ b _ _] => b | _ => []
def giW : Expr × List Stmt := match giB with | [_, .If _ [_, .While t b _ _] _ _, _, _] => (t, b) | _ => default
def giT1 : Expr := match giB with | [.If t _ _ _, _, _, _] => t | _ => default
def giT2 : Expr := match giB with | [_, .If t _ _ _, _, _] => t | _ => default
def giT3 : Expr := match giB with | [_, .If _ [.If t _ _ _, _] _ _, _, _] => t | _ => default
abbrev giEnv (C : Addr) : Env := envOf (Str.ofString "_grouping_intervals") giScope C 42 (.ref 41)

section
variable {w : World} {A : Around} {s : Shared} {p : Program} {loose : List Str} {mean : ExcName → Option Value} {mg mb : Str → Option Value} {base : Heap} {C : Addr} {m : Str → Option Value} {x : Int} {t : Tok} {Q : Bool → Shared → Prop} {E : Value → Shared → Prop}

theorem gi_t1 (X : (hd.heap_39 w.params).In base) (T : Top p loose mean mg mb base) (F : Fr base C s.heap (fun y => if y = Str.ofString "interval" then some (.int x t) else m y))
    (h : ∀ tk, Q (x == 127) { s with toks := tk }) : wpAny (model PW w) A (isTrue giT1 (giEnv C) (eval giT1 (giEnv C))) Q E s := by
  generalize hM : model PySem.Challenge.pw_st0011_01 w = M
  delta giT1 giB giStmts PySem.Challenge.pw_st0011_01
  dsimp only [List.drop]
  subst hM
  have N : News base C s.heap [] := News.nil
  (try k_fold)
  k_steps
  all_goals exact h _
theorem gi_t2 (X : (hd.heap_39 w.params).In base) (T : Top p loose mean mg mb base) (F : Fr base C s.heap (fun y => if y = Str.ofString "interval" then some (.int x t) else m y))
    (h : ∀ tk, Q (x == 0) { s with toks := tk }) : wpAny (model PW w) A (isTrue giT2 (giEnv C) (eval giT2 (giEnv C))) Q E s := by
  generalize hM : model PySem.Challenge.pw_st0011_01 w = M
  delta giT2 giB giStmts PySem.Challenge.pw_st0011_01
  dsimp only [List.drop]
  subst hM
  have N : News base C s.heap [] := News.nil
  (try k_fold)
  k_steps
  all_goals exact h _
theorem gi_t3 {v : Int} {u : Tok} (F : Fr base C s.heap m) (hv : m (Str.ofString "last_interval") = some (.int v u))
    (h : ∀ tk, Q false { s with toks := tk }) : wpAny (model PW w) A (isTrue giT3 (giEnv C) (eval giT3 (giEnv C))) Q E s := by
  generalize hM : model PySem.Challenge.pw_st0011_01 w = M
  delta giT3 giB giStmts PySem.Challenge.pw_st0011_01
  dsimp only [List.drop]
  subst hM
  refine wpAny_isTrue_Compare1 (ld F hv ?_)
  k_steps
  all_goals exact h _
theorem gi_tw (h : ∀ tk, Q true { s with toks := tk }) : wpAny (model PW w) A (isTrue giW.1 (giEnv C) (eval giW.1 (giEnv C))) Q E s := by
  generalize hM : model PySem.Challenge.pw_st0011_01 w = M
  delta giW giB giStmts PySem.Challenge.pw_st0011_01
  dsimp only [List.drop]
  subst hM
  k_steps
  all_goals exact h _
theorem gi_last {v : Int} {u : Tok} {Q : Value → Shared → Prop} {pos : Pos} (F : Fr base C s.heap m) (hv : m (Str.ofString "last_interval") = some (.int v u))
    (h : Q (.int v u) s) : wpAny (model PW w) A (eval (.Name (Str.ofString "last_interval") pos) (giEnv C)) Q E s := ld F hv h
theorem gi_int {v : Int} {u : Tok} {Q : Value → Shared → Prop} {pos : Pos} (F : Fr base C s.heap m) (hv : m (Str.ofString "interval") = some (.int v u))
    (h : Q (.int v u) s) : wpAny (model PW w) A (eval (.Name (Str.ofString "interval") pos) (giEnv C)) Q E s := ld F hv h
end

/-- what the generator hands out, from the last mark and the rest of the ruler -/
def gst : Option Int → List Int → Nat → Option Int
  | _, [], _ => none
  | last, x :: r, i => if x = 127 then none else if x = 0 then last else match i with
    | 0 => some x
    | i + 1 => gst (some x) r i
/-- no nought ahead of the first mark -/
def gok : Option Int → List Int → Prop
  | _, [] => True
  | last, x :: r => x = 127 ∨ (x = 0 ∧ last ≠ none) ∨ (x ≠ 0 ∧ gok (some x) r)

def GSince (C I : Addr) (s₀ s : Shared) : Prop :=
  ∃ h' tk, s = { s₀ with heap := h', toks := tk } ∧ ∀ b o, b ≠ C → b ≠ I → s₀.heap.get? b = some o → h'.get? b = some o
theorem GSince.refl (C I : Addr) (s : Shared) : GSince C I s s := ⟨s.heap, s.toks, rfl, fun _ _ _ _ e => e⟩
theorem GSince.step {C I : Addr} {s₀ s : Shared} (x : GSince C I s₀ s) {h' : Heap} {tk : Nat} (hk : ∀ b o, b ≠ C → b ≠ I → s.heap.get? b = some o → h'.get? b = some o) :
    GSince C I s₀ { s with heap := h', toks := tk } := by
  obtain ⟨h₁, tk₁, rfl, hk₁⟩ := x
  exact ⟨h', tk, rfl, fun b o hC hI e => hk b o hC hI (hk₁ b o hC hI e)⟩

def gY (N : Nat) (st : Nat → Option Int) (base : Heap) (C l I : Addr) : Protocol := fun m s₀ v s kap =>
  (∃ x t, v = .int x t ∧ st (N - 1 - m) = some x) ∧ GSince C I s₀ s ∧
    (0 < m → ∀ s'' : Shared, base.StaysIn s''.heap → (∀ b o, (b = C ∨ b = I ∨ b = l) → s.heap.get? b = some o → s''.heap.get? b = some o) → kap (.send .none) s'')
def gR (N : Nat) (st : Nat → Option Int) (C I : Addr) : GenEnd := fun n s₀ r s => r = .ok (.ret .none) ∧ (st (N - n) = none ∧ GSince C I s₀ s)

section
variable {w : World} {A : Around} {p : Program} {loose : List Str} {mean : ExcName → Option Value} {mg mb : Str → Option Value} {base : Heap} {C l I : Addr} {N : Nat} {st : Nat → Option Int}

theorem fr_at {base h h' : Heap} {C : Addr} {m : Str → Option Value} (F : Fr base C h m) (hb : base.StaysIn h') (e : ∀ o, h.get? C = some o → h'.get? C = some o) : Fr base C h' m :=
  ⟨F.ns.at' e, hb, F.above⟩

theorem giW2 : ∃ p1 p2 p3, giW.2 = [.Expr (.Yield (some (.Name (Str.ofString "last_interval") p1)) p2) p3] := ⟨_, _, _, rfl⟩

theorem gWhile {fs : List Frame} (hfs : splitAtGen fs = none) (hfg : fs.any Frame.guarded = false) {v : Int} {u : Tok} {m : Str → Option Value} (hv : m (Str.ofString "last_interval") = some (.int v u)) :
    ∀ (n : Nat) (s₀ s : Shared), n + 1 ≤ N → Fr base C s.heap m → GSince C I s₀ s → (∀ j, N - (n + 1) ≤ j → j < N → st j = some v) →
      Seg (model PW w) A (gR N st C I) (gY N st base C l I) (n + 1) s₀ (.whileLoop giW.1 giW.2 [] (giEnv C)) ((model PW w).den (.whileLoop giW.1 giW.2 [] (giEnv C))) fs s := by
  intro n
  induction n with
  | zero =>
    intro s₀ s hn F hS hst
    refine seg_whileLoop (gi_tw fun tk => ?_)
    rw [if_pos rfl]
    obtain ⟨p1, p2, p3, e⟩ := giW2
    rw [e]
    refine seg_execs_cons (seg_Expr_Yield hfs rfl hfg (gi_last F hv fun kap _ => ?_))
    refine ⟨⟨v, u, rfl, hst _ (by omega) (by omega)⟩, hS.step fun _ _ _ _ e => e, fun h => absurd h (Nat.lt_irrefl _)⟩
  | succ n ih =>
    intro s₀ s hn F hS hst
    refine seg_whileLoop (gi_tw fun tk => ?_)
    rw [if_pos rfl]
    obtain ⟨p1, p2, p3, e⟩ := giW2
    rw [e]
    refine seg_execs_cons (seg_Expr_Yield hfs rfl hfg (gi_last F hv fun kap hk => ?_))
    refine ⟨⟨v, u, rfl, hst _ (by omega) (by omega)⟩, hS.step fun _ _ _ _ e => e, fun _ s'' hb ha => hk .none s'' ?_⟩
    show Seg _ _ _ _ _ _ _ (.pure (.again _)) _ _
    have z := ih s'' s'' (by omega) (fr_at F hb fun o h => ha C o (.inl rfl) h) (GSince.refl _ _ _) (fun j h1 h2 => hst j (by omega) h2)
    rw [e] at z
    exact seg_again rfl z

theorem giB_is : ∃ p1 p2 p3 p4 pr rz q1 q2 q3 q4 q5 q6, giB = [.If giT1 [.Return none pr] [] p1, .If giT2 [.If giT3 rz [] p3, .While giW.1 giW.2 [] p4] [] p2,
    .Expr (.Yield (some (.Name (Str.ofString "interval") q1)) q2) q3, .Assign [.Name (Str.ofString "last_interval") q4] (.Name (Str.ofString "interval") q5) q6] := ⟨_, _, _, _, _, _, _, _, _, _, _, _, rfl⟩
theorem giT_is : ∃ p, giT = .Name (Str.ofString "interval") p := ⟨_, rfl⟩
theorem li_ne : ¬ (Str.ofString "last_interval" = Str.ofString "interval") := by decide

/-- the loop over the ruler -/
theorem gFor (X : (hd.heap_39 w.params).In base) (T : Top p loose mean mg mb base) {fs : List Frame} (hfs : splitAtGen fs = none) (hfg : fs.any Frame.guarded = false) (hh : ∀ c, (A.over c fs).handled = none)
    (hend : ∀ (n : Nat) (s₀ s : Shared) (c : Code) (f : Flow), f = .next ∨ f = .ret .none → gR N st C I n s₀ (.ok (.ret .none)) s →
      Seg (model PW w) A (gR N st C I) (gY N st base C l I) n s₀ c (.pure (.done f)) fs s) (hlC : l ≠ C) (hIC : I ≠ C) (hlI : l ≠ I) (hlive : ∀ o, base.get? I ≠ some o)
    {vs : List Value} {ns : List Int} (hi : IntsAre vs ns) :
    ∀ (rem : List Int) (k n : Nat) (s₀ s : Shared) (m : Str → Option Value) (last : Option Int), ns.drop k = rem → n + 1 ≤ N → Fr base C s.heap m → (match last with | none => True | some v => ∃ u, m (Str.ofString "last_interval") = some (.int v u)) →
      s.heap.IsListIter I l k → s.heap.IsList l vs.toArray → GSince C I s₀ s → (∀ j, N - (n + 1) ≤ j → j < N → st j = gst last rem (j - (N - (n + 1)))) → gok last rem →
      Seg (model PW w) A (gR N st C I) (gY N st base C l I) (n + 1) s₀ (.forLoop giT (.ref I) giB [] (giEnv C)) ((model PW w).den (.forLoop giT (.ref I) giB [] (giEnv C))) fs s := by
  intro rem
  induction rem with
  | nil =>
    intro k n s₀ s m last hd hn F hl hit hL hS hst hok
    refine seg_forLoop ?_ (fun _ => by rfl)
    refine wpAny_pyNext_list_end (hh _) hit hL ?_ (fun h' he' => ?_)
    · have : ns.length ≤ k := by simpa using hd
      simp [hi.length]; omega
    · dsimp only
      refine seg_again rfl ?_
      show Seg _ _ _ _ _ _ _ (.pure (.done .next)) fs _
      refine hend _ _ _ _ _ (.inl rfl) ⟨rfl, ?_, ?_⟩
      · rw [hst _ (by omega) (by omega)]; rfl
      · exact hS.step fun b o hb hb' e => he' b o hb' e
  | cons x r ih =>
    intro k n s₀ s m last hd hn F hl hit hL hS hst hok
    have hk : ns[k]? = some x := by
      have : (ns.drop k)[0]? = some x := by rw [hd]; rfl
      simpa using this
    have hd' : ns.drop (k + 1) = r := by
      have : (ns.drop k).drop 1 = r := by rw [hd]; rfl
      rw [List.drop_drop] at this
      exact this
    obtain ⟨t, hx⟩ := hi.get k x hk
    refine seg_forLoop ?_ (fun _ => by rfl)
    refine wpAny_pyNext_list_item hit hL (x := .int x t) (by simpa using hx) (fun h₁ hit₁ hs₁ => ?_)
    dsimp only
    obtain ⟨pT, eT⟩ := giT_is
    rw [show assign giT (giEnv C) (.int x t) = assign (.Name (Str.ofString "interval") pT) (giEnv C) (.int x t) by rw [eT]]
    have hCI : C ≠ I := Ne.symm hIC
    have F₁ : Fr base C h₁ m := fr_at F (fun b o e => hs₁.extBut b o (fun h => hlive o (h ▸ e)) (F.keep b o e)) fun o e => hs₁.extBut C o hCI e
    refine wpAny_assign_Name (wpAny_storeName_local rfl F₁.ns (fun h₂ hn₂ hs₂ HE => ?_) rfl)
    have F₂ : Fr base C h₂ (fun y => if y = Str.ofString "interval" then some (.int x t) else m y) := F₁.set hn₂ hs₂
    have hit₂ : h₂.IsListIter I l (k + 1) := hit₁.extBut hs₂.extBut hIC
    have hL₂ : h₂.IsList l vs.toArray := (hL.extBut hs₁.extBut hlI).extBut hs₂.extBut hlC
    have hS₂ : GSince C I s₀ { s with heap := h₂, toks := s.toks + 1 } := hS.step fun b o hb hb' e => hs₂.extBut b o hb (hs₁.extBut b o hb' e)
    obtain ⟨p1, p2, p3, p4, pr, rz, q1, q2, q3, q4, q5, q6, eB⟩ := giB_is
    generalize hG : giB = G at *
    subst eB
    refine seg_execs_cons (seg_If (gi_t1 X T F₂ fun tk => ?_))
    by_cases h127 : x = 127
    · subst h127
      rw [if_pos (by rfl)]
      refine seg_execs_cons (seg_of (wpAny_Return_none ?_))
      refine hend _ _ _ _ _ (.inr rfl) ⟨rfl, ?_, ?_⟩
      · rw [hst _ (by omega) (by omega)]; simp [gst]
      · exact hS₂.step fun _ _ _ _ e => e
    rw [if_neg (by simpa using h127)]
    dsimp only
    refine seg_execs_nil ?_
    refine seg_execs_cons (seg_If (gi_t2 X T F₂ fun tk => ?_))
    by_cases h0 : x = 0
    · subst h0
      rw [if_pos (by rfl)]
      have hlast : ∃ v, last = some v := by
        rcases hok with h | h | h
        · exact absurd h (by decide)
        · cases last with
          | none => exact absurd rfl h.2
          | some v => exact ⟨v, rfl⟩
        · exact absurd rfl h.1
      obtain ⟨v, rfl⟩ := hlast
      obtain ⟨u, hu⟩ := hl
      have hu' : (fun y => if y = Str.ofString "interval" then some (.int 0 t) else m y) (Str.ofString "last_interval") = some (.int v u) := by
        show (if Str.ofString "last_interval" = Str.ofString "interval" then _ else _) = _
        rw [if_neg li_ne]; exact hu
      refine seg_execs_cons (seg_If (gi_t3 F₂ hu' fun tk => ?_))
      rw [if_neg Bool.false_ne_true]
      refine seg_execs_nil ?_
      refine seg_execs_cons (seg_While fun p => ?_)
      dsimp only
      refine gWhile (m := fun y => if y = Str.ofString "interval" then some (.int 0 t) else m y) (by rw [splitAtGen_ret, hfs]; rfl) (by simpa [Frame.guarded] using hfg) hu' n s₀ _ hn F₂ (hS₂.step fun _ _ _ _ e => e) (fun j h1 h2 => ?_)
      rw [hst j h1 h2]; simp [gst]
    rw [if_neg (by simpa using h0)]
    dsimp only
    refine seg_execs_nil ?_
    have hx' : (fun y => if y = Str.ofString "interval" then some (.int x t) else m y) (Str.ofString "interval") = some (.int x t) := if_pos rfl
    refine seg_execs_cons (seg_Expr_Yield hfs rfl hfg (gi_int F₂ hx' fun kap hk => ?_))
    refine ⟨⟨x, t, rfl, ?_⟩, hS₂.step fun _ _ _ _ e => e, fun hn' s'' hb ha => hk .none s'' ?_⟩
    · rw [hst _ (by omega) (by omega)]
      have : N - 1 - n - (N - (n + 1)) = 0 := by omega
      rw [this]
      simp [gst, h127, h0]
    · obtain ⟨n, rfl⟩ : ∃ n', n = n' + 1 := ⟨n - 1, by omega⟩
      have F₃ : Fr base C s''.heap (fun y => if y = Str.ofString "interval" then some (.int x t) else m y) := fr_at F₂ hb fun o h => ha C o (.inl rfl) h
      refine seg_execs_cons (seg_of (wpAny_Assign_Name (gi_int F₃ hx' (wpAny_storeName_local rfl F₃.ns (fun h₄ hn₄ hs₄ => ?_) rfl))))
      show Seg _ _ _ _ _ _ _ (.pure (.again _)) _ _
      refine seg_again rfl ?_
      have hs₄' : Heap.SameBut C s''.heap h₄ := hs₄
      have F₄ : Fr base C h₄ (fun z => if z = Str.ofString "last_interval" then some (.int x t) else (fun y => if y = Str.ofString "interval" then some (.int x t) else m y) z) := F₃.set hn₄ hs₄'
      refine ih (k + 1) n s'' { s'' with heap := h₄, toks := s''.toks + 1 } (fun z => if z = Str.ofString "last_interval" then some (.int x t) else (fun y => if y = Str.ofString "interval" then some (.int x t) else m y) z) (some x) hd' (by omega) F₄ ⟨t, if_pos rfl⟩ ?_ ?_ ?_ ?_ ?_
      · obtain ⟨o, ho, r⟩ := hit₂
        exact Heap.IsListIter.extBut ⟨o, ha I o (.inr (.inl rfl)) ho, r⟩ hs₄.extBut hIC
      · obtain ⟨o, ho, r⟩ := hL₂
        exact Heap.IsList.extBut ⟨o, ha l o (.inr (.inr rfl)) ho, r⟩ hs₄.extBut hlC
      · exact (GSince.refl _ _ _).step fun b o hb' _ e => hs₄.extBut b o hb' e
      · intro j h1 h2
        rw [hst j (by omega) h2]
        obtain ⟨d, rfl⟩ : ∃ d, j = N - (n + 1) + d := ⟨j - (N - (n + 1)), by omega⟩
        have e1 : N - (n + 1) + d - (N - (n + 1 + 1)) = d + 1 := by omega
        have e2 : N - (n + 1) + d - (N - (n + 1)) = d := by omega
        rw [e1, e2]
        simp [gst, h127, h0]
      · rcases hok with h | h | h
        · exact absurd h h127
        · exact absurd h.1 h0
        · exact h.2
end
end Mine

namespace Mine
theorem offC2 : True := by
  w_top off
  trivial

theorem giS_is : ∃ q1 q2 q3 q4 q5 q6, giStmts = [.Assign [.Name (Str.ofString "last_interval") q1] (.Constant .none q2 q3) q4, .For giT (.Name (Str.ofString "grouping") q5) giB [] q6] := ⟨_, _, _, _, _, _, rfl⟩
theorem gr_ne : ¬ (Str.ofString "grouping" = Str.ofString "last_interval") := by decide

section
variable {w : World} {A : Around} {p : Program} {loose : List Str} {mean : ExcName → Option Value} {mg mb : Str → Option Value} {base : Heap} {C l I : Addr} {N : Nat} {st : Nat → Option Int}

theorem gFunc (X : (hd.heap_39 w.params).In base) (T : Top p loose mean mg mb base) (hA : A.handled = none) (hlC : l < C) (hCI : C < I)
    {vs : List Value} {ns : List Int} (hi : IntsAre vs ns) (hok : gok none ns) {m : Str → Option Value} (hm : m (Str.ofString "grouping") = some (.ref l)) (n : Nat) (hn : n + 1 = N) (s : Shared) (F : Fr base C s.heap m) (hL : s.heap.IsList l vs.toArray) (hsz : s.heap.objs.size = I)
    (hst : ∀ j, j < N → st j = gst none ns j) :
    Seg (model PW w) A (gR N st C I) (gY N st base C l I) (n + 1) s (.func giStmts (giEnv C)) ((model PW w).den (.func giStmts (giEnv C))) [] s := by
  refine seg_func ?_
  obtain ⟨q1, q2, q3, q4, q5, q6, e⟩ := giS_is
  rw [show execs giStmts (giEnv C) = execs [.Assign [.Name (Str.ofString "last_interval") q1] (.Constant .none q2 q3) q4, .For giT (.Name (Str.ofString "grouping") q5) giB [] q6] (giEnv C) by rw [e]]
  generalize hc : Code.func giStmts (giEnv C) = c
  have hlI : l ≠ I := Nat.ne_of_lt (Nat.lt_trans hlC hCI)
  refine seg_execs_cons (seg_of (wpAny_Assign_Name ?_))
  refine wpAny_pure (wpAny_storeName_local rfl F.ns (fun h₁ hn₁ hs₁ => ?_) rfl)
  have hs₁' : Heap.SameBut C s.heap h₁ := hs₁
  have F₁ : Fr base C h₁ (fun z => if z = Str.ofString "last_interval" then some .none else m z) := F.set hn₁ hs₁'
  have hL₁ : h₁.IsList l vs.toArray := hL.extBut hs₁'.extBut (Nat.ne_of_lt hlC)
  have hsz₁ : h₁.objs.size = I := by rw [hs₁'.1]; exact hsz
  refine seg_execs_cons (seg_For ?_ (fun _ => by rfl))
  refine ld (m := fun z => if z = Str.ofString "last_interval" then some .none else m z) F₁ (v := .ref l) ?_ ?_
  · show (if Str.ofString "grouping" = Str.ofString "last_interval" then _ else _) = _
    rw [if_neg gr_ne]; exact hm
  refine wpAny_pyIter_list hL₁ (fun pp kk hkk => ?_)
  dsimp only
  rw [hsz₁]
  refine gFor X T (fs := [_]) rfl rfl (by intro c'; exact hA) ?_ (Nat.ne_of_lt hlC) (Nat.ne_of_gt hCI) hlI (fun o e => ?_) hi ns 0 n s
    { s with heap := h₁.push { cls := .type "list_iterator", data := .fields #[.ref l, .int 0 0] }, toks := s.toks + 1 } (fun z => if z = Str.ofString "last_interval" then some .none else m z) none (by simp) (by omega) (F₁.push _) trivial ?_ (hL₁.push _) ?_ (fun j h1 h2 => ?_) hok
  · intro n' s₀' s' c' f hf hr
    refine seg_back hkk f ?_
    rcases hf with rfl | rfl
    · exact seg_execs_nil (seg_end (.ok (.ret .none)) hr)
    · exact seg_end (.ok (.ret .none)) hr
  · have h1 := Heap.lt_size e
    have h2 := F.above
    exact absurd (Nat.lt_trans (Nat.lt_of_lt_of_le h1 h2) hCI) (Nat.lt_irrefl _)
  · exact ⟨_, by rw [← hsz₁]; exact Heap.get?_push_size _ rfl, rfl, rfl⟩
  · exact (GSince.refl C I s).step fun b o hb hb' e' => Heap.get?_push_of_some _ (hs₁'.extBut b o hb e')
  · rw [hst j h2]
    have : N - (n + 1) = 0 := by omega
    rw [this, Nat.sub_zero]

/-- the generator stands where its i-th mark is due -/
def GAt (w : World) (A : Around) (base : Heap) (C l I : Addr) (N : Nat) (st : Nat → Option Int) (a : Addr) (g : Nat) (i : Nat) (s : Shared) : Prop :=
  s.heap.IsGen a g ∧ (i = 0 → s.heap.objs.size = I) ∧ ∃ gs, s.gens[g]? = some gs ∧ gs.bare = true ∧ ∀ s'' : Shared, base.StaysIn s''.heap → (i = 0 → s''.heap.objs.size = I) →
    (∀ b o, (b = C ∨ b = I ∨ b = l) → s.heap.get? b = some o → s''.heap.get? b = some o) → i < N → gs.Goes (model PW w) A.in1 (gR N st C I) (gY N st base C l I) (N - i) (.send .none) s''

theorem gAt_fresh (X : (hd.heap_39 w.params).In base) (T : Top p loose mean mg mb base) (hA : A.handled = none) (hlC : l < C) (hCI : C < I) {a : Addr} {g : Nat}
    {vs : List Value} {ns : List Int} (hi : IntsAre vs ns) (hok : gok none ns) {m : Str → Option Value} (hm : m (Str.ofString "grouping") = some (.ref l)) (hN : 0 < N) (s : Shared) (F : Fr base C s.heap m) (hL : s.heap.IsList l vs.toArray) (hsz : s.heap.objs.size = I)
    (hst : ∀ j, j < N → st j = gst none ns j) (hg : s.heap.IsGen a g) (hgs : s.gens[g]? = some (.fresh (.func giStmts (giEnv C)))) : GAt w A base C l I N st a g 0 s := by
  refine ⟨hg, fun _ => hsz, _, hgs, rfl, fun s'' hb hz ha _ => ?_⟩
  obtain ⟨n, rfl⟩ : ∃ n, N = n + 1 := ⟨N - 1, by omega⟩
  refine ⟨rfl, ?_⟩
  obtain ⟨o, ho, r⟩ := hL
  exact gFunc (A := A.in1) X T hA hlC hCI hi hok hm n rfl s'' (fr_at F hb fun o h => ha C o (.inl rfl) h) ⟨o, ha l o (.inr (.inr rfl)) ho, r⟩ (hz rfl) hst

theorem gnext {s : Shared} {a : Addr} {g i : Nat} {Q : Option Value → Shared → Prop} {E : Value → Shared → Prop} (hh : A.handled = none) (hl : s.heap.NoLimit) (hroom : A.depth < recursionLimit) (G : GAt w A base C l I N st a g i s) (hb : base.StaysIn s.heap) (hi : i < N) (haC : a ≠ C) (haI : a ≠ I)
    (hY : ∀ x t h' tk' gs', st i = some x → (∀ b o, b ≠ C → b ≠ I → s.heap.get? b = some o → h'.get? b = some o) → gs'.bare = true →
      GAt w A base C l I N st a g (i + 1) { s with heap := h', toks := tk', gens := (s.gens.setIfInBounds g .running).setIfInBounds g gs' } →
      Q (some (.int x t)) { s with heap := h', toks := tk', gens := (s.gens.setIfInBounds g .running).setIfInBounds g gs' })
    (hN : st i = none → ∀ h' tk', (∀ b o, b ≠ C → b ≠ I → s.heap.get? b = some o → h'.get? b = some o) →
      Q none { s with heap := h', toks := tk', gens := (s.gens.setIfInBounds g .running).setIfInBounds g .finished }) :
    wpAny (model PW w) A (pyNext (.ref a)) Q E s := by
  obtain ⟨hg, hz, gs, hgs, _, hgo⟩ := G
  have hgo' := hgo (s.setGen g .running) hb hz (fun _ _ _ e => e) hi
  unfold pyNext
  refine wpAny_bind (wpAny_attempt (wpAny_callSpecial?_slot (name := Str.ofString "__next__") hg.typeIs slot_gen_next
    (wpAny_call_entry slot_gen_next hg.typeIs entry_gen_next ?_ (args_gen_next _))))
  show wpAny _ A.in1 (Builtin.Generator.genWake (.ref a) (.send .none)) _ _ s
  unfold Builtin.Generator.genWake
  refine wpAny_bind (wpAny_holding (wpAny_genNumber hg (wpAny_bind (wpAny_genState hgs ?_))))
  cases gs with
  | running => exact hgo'.elim
  | finished => exact hgo'.elim
  | _ =>
    refine wpAny_bind (wpAny_roomToWake hl hroom ?_)
    show wpAny _ A.in1 (.resume g (.send .none) [] _) _ _ s
    refine wpAny_resumeQ hgs hgo' (fun x s₁ hx => ?_) (fun v s₁ gs' hbare hv => ?_)
    · obtain ⟨rfl, hsn, h₁, tk₁, rfl, hk₁⟩ := hx
      have hsn' : st i = none := by rw [show N - (N - i) = i by omega] at hsn; exact hsn
      show wpAny _ A.in1 (newExc (.type "StopIteration") [] >>= _) _ _ _
      refine wpAny_bind ?_
      simp only [newExc, newTuple]
      refine wpAny_bind (wpAny_newObj_type ?_ (by size_fits))
      refine wpAny_bind (m := firstArgMember _ _) (wpAny_of_eq (a := Value.none) (by first | rfl | (simp only [firstArgMember]; rfl)) ?_)
      refine wpAny_newObj_type ?_ (by size_fits)
      simp only [raiseNew]
      refine wpAny_bind (wpAny_bind (wpAny_handled ?_))
      first | rw [show A.in1.handled = none from hh] | rw [hh]
      refine wpAny_throw ?_
      refine wpAny_bind (wpAny_isInstance (T := "StopIteration") (b := true) ⟨_, Heap.get?_push_size _ rfl, rfl⟩ isSubtype_stop ?_)
      exact wpAny_pure (hN hsn' _ _ fun b o hC hI e => Heap.get?_push_of_some _ (Heap.get?_push_of_some _ (hk₁ b o hC hI e)))
    · obtain ⟨⟨x, t, rfl, hx⟩, ⟨h₁, tk₁, rfl, hk₁⟩, hkap⟩ := hv
      rw [show N - 1 - (N - i - 1) = i by omega] at hx
      refine wpAny_pure ⟨_, rfl, wpAny_pure (hY x t h₁ tk₁ gs' hx hk₁ hbare ⟨?_, fun h => absurd h (Nat.succ_ne_zero _), gs', ?_, hbare, fun s'' hb'' _ ha h1 => ?_⟩)⟩
      · obtain ⟨o, nm, qn, ho, r⟩ := hg
        exact ⟨o, nm, qn, hk₁ a o haC haI ho, r⟩
      · exact setGen_self (s := s.setGen g .running) (gs := .running) (setGen_self hgs)
      · have z := hkap (by omega) s'' hb'' ha
        have e1 : N - i = (N - (i + 1)) + 1 := by omega
        rw [e1] at z
        exact z
end
end Mine

namespace Mine
theorem offC3 : True := by
  w_top off
  trivial

theorem bare_set {G : Array GenState} {g : Nat} {x : GenState} (h : AllBare G) (hx : x.bare = true) : AllBare (G.setIfInBounds g x) := by
  intro y hy
  obtain ⟨i, hi, rfl⟩ := Array.mem_iff_getElem.mp hy
  have hi' : i < G.size := by simpa using hi
  rw [Array.getElem_setIfInBounds hi']
  split
  · exact hx
  · exact h _ (Array.getElem_mem hi')

def ownAt (h : Heap) (l : List Addr) : List (Addr × Obj) := l.filterMap fun b => (h.get? b).map fun o => (b, o)
theorem ownAt_mem {h : Heap} {l : List Addr} {p : Addr × Obj} : p ∈ ownAt h l ↔ p.1 ∈ l ∧ h.get? p.1 = some p.2 := by
  unfold ownAt
  rw [List.mem_filterMap]
  constructor
  · rintro ⟨b, hb, e⟩
    cases q : h.get? b with
    | none => rw [q] at e; cases e
    | some o => rw [q] at e; cases e; exact ⟨hb, q⟩
  · rintro ⟨hb, e⟩
    exact ⟨p.1, hb, by rw [e]; rfl⟩

section
variable {w : World} {A : Around} {p : Program} {loose : List Str} {mean : ExcName → Option Value} {mg mb : Str → Option Value} {h₀ : Heap} {C l I : Addr} {N : Nat} {st : Nat → Option Int}

theorem loop_gen {s : Shared} {a : Addr} {g : Nat} {L : Addr} {m₀ : Str → Option Value} {news : List (Addr × Obj)} {env : Env} {x : Str} {px : Pos} {body : List Stmt} {Q : Flow → Shared → Prop}
    (T : Top p loose mean mg mb h₀) (hh : A.handled = none) (hroom : A.depth < recursionLimit) (hL : env.locals = L) (hx : env.kindOf x = some .local) (hp : (env.scope.kind == .class || (env.scope.kind == .module && env.locals != env.globals)) = false)
    (hoff : ∀ b ∈ [C, I, l, a], b ≠ L ∧ h₀.get? b = none ∧ b ∉ news.map (·.1)) (haC : a ≠ C) (haI : a ≠ I)
    (F : Fr h₀ L s.heap m₀) (Nw : News h₀ L s.heap news) (hbare : AllBare s.gens) (G : GAt w A h₀ C l I N st a g 0 s)
    (J : Nat → (Str → Option Value) → List (Addr × Obj) → Prop) (hJN : ∀ i m news, J i m news → i < N) (hj : J 0 m₀ news)
    (turn : ∀ i v t m₁ news₁ h tk G own, st i = some v → news₁.map (·.1) = news.map (·.1) → OwnOff own (news.map (·.1)) → J i m₁ news₁ → Fr h₀ L h (fun y => if y = x then some (.int v t) else m₁ y) → News h₀ L h (news₁ ++ own) → AllBare G →
      wpAny (model PW w) A (execs body env) (InvPostN h₀ L (J (i + 1)) own (news.map (·.1)) { s with heap := h, toks := tk, gens := G } Q) (fun _ _ => False) { s with heap := h, toks := tk, gens := G })
    (done : ∀ i m₁ news₁ h tk G, st i = none → J i m₁ news₁ → Fr h₀ L h m₁ → News h₀ L h news₁ → AllBare G → Q .next { s with heap := h, toks := tk, gens := G }) :
    codeAny (model PW w) A (.forLoop (.Name x px) (.ref a) body [] env) (fun r s' => match r with | .ok f => Q f s' | .error _ => False) s := by
  subst hL
  refine codeAny_forLoop (fun k s' => ∃ i m₁ news₁ h tk G, s' = { s with heap := h, toks := tk, gens := G } ∧ k = N - i ∧ J i m₁ news₁ ∧ news₁.map (·.1) = news.map (·.1) ∧ Fr h₀ env.locals h m₁ ∧ News h₀ env.locals h news₁ ∧ AllBare G ∧ GAt w A h₀ C l I N st a g i s')
    ?_ (N - 0) ⟨0, m₀, news, s.heap, s.toks, s.gens, rfl, rfl, hj, rfl, F, Nw, hbare, G⟩
  rintro k s' ⟨i, m₁, news₁, h, tk, G', rfl, rfl, hJ, hadr, F₁, N₁, hb₁, Gi⟩
  have hiN := hJN _ _ _ hJ
  have ne : ∀ {b : Addr}, b ∈ [C, I, l, a] → ∀ o, h₀.get? b ≠ some o := fun hb o e => by rw [(hoff _ hb).2.1] at e; cases e
  refine gnext hh (T.nolimit.keeps F₁.keep) hroom Gi F₁.keep hiN haC haI (fun v t h' tk' gs' hv hk hgb Gn => ?_) (fun hn h' tk' hk => ?_)
  · dsimp only at hk Gn ⊢
    have F₂ : Fr h₀ env.locals h' m₁ := fr_at F₁ (fun b o e => hk b o (fun q => ne (.head _) o (q ▸ e)) (fun q => ne (.tail _ (.head _)) o (q ▸ e)) (F₁.keep b o e)) fun o e => hk _ o (fun q => (hoff C (.head _)).1 q.symm) (fun q => (hoff I (.tail _ (.head _))).1 q.symm) e
    have N₂ : News h₀ env.locals h' news₁ := fun q hq => by
      have hq' : q.1 ∈ news.map (·.1) := by rw [← hadr]; exact List.mem_map_of_mem hq
      obtain ⟨e1, e2, e3⟩ := N₁ q hq
      exact ⟨hk _ _ (fun z => (hoff C (.head _)).2.2 (z ▸ hq')) (fun z => (hoff I (.tail _ (.head _))).2.2 (z ▸ hq')) e1, e2, e3⟩
    refine wpAny_assign_Name (wpAny_storeName_local hx F₂.ns (fun h₃ hn₃ hs₃ => ?_) hp)
    have F₃ : Fr h₀ env.locals h₃ (fun y => if y = x then some (.int v t) else m₁ y) := F₂.set hn₃ hs₃
    have N₃ : News h₀ env.locals h₃ news₁ := N₂.set hs₃
    have hown : News h₀ env.locals h₃ (ownAt h₃ [C, I, l, a]) := fun q hq => by
      obtain ⟨h1, h2⟩ := ownAt_mem.mp hq
      exact ⟨h2, (hoff _ h1).1, (hoff _ h1).2.1⟩
    have hso : OwnOff (ownAt h₃ [C, I, l, a]) (news.map (·.1)) := fun q hq b hb e => (hoff _ (ownAt_mem.mp hq).1).2.2 (e ▸ hb)
    refine wpAny_mono (turn i v t m₁ news₁ h₃ (tk' + 1) _ (ownAt h₃ [C, I, l, a]) hv hadr hso hJ F₃ (fun q hq => (List.mem_append.mp hq).elim (N₃ q) (hown q)) (bare_set (bare_set hb₁ rfl) hgb)) (fun f s₂ hf => ?_) fun _ _ x => x.elim
    have fin : InvEndN h₀ env.locals (J (i + 1)) (ownAt h₃ [C, I, l, a]) (news.map (·.1)) { s with heap := h₃, toks := tk' + 1, gens := (G'.setIfInBounds g .running).setIfInBounds g gs' } s₂ →
        ∃ m, m < N - i ∧ ∃ i m₁ news₁ h tk G, s₂ = { s with heap := h, toks := tk, gens := G } ∧ m = N - i ∧ J i m₁ news₁ ∧ news₁.map (·.1) = news.map (·.1) ∧ Fr h₀ env.locals h m₁ ∧ News h₀ env.locals h news₁ ∧ AllBare G ∧ GAt w A h₀ C l I N st a g i s₂ := by
      rintro ⟨h₅, tk₅, m₅, news₅, nx, rfl, F₅, N₅, hnx, hown₅, hadr₅, hJ₅⟩
      have kept : ∀ b ∈ [C, I, l, a], ∀ o, h'.get? b = some o → h₅.get? b = some o := fun b hb o e => by
        have e3 : h₃.get? b = some o := hs₃.extBut b o (hoff b hb).1 e
        exact (N₅ _ (hown₅ (b, o) (ownAt_mem.mpr ⟨hb, e3⟩))).1
      refine ⟨N - (i + 1), by omega, i + 1, m₅, nx, h₅, tk₅, _, rfl, rfl, hJ₅, hadr₅, F₅, (fun q hq => N₅ q (hnx q hq)), bare_set (bare_set hb₁ rfl) hgb, ?_⟩
      obtain ⟨hg, _, gs, hgs, hgb', hgo⟩ := Gn
      refine ⟨?_, fun h => absurd h (Nat.succ_ne_zero _), gs, hgs, hgb', fun s'' hb'' _ ha h1 => hgo s'' hb'' (fun h => absurd h (Nat.succ_ne_zero _)) (fun b o hb e => ha b o hb (kept b ?_ o e)) h1⟩
      · obtain ⟨o, nm, qn, ho, r⟩ := hg
        exact ⟨o, nm, qn, kept a (.tail _ (.tail _ (.tail _ (.head _)))) o ho, r⟩
      · rcases hb with rfl | rfl | rfl
        · exact .head _
        · exact .tail _ (.head _)
        · exact .tail _ (.tail _ (.head _))
    cases f with
    | ret v => exact hf
    | brk => exact hf
    | next => exact fin hf
    | cont => exact fin hf
  · dsimp only at hk ⊢
    refine wpAny_pure (done i m₁ news₁ h' tk' _ hn hJ ?_ ?_ (bare_set (bare_set hb₁ rfl) rfl))
    · exact fr_at F₁ (fun b o e => hk b o (fun q => ne (.head _) o (q ▸ e)) (fun q => ne (.tail _ (.head _)) o (q ▸ e)) (F₁.keep b o e)) fun o e => hk _ o (fun q => (hoff C (.head _)).1 q.symm) (fun q => (hoff I (.tail _ (.head _))).1 q.symm) e
    · exact fun q hq => by
        have hq' : q.1 ∈ news.map (·.1) := by rw [← hadr]; exact List.mem_map_of_mem hq
        obtain ⟨e1, e2, e3⟩ := N₁ q hq
        exact ⟨hk _ _ (fun z => (hoff C (.head _)).2.2 (z ▸ hq')) (fun z => (hoff I (.tail _ (.head _))).2.2 (z ▸ hq')) e1, e2, e3⟩

end
end Mine

namespace Mine
theorem offC4 : True := by
  w_top off
  trivial

theorem genEnter {prog : Program} {w : World} {A : Around} {s : Shared} {K : Frag} {R : Result → Shared → Prop} {p : Program} {loose : List Str} {mean : ExcName → Option Value} {mg mb : Str → Option Value}
    {name qual : Str} {params : Arguments} {body : List Stmt} {scope : Scope} {dV kV doc pm cdv ct oc : Value} {an od : Option Addr} {osl : Array (Option Value)} {f : Addr} {args : Args} {binds : List (Str × Value)}
    (X : K.In s.heap) (T : Top p loose mean mg mb s.heap)
    (ho : K.lookup f = some ⟨oc, od, .func (fnOf name qual params body scope dV kV doc pm an cdv ct), osl⟩) (hcd : codeIn K cdv qual = true) (hroom : A.depth < recursionLimit)
    (hbind : bindArgs (fnOf name qual params body scope dV kV doc pm an cdv ct) args = pure binds) (hloc : ∀ y ∈ binds, scope.names.lookup y.1 = some .local)
    (hco : scope.isCoroutine = false) (hgen : scope.isGenerator = true) (hk : scope.kind = .function)
    (hcell : ∀ x ∈ scope.names, x.2 ≠ .cell)
    (h : ∀ h' tk', h'.objs.size = s.heap.objs.size + 2 → s.heap.StaysIn h' → h'.Ns s.heap.objs.size (fun x => binds.reverse.lookup x) → h'.IsGen (s.heap.objs.size + 1) s.gens.size →
      R (.ok (.ret (.ref (s.heap.objs.size + 1)))) { s with heap := h', toks := tk', gens := s.gens.push (.fresh (.func body (envOf qual scope s.heap.objs.size f cdv))) }) :
    codeAny (model prog w) A (.call (.ref f) args) R s := by
  refine codeAny_call_generator (fd := fnOf name qual params body scope dV kV doc pm an cdv ct) (body := body) hroom (X _ _ ho) rfl hco hgen rfl (codeRec_of X hcd) ?_
  rw [hbind]
  refine wpAny_pure (wpAny_newFunctionEnv hcell hloc (fun h₁ hns hsb => ?_) hk)
  have hsz : h₁.objs.size = s.heap.objs.size + 1 := by rw [hsb.1, Heap.size_push]
  have hst : s.heap.StaysIn h₁ := fun b o e => hsb.extBut b o (Nat.ne_of_lt (Heap.lt_size e)) (Heap.get?_push_of_some _ e)
  refine ⟨T.nolimit.fresh _ hsb, ?_⟩
  dsimp only
  rw [hsz]
  have hg : ∀ o : Obj, o.isFreed = false → (h₁.push o).get? (s.heap.objs.size + 1) = some o := fun o ho => by rw [← hsz]; exact Heap.get?_push_size _ ho
  refine h _ _ (by rw [Heap.size_push, hsz]) (fun b o e => Heap.get?_push_of_some _ (hst b o e)) (hns.keeps fun b o e => Heap.get?_push_of_some _ e) ⟨_, _, _, hg _ rfl, rfl, rfl, rfl⟩


section
variable {w : World} {A : Around} {p : Program} {loose : List Str} {mean : ExcName → Option Value} {mg mb : Str → Option Value} {h₀ : Heap}

theorem giCall {s : Shared} {l : Addr} {Q : Value → Shared → Prop} {E : Value → Shared → Prop} (X : (hd.heap_39 w.params).In s.heap) (T : Top p loose mean mg mb s.heap) (hroom : A.depth < recursionLimit)
    (h : ∀ h' tk', h'.objs.size = s.heap.objs.size + 2 → s.heap.StaysIn h' → (∃ m, h'.Ns s.heap.objs.size m ∧ m (Str.ofString "grouping") = some (.ref l)) → h'.IsGen (s.heap.objs.size + 1) s.gens.size →
      Q (.ref (s.heap.objs.size + 1)) { s with heap := h', toks := tk', gens := s.gens.push (.fresh (.func giStmts (giEnv s.heap.objs.size))) }) :
    wpAny (model PW w) A (call (.ref 42) [.ref l]) Q E s := by
  refine wpAny_call ?_
  refine' genEnter X T ?k6 ?k7 hroom ?k9 ?kB ?c2 ?c3 ?c4 ?c5 ?_
  case k6 => k_is
  case k7 => k_is
  case k9 => rfl
  case kB => exact locs rfl
  case c2 => rfl
  case c3 => rfl
  case c4 => rfl
  case c5 => decide
  intro h' tk' h1 h2 h3 h4
  exact h h' tk' h1 h2 ⟨_, h3, rfl⟩ h4

/-- `for x in _grouping_intervals(l): body`, from the call on -/
theorem gen_for {s : Shared} {l L : Addr} {m₀ : Str → Option Value} {led news : List (Addr × Obj)} {env : Env} {x : Str} {px : Pos} {body : List Stmt} {Q : Flow → Shared → Prop} {E : Value → Shared → Prop} {vs : List Value} {ns : List Int} {n : Nat}
    (X : (hd.heap_39 w.params).In h₀) (T : Top p loose mean mg mb h₀) (hh : A.handled = none) (hroom : A.depth < recursionLimit) (hL : env.locals = L) (hx : env.kindOf x = some .local) (hp : (env.scope.kind == .class || (env.scope.kind == .module && env.locals != env.globals)) = false)
    (F : Fr h₀ L s.heap m₀) (Nw : News h₀ L s.heap led) (hlm : (l, PySem.W.listOf vs.toArray n) ∈ led) (hsub : ∀ q ∈ news, q ∈ led) (hln : ∀ q ∈ news, q.1 ≠ l) (hbare : AllBare s.gens) (hi : IntsAre vs ns) (hok : gok none ns)
    (J : Nat → (Str → Option Value) → List (Addr × Obj) → Prop) (N : Nat) (hN : 0 < N) (hJN : ∀ i m news, J i m news → i < N) (hj : J 0 m₀ news)
    (turn : ∀ i v t m₁ news₁ h tk G own, gst none ns i = some v → news₁.map (·.1) = news.map (·.1) → OwnOff own (news.map (·.1)) → J i m₁ news₁ → Fr h₀ L h (fun y => if y = x then some (.int v t) else m₁ y) → News h₀ L h (news₁ ++ own) → AllBare G →
      wpAny (model PW w) A (execs body env) (InvPostN h₀ L (J (i + 1)) own (news.map (·.1)) { s with heap := h, toks := tk, gens := G } Q) (fun _ _ => False) { s with heap := h, toks := tk, gens := G })
    (done : ∀ i m₁ news₁ h tk G, gst none ns i = none → J i m₁ news₁ → Fr h₀ L h m₁ → News h₀ L h news₁ → AllBare G → Q .next { s with heap := h, toks := tk, gens := G }) :
    wpAny (model PW w) A (call (.ref 42) [.ref l]) (fun x' s₁ => wpAny (model PW w) A (pyIter x') (fun it s₂ => codeAny (model PW w) A (.forLoop (.Name x px) it body [] env) (fun r s' => match r with | .ok f => Q f s' | .error e => cameBackBy (model PW w) A env E e s') s₂) E s₁) E s := by
  obtain ⟨el, elL, el0⟩ := Nw _ hlm
  have hl : s.heap.IsList l vs.toArray := ⟨_, el, rfl, _, rfl⟩
  have ll : @LT.lt Nat _ l s.heap.objs.size := Heap.lt_size el
  have hLs : @LT.lt Nat _ L s.heap.objs.size := F.ns.lt
  have hb0 : h₀.objs.size ≤ s.heap.objs.size := Nat.le_of_lt (Nat.lt_of_le_of_lt F.above hLs)
  refine giCall (X.keeps F.keep) (T.keeps F.keep) hroom fun h' tk' hsz hst hm hg => ?_
  obtain ⟨mC, hC, hmC⟩ := hm
  refine wpAny_pyIter_gen hg ?_
  refine codeAny_mono (loop_gen (C := s.heap.objs.size) (I := s.heap.objs.size + 2) (l := l) (N := N) (st := gst none ns) (g := s.gens.size) (news := news) (m₀ := m₀) (Q := Q) T hh hroom hL hx hp ?_ (Nat.succ_ne_self _) (Nat.ne_of_lt (Nat.lt_succ_self _))
    (Fr.keeps F hst) (fun q hq => (News.grown Nw hst) q (hsub q hq)) (AllBare.push hbare rfl) ?_ J hJN hj (fun i v t m₁ news₁ h tk G own => turn i v t m₁ news₁ h tk G own) (fun i m₁ news₁ h tk G => done i m₁ news₁ h tk G)) fun r s' hr => ?_
  · have new : ∀ b : Nat, s.heap.objs.size ≤ b → b ≠ L ∧ h₀.get? b = none ∧ b ∉ news.map (·.1) := fun b hb => by
      refine ⟨Nat.ne_of_gt (Nat.lt_of_lt_of_le hLs hb), ?_, fun hm => ?_⟩
      · cases q : h₀.get? b with
        | none => rfl
        | some o => exact absurd (Heap.lt_size q) (Nat.not_lt.mpr (Nat.le_trans hb0 hb))
      · obtain ⟨q, hq, rfl⟩ := List.mem_map.mp hm
        exact absurd (Heap.lt_size (Nw q (hsub q hq)).1) (Nat.not_lt.mpr hb)
    intro b hb
    simp only [List.mem_cons, List.mem_nil_iff, or_false] at hb
    rcases hb with rfl | rfl | rfl | rfl
    · exact new _ (Nat.le_refl _)
    · exact new _ (Nat.le_add_right _ 2)
    · refine ⟨elL, el0, fun hm => ?_⟩
      obtain ⟨q, hq, e⟩ := List.mem_map.mp hm
      exact hln q hq e
    · exact new _ (Nat.le_add_right _ 1)
  · refine gAt_fresh X T hh ll (Nat.lt_add_of_pos_right (by decide)) hi hok hmC hN _ ⟨hC, fun b o e => hst b o (F.keep b o e), hb0⟩ ?_ (by exact hsz) (fun _ _ => rfl) hg ?_
    · exact hl.at fun o e => hst l o e
    · exact Array.getElem?_push_size ..
  · cases r with
    | ok f => exact hr
    | error e => exact hr.elim
end
end Mine

namespace Mine
theorem offD1 : True := by
  w_top off
  trivial

theorem enterK {prog : Program} {w : World} {A : Around} {s : Shared} {K : Frag} {R : Result → Shared → Prop} {p : Program} {loose : List Str} {mean : ExcName → Option Value} {mg mb : Str → Option Value}
    {name qual : Str} {params : Arguments} {body : List Stmt} {scope : Scope} {dV kV doc pm cdv ct oc : Value} {an od : Option Addr} {osl : Array (Option Value)} {f : Addr} {args : Args} {binds : List (Str × Value)}
    (X : K.In s.heap) (T : Top p loose mean mg mb s.heap)
    (ho : K.lookup f = some ⟨oc, od, .func (fnOf name qual params body scope dV kV doc pm an cdv ct), osl⟩) (hcd : codeIn K cdv qual = true) (hroom : A.depth < recursionLimit)
    (hbind : BindsTo s (fnOf name qual params body scope dV kV doc pm an cdv ct) args binds) (hloc : ∀ y ∈ binds, scope.names.lookup y.1 = some .local)
    (h : ∀ L' h₁, Fr s.heap L' h₁ (fun y => binds.reverse.lookup y) → News s.heap L' h₁ [] →
      wpAny (model prog w) (A.deeper (envOf qual scope L' f cdv)) (execs body (envOf qual scope L' f cdv))
        (fun fl s' => R (.ok (.ret (match fl with | .ret v => v | _ => .none))) s') (fun _ _ => False)
        { s with heap := h₁, toks := s.toks + binds.length })
    (hco : scope.isCoroutine = false) (hgen : scope.isGenerator = false) (hk : scope.kind = .function)
    (hcell : ∀ x ∈ scope.names, x.2 ≠ .cell) : codeAny (model prog w) A (.call (.ref f) args) R s := by
  refine codeAny_call_def (fd := fnX name qual params body scope [] dV kV doc pm an cdv ct) (body := body) (binds := binds) hroom (X _ _ ho) rfl T.nolimit (codeRec_of X hcd) rfl hbind hcell hloc (fun h₁ hns hk₁ => ?_) hco hgen hk
  exact wpAny_mono (h s.heap.objs.size h₁ ⟨hns, hk₁, Nat.le_refl _⟩ News.nil) (fun _ _ y => y) fun _ _ y => y.elim

local macro_rules | `(tactic| ktr_enter) => `(tactic| (refine' enterK ?k1 ?k2 ?k6 ?k7 ?k8 ?k9 ?kB ?_ ?c2 ?c3 ?c4 ?c5; (case k1 => k_asm); (case k2 => k_asm); (case k6 => k_is); (case k7 => k_is); (case k8 => omega); (case k9 => exact BindsTo.of_eq rfl); (case c5 => decide); (case kB => exact locs rfl); (case c2 => exact rfl); (case c3 => exact rfl); (case c4 => exact rfl); k_whole; intro L' h' F' N'; (try dsimp only); (try k_fold)))

section
variable {w : World} {A : Around} {s : Shared} {Q E : Value → Shared → Prop} {p : Program} {loose : List Str} {mean : ExcName → Option Value} {mg mb : Str → Option Value} {x : Int} {t : Tok}
  {h₀ : Heap} {L : Addr} {m : Str → Option Value} {news : List (Addr × Obj)}

theorem term_ok (X : (hd.heap_39 w.params).In s.heap) (T : Top p loose mean mg mb s.heap) (hroom : A.depth + 1 < recursionLimit)
    (hret : ∀ h' tk', s.heap.StaysIn h' → Q (.bool (decide (x < 256))) { s with heap := h', toks := tk' }) :
    wpAny (model PySem.Challenge.pw_st0011_01 w) A (call (.ref 28) [.int x t]) Q E s := by
  refine wpAny_call ?_
  k_dflt ktr_enter
  k_steps
  all_goals exact hret _ _ (Fr.keep (by assumption))
theorem nonterm_ok (X : (hd.heap_39 w.params).In s.heap) (T : Top p loose mean mg mb s.heap) (hroom : A.depth + 1 < recursionLimit)
    (hret : ∀ h' tk', s.heap.StaysIn h' → Q (.bool (decide (256 ≤ x))) { s with heap := h', toks := tk' }) :
    wpAny (model PySem.Challenge.pw_st0011_01 w) A (call (.ref 35) [.int x t]) Q E s := by
  refine wpAny_call ?_
  k_dflt ktr_enter
  k_steps
  all_goals exact hret _ _ (Fr.keep (by assumption))
theorem term_F (F : Fr h₀ L s.heap m) (X : (hd.heap_39 w.params).In h₀) (N : News h₀ L s.heap news) (T : Top p loose mean mg mb h₀) (hroom : A.depth + 1 < recursionLimit)
    (hret : ∀ h' tk', Fr h₀ L h' m → News h₀ L h' news → Q (.bool (decide (x < 256))) { s with heap := h', toks := tk' }) :
    wpAny (model PySem.Challenge.pw_st0011_01 w) A (call (.ref 28) [.int x t]) Q E s :=
  term_ok (X.keeps F.keep) (T.keeps F.keep) hroom fun h' tk' st => hret h' tk' (Fr.keeps F st) (News.grown N st)
theorem nonterm_F (F : Fr h₀ L s.heap m) (X : (hd.heap_39 w.params).In h₀) (N : News h₀ L s.heap news) (T : Top p loose mean mg mb h₀) (hroom : A.depth + 1 < recursionLimit)
    (hret : ∀ h' tk', Fr h₀ L h' m → News h₀ L h' news → Q (.bool (decide (256 ≤ x))) { s with heap := h', toks := tk' }) :
    wpAny (model PySem.Challenge.pw_st0011_01 w) A (call (.ref 35) [.int x t]) Q E s :=
  nonterm_ok (X.keeps F.keep) (T.keeps F.keep) hroom fun h' tk' st => hret h' tk' (Fr.keeps F st) (News.grown N st)
end

local macro_rules | `(tactic| walk_at "call ref") => `(tactic| (k_here; (with_reducible show wpAny _ _ (call (Value.ref 28) _) _ _ _); k_dflt (refine' term_F ?k1 ?k2 ?k3 ?k4 ?k5 ?_; (case k1 => k_asm); (case k2 => k_asm); (case k3 => k_asm); (case k4 => k_asm); (case k5 => ktr_room); k_whole); intro h' tk' F' N'; (try k_sweep)))
local macro_rules | `(tactic| walk_at "call ref") => `(tactic| (k_here; (with_reducible show wpAny _ _ (call (Value.ref 35) _) _ _ _); k_dflt (refine' nonterm_F ?k1 ?k2 ?k3 ?k4 ?k5 ?_; (case k1 => k_asm); (case k2 => k_asm); (case k3 => k_asm); (case k4 => k_asm); (case k5 => ktr_room); k_whole); intro h' tk' F' N'; (try k_sweep)))
local macro_rules | `(tactic| walk_at $s:str) => `(tactic| k_extra $s)

local macro_rules | `(tactic| walk_at "eval Name") => `(tactic| (k_here; k_dflt (refine' ld ?k1 ?k2 ?_; (case k1 => k_asm); (case k2 => assumption); k_whole)))

def uStmts : List Stmt := match (PySem.Challenge.pw_st0011_01.main.body.drop 12) with | .FunctionDef _ _ b _ _ _ _ _ _ _ :: _ => b | _ => []
def uScope : Scope := match (PySem.Challenge.pw_st0011_01.main.body.drop 12) with | .FunctionDef _ _ _ _ _ _ sc _ _ _ :: _ => sc | _ => default
def uBody : List Stmt := match uStmts with | [_, _, .For _ _ b _ _, _] => b | _ => []
abbrev uEnv (L : Addr) : Env := envOf (Str.ofString "_law_under") uScope L 122 (.ref 121)

def uMap (m₀ : Str → Option Value) (i mark : Int) (tu tm : Tok) (u1 u2 u3 : Option Value) : Str → Option Value := fun y => if y = Str.ofString "under" then some (.int i tu) else if y = Str.ofString "mark" then some (.int mark tm)
  else if y = Str.ofString "step" then u1 else if y = Str.ofString "symbol" then u2 else if y = Str.ofString "told" then u3 else m₀ y
def uJ (m₀ : Str → Option Value) (run ts : Int) (i : Nat) (m : Str → Option Value) (news : List (Addr × Obj)) : Prop :=
  news = [] ∧ (ts * (i : Int) ≤ run) ∧ ∃ tu tm u1 u2 u3, m = uMap m₀ i (ts * i) tu tm u1 u2 u3

theorem uMap_of {m' m₀ : Str → Option Value} {i mark : Int} (hu : ∃ t, m' (Str.ofString "under") = some (.int i t)) (hm : ∃ t, m' (Str.ofString "mark") = some (.int mark t))
    (hr : ∀ y, y ≠ Str.ofString "under" → y ≠ Str.ofString "mark" → y ≠ Str.ofString "step" → y ≠ Str.ofString "symbol" → y ≠ Str.ofString "told" → m' y = m₀ y) :
    ∃ tu tm u1 u2 u3, m' = uMap m₀ i mark tu tm u1 u2 u3 := by
  obtain ⟨tu, hu⟩ := hu
  obtain ⟨tm, hm⟩ := hm
  refine ⟨tu, tm, m' (Str.ofString "step"), m' (Str.ofString "symbol"), m' (Str.ofString "told"), funext fun y => ?_⟩
  unfold uMap
  by_cases h1 : y = Str.ofString "under"
  · rw [if_pos h1, h1, hu]
  rw [if_neg h1]
  by_cases h2 : y = Str.ofString "mark"
  · rw [if_pos h2, h2, hm]
  rw [if_neg h2]
  by_cases h3 : y = Str.ofString "step"
  · rw [if_pos h3, h3]
  rw [if_neg h3]
  by_cases h4 : y = Str.ofString "symbol"
  · rw [if_pos h4, h4]
  rw [if_neg h4]
  by_cases h5 : y = Str.ofString "told"
  · rw [if_pos h5, h5]
  rw [if_neg h5]
  exact hr y h1 h2 h3 h4 h5
theorem flip_no (X : Int) : (decide (256 ≤ X) != (decide (X < 256) == false)) = false := by
  by_cases h : X < 256
  · have h' : ¬ 256 ≤ X := by omega
    simp [h, h']
  · have h' : 256 ≤ X := by omega
    simp [h, h']
theorem past_run {st d : Int} (h4 : 1 ≤ st) (h : ¬ (255 + st * d < 256)) : 1 ≤ d := by
  refine Decidable.byContradiction fun hd => ?_
  have : st * d ≤ 0 := Int.mul_nonpos_of_nonneg_of_nonpos (by omega) (by omega)
  omega
theorem on_run {st d : Int} (h4 : 1 ≤ st) (h : 255 + st * d < 256) : d ≤ 0 := by
  refine Decidable.byContradiction fun hd => ?_
  have : st * 1 ≤ st * d := Int.mul_le_mul_of_nonneg_left (by omega) (by omega)
  omega

theorem under_turn {w : World} {A : Around} {s : Shared} {Q : Flow → Shared → Prop} {p : Program} {loose : List Str} {mean : ExcName → Option Value} {mg mb : Str → Option Value} {run ts st : Int} {t1 t3 tu tm t : Tok} {h₀ : Heap} {L : Addr} {own : List (Addr × Obj)}
    {m₀ : Str → Option Value} {u1 u2 u3 : Option Value} {i : Nat}
    (X : (hd.heap_39 w.params).In h₀) (T : Top p loose mean mg mb h₀) (hA : A.handled = none) (hroom : A.depth + 1 < recursionLimit)
    (h0 : 0 ≤ run) (h1 : run ≤ 40) (h2 : 1 ≤ ts) (h3 : ts ≤ 5) (h4 : 1 ≤ st) (h5 : st ≤ 5000)
    (hrun : m₀ (Str.ofString "run") = some (.int run t1)) (hst : m₀ (Str.ofString "stretch") = some (.int st t3)) (hi : ts * (i : Int) ≤ run)
    (F : Fr h₀ L s.heap (fun y => if y = Str.ofString "step" then some (.int ts t) else (fun y => if y = Str.ofString "under" then some (.int i tu) else if y = Str.ofString "mark" then some (.int (ts * i) tm)
      else if y = Str.ofString "step" then u1 else if y = Str.ofString "symbol" then u2 else if y = Str.ofString "told" then u3 else m₀ y) y)) (N : News h₀ L s.heap own)
    (hQ : ∀ h' tk' m', run < ts * ((i : Int) + 1) → Fr h₀ L h' m' → (∃ t, m' (Str.ofString "under") = some (.int i t)) → Q .next { s with heap := h', toks := tk' }) :
    wpAny (model PySem.Challenge.pw_st0011_01 w) A (execs uBody (uEnv L)) (InvPostN h₀ L (uJ m₀ run ts (i + 1)) own [] s Q) (fun _ _ => False) s := by
  k_with_none
  generalize hM : model PySem.Challenge.pw_st0011_01 w = M
  delta uBody uStmts PySem.Challenge.pw_st0011_01
  dsimp only [List.drop]
  subst hM
  (try k_fold)
  k_steps
  · rename (_ != _) = true => a
    rw [flip_no] at a
    cases a
  · rename (decide (_ < 256) != true) = true => a
    rename Fr _ _ _ _ => F9
    have a' := past_run h4 (d := ts * i + ts - run) (by intro h; simp [h] at a)
    exact hQ _ _ _ (by rw [Int.mul_add, Int.mul_one]; omega) F9 ⟨_, rfl⟩
  · rename 40 < _ => a
    rename Fr _ _ _ _ => F9
    exact hQ _ _ _ (by rw [Int.mul_add, Int.mul_one]; omega) F9 ⟨_, rfl⟩
  · rename (decide (_ < 256) != true) = false => a
    rename Fr _ _ _ _ => F9
    rename News _ _ _ _ => N9
    have a' := on_run h4 (d := ts * i + ts - run) (by simpa using a)
    have e1 : ts * ((i + 1 : Nat) : Int) = ts * i + ts := by rw [Int.natCast_succ, Int.mul_add, Int.mul_one]
    refine InvEndN.intro F9 N9 (nx := []) ⟨rfl, by rw [e1]; omega, ?_⟩ rfl (fun _ h => nomatch h) (fun _ h => h)
    rw [e1]
    refine uMap_of ⟨_, rfl⟩ ⟨_, rfl⟩ fun y a1 a2 a3 a4 a5 => ?_
    simp only [a1, a2, a3, a4, a5, if_false]
end Mine

namespace Mine
theorem offD2 : True := by
  w_top off
  trivial
local macro_rules | `(tactic| walk_at "no such place") => `(tactic| skip)
local macro_rules | `(tactic| walk_at "no such place") => `(tactic| skip)
local macro_rules | `(tactic| walk_at "no such place") => `(tactic| skip)
local macro_rules | `(tactic| walk_at "no such place") => `(tactic| skip)
local macro_rules | `(tactic| walk_at "no such place") => `(tactic| skip)
local macro_rules | `(tactic| walk_at "no such place") => `(tactic| skip)
local macro_rules | `(tactic| ktr_enter) => `(tactic| (refine' enterK ?k1 ?k2 ?k6 ?k7 ?k8 ?k9 ?kB ?_ ?c2 ?c3 ?c4 ?c5; (case k1 => k_asm); (case k2 => k_asm); (case k6 => k_is); (case k7 => k_is); (case k8 => omega); (case k9 => exact BindsTo.of_eq rfl); (case c5 => decide); (case kB => exact locs rfl); (case c2 => exact rfl); (case c3 => exact rfl); (case c4 => exact rfl); k_whole; intro L' h' F' N'; (try dsimp only); (try k_fold)))
local macro_rules | `(tactic| walk_at $s:str) => `(tactic| k_extra $s)
local macro_rules | `(tactic| walk_at "eval Name") => `(tactic| (k_here; k_dflt (refine' ld ?k1 ?k2 ?_; (case k1 => k_asm); (case k2 => assumption); k_whole)))

theorem gst_same (ts : Int) (h : ts ≠ 127) (h' : ts ≠ 0) : ∀ i, gst none [ts, 0] i = some ts
  | 0 => by simp [gst, h, h']
  | i + 1 => by simp [gst, h, h']
theorem uMap_start {m₀ : Str → Option Value} {t t' : Tok} (hu : m₀ (Str.ofString "under") = some (.int 0 t)) (hm : m₀ (Str.ofString "mark") = some (.int 0 t')) (ts : Int) : ∃ tu tm u1 u2 u3, m₀ = uMap m₀ ((0 : Nat) : Int) (ts * ((0 : Nat) : Int)) tu tm u1 u2 u3 :=
  uMap_of ⟨_, hu⟩ ⟨_, by rw [Int.natCast_zero, Int.mul_zero]; exact hm⟩ fun _ _ _ _ _ _ => rfl

theorem under_for {w : World} {A : Around} {s : Shared} {Q : Flow → Shared → Prop} {E : Value → Shared → Prop} {p : Program} {loose : List Str} {mean : ExcName → Option Value} {mg mb : Str → Option Value} {run ts st : Int} {t1 t3 tu tm : Tok} {h₀ : Heap} {L l : Addr} {led : List (Addr × Obj)}
    {m₀ : Str → Option Value} {px : Pos} {a b : Tok} {n : Nat}
    (X : (hd.heap_39 w.params).In h₀) (T : Top p loose mean mg mb h₀) (hA : A.handled = none) (hroom : A.depth + 1 < recursionLimit)
    (h0 : 0 ≤ run) (h1 : run ≤ 40) (h2 : 1 ≤ ts) (h3 : ts ≤ 5) (h4 : 1 ≤ st) (h5 : st ≤ 5000)
    (hrun : m₀ (Str.ofString "run") = some (.int run t1)) (hst : m₀ (Str.ofString "stretch") = some (.int st t3)) (hu : m₀ (Str.ofString "under") = some (.int 0 tu)) (hm : m₀ (Str.ofString "mark") = some (.int 0 tm))
    (F : Fr h₀ L s.heap m₀) (N : News h₀ L s.heap led) (hl : (l, PySem.W.listOf [Value.int ts a, Value.int 0 b].toArray n) ∈ led) (hb : AllBare s.gens)
    (hQ : ∀ h' tk' G m' i, ts * i ≤ run → run < ts * (i + 1) → Fr h₀ L h' m' → (∃ t, m' (Str.ofString "under") = some (.int i t)) → AllBare G → Q .next { s with heap := h', toks := tk', gens := G }) :
    wpAny (model PySem.Challenge.pw_st0011_01 w) A (call (.ref 42) [.ref l]) (fun x' s₁ => wpAny (model PySem.Challenge.pw_st0011_01 w) A (pyIter x') (fun it s₂ => codeAny (model PySem.Challenge.pw_st0011_01 w) A (.forLoop (.Name (Str.ofString "step") px) it uBody [] (uEnv L)) (fun r s' => match r with | .ok f => Q f s' | .error e => cameBackBy (model PySem.Challenge.pw_st0011_01 w) A (uEnv L) E e s') s₂) E s₁) E s := by
  refine gen_for (N := 1000) (news := []) X T hA (by omega) rfl rfl rfl F N hl (fun _ h => nomatch h) (fun _ h => nomatch h) hb (.cons _ _ (.cons _ _ .nil)) ?_ (uJ m₀ run ts) (by decide) ?_ ?_ ?_ ?_
  · exact .inr (.inr ⟨by omega, .inr (.inl ⟨rfl, by simp⟩)⟩)
  · rintro i m news ⟨_, hi, _⟩
    have : 1 * (i : Int) ≤ ts * i := Int.mul_le_mul_of_nonneg_right h2 (by omega)
    omega
  · exact ⟨rfl, by simpa using h0, uMap_start hu hm ts⟩
  · rintro i v t m₁ news₁ h tk G own hv hadr hoff ⟨rfl, hi, tu, tm, u1, u2, u3, rfl⟩ F' N' hG
    rw [gst_same ts (by omega) (by omega)] at hv
    cases hv
    exact under_turn X T hA hroom h0 h1 h2 h3 h4 h5 hrun hst hi F' N' fun h' tk' m' hlt F'' hu' => hQ h' tk' G m' i hi hlt F'' hu' hG
  · rintro i m₁ news₁ h tk G hv
    rw [gst_same ts (by omega) (by omega)] at hv
    cases hv

theorem div_is {run ts i : Int} (h2 : 1 ≤ ts) (h : ts * i ≤ run) (h' : run < ts * (i + 1)) : run / ts = i := by
  have e : run = ts * i + (run - ts * i) := by omega
  rw [Int.mul_add, Int.mul_one] at h'
  rw [e, Int.mul_add_ediv_left _ _ (by omega), Int.ediv_eq_zero_of_lt (by omega) (by omega), Int.add_zero]

theorem under_ok {w : World} {A : Around} {s : Shared} {Q E : Value → Shared → Prop} {p : Program} {loose : List Str} {mean : ExcName → Option Value} {mg mb : Str → Option Value} {run ts st : Int} {t1 t2 t3 : Tok}
    (X : (hd.heap_39 w.params).In s.heap) (T : Top p loose mean mg mb s.heap) (hA : A.handled = none) (hroom : A.depth + 3 < recursionLimit) (hb : AllBare s.gens)
    (h0 : 0 ≤ run) (h1 : run ≤ 40) (h2 : 1 ≤ ts) (h3 : ts ≤ 5) (h4 : 1 ≤ st) (h5 : st ≤ 5000)
    (hret : ∀ t h' tk' G, s.heap.StaysIn h' → AllBare G → Q (.int (run / ts) t) { s with heap := h', toks := tk', gens := G }) :
    wpAny (model PySem.Challenge.pw_st0011_01 w) A (call (.ref 122) [.int run t1, .int ts t2, .int st t3]) Q E s := by
  k_with_none
  k_with "exec For Name Call cons nil" => (k_dflt (refine' wpAny_For ?_ ?hs; (case hs => (intro _; with_unfolding_all rfl))))
  refine wpAny_call ?_
  k_dflt ktr_enter
  k_steps
  rename Fr _ _ _ _ => F1
  rename News _ _ _ _ => N1
  refine under_for X T hA (by rw [depth_deeper]; omega) h0 h1 h2 h3 h4 h5 rfl rfl rfl rfl F1 N1 (.head _) hb fun h' tk' G m' i hi hi' F2 hu hG => ?_
  obtain ⟨t, hu⟩ := hu
  dsimp only
  k_steps
  have z := hret t h' tk' G F2.keep hG
  rw [div_is h2 hi hi'] at z
  exact z
end Mine

namespace Mine
theorem offF1 : True := by
  w_top off
  trivial
local macro_rules | `(tactic| walk_at $s:str) => `(tactic| k_extra $s)
local macro_rules | `(tactic| walk_at "eval Name") => `(tactic| (k_here; k_dflt (refine' ld ?k1 ?k2 ?_; (case k1 => k_asm); (case k2 => assumption); k_whole)))

def rStmts : List Stmt := match (PySem.Challenge.pw_st0011_01.main.body.drop 11) with | .FunctionDef _ _ b _ _ _ _ _ _ _ :: _ => b | _ => []
def rScope : Scope := match (PySem.Challenge.pw_st0011_01.main.body.drop 11) with | .FunctionDef _ _ _ _ _ _ sc _ _ _ :: _ => sc | _ => default
def rBody : List Stmt := match rStmts with | [_, _, _, _, _, .For _ _ b _ _, _] => b | _ => []
abbrev rEnv (L : Addr) : Env := envOf (Str.ofString "_law_runs") rScope L 115 (.ref 114)

def rMap (m₀ : Str → Option Value) (mark : Int) (tm : Tok) (u1 : Option Value) : Str → Option Value := fun y => if y = Str.ofString "mark" then some (.int mark tm)
  else if y = Str.ofString "size" then u1 else m₀ y
/-- the marks so far -/
def marks (x step : Int) (i : Nat) : List Int := (List.range i).map fun (k : Nat) => x + step * (k : Int)
def rJ (m₀ : Str → Option Value) (x step way : Int) (c : Nat) (r : Addr) (i : Nat) (m : Str → Option Value) (news : List (Addr × Obj)) : Prop :=
  (i ≤ c ∧ (way = 0 → i < c)) ∧ (∃ tm u1, m = rMap m₀ (if i = 0 then -1 else x + step * ((i : Int) - 1)) tm u1) ∧ ∃ vs n, news = [(r, PySem.W.listOf (List.toArray vs) n)] ∧ IntsAre vs (marks x step i)

theorem len_push {prog : Program} {w : World} {A : Around} {s : Shared} {Q E : Value → Shared → Prop} {h₀ : Heap} {L r : Addr} {own : List (Addr × Obj)} {vs : List Value} {v : Value} {n i : Nat}
    (N : News h₀ L s.heap ((r, PySem.W.listOf (vs.toArray.push v) n) :: own)) (hlen : vs.length = i) (hi : i < 100) (h : ∀ t tk, Q (.int ((i : Int) + 1) t) { s with toks := tk }) :
    wpAny (model prog w) A (call (.builtin "len") [.ref r]) Q E s := by
  have hl := News.isList N (.head _)
  have e : (vs.toArray.push v).size = i + 1 := by simp [hlen]
  refine len_list hl (by rw [e]; omega) ?_
  rw [e]
  exact h _ _

theorem ints_snoc {v : Int} {t : Tok} : ∀ {vs : List Value} {ns : List Int}, IntsAre vs ns → IntsAre (vs ++ [.int v t]) (ns ++ [v])
  | _, _, .nil => .cons _ _ .nil
  | _, _, .cons n t' h => .cons n t' (ints_snoc h)
theorem marks_succ (x step : Int) (i : Nat) : marks x step (i + 1) = marks x step i ++ [x + step * (i : Int)] := by
  unfold marks
  rw [List.range_succ, List.map_append]
  rfl
theorem mark_next {x step mk v : Int} {i : Nat} (hmk : mk = if i = 0 then -1 else x + step * ((i : Int) - 1)) (hv : v = if i = 0 then x + 1 else step) : mk + v = x + step * (i : Int) := by
  subst hmk hv
  by_cases h : i = 0
  · subst h; simp; omega
  · rw [if_neg h, if_neg h, Int.mul_sub, Int.mul_one]; omega
theorem rMap_of {m' m₀ : Str → Option Value} {mark : Int} (hm : ∃ t, m' (Str.ofString "mark") = some (.int mark t))
    (hr : ∀ y, y ≠ Str.ofString "mark" → y ≠ Str.ofString "size" → m' y = m₀ y) : ∃ tm u1, m' = rMap m₀ mark tm u1 := by
  obtain ⟨tm, hm⟩ := hm
  refine ⟨tm, m' (Str.ofString "size"), funext fun y => ?_⟩
  unfold rMap
  by_cases h2 : y = Str.ofString "mark"
  · rw [if_pos h2, h2, hm]
  rw [if_neg h2]
  by_cases h3 : y = Str.ofString "size"
  · rw [if_pos h3, h3]
  rw [if_neg h3]
  exact hr y h2 h3

theorem runs_turn {w : World} {A : Around} {s : Shared} {Q : Flow → Shared → Prop} {p : Program} {loose : List Str} {mean : ExcName → Option Value} {mg mb : Str → Option Value} {x step count way v mk : Int} {tc tw tm t : Tok} {h₀ : Heap} {L r : Addr} {own : List (Addr × Obj)}
    {m₀ : Str → Option Value} {u1 : Option Value} {i c n : Nat} {vs : List Value}
    (X : (hd.heap_39 w.params).In h₀) (T : Top p loose mean mg mb h₀) (hA : A.handled = none) (hroom : A.depth + 1 < recursionLimit)
    (hx : 0 ≤ x) (hx' : x ≤ 6) (hs : 1 ≤ step) (hs' : step ≤ 5) (hc : 1 ≤ count) (hc' : count ≤ 5) (hcc : (c : Int) = count) (hw : 0 ≤ way) (hw' : way ≤ 2)
    (hcount : m₀ (Str.ofString "count") = some (.int count tc)) (hway : m₀ (Str.ofString "way") = some (.int way tw)) (hruns : m₀ (Str.ofString "runs") = some (.ref r))
    (hi : i < c) (hmk : mk = if i = 0 then -1 else x + step * ((i : Int) - 1)) (hv : v = if i = 0 then x + 1 else step) (hvs : IntsAre vs (marks x step i))
    (F : Fr h₀ L s.heap (fun y => if y = Str.ofString "size" then some (.int v t) else (fun y => if y = Str.ofString "mark" then some (.int mk tm)
      else if y = Str.ofString "size" then u1 else m₀ y) y)) (N : News h₀ L s.heap ((r, PySem.W.listOf vs.toArray n) :: own)) (hoff : OwnOff own [r])
    (hQ : ∀ h' tk' m' vs' n', way = 0 → i + 1 = c → Fr h₀ L h' m' → m' (Str.ofString "runs") = some (.ref r) → News h₀ L h' ((r, PySem.W.listOf (List.toArray vs') n') :: own) → IntsAre vs' (marks x step c) → Q .next { s with heap := h', toks := tk' }) :
    wpAny (model PySem.Challenge.pw_st0011_01 w) A (execs rBody (rEnv L)) (InvPostN h₀ L (rJ m₀ x step way c r (i + 1)) own [r] s Q) (fun _ _ => False) s := by
  k_with_none
  k_with "call builtin:len" => (k_dflt (refine' len_push (by assumption) (by assumption) (by omega) ?_; (intro t' tk')))
  k_with "call builtin:min" => (k_dflt (refine' min_two_N hA ?k1 ?k2 ?_; (case k1 => k_asm); (case k2 => k_asm); (intro h' tk' F' N')))
  have hlen : vs.length = i := by rw [hvs.length]; simp [marks]
  generalize hM : model PySem.Challenge.pw_st0011_01 w = M
  delta rBody rStmts PySem.Challenge.pw_st0011_01
  dsimp only [List.drop]
  subst hM
  (try k_fold)
  k_steps
  · rename _ = _ + _ => a
    have hz : way = 0 ∧ i + 1 = c := by
      by_cases hw1 : 1 < way
      · rw [if_pos hw1] at a; omega
      · rw [if_neg hw1] at a; omega
    rw [List.push_toArray] at N'
    refine hQ _ _ _ _ _ hz.1 hz.2 F' hruns N' ?_
    rw [← hz.2, marks_succ, ← mark_next hmk hv]
    exact ints_snoc hvs
  · rename _ ≠ _ + _ => a
    have hz : way = 0 → i + 1 < c := fun h => by
      rw [if_neg (by omega)] at a
      omega
    rw [List.push_toArray] at N'
    refine InvEndN.intro F' N' (nx := [(r, _)]) ⟨⟨hi, hz⟩, ?_, _, _, rfl, ?_⟩ rfl (fun q hq => by rcases List.mem_singleton.mp hq with rfl; exact .head _) (fun q hq => .tail _ hq)
    · refine rMap_of ⟨s.toks, ?_⟩ fun y a1 a2 => ?_
      · rw [if_pos rfl, mark_next hmk hv, if_neg (Nat.succ_ne_zero _)]
        rw [show (((i + 1 : Nat) : Int) - 1) = i by omega]
      · simp only [a1, a2, if_false]
    · rw [marks_succ, ← mark_next hmk hv]
      exact ints_snoc hvs

theorem runs_for {w : World} {A : Around} {s : Shared} {Q : Flow → Shared → Prop} {E : Value → Shared → Prop} {p : Program} {loose : List Str} {mean : ExcName → Option Value} {mg mb : Str → Option Value} {x step count way : Int} {tc tw tm : Tok} {h₀ : Heap} {L l r : Addr} {led : List (Addr × Obj)}
    {m₀ : Str → Option Value} {c n n' : Nat} {vs : List Value} {ns : List Int} {px : Pos}
    (X : (hd.heap_39 w.params).In h₀) (T : Top p loose mean mg mb h₀) (hA : A.handled = none) (hroom : A.depth + 1 < recursionLimit)
    (hx : 0 ≤ x) (hx' : x ≤ 6) (hs : 1 ≤ step) (hs' : step ≤ 5) (hc : 1 ≤ count) (hc' : count ≤ 5) (hcc : (c : Int) = count) (hw : 0 ≤ way) (hw' : way ≤ 2)
    (hcount : m₀ (Str.ofString "count") = some (.int count tc)) (hway : m₀ (Str.ofString "way") = some (.int way tw)) (hruns : m₀ (Str.ofString "runs") = some (.ref r)) (hmark : m₀ (Str.ofString "mark") = some (.int (-1) tm))
    (hns1 : ∀ i, i < c → gst none ns i = some (if i = 0 then x + 1 else step)) (hns2 : way = 0 ∨ gst none ns c = none) (hok : gok none ns) (hvs : IntsAre vs ns)
    (F : Fr h₀ L s.heap m₀) (N : News h₀ L s.heap led) (hl : (l, PySem.W.listOf vs.toArray n) ∈ led) (hr : (r, PySem.W.listOf #[] n') ∈ led) (hrl : r ≠ l) (hb : AllBare s.gens)
    (hQ : ∀ h' tk' G m' vs' n', Fr h₀ L h' m' → m' (Str.ofString "runs") = some (.ref r) → News h₀ L h' [(r, PySem.W.listOf (List.toArray vs') n')] → IntsAre vs' (marks x step c) → AllBare G → Q .next { s with heap := h', toks := tk', gens := G }) :
    wpAny (model PySem.Challenge.pw_st0011_01 w) A (call (.ref 42) [.ref l]) (fun x' s₁ => wpAny (model PySem.Challenge.pw_st0011_01 w) A (pyIter x') (fun it s₂ => codeAny (model PySem.Challenge.pw_st0011_01 w) A (.forLoop (.Name (Str.ofString "size") px) it rBody [] (rEnv L)) (fun r s' => match r with | .ok f => Q f s' | .error e => cameBackBy (model PySem.Challenge.pw_st0011_01 w) A (rEnv L) E e s') s₂) E s₁) E s := by
  refine gen_for (N := 1000) (news := [(r, PySem.W.listOf #[] n')]) X T hA (by omega) rfl rfl rfl F N hl (fun q hq => by rcases List.mem_singleton.mp hq with rfl; exact hr) (fun q hq => by rcases List.mem_singleton.mp hq with rfl; exact hrl) hb hvs hok (rJ m₀ x step way c r) (by decide) ?_ ?_ ?_ ?_
  · rintro i m news ⟨⟨hi, _⟩, _⟩
    omega
  · refine ⟨⟨Nat.zero_le _, fun _ => by omega⟩, ?_, [], n', rfl, .nil⟩
    exact rMap_of ⟨tm, by rw [if_pos rfl]; exact hmark⟩ fun _ _ _ => rfl
  · rintro i v t m₁ news₁ h tk G own hv hadr hoff ⟨⟨hi, hi0⟩, ⟨tm', u1, rfl⟩, vs', n'', rfl, hvs'⟩ F' N' hG
    have hic : i < c := by
      rcases Nat.lt_or_ge i c with h1 | h1
      · exact h1
      · have e : i = c := by omega
        subst e
        rcases hns2 with h2 | h2
        · exact hi0 h2
        · rw [h2] at hv; cases hv
    rw [hns1 i hic] at hv
    cases hv
    exact runs_turn X T hA hroom hx hx' hs hs' hc hc' hcc hw hw' hcount hway hruns hic rfl rfl hvs' F' N' hoff fun h' tk' m' vs'' n₃ hw0 hic' F'' hr' N'' hv'' =>
      hQ h' tk' G m' vs'' n₃ F'' hr' (fun q hq => N'' q (by rcases List.mem_singleton.mp hq with rfl; exact .head _)) hv'' hG
  · rintro i m₁ news₁ h tk G hv ⟨⟨hi, hi0⟩, ⟨tm', u1, rfl⟩, vs', n'', rfl, hvs'⟩ F' N' hG
    have e : i = c := by
      rcases Nat.lt_or_ge i c with h1 | h1
      · rw [hns1 i h1] at hv; cases hv
      · omega
    subst e
    exact hQ h tk G _ vs' n'' F' hruns N' hvs' hG
end Mine

namespace Mine
theorem offF2 : True := by
  w_top off
  trivial
local macro_rules | `(tactic| walk_at "no such place") => `(tactic| skip)
local macro_rules | `(tactic| walk_at "no such place") => `(tactic| skip)
local macro_rules | `(tactic| walk_at "no such place") => `(tactic| skip)
local macro_rules | `(tactic| walk_at "no such place") => `(tactic| skip)
local macro_rules | `(tactic| walk_at "no such place") => `(tactic| skip)
local macro_rules | `(tactic| walk_at "no such place") => `(tactic| skip)
local macro_rules | `(tactic| ktr_enter) => `(tactic| (refine' enterK ?k1 ?k2 ?k6 ?k7 ?k8 ?k9 ?kB ?_ ?c2 ?c3 ?c4 ?c5; (case k1 => k_asm); (case k2 => k_asm); (case k6 => k_is); (case k7 => k_is); (case k8 => omega); (case k9 => exact BindsTo.of_eq rfl); (case c5 => decide); (case kB => exact locs rfl); (case c2 => exact rfl); (case c3 => exact rfl); (case c4 => exact rfl); k_whole; intro L' h' F' N'; (try dsimp only); (try k_fold)))
local macro_rules | `(tactic| walk_at $s:str) => `(tactic| k_extra $s)
local macro_rules | `(tactic| walk_at "eval Name") => `(tactic| (k_here; k_dflt (refine' ld ?k1 ?k2 ?_; (case k1 => k_asm); (case k2 => assumption); k_whole)))

theorem flat_rep (a : Int) : ∀ k : Nat, (List.replicate k [a]).flatten = List.replicate k a
  | 0 => rfl
  | k + 1 => by rw [List.replicate_succ, List.flatten_cons, flat_rep a k, List.replicate_succ]; rfl
theorem gst_rep {a : Int} (h : a ≠ 127) (h' : a ≠ 0) (r : List Int) : ∀ (k : Nat) (last : Option Int) (i : Nat), i < k → gst last (List.replicate k a ++ r) i = some a
  | 0, _, _, hi => absurd hi (Nat.not_lt_zero _)
  | k + 1, last, i, hi => by
    rw [List.replicate_succ, List.cons_append]
    cases i with
    | zero => simp [gst, h, h']
    | succ i =>
      have := gst_rep h h' r k (some a) i (by omega)
      simp [gst, h, h', this]
theorem gst_rep_end {a : Int} (h : a ≠ 127) (h' : a ≠ 0) (r : List Int) (hr : ∀ last, gst last r 0 = none) : ∀ (k : Nat) (last : Option Int), gst last (List.replicate k a ++ r) k = none
  | 0, last => hr last
  | k + 1, last => by
    rw [List.replicate_succ, List.cons_append]
    have := gst_rep_end h h' r hr k (some a)
    simp [gst, h, h', this]
theorem gok_rep {a : Int} (h' : a ≠ 0) (r : List Int) (hr : ∀ last, gok last r) : ∀ (k : Nat) (last : Option Int), gok last (List.replicate k a ++ r)
  | 0, last => hr last
  | k + 1, last => by
    rw [List.replicate_succ, List.cons_append]
    exact .inr (.inr ⟨h', gok_rep h' r hr k (some a)⟩)

section
variable {x step count : Int} {c : Nat} (hx : 0 ≤ x) (hx' : x ≤ 6) (hs : 1 ≤ step) (hs' : step ≤ 5) (hc : 1 ≤ count) (hcc : c = count.toNat)
include hx hx' hs hs' hc hcc
theorem ruler_at (r : List Int) {i : Nat} (hi : i < c) : gst none ([x + 1] ++ (List.replicate (count - 1).toNat [step]).flatten ++ r) i = some (if i = 0 then x + 1 else step) := by
  rw [flat_rep, List.append_assoc, List.singleton_append]
  have h1 : x + 1 ≠ 127 := by omega
  have h2 : x + 1 ≠ 0 := by omega
  cases i with
  | zero => simp [gst, h1, h2]
  | succ i =>
    have := gst_rep (a := step) (by omega) (by omega) r (count - 1).toNat (some (x + 1)) i (by omega)
    show (if x + 1 = 127 then _ else if x + 1 = 0 then _ else gst (some (x + 1)) _ i) = _
    rw [if_neg h1, if_neg h2, this]; rfl
theorem ruler_end (r : List Int) (hr : ∀ last, gst last r 0 = none) : gst none ([x + 1] ++ (List.replicate (count - 1).toNat [step]).flatten ++ r) c = none := by
  rw [flat_rep, List.append_assoc, List.singleton_append]
  have h1 : x + 1 ≠ 127 := by omega
  have h2 : x + 1 ≠ 0 := by omega
  have e : c = (count - 1).toNat + 1 := by omega
  rw [e]
  have := gst_rep_end (a := step) (by omega) (by omega) r hr (count - 1).toNat (some (x + 1))
  show (if x + 1 = 127 then _ else if x + 1 = 0 then _ else gst (some (x + 1)) _ _) = _
  rw [if_neg h1, if_neg h2, this]
theorem ruler_ok (r : List Int) (hr : ∀ last, gok last r) : gok none ([x + 1] ++ (List.replicate (count - 1).toNat [step]).flatten ++ r) := by
  rw [flat_rep, List.append_assoc, List.singleton_append]
  exact .inr (.inr ⟨by omega, gok_rep (by omega) r hr _ _⟩)
theorem ruler_cut : List.take count.toNat ([x + 1] ++ (List.replicate (count - 1).toNat [step]).flatten ++ [127, 1]) = [x + 1] ++ (List.replicate (count - 1).toNat [step]).flatten ++ [] := by
  rw [flat_rep, List.append_nil]
  refine List.take_left' ?_
  simp
  omega
theorem ruler0_at {i : Nat} (_ : i < c) : gst none [x + 1, step, 0, 2] i = some (if i = 0 then x + 1 else step) := by
  have h1 : x + 1 ≠ 127 := by omega
  have h2 : x + 1 ≠ 0 := by omega
  have h3 : step ≠ 127 := by omega
  have h4 : step ≠ 0 := by omega
  cases i with
  | zero => simp [gst, h1, h2]
  | succ i => cases i <;> simp [gst, h1, h2, h3, h4]
theorem ruler0_ok : gok none [x + 1, step, 0, 2] := .inr (.inr ⟨by omega, .inr (.inr ⟨by omega, .inr (.inl ⟨rfl, by simp⟩)⟩)⟩)
end

theorem runs_ok {w : World} {A : Around} {s : Shared} {Q E : Value → Shared → Prop} {p : Program} {loose : List Str} {mean : ExcName → Option Value} {mg mb : Str → Option Value} {x step count way : Int} {t1 t2 t3 t4 : Tok}
    (X : (hd.heap_39 w.params).In s.heap) (T : Top p loose mean mg mb s.heap) (hA : A.handled = none) (hroom : A.depth + 3 < recursionLimit) (hb : AllBare s.gens)
    (hx : 0 ≤ x) (hx' : x ≤ 6) (hs : 1 ≤ step) (hs' : step ≤ 5) (hc : 1 ≤ count) (hc' : count ≤ 5) (hw : 0 ≤ way) (hw' : way ≤ 2)
    (hret : ∀ r vs n h' tk' G, s.heap.StaysIn h' → s.heap.get? r = none → h'.get? r = some (PySem.W.listOf (List.toArray vs) n) → IntsAre vs (marks x step count.toNat) → AllBare G → Q (.ref r) { s with heap := h', toks := tk', gens := G }) :
    wpAny (model PySem.Challenge.pw_st0011_01 w) A (call (.ref 115) [.int x t1, .int step t2, .int count t3, .int way t4]) Q E s := by
  k_with_none
  k_with "exec For Name Call cons nil" => (k_dflt (refine' wpAny_For ?_ ?hs; (case hs => (intro _; with_unfolding_all rfl))))
  refine wpAny_call ?_
  k_dflt ktr_enter
  k_steps
  · rename Fr _ _ _ _ => F1
    rename News _ _ _ _ => N1
    rename IntsAre _ (List.take _ _) => hI
    rw [ruler_cut hx hx' hs hs' hc rfl] at hI
    refine runs_for (c := count.toNat) (way := way) X T (by exact hA) (by rw [depth_deeper]; omega) hx hx' hs hs' hc hc' (by omega) hw hw' rfl rfl rfl rfl (fun i hi => ruler_at hx hx' hs hs' hc rfl [] hi) (.inr (ruler_end hx hx' hs hs' hc rfl [] fun _ => rfl))
      (ruler_ok hx hx' hs hs' hc rfl [] fun _ => trivial) hI F1 N1 (.tail _ (.head _)) (.head _) ?_ hb fun h' tk' G m' vs' n' F2 hr N2 hI' hG => ?_
    · k_ne
    · dsimp only
      k_steps
      exact hret _ vs' n' h' tk' G F2.keep (N2 _ (.head _)).2.2 (N2 _ (.head _)).1 hI' hG
  · rename Fr _ _ _ _ => F1
    rename News _ _ _ _ => N1
    rename IntsAre _ (_ ++ [127, 1]) => hI
    refine runs_for (c := count.toNat) (way := way) X T (by exact hA) (by rw [depth_deeper]; omega) hx hx' hs hs' hc hc' (by omega) hw hw' rfl rfl rfl rfl (fun i hi => ruler_at hx hx' hs hs' hc rfl [127, 1] hi) (.inr (ruler_end hx hx' hs hs' hc rfl [127, 1] fun _ => rfl))
      (ruler_ok hx hx' hs hs' hc rfl [127, 1] fun _ => .inl rfl) hI F1 N1 (.tail _ (.head _)) (.head _) ?_ hb fun h' tk' G m' vs' n' F2 hr N2 hI' hG => ?_
    · k_ne
    · dsimp only
      k_steps
      exact hret _ vs' n' h' tk' G F2.keep (N2 _ (.head _)).2.2 (N2 _ (.head _)).1 hI' hG
  · rename Fr _ _ _ _ => F1
    rename News _ _ _ _ => N1
    rename ¬ 0 < way => hz
    refine runs_for (c := count.toNat) (way := way) (ns := [x + 1, step, 0, 2]) X T (by exact hA) (by rw [depth_deeper]; omega) hx hx' hs hs' hc hc' (by omega) hw hw' rfl rfl rfl rfl (fun i hi => ruler0_at hx hx' hs hs' hc rfl hi) (.inl (by omega))
      (ruler0_ok hx hx' hs hs' hc (c := count.toNat) rfl) (.cons _ _ (.cons _ _ (.cons _ _ (.cons _ _ .nil)))) F1 N1 (.tail _ (.head _)) (.head _) ?_ hb fun h' tk' G m' vs' n' F2 hr N2 hI' hG => ?_
    · k_ne
    · dsimp only
      k_steps
      exact hret _ vs' n' h' tk' G F2.keep (N2 _ (.head _)).2.2 (N2 _ (.head _)).1 hI' hG
end Mine

namespace Mine
theorem offG1 : True := by
  w_top off
  trivial

/-- what a turn leaves: the frame, the ledger's chosen part, the iterator, the generators bare -/
def EndS (h₀ : Heap) (L : Addr) (J : (Str → Option Value) → List (Addr × Obj) → Prop) (own : List (Addr × Obj)) (s₁ s₂ : Shared) : Prop :=
  ∃ h' tk G m' nx news', s₂ = { s₁ with heap := h', toks := tk, gens := G } ∧ Fr h₀ L h' m' ∧ News h₀ L h' news' ∧ (∀ p ∈ nx, p ∈ news') ∧ (∀ p ∈ own, p ∈ news') ∧ OwnOff own (nx.map (·.1)) ∧ AllBare G ∧ J m' nx
def PostS (h₀ : Heap) (L : Addr) (J : (Str → Option Value) → List (Addr × Obj) → Prop) (own : List (Addr × Obj)) (s₁ : Shared) (Q : Flow → Shared → Prop) (f : Flow) (s₂ : Shared) : Prop :=
  match f with
  | .ret v => Q (.ret v) s₂
  | .brk => Q .next s₂
  | _ => EndS h₀ L J own s₁ s₂
theorem EndS.intro {h₀ : Heap} {L : Addr} {J : (Str → Option Value) → List (Addr × Obj) → Prop} {own nx news' : List (Addr × Obj)} {s₁ : Shared} {h' : Heap} {tk : Nat} {G : Array GenState} {m' : Str → Option Value}
    (F : Fr h₀ L h' m') (N : News h₀ L h' news') (hn : ∀ p ∈ nx, p ∈ news') (ho : ∀ p ∈ own, p ∈ news') (hoff : OwnOff own (nx.map (·.1))) (hG : AllBare G) (hj : J m' nx) :
    EndS h₀ L J own s₁ { s₁ with heap := h', toks := tk, gens := G } := ⟨h', tk, G, m', nx, news', rfl, F, N, hn, ho, hoff, hG, hj⟩

section
variable {prog : Program} {w : World} {A : Around} {h₀ : Heap}

theorem loop_walks {s : Shared} {I : Addr} {n : Nat} {P : Nat → Value → Prop} {St : Nat → Heap → Prop} {L : Addr} {m₀ : Str → Option Value} {news : List (Addr × Obj)} {env : Env} {x : Str} {px : Pos} {body : List Stmt} {Q : Flow → Shared → Prop}
    (W : Walks prog w A I [I] [I] n P St) (hL : env.locals = L) (hx : env.kindOf x = some .local) (hp : (env.scope.kind == .class || (env.scope.kind == .module && env.locals != env.globals)) = false)
    (hI : I ≠ L ∧ h₀.get? I = none) (hIn : I ∉ news.map (·.1)) (hst : St 0 s.heap)
    (F : Fr h₀ L s.heap m₀) (Nw : News h₀ L s.heap news) (hbare : AllBare s.gens)
    (J : Nat → (Str → Option Value) → List (Addr × Obj) → Prop) (hj : J 0 m₀ news)
    (hlive : ∀ i h, St i h → ∃ o, h.get? I = some o)
    (turn : ∀ i v m₁ news₁ h tk G own, i < n → P i v → OwnOff own (news₁.map (·.1)) → J i m₁ news₁ → Fr h₀ L h (fun y => if y = x then some v else m₁ y) → News h₀ L h (news₁ ++ own) → AllBare G →
      wpAny (model prog w) A (execs body env) (PostS h₀ L (J (i + 1)) own { s with heap := h, toks := tk, gens := G } Q) (fun _ _ => False) { s with heap := h, toks := tk, gens := G })
    (done : ∀ m₁ news₁ h tk G, J n m₁ news₁ → Fr h₀ L h m₁ → News h₀ L h news₁ → AllBare G → Q .next { s with heap := h, toks := tk, gens := G }) :
    codeAny (model prog w) A (.forLoop (.Name x px) (.ref I) body [] env) (fun r s' => match r with | .ok f => Q f s' | .error _ => False) s := by
  subst hL
  refine codeAny_forLoop (fun k s' => ∃ i m₁ news₁ h tk G, s' = { s with heap := h, toks := tk, gens := G } ∧ k = n - i ∧ i ≤ n ∧ St i h ∧ J i m₁ news₁ ∧ I ∉ news₁.map (·.1) ∧ Fr h₀ env.locals h m₁ ∧ News h₀ env.locals h news₁ ∧ AllBare G)
    ?_ (n - 0) ⟨0, m₀, news, s.heap, s.toks, s.gens, rfl, rfl, Nat.zero_le _, hst, hj, hIn, F, Nw, hbare⟩
  rintro k s' ⟨i, m₁, news₁, h, tk, G, rfl, rfl, hin, hSt, hJ, hI₁, F₁, N₁, hG⟩
  have neI : ∀ o, h₀.get? I ≠ some o := fun o e => by rw [hI.2] at e; cases e
  have frk : ∀ {h' : Heap}, (∀ b o, b ∉ [I] → h.get? b = some o → h'.get? b = some o) → Fr h₀ env.locals h' m₁ ∧ News h₀ env.locals h' news₁ := fun {h'} hk => by
    refine ⟨fr_at F₁ (fun b o e => hk b o (fun q => neI o ((List.mem_singleton.mp q) ▸ e)) (F₁.keep b o e)) fun o e => hk _ o (fun q => hI.1 (List.mem_singleton.mp q).symm) e, fun q hq => ?_⟩
    obtain ⟨e1, e2, e3⟩ := N₁ q hq
    exact ⟨hk _ _ (fun z => hI₁ ((List.mem_singleton.mp z) ▸ List.mem_map_of_mem hq)) e1, e2, e3⟩
  rcases Nat.lt_or_ge i n with hlt | hge
  · refine W.item i _ _ _ hlt hSt fun v h' tk' hP hSt' hk => ?_
    dsimp only at hk ⊢
    obtain ⟨F₂, N₂⟩ := frk hk
    refine wpAny_assign_Name (wpAny_storeName_local hx F₂.ns (fun h₃ hn₃ hs₃ => ?_) hp)
    have F₃ : Fr h₀ env.locals h₃ (fun y => if y = x then some v else m₁ y) := F₂.set hn₃ hs₃
    have N₃ : News h₀ env.locals h₃ news₁ := N₂.set hs₃
    have hSt₃ : St (i + 1) h₃ := W.frame _ _ _ hSt' fun b hb o e => hs₃.extBut b o (fun q => hI.1 ((List.mem_singleton.mp hb) ▸ q)) e
    have hown : News h₀ env.locals h₃ (ownAt h₃ [I]) := fun q hq => by
      obtain ⟨h1, h2⟩ := ownAt_mem.mp hq
      rw [List.mem_singleton.mp h1]
      exact ⟨(List.mem_singleton.mp h1) ▸ h2, hI.1, hI.2⟩
    have hso : OwnOff (ownAt h₃ [I]) (news₁.map (·.1)) := fun q hq b hb e => hI₁ ((List.mem_singleton.mp (ownAt_mem.mp hq).1) ▸ e ▸ hb)
    refine wpAny_mono (turn i v m₁ news₁ h₃ (tk' + 1) G (ownAt h₃ [I]) hlt hP hso hJ F₃ (fun q hq => (List.mem_append.mp hq).elim (N₃ q) (hown q)) hG) (fun f s₂ hf => ?_) fun _ _ x => x.elim
    have fin : EndS h₀ env.locals (J (i + 1)) (ownAt h₃ [I]) { s with heap := h₃, toks := tk' + 1, gens := G } s₂ →
        ∃ m, m < n - i ∧ ∃ i m₁ news₁ h tk G, s₂ = { s with heap := h, toks := tk, gens := G } ∧ m = n - i ∧ i ≤ n ∧ St i h ∧ J i m₁ news₁ ∧ I ∉ news₁.map (·.1) ∧ Fr h₀ env.locals h m₁ ∧ News h₀ env.locals h news₁ ∧ AllBare G := by
      rintro ⟨h₅, tk₅, G₅, m₅, nx, news₅, rfl, F₅, N₅, hnx, hown₅, hoff₅, hG₅, hJ₅⟩
      obtain ⟨oI, hoI⟩ := hlive _ _ hSt₃
      have hmI : (I, oI) ∈ ownAt h₃ [I] := ownAt_mem.mpr ⟨List.mem_singleton.mpr rfl, hoI⟩
      refine ⟨n - (i + 1), by omega, i + 1, m₅, nx, h₅, tk₅, G₅, rfl, rfl, hlt, ?_, hJ₅, fun hm => hoff₅ _ hmI _ hm rfl, F₅, fun q hq => N₅ q (hnx q hq), hG₅⟩
      refine W.frame _ _ _ hSt₃ fun b hb o e => ?_
      exact (N₅ _ (hown₅ (b, o) (ownAt_mem.mpr ⟨hb, e⟩))).1
    cases f with
    | ret v => exact hf
    | brk => exact hf
    | next => exact fin hf
    | cont => exact fin hf
  · have e : i = n := by omega
    subst e
    refine W.done _ _ _ hSt fun h' tk' hk => ?_
    obtain ⟨F₂, N₂⟩ := frk hk
    exact wpAny_pure (done m₁ news₁ h' tk' G hJ F₂ N₂ hG)

/-- a loop over a text's signs -/
theorem loop_str {s : Shared} {txt : Str} {t : Tok} {L : Addr} {m₀ : Str → Option Value} {news : List (Addr × Obj)} {env : Env} {x : Str} {px : Pos} {body : List Stmt} {Q : Flow → Shared → Prop} {E : Value → Shared → Prop}
    (hA : A.handled = none) (hL : env.locals = L) (hx : env.kindOf x = some .local) (hp : (env.scope.kind == .class || (env.scope.kind == .module && env.locals != env.globals)) = false)
    (F : Fr h₀ L s.heap m₀) (Nw : News h₀ L s.heap news) (hbare : AllBare s.gens)
    (J : Nat → (Str → Option Value) → List (Addr × Obj) → Prop) (hj : J 0 m₀ news)
    (turn : ∀ i c u m₁ news₁ h tk G own, txt.cps[i]? = some c → OwnOff own (news₁.map (·.1)) → J i m₁ news₁ → Fr h₀ L h (fun y => if y = x then some (.str ⟨#[c]⟩ u) else m₁ y) → News h₀ L h (news₁ ++ own) → AllBare G →
      wpAny (model prog w) A (execs body env) (PostS h₀ L (J (i + 1)) own { s with heap := h, toks := tk, gens := G } Q) (fun _ _ => False) { s with heap := h, toks := tk, gens := G })
    (done : ∀ m₁ news₁ h tk G, J txt.cps.size m₁ news₁ → Fr h₀ L h m₁ → News h₀ L h news₁ → AllBare G → Q .next { s with heap := h, toks := tk, gens := G }) :
    wpAny (model prog w) A (pyIter (.str txt t)) (fun it s₂ => codeAny (model prog w) A (.forLoop (.Name x px) it body [] env) (fun r s' => match r with | .ok f => Q f s' | .error e => cameBackBy (model prog w) A env E e s') s₂) E s := by
  have hLs : @LT.lt Nat _ L s.heap.objs.size := F.ns.lt
  have hb0 : h₀.objs.size ≤ s.heap.objs.size := Nat.le_of_lt (Nat.lt_of_le_of_lt F.above hLs)
  have hI0 : h₀.get? s.heap.objs.size = none := by
    cases q : h₀.get? s.heap.objs.size with
    | none => rfl
    | some o' => exact absurd (Heap.lt_size q) (Nat.not_lt.mpr hb0)
  have hIn : s.heap.objs.size ∉ news.map (·.1) := fun hm => by
    obtain ⟨q, hq, e⟩ := List.mem_map.mp hm
    exact absurd (Heap.lt_size (Nw q hq).1) (by rw [e]; exact Nat.lt_irrefl _)
  have key : ∀ (o : Obj) (St : Nat → Heap → Prop), o.isFreed = false → Walks prog w A s.heap.objs.size [s.heap.objs.size] [s.heap.objs.size] txt.cps.size (SignAt txt) St → (∀ i h, St i h → ∃ o, h.get? s.heap.objs.size = some o) → St 0 (s.heap.push o) →
      codeAny (model prog w) A (.forLoop (.Name x px) (.ref s.heap.objs.size) body [] env) (fun r s' => match r with | .ok f => Q f s' | .error e => cameBackBy (model prog w) A env E e s') { s with heap := s.heap.push o } := fun o St hf W hlive hst => by
    refine codeAny_mono (loop_walks (s := { s with heap := s.heap.push o }) (P := SignAt txt) (m₀ := m₀) (news := news) (Q := Q) W hL hx hp ⟨Nat.ne_of_gt hLs, hI0⟩ hIn hst (F.push o) (fun q hq => News.push F Nw o hf q (.tail _ hq)) hbare J hj hlive
      (fun i v m₁ news₁ h tk G own _ hP hso hJ F' N' hG => ?_) done) fun r s' hr => ?_
    · obtain ⟨c, u, hc, rfl⟩ := hP
      exact turn i c u m₁ news₁ h tk G own hc hso hJ F' N' hG
    · cases r with
      | ok f => exact hr
      | error e => exact hr.elim
  cases ha : txt.cps.all (· < 128)
  · exact wpAny_pyIter_wide ha (key _ _ rfl (Walks.strWide hA _ txt t) (fun _ _ st => let ⟨o, ho, _⟩ := st; ⟨o, ho⟩) ⟨_, Heap.get?_push_size _ rfl, rfl, rfl⟩)
  · exact wpAny_pyIter_ascii ha (key _ _ rfl (Walks.strAscii hA _ txt t) (fun _ _ st => let ⟨o, ho, _⟩ := st; ⟨o, ho⟩) ⟨_, Heap.get?_push_size _ rfl, rfl, rfl⟩)
end
end Mine

namespace Mine
theorem offG2 : True := by
  w_top off
  trivial
local macro_rules | `(tactic| walk_at $s:str) => `(tactic| k_extra $s)
local macro_rules | `(tactic| walk_at "eval Name") => `(tactic| (k_here; k_dflt (refine' ld ?k1 ?k2 ?_; (case k1 => k_asm); (case k2 => assumption); k_whole)))

def wClass : List Stmt := match (PySem.Challenge.pw_st0011_01.main.body.drop 9) with | .ClassDef _ _ _ b _ _ _ _ _ _ _ :: _ => b | _ => []
def wStmts : List Stmt := match wClass.drop 1 with | .FunctionDef _ _ b _ _ _ _ _ _ _ :: _ => b | _ => []
def wScope : Scope := match wClass.drop 1 with | .FunctionDef _ _ _ _ _ _ sc _ _ _ :: _ => sc | _ => default
def wBody : List Stmt := match wStmts with | [_, _, _, _, .For _ _ b _ _, _, _, _, _] => b | _ => []
abbrev wEnv (L : Addr) : Env := envOf (Str.ofString "Whitespace.__init__") wScope L 59 (.ref 58)

def wMap (m₀ : Str → Option Value) (ct : Addr) (b n nt : Int) (tb tn tt : Tok) (u1 : Option Value) : Str → Option Value := fun y =>
  if y = Str.ofString "count" then some (.ref ct) else if y = Str.ofString "b" then some (.int b tb) else if y = Str.ofString "n" then some (.int n tn) else if y = Str.ofString "nt" then some (.int nt tt)
  else if y = Str.ofString "ch" then u1 else m₀ y

theorem wMap_of {m' m₀ : Str → Option Value} {ct : Addr} {b n nt : Int} (hc : m' (Str.ofString "count") = some (.ref ct)) (hb : ∃ t, m' (Str.ofString "b") = some (.int b t)) (hn : ∃ t, m' (Str.ofString "n") = some (.int n t)) (ht : ∃ t, m' (Str.ofString "nt") = some (.int nt t))
    (hr : ∀ y, y ≠ Str.ofString "count" → y ≠ Str.ofString "b" → y ≠ Str.ofString "n" → y ≠ Str.ofString "nt" → y ≠ Str.ofString "ch" → m' y = m₀ y) :
    ∃ tb tn tt u1, m' = wMap m₀ ct b n nt tb tn tt u1 := by
  obtain ⟨tb, hb⟩ := hb
  obtain ⟨tn, hn⟩ := hn
  obtain ⟨tt, ht⟩ := ht
  refine ⟨tb, tn, tt, m' (Str.ofString "ch"), funext fun y => ?_⟩
  unfold wMap
  by_cases h1 : y = Str.ofString "count"
  · rw [if_pos h1, h1, hc]
  rw [if_neg h1]
  by_cases h2 : y = Str.ofString "b"
  · rw [if_pos h2, h2, hb]
  rw [if_neg h2]
  by_cases h3 : y = Str.ofString "n"
  · rw [if_pos h3, h3, hn]
  rw [if_neg h3]
  by_cases h4 : y = Str.ofString "nt"
  · rw [if_pos h4, h4, ht]
  rw [if_neg h4]
  by_cases h5 : y = Str.ofString "ch"
  · rw [if_pos h5, h5]
  rw [if_neg h5]
  exact hr y h1 h2 h3 h4 h5

/-- the scan's state: the counts, the blanks since the last tab, the signs, the tabs -/
structure WS where
  cs : List Int
  b : Nat
  n : Int
  nt : Int
def bump (cs : List Int) (b : Nat) : List Int :=
  if cs.length ≤ b then (cs ++ List.replicate (b + 1 - cs.length) 0).set b ((cs ++ List.replicate (b + 1 - cs.length) 0).getD b 0 + 1) else cs.set b (cs.getD b 0 + 1)
def WS.blank (σ : WS) : WS := { σ with b := σ.b + 1, n := σ.n + 1 }
def WS.tab (σ : WS) : WS := { cs := bump σ.cs σ.b, b := 0, n := σ.n + 1, nt := σ.nt + 1 }
def WS.step (σ : WS) (c : Nat) : WS := if c = 32 then σ.blank else σ.tab
theorem allLt_mem {d : Addr} {l : List (Addr × Obj)} (h : AllLt d l) : ∀ q ∈ l, @LT.lt Nat _ q.1 d := by
  induction l with
  | nil => intro q hq; cases hq
  | cons p r ih =>
    intro q hq
    have h' : @LT.lt Nat _ p.1 d ∧ AllLt d r := h
    rcases List.mem_cons.mp hq with e | hq
    · rw [e]; exact h'.1
    · exact ih h'.2 q hq
theorem flat_rep0 : ∀ k : Nat, (List.replicate k [(0 : Int)]).flatten = List.replicate k 0
  | 0 => rfl
  | k + 1 => by rw [List.replicate_succ, List.flatten_cons, flat_rep0 k, List.replicate_succ]; rfl

theorem bump_hi {cs : List Int} {b : Nat} (h : (cs.length : Int) ≤ b) : bump cs b = (cs ++ (List.replicate ((b : Int) - cs.length + 1).toNat [(0 : Int)]).flatten).set (b : Int).toNat ((cs ++ (List.replicate ((b : Int) - cs.length + 1).toNat [(0 : Int)]).flatten).getD (b : Int).toNat 0 + 1) := by
  unfold bump
  rw [if_pos (by omega), flat_rep0, Int.toNat_natCast, show ((b : Int) - cs.length + 1).toNat = b + 1 - cs.length by omega]
theorem bump_lo {cs : List Int} {b : Nat} (h : ¬ (cs.length : Int) ≤ b) : bump cs b = cs.set (b : Int).toNat (cs.getD (b : Int).toNat 0 + 1) := by
  unfold bump
  rw [if_neg (by omega), Int.toNat_natCast]

def wJ (m₀ : Str → Option Value) (x dx : Addr) (ox od : Obj) (σ : WS) (m : Str → Option Value) (led : List (Addr × Obj)) : Prop :=
  ∃ ct vs k, (∃ tb tn tt u1, m = wMap m₀ ct σ.b σ.n σ.nt tb tn tt u1) ∧ led = [(ct, PySem.W.listOf (List.toArray vs) k), (x, ox), (dx, od)] ∧ IntsAre vs σ.cs ∧ @Ne Nat ct x ∧ @Ne Nat ct dx

theorem ws_close0 {h₀ h' : Heap} {L ct x dx : Addr} {ox od : Obj} {own : List (Addr × Obj)} {vs : List Value} {k : Nat} {m₀ m' : Str → Option Value} {σ : WS} {s : Shared} {tk : Nat} {G : Array GenState} (F : Fr h₀ L h' m')
    (N : News h₀ L h' ((ct, PySem.W.listOf (List.toArray vs) k) :: (x, ox) :: (dx, od) :: own)) (hi : IntsAre vs σ.cs) (hx : @Ne Nat ct x) (hdx : @Ne Nat ct dx) (hoff : OwnOff own [ct, x, dx]) (hG : AllBare G)
    (hm : ∃ tb tn tt u1, m' = wMap m₀ ct σ.b σ.n σ.nt tb tn tt u1) : EndS h₀ L (wJ m₀ x dx ox od σ) own s { s with heap := h', toks := tk, gens := G } := by
  refine EndS.intro (nx := [(ct, PySem.W.listOf (List.toArray vs) k), (x, ox), (dx, od)]) F N (fun q hq => ?_) (fun q hq => .tail _ (.tail _ (.tail _ hq))) hoff hG ⟨ct, vs, k, hm, rfl, hi, hx, hdx⟩
  simp only [List.mem_cons, List.mem_nil_iff, or_false] at hq
  rcases hq with rfl | rfl | rfl
  · exact .head _
  · exact .tail _ (.head _)
  · exact .tail _ (.tail _ (.head _))
theorem ws_close3 {h₀ h' : Heap} {L D ct x dx : Addr} {ox od : Obj} {own : List (Addr × Obj)} {e1 e2 e3 : Addr × Obj} {vs : List Value} {k : Nat} {m₀ m' : Str → Option Value} {σ : WS} {s : Shared} {tk : Nat} {G : Array GenState} (F : Fr h₀ L h' m')
    (N : News h₀ L h' ((D, PySem.W.listOf (List.toArray vs) k) :: e1 :: e2 :: e3 :: (x, ox) :: (dx, od) :: own)) (hi : IntsAre vs σ.cs) (hx : @LT.lt Nat _ x D) (hdx : @LT.lt Nat _ dx D) (hown : AllLt D own) (hoff : OwnOff own [ct, x, dx]) (hG : AllBare G)
    (hm : ∃ tb tn tt u1, m' = wMap m₀ D σ.b σ.n σ.nt tb tn tt u1) : EndS h₀ L (wJ m₀ x dx ox od σ) own s { s with heap := h', toks := tk, gens := G } := by
  refine ws_close0 F (k := k) (vs := vs) (fun q hq => N q ?_) hi (Nat.ne_of_gt hx) (Nat.ne_of_gt hdx) (fun q hq b' hb' => ?_) hG hm
  · simp only [List.mem_cons] at hq
    rcases hq with rfl | rfl | rfl | hq
    · exact .head _
    · exact .tail _ (.tail _ (.tail _ (.tail _ (.head _))))
    · exact .tail _ (.tail _ (.tail _ (.tail _ (.tail _ (.head _)))))
    · exact .tail _ (.tail _ (.tail _ (.tail _ (.tail _ (.tail _ hq)))))
  · simp only [List.mem_cons, List.mem_nil_iff, or_false] at hb'
    rcases hb' with rfl | rfl | rfl
    · exact Nat.ne_of_lt (allLt_mem hown q hq)
    · exact hoff q hq _ (.tail _ (.head _))
    · exact hoff q hq _ (.tail _ (.tail _ (.head _)))

section
variable {w : World} {A : Around} {s : Shared} {Q : Flow → Shared → Prop} {p : Program} {loose : List Str} {mean : ExcName → Option Value} {mg mb : Str → Option Value} {b n nt : Int} {tb tn tt t tS tT : Tok} {h₀ : Heap} {L ct x dx : Addr} {own : List (Addr × Obj)}
    {m₀ : Str → Option Value} {u1 : Option Value} {k : Nat} {vs : List Value} {cs : List Int} {ox od : Obj}

theorem ws_blank {σ : WS}
    (X : (hd.heap_39 w.params).In h₀) (T : Top p loose mean mg mb h₀) (hroom : A.depth + 1 < recursionLimit)
    (hS : m₀ (Str.ofString "S") = some (.str (Str.ofString " ") tS)) (hi : IntsAre vs σ.cs) (hx : @Ne Nat ct x) (hdx : @Ne Nat ct dx) (hG : AllBare s.gens)
    (F : Fr h₀ L s.heap (fun y => if y = Str.ofString "ch" then some (.str (Str.ofString " ") t) else (fun y =>
  if y = Str.ofString "count" then some (.ref ct) else if y = Str.ofString "b" then some (.int σ.b tb) else if y = Str.ofString "n" then some (.int σ.n tn) else if y = Str.ofString "nt" then some (.int σ.nt tt)
  else if y = Str.ofString "ch" then u1 else m₀ y) y)) (N : News h₀ L s.heap ((ct, PySem.W.listOf vs.toArray k) :: (x, ox) :: (dx, od) :: own)) (hoff : OwnOff own [ct, x, dx]) :
    wpAny (model PySem.Challenge.pw_st0011_01 w) A (execs wBody (wEnv L)) (PostS h₀ L (wJ m₀ x dx ox od σ.blank) own s Q) (fun _ _ => False) s := by
  k_with_none
  generalize hM : model PySem.Challenge.pw_st0011_01 w = M
  delta wBody wStmts wClass PySem.Challenge.pw_st0011_01
  dsimp only [List.drop]
  subst hM
  (try k_fold)
  k_steps
  · with_reducible rename Fr _ _ _ _ => F9
    with_reducible rename News _ _ _ _ => N9
    refine ws_close0 F9 N9 hi hx hdx hoff hG (wMap_of rfl ⟨_, rfl⟩ ⟨_, rfl⟩ ⟨_, rfl⟩ fun y a1 a2 a3 a4 a5 => ?_)
    simp only [a1, a2, a3, a4, a5, if_false]
theorem ws_end {σ : WS}
    (X : (hd.heap_39 w.params).In h₀) (T : Top p loose mean mg mb h₀) (hroom : A.depth + 1 < recursionLimit)
    (hS : m₀ (Str.ofString "S") = some (.str (Str.ofString " ") tS)) (hT : m₀ (Str.ofString "T") = some (.str (Str.ofString "\t") tT)) (hi : IntsAre vs σ.cs) (hx : @Ne Nat ct x) (hdx : @Ne Nat ct dx) (J : (Str → Option Value) → List (Addr × Obj) → Prop)
    (F : Fr h₀ L s.heap (fun y => if y = Str.ofString "ch" then some (.str (Str.ofString "x") t) else (fun y =>
  if y = Str.ofString "count" then some (.ref ct) else if y = Str.ofString "b" then some (.int σ.b tb) else if y = Str.ofString "n" then some (.int σ.n tn) else if y = Str.ofString "nt" then some (.int σ.nt tt)
  else if y = Str.ofString "ch" then u1 else m₀ y) y)) (N : News h₀ L s.heap ((ct, PySem.W.listOf vs.toArray k) :: (x, ox) :: (dx, od) :: own)) (hoff : OwnOff own [ct, x, dx])
    (hQ : ∀ tk' m' led, Fr h₀ L s.heap m' → News h₀ L s.heap led → wJ m₀ x dx ox od σ m' led → Q .next { s with toks := tk' }) :
    wpAny (model PySem.Challenge.pw_st0011_01 w) A (execs wBody (wEnv L)) (PostS h₀ L J own s Q) (fun _ _ => False) s := by
  k_with_none
  generalize hM : model PySem.Challenge.pw_st0011_01 w = M
  delta wBody wStmts wClass PySem.Challenge.pw_st0011_01
  dsimp only [List.drop]
  subst hM
  (try k_fold)
  k_steps
  · refine hQ _ _ [_, _, _] F (fun q hq => N q ?_) ⟨ct, vs, k, ?_, rfl, hi, hx, hdx⟩
    · simp only [List.mem_cons, List.mem_nil_iff, or_false] at hq
      rcases hq with rfl | rfl | rfl
      · exact .head _
      · exact .tail _ (.head _)
      · exact .tail _ (.tail _ (.head _))
    · refine wMap_of rfl ⟨_, rfl⟩ ⟨_, rfl⟩ ⟨_, rfl⟩ fun y a1 a2 a3 a4 a5 => ?_
      simp only [a1, a2, a3, a4, a5, if_false]
theorem ws_tab {σ : WS}
    (X : (hd.heap_39 w.params).In h₀) (T : Top p loose mean mg mb h₀) (hroom : A.depth + 1 < recursionLimit)
    (hS : m₀ (Str.ofString "S") = some (.str (Str.ofString " ") tS)) (hT : m₀ (Str.ofString "T") = some (.str (Str.ofString "\t") tT)) (hb : σ.b ≤ 1000) (hl : σ.cs.length ≤ 1001) (hi : IntsAre vs σ.cs) (hx : @Ne Nat ct x) (hdx : @Ne Nat ct dx) (hG : AllBare s.gens)
    (F : Fr h₀ L s.heap (fun y => if y = Str.ofString "ch" then some (.str (Str.ofString "\t") t) else (fun y =>
  if y = Str.ofString "count" then some (.ref ct) else if y = Str.ofString "b" then some (.int σ.b tb) else if y = Str.ofString "n" then some (.int σ.n tn) else if y = Str.ofString "nt" then some (.int σ.nt tt)
  else if y = Str.ofString "ch" then u1 else m₀ y) y)) (N : News h₀ L s.heap ((ct, PySem.W.listOf vs.toArray k) :: (x, ox) :: (dx, od) :: own)) (hoff : OwnOff own [ct, x, dx]) :
    wpAny (model PySem.Challenge.pw_st0011_01 w) A (execs wBody (wEnv L)) (PostS h₀ L (wJ m₀ x dx ox od σ.tab) own s Q) (fun _ _ => False) s := by
  k_with_none
  obtain ⟨cs, b, n, nt⟩ := σ
  dsimp only at *
  have hb0 : (0 : Int) ≤ b := Int.natCast_nonneg b
  have hb1 : (b : Int) ≤ 1000 := by omega
  generalize hM : model PySem.Challenge.pw_st0011_01 w = M
  delta wBody wStmts wClass PySem.Challenge.pw_st0011_01
  dsimp only [List.drop]
  subst hM
  (try k_fold)
  k_steps
  · with_reducible rename Fr _ _ _ _ => F9
    with_reducible rename News _ _ _ _ => N9
    with_reducible rename _ ≤ (b : Int) => hle
    with_reducible rename IntsAre (List.set _ _ _) _ => hi9
    with_reducible rename (_ ∧ _ ∧ _ ∧ _ ∧ _ ∧ AllLt _ own) => l9
    obtain ⟨_, _, _, lx, ldx, lown⟩ := l9
    have e := bump_hi hle
    have hi8 : IntsAre _ (bump cs b) := e ▸ hi9
    refine ws_close3 F9 N9 hi8 lx ldx lown hoff hG (wMap_of rfl ⟨_, rfl⟩ ⟨_, rfl⟩ ⟨_, rfl⟩ fun y a1 a2 a3 a4 a5 => ?_)
    simp only [a1, a2, a3, a4, a5, if_false]
  · with_reducible rename Fr _ _ _ _ => F9
    with_reducible rename News _ _ _ _ => N9
    with_reducible rename ¬ _ ≤ (b : Int) => hle
    with_reducible rename IntsAre (List.set _ _ _) _ => hi9
    have e := bump_lo hle
    have hi8 : IntsAre _ (bump cs b) := e ▸ hi9
    refine ws_close0 F9 N9 hi8 hx hdx hoff hG (wMap_of rfl ⟨_, rfl⟩ ⟨_, rfl⟩ ⟨_, rfl⟩ fun y a1 a2 a3 a4 a5 => ?_)
    simp only [a1, a2, a3, a4, a5, if_false]
end
end Mine

namespace Mine
theorem offG3 : True := by
  w_top off
  trivial

theorem enterB {prog : Program} {w : World} {A : Around} {s : Shared} {K : Frag} {R : Result → Shared → Prop} {p : Program} {loose : List Str} {mean : ExcName → Option Value} {mg mb : Str → Option Value} {base : Heap} {news : List (Addr × Obj)}
    {name qual : Str} {params : Arguments} {body : List Stmt} {scope : Scope} {dV kV doc pm cdv ct oc : Value} {an od : Option Addr} {osl : Array (Option Value)} {f : Addr} {args : Args} {binds : List (Str × Value)}
    (X : K.In base) (T : Top p loose mean mg mb base) (hb : base.StaysIn s.heap) (hsz : base.objs.size ≤ s.heap.objs.size) (hn : ∀ q ∈ news, s.heap.get? q.1 = some q.2 ∧ base.get? q.1 = none)
    (ho : K.lookup f = some ⟨oc, od, .func (fnOf name qual params body scope dV kV doc pm an cdv ct), osl⟩) (hcd : codeIn K cdv qual = true) (hroom : A.depth < recursionLimit)
    (hbind : BindsTo s (fnOf name qual params body scope dV kV doc pm an cdv ct) args binds) (hloc : ∀ y ∈ binds, scope.names.lookup y.1 = some .local)
    (h : ∀ L' h₁, Fr base L' h₁ (fun y => binds.reverse.lookup y) → News base L' h₁ news →
      wpAny (model prog w) (A.deeper (envOf qual scope L' f cdv)) (execs body (envOf qual scope L' f cdv))
        (fun fl s' => R (.ok (.ret (match fl with | .ret v => v | _ => .none))) s') (fun _ _ => False)
        { s with heap := h₁, toks := s.toks + binds.length })
    (hco : scope.isCoroutine = false) (hgen : scope.isGenerator = false) (hk : scope.kind = .function)
    (hcell : ∀ x ∈ scope.names, x.2 ≠ .cell) : codeAny (model prog w) A (.call (.ref f) args) R s := by
  refine codeAny_call_def (fd := fnX name qual params body scope [] dV kV doc pm an cdv ct) (body := body) (binds := binds) hroom (hb _ _ (X _ _ ho)) rfl (T.nolimit.keeps hb) (codeRec_of (fun a o e => hb _ _ (X a o e)) hcd) rfl hbind hcell hloc (fun h₁ hns hk₁ => ?_) hco hgen hk
  exact wpAny_mono (h s.heap.objs.size h₁ ⟨hns, fun b o e => hk₁ b o (hb b o e), hsz⟩ fun q hq => ⟨hk₁ _ _ (hn q hq).1, Nat.ne_of_lt (Heap.lt_size (hn q hq).1), (hn q hq).2⟩) (fun _ _ y => y) fun _ _ y => y.elim

theorem make_S {prog : Program} {w : World} {A : Around} {K : Frag} {C : Addr} {s : Shared} {R : Result → Shared → Prop} {rest : List Value} {fI : Addr} (X : K.In s.heap) (hm : makesIn K C = true)
    (hi : findIn K (.ref C) "__init__" = some (some (.ref fI))) (hf : typeIn K (.ref fI) = some (.type "function"))
    (h : codeAny (model prog w) (A.under (.builtin "type.__call__" ⟨.ref C :: rest, []⟩)) (.call (.ref fI) ⟨.ref (s.heap.objs.size + 1) :: rest, []⟩) (InitBack (s.heap.objs.size + 1) R) { s with heap := (s.heap.push (dictOf [] 0)).push (instObj C s.heap.objs.size) }) :
    codeAny (model prog w) A (.call (.ref C) ⟨rest, []⟩) R s := by
  obtain ⟨hh, g, d, t, os⟩ := s
  exact make_core (makes_of X hm) (looks_findIn X hi) (fun self => bind_fn X self hf) (.inl rfl) h

/-- the scan over the signs ahead of the first that is no blank -/
def wFold (pre : List Nat) : WS := pre.foldl WS.step ⟨[], 0, 0, 0⟩
theorem wFold_succ {pre : List Nat} {i c : Nat} (h : pre[i]? = some c) : wFold (pre.take (i + 1)) = (wFold (pre.take i)).step c := by
  unfold wFold
  rw [List.take_add_one, h]
  simp
theorem bump_len (cs : List Int) (b : Nat) : (bump cs b).length = max cs.length (b + 1) := by
  unfold bump
  split
  · simp; omega
  · simp; omega
theorem fold_le : ∀ (l : List Nat) (σ : WS) (k : Nat), σ.b ≤ k → σ.cs.length ≤ k + 1 → (l.foldl WS.step σ).b ≤ k + l.length ∧ (l.foldl WS.step σ).cs.length ≤ k + l.length + 1
  | [], σ, k, h1, h2 => ⟨by simpa using h1, by simpa using h2⟩
  | c :: r, σ, k, h1, h2 => by
    have h : (σ.step c).b ≤ k + 1 ∧ (σ.step c).cs.length ≤ k + 1 + 1 := by
      unfold WS.step
      split
      · exact ⟨Nat.succ_le_succ h1, Nat.le_succ_of_le h2⟩
      · refine ⟨Nat.zero_le _, ?_⟩
        show (bump σ.cs σ.b).length ≤ _
        rw [bump_len]; omega
    have z := fold_le r (σ.step c) (k + 1) h.1 h.2
    simp only [List.foldl_cons, List.length_cons]
    omega
theorem wFold_le (pre : List Nat) : (wFold pre).b ≤ pre.length ∧ (wFold pre).cs.length ≤ pre.length + 1 := by
  have := fold_le pre ⟨[], 0, 0, 0⟩ 0 (Nat.zero_le _) (Nat.zero_le _)
  unfold wFold
  omega
theorem s32 : (⟨#[32]⟩ : Str) = Str.ofString " " := by decide +kernel
theorem s9 : (⟨#[9]⟩ : Str) = Str.ofString "\t" := by decide +kernel
theorem s120 : (⟨#[120]⟩ : Str) = Str.ofString "x" := by decide +kernel

section
variable {w : World} {A : Around} {s : Shared} {Q : Flow → Shared → Prop} {E : Value → Shared → Prop} {p : Program} {loose : List Str} {mean : ExcName → Option Value} {mg mb : Str → Option Value} {t tS tT tb tn tt : Tok} {h₀ : Heap} {L ct x dx : Addr}
    {m₀ : Str → Option Value} {k : Nat} {ox od : Obj} {px : Pos} {txt : Str} {pre : List Nat}

theorem ws_for (X : (hd.heap_39 w.params).In h₀) (T : Top p loose mean mg mb h₀) (hA : A.handled = none) (hroom : A.depth + 1 < recursionLimit)
    (hS : m₀ (Str.ofString "S") = some (.str (Str.ofString " ") tS)) (hT : m₀ (Str.ofString "T") = some (.str (Str.ofString "\t") tT))
    (hc : m₀ (Str.ofString "count") = some (.ref ct)) (hb : m₀ (Str.ofString "b") = some (.int 0 tb)) (hn : m₀ (Str.ofString "n") = some (.int 0 tn)) (hnt : m₀ (Str.ofString "nt") = some (.int 0 tt))
    (htxt : txt.cps.toList = pre ++ [120, 32, 9]) (hpre : ∀ c ∈ pre, c = 32 ∨ c = 9) (hlen : pre.length ≤ 1000) (hx : @Ne Nat ct x) (hdx : @Ne Nat ct dx) (hG : AllBare s.gens)
    (F : Fr h₀ L s.heap m₀) (N : News h₀ L s.heap [(ct, PySem.W.listOf #[] k), (x, ox), (dx, od)])
    (hQ : ∀ h' tk' G m' led, Fr h₀ L h' m' → News h₀ L h' led → wJ m₀ x dx ox od (wFold pre) m' led → AllBare G → Q .next { s with heap := h', toks := tk', gens := G }) :
    wpAny (model PySem.Challenge.pw_st0011_01 w) A (pyIter (.str txt t)) (fun it s₂ => codeAny (model PySem.Challenge.pw_st0011_01 w) A (.forLoop (.Name (Str.ofString "ch") px) it wBody [] (wEnv L)) (fun r s' => match r with | .ok f => Q f s' | .error e => cameBackBy (model PySem.Challenge.pw_st0011_01 w) A (wEnv L) E e s') s₂) E s := by
  have hcps : ∀ i : Nat, txt.cps[i]? = (pre ++ [120, 32, 9])[i]? := fun i => by rw [← htxt]; simp
  refine loop_str hA rfl rfl rfl F N hG (fun i m led => i ≤ pre.length ∧ wJ m₀ x dx ox od (wFold (pre.take i)) m led) ⟨Nat.zero_le _, ct, [], k, ?_, rfl, .nil, hx, hdx⟩ ?_ ?_
  · exact wMap_of hc ⟨_, hb⟩ ⟨_, hn⟩ ⟨_, hnt⟩ fun _ _ _ _ _ _ => rfl
  · rintro i c u m₁ news₁ h tk G own hci hoff ⟨hi, ct', vs, k', ⟨tb', tn', tt', u1, rfl⟩, rfl, hvs, hx', hdx'⟩ F' N' hG'
    rw [hcps] at hci
    have hle := wFold_le (pre.take i)
    rw [List.length_take] at hle
    rcases Nat.lt_or_ge i pre.length with hlt | hge
    · have hpi : pre[i]? = some c := by rw [List.getElem?_append_left hlt] at hci; exact hci
      have hmem : c ∈ pre := List.mem_of_getElem? hpi
      have up : ∀ {σ' : WS} {f : Flow} {s₂ : Shared}, σ' = wFold (pre.take (i + 1)) → PostS h₀ L (wJ m₀ x dx ox od σ') own { s with heap := h, toks := tk, gens := G } Q f s₂ → PostS h₀ L (fun m led => i + 1 ≤ pre.length ∧ wJ m₀ x dx ox od (wFold (pre.take (i + 1))) m led) own { s with heap := h, toks := tk, gens := G } Q f s₂ := by
        rintro σ' f s₂ rfl hp
        have up' : EndS h₀ L (wJ m₀ x dx ox od (wFold (pre.take (i + 1)))) own { s with heap := h, toks := tk, gens := G } s₂ → EndS h₀ L (fun m led => i + 1 ≤ pre.length ∧ wJ m₀ x dx ox od (wFold (pre.take (i + 1))) m led) own { s with heap := h, toks := tk, gens := G } s₂ := by
          rintro ⟨h', tk, G, m', nx, news', e, a1, a2, a3, a4, a5, a6, a7⟩
          exact ⟨h', tk, G, m', nx, news', e, a1, a2, a3, a4, a5, a6, hlt, a7⟩
        cases f with
        | ret v => exact hp
        | brk => exact hp
        | next => exact up' hp
        | cont => exact up' hp
      rcases hpre c hmem with rfl | rfl
      · rw [s32] at F'
        refine wpAny_mono (ws_blank (s := { s with heap := h, toks := tk, gens := G }) (Q := Q) X T hroom hS hvs hx' hdx' hG' F' N' hoff) (fun f s₂ hp => up ?_ hp) fun _ _ z => z
        rw [wFold_succ hpi]; rfl
      · rw [s9] at F'
        refine wpAny_mono (ws_tab (s := { s with heap := h, toks := tk, gens := G }) (Q := Q) X T hroom hS hT (by omega) (by omega) hvs hx' hdx' hG' F' N' hoff) (fun f s₂ hp => up ?_ hp) fun _ _ z => z
        rw [wFold_succ hpi]; rfl
    · have hieq : i = pre.length := by omega
      subst hieq
      rw [List.getElem?_append_right (Nat.le_refl _), Nat.sub_self] at hci
      cases hci
      rw [s120] at F'
      refine ws_end (s := { s with heap := h, toks := tk, gens := G }) X T hroom hS hT hvs hx' hdx' _ F' N' hoff fun tk' m' led F'' N'' hw => ?_
      rw [List.take_length] at hw
      exact hQ h tk' G m' led F'' N'' hw hG'
  · rintro m₁ news₁ h tk G ⟨hi, _⟩
    exfalso
    have : txt.cps.size = pre.length + 3 := by
      rw [← Array.length_toList, htxt]; simp
    omega
end
end Mine

namespace Mine
theorem offG4 : True := by
  w_top off
  trivial
local macro_rules | `(tactic| walk_at "no such place") => `(tactic| skip)
local macro_rules | `(tactic| walk_at "no such place") => `(tactic| skip)
local macro_rules | `(tactic| walk_at "no such place") => `(tactic| skip)
local macro_rules | `(tactic| walk_at "no such place") => `(tactic| skip)
local macro_rules | `(tactic| walk_at "no such place") => `(tactic| skip)
local macro_rules | `(tactic| walk_at "no such place") => `(tactic| skip)
local macro_rules | `(tactic| walk_at $s:str) => `(tactic| k_extra $s)
local macro_rules | `(tactic| walk_at "eval Name") => `(tactic| (k_here; k_dflt (refine' ld ?k1 ?k2 ?_; (case k1 => k_asm); (case k2 => assumption); k_whole)))

theorem tuple_copyK {prog : Program} {w : World} {A : Around} {E : Value → Shared → Prop} {s : Shared} {h₀ : Heap} {L : Addr} {m : Str → Option Value} {Q : Value → Shared → Prop} {news : List (Addr × Obj)} {l : Addr} {items : Array Value} (F : Fr h₀ L s.heap m) (N : News h₀ L s.heap news) (hl : s.heap.IsList l items)
    (h : ∀ D h', Fr h₀ L h' m → News h₀ L h' ((D, ({ cls := .type "tuple", data := .seq items } : Obj)) :: news) → (∀ q ∈ news, @LT.lt Nat _ q.1 D) → Q (.ref D) { s with heap := h' }) (hsz : items.size ≤ sizeLine) :
    wpAny (model prog w) A (call (.type "tuple") [.ref l]) Q E s := by
  refine call_tuple_list hl (fun h' hk => ?_) hsz
  have F' : Fr h₀ L h' m := F.keeps hk
  have N' : News h₀ L h' news := fun p hp => ⟨hk _ _ (N p hp).1, (N p hp).2⟩
  exact h _ _ (F'.push _) (N'.push F' _) fun q hq => Heap.lt_size (N' q hq).1
local macro_rules | `(tactic| walk_at "call type:tuple") => `(tactic| (k_here; (with_reducible show wpAny _ _ (call (Value.type _) [Value.ref _]) _ _ _); k_dflt (refine' tuple_copyK ?k1 ?k2 ?k3 ?_ ?z; (case k1 => k_asm); (case k2 => k_asm); (case k3 => is_list); (case z => size_fits); k_whole); intro D' h' F' N' l1; (try k_lt l1); (try k_sweep)))
/-- what a line that was read leaves: itself, its dict, its norm and its counts -/
def lineNews (w : World) (x dx N C : Addr) (vs : List Value) (b n nt : Int) (txt : Str) (q : Bool) (t t1 t2 t3 t4 t5 tb tn tt : Tok) : List (Addr × Obj) :=
  [(N, { cls := .type "tuple", data := .seq #[.ref C, .int b tb] }), (C, { cls := .type "tuple", data := .seq vs.toArray }), (x, instObj 104 dx),
   (dx, dictOf [⟨PyData.keyHash w.params (Str.ofString "raw"), .str (Str.ofString "raw") t1, .str txt t⟩, ⟨PyData.keyHash w.params (Str.ofString "n"), .str (Str.ofString "n") t2, .int n tn⟩,
     ⟨PyData.keyHash w.params (Str.ofString "nt"), .str (Str.ofString "nt") t3, .int nt tt⟩, ⟨PyData.keyHash w.params (Str.ofString "norm"), .str (Str.ofString "norm") t4, .ref N⟩,
     ⟨PyData.keyHash w.params (Str.ofString "is_simple"), .str (Str.ofString "is_simple") t5, .bool q⟩] 5)]
theorem line_pick {w : World} {h₀ h : Heap} {L x dx N C : Addr} {vs : List Value} {b n nt : Int} {txt : Str} {q : Bool} {t t1 t2 t3 t4 t5 tb tn tt : Tok} {p3 : Addr × Obj}
    (Nw : News h₀ L h [(N, { cls := .type "tuple", data := .seq #[.ref C, .int b tb] }), (C, { cls := .type "tuple", data := .seq vs.toArray }), p3, (x, instObj 104 dx),
   (dx, dictOf [⟨PyData.keyHash w.params (Str.ofString "raw"), .str (Str.ofString "raw") t1, .str txt t⟩, ⟨PyData.keyHash w.params (Str.ofString "n"), .str (Str.ofString "n") t2, .int n tn⟩,
     ⟨PyData.keyHash w.params (Str.ofString "nt"), .str (Str.ofString "nt") t3, .int nt tt⟩, ⟨PyData.keyHash w.params (Str.ofString "norm"), .str (Str.ofString "norm") t4, .ref N⟩,
     ⟨PyData.keyHash w.params (Str.ofString "is_simple"), .str (Str.ofString "is_simple") t5, .bool q⟩] 5)]) :
    ∃ t1 t2 t3 t4 t5, ∀ p ∈ lineNews w x dx N C vs b n nt txt q t t1 t2 t3 t4 t5 tb tn tt, h.get? p.1 = some p.2 ∧ h₀.get? p.1 = none := by
  refine ⟨t1, t2, t3, t4, t5, fun p hp => ?_⟩
  have hp' : _ := Nw p (by
    simp only [lineNews, List.mem_cons, List.mem_nil_iff, or_false] at hp
    rcases hp with rfl | rfl | rfl | rfl
    · exact .head _
    · exact .tail _ (.head _)
    · exact .tail _ (.tail _ (.tail _ (.head _)))
    · exact .tail _ (.tail _ (.tail _ (.tail _ (.head _)))))
  exact ⟨hp'.1, hp'.2.2⟩
theorem pick4 {h₀ h : Heap} {L : Addr} {p1 p2 p3 : Addr × Obj} {dx : Addr} {hh : Int} {nm : Str} {tr : Tok} {v : Value} {n : Nat} (N : News h₀ L h [p1, p2, p3, (dx, dictOf [⟨hh, .str nm tr, v⟩] n)]) : ∃ tr, News h₀ L h [p1, p3, (dx, dictOf [⟨hh, .str nm tr, v⟩] n)] := by
  refine ⟨tr, fun q hq => N q ?_⟩
  simp only [List.mem_cons, List.mem_nil_iff, or_false] at hq
  rcases hq with rfl | rfl | rfl
  · exact .head _
  · exact .tail _ (.tail _ (.head _))
  · exact .tail _ (.tail _ (.tail _ (.head _)))
theorem ws_ok {w : World} {A : Around} {s : Shared} {Q E : Value → Shared → Prop} {p : Program} {loose : List Str} {mean : ExcName → Option Value} {mg mb : Str → Option Value} {txt : Str} {t : Tok} {pre : List Nat}
    (X : (hd.heap_39 w.params).In s.heap) (T : Top p loose mean mg mb s.heap) (hA : A.handled = none) (hroom : A.depth + 4 < recursionLimit) (hb : AllBare s.gens)
    (htxt : txt.cps.toList = pre ++ [120, 32, 9]) (hpre : ∀ c ∈ pre, c = 32 ∨ c = 9) (hlen : pre.length ≤ 1000)
    (hret : ∀ x dx N C vs q t1 t2 t3 t4 t5 tb tn tt h' tk' G, s.heap.StaysIn h' → (∀ p ∈ lineNews w x dx N C vs (wFold pre).b (wFold pre).n (wFold pre).nt txt q t t1 t2 t3 t4 t5 tb tn tt, h'.get? p.1 = some p.2 ∧ s.heap.get? p.1 = none) → IntsAre vs (wFold pre).cs → AllBare G → Q (.ref x) { s with heap := h', toks := tk', gens := G }) :
    wpAny (model PySem.Challenge.pw_st0011_01 w) A (call (.ref 104) [.str txt t]) Q E s := by
  obtain ⟨ahd, adp, afr, agd, aun⟩ := A
  have hA' : ahd = none := hA
  subst hA'
  k_with_none
  k_with "exec For Name Attribute cons nil" => (k_dflt (refine' wpAny_For ?_ ?hs; (case hs => (intro _; with_unfolding_all rfl))))
  refine wpAny_call ?_
  refine' make_S X ?h1 ?h2 ?h3 ?_
  case h1 => k_is
  case h2 => k_is
  case h3 => k_is
  have hz0 : s.heap.get? s.heap.objs.size = none := by
    cases q : s.heap.get? s.heap.objs.size with
    | none => rfl
    | some o' => exact absurd (Heap.lt_size q) (Nat.lt_irrefl _)
  have hz1 : s.heap.get? (s.heap.objs.size + 1) = none := by
    cases q : s.heap.get? (s.heap.objs.size + 1) with
    | none => rfl
    | some o' => exact absurd (Heap.lt_size q) (Nat.not_lt.mpr (Nat.le_succ _))
  refine' enterB (news := [(s.heap.objs.size + 1, instObj 104 s.heap.objs.size), (s.heap.objs.size, dictOf [] 0)]) X T (fun b o e => Heap.get?_push_of_some _ (Heap.get?_push_of_some _ e)) (by show _ ≤ ((s.heap.push _).push _).objs.size; rw [Heap.size_push, Heap.size_push]; exact Nat.le_succ_of_le (Nat.le_succ _)) ?hn ?k6 ?k7 ?k8 ?k9 ?kB ?_ ?c2 ?c3 ?c4 ?c5
  case hn =>
    intro q hq
    simp only [List.mem_cons, List.mem_nil_iff, or_false] at hq
    rcases hq with rfl | rfl
    · refine ⟨?_, hz1⟩
      have e : (s.heap.push (dictOf [] 0)).objs.size = s.heap.objs.size + 1 := Heap.size_push ..
      show ((s.heap.push (dictOf [] 0)).push _).get? (s.heap.objs.size + 1) = _
      rw [← e]
      exact Heap.get?_push_size _ rfl
    · exact ⟨Heap.get?_push_of_some _ (Heap.get?_push_size _ rfl), hz0⟩
  case k6 => k_is
  case k7 => k_is
  case k8 =>
    rw [depth_under_make]
    have := hroom
    dsimp only at this ⊢
    omega
  case k9 => exact BindsTo.of_eq rfl
  case kB => exact locs rfl
  case c2 => rfl
  case c3 => rfl
  case c4 => rfl
  case c5 => decide
  intro L' h' F' N'
  (try dsimp only)
  generalize hx : s.heap.objs.size + 1 = x at *
  generalize hdx : s.heap.objs.size = dx at *
  have hlt : @LT.lt Nat _ dx x := by omega
  (try k_fold)
  k_steps
  with_reducible rename Fr _ _ _ _ => F9
  with_reducible rename News _ _ _ _ => N9
  obtain ⟨tr, N8⟩ := pick4 N9
  refine ws_for (pre := pre) (ox := instObj 104 dx) (x := x) (dx := dx) X T rfl (by rw [depth_deeper, depth_under_make]; dsimp only at hroom ⊢; omega) rfl rfl rfl rfl rfl rfl htxt hpre hlen ?_ ?_ hb F9 N8 fun h' tk' G m' led F2 N2 hw hG => ?_
  · k_ne
  · k_ne
  · obtain ⟨ct, vs, k, ⟨tb, tn, tt, u1, rfl⟩, rfl, hI, hcx, hcd⟩ := hw
    dsimp only
    clear F9 N9 N8
    generalize hσ : wFold pre = σ at *
    have hlv : vs.length ≤ 1001 := by
      rw [IntsAre.length hI, ← hσ]
      have := wFold_le pre
      omega
    have hlv' : vs.length ≤ sizeLine := by rw [sizeLine_eq]; omega
    have hlc : σ.cs.length ≤ 1001 := by
      rw [← hσ]
      have := wFold_le pre
      omega
    clear hσ
    obtain ⟨cs, b, n, nt⟩ := σ
    dsimp only at *
    k_steps
    with_reducible rename Fr _ _ _ _ => F9
    with_reducible rename News _ _ _ _ => N9
    obtain ⟨t1, t2, t3, t4, t5, hN⟩ := line_pick N9
    (first | exact .inl ⟨rfl, hret x dx _ _ vs _ t1 t2 t3 t4 t5 tb tn tt _ _ _ F9.keep hN hI hG⟩ | exact ⟨rfl, hret x dx _ _ vs _ t1 t2 t3 t4 t5 tb tn tt _ _ _ F9.keep hN hI hG⟩)
    -- exact hret x dx _ _ vs _ t1 t2 t3 t4 t5 tb tn tt _ _ _ F9.keep hN hI hG
end Mine

namespace Mine
theorem offG5 : True := by
  w_top off
  trivial
theorem rs_one {a b : Int} : Builtin.Range.rangeSize a b 1 = (((b - a).toNat : Nat) : Int) := by
  unfold Builtin.Range.rangeSize
  rw [if_pos (by decide)]
  split <;> omega
/-- a loop over a range with step one; the generators may change -/
theorem for_range {prog : Program} {w : World} {A : Around} {h₀ : Heap} {s : Shared} {r : Addr} {a b : Int} {t u v : Tok} {L : Addr} {m₀ : Str → Option Value} {news : List (Addr × Obj)} {env : Env} {x : Str} {px : Pos} {body : List Stmt} {Q : Flow → Shared → Prop} {E : Value → Shared → Prop}
    (hA : A.handled = none) (hL : env.locals = L) (hx : env.kindOf x = some .local) (hp : (env.scope.kind == .class || (env.scope.kind == .module && env.locals != env.globals)) = false)
    (R : IsRange s.heap r a b 1 t u v) (ha : 0 ≤ a) (ha' : a ≤ 2000) (hb : 0 ≤ b) (hb' : b ≤ 2000)
    (F : Fr h₀ L s.heap m₀) (Nw : News h₀ L s.heap news) (hbare : AllBare s.gens)
    (J : Nat → (Str → Option Value) → List (Addr × Obj) → Prop) (hj : J 0 m₀ news)
    (turn : ∀ (i : Nat) u m₁ news₁ h tk G own, a + i < b → OwnOff own (news₁.map (·.1)) → J i m₁ news₁ → Fr h₀ L h (fun y => if y = x then some (.int (a + i) u) else m₁ y) → News h₀ L h (news₁ ++ own) → AllBare G →
      wpAny (model prog w) A (execs body env) (PostS h₀ L (J (i + 1)) own { s with heap := h, toks := tk, gens := G } Q) (fun _ _ => False) { s with heap := h, toks := tk, gens := G })
    (done : ∀ m₁ news₁ h tk G, J (b - a).toNat m₁ news₁ → Fr h₀ L h m₁ → News h₀ L h news₁ → AllBare G → Q .next { s with heap := h, toks := tk, gens := G }) :
    wpAny (model prog w) A (pyIter (.ref r)) (fun it s₂ => codeAny (model prog w) A (.forLoop (.Name x px) it body [] env) (fun r s' => match r with | .ok f => Q f s' | .error e => cameBackBy (model prog w) A env E e s') s₂) E s := by
  have hLs : @LT.lt Nat _ L s.heap.objs.size := F.ns.lt
  have hb0 : h₀.objs.size ≤ s.heap.objs.size := Nat.le_of_lt (Nat.lt_of_le_of_lt F.above hLs)
  have hI0 : h₀.get? s.heap.objs.size = none := by
    cases q : h₀.get? s.heap.objs.size with
    | none => rfl
    | some o' => exact absurd (Heap.lt_size q) (Nat.not_lt.mpr hb0)
  have hIn : s.heap.objs.size ∉ news.map (·.1) := fun hm => by
    obtain ⟨q, hq, e⟩ := List.mem_map.mp hm
    exact absurd (Heap.lt_size (Nw q hq).1) (by rw [e]; exact Nat.lt_irrefl _)
  refine wpAny_pyIter_range R (small_one (by omega) (by omega) (by omega) (by omega)) ?_
  rw [rs_one]
  refine codeAny_mono (loop_walks (s := { s with heap := s.heap.push _ }) (m₀ := m₀) (news := news) (Q := Q) (Walks.range hA s.heap.objs.size a 1 (b - a).toNat) hL hx hp ⟨Nat.ne_of_gt hLs, hI0⟩ hIn ?_ (F.push _) (fun q hq => News.push F Nw _ rfl q (.tail _ hq)) hbare J hj (fun i h st => ⟨_, st⟩)
      (fun i v m₁ news₁ h tk G own hi hP hso hJ F' N' hG => ?_) done) fun r s' hr => ?_
  · show Heap.get? _ _ = _
    rw [Heap.get?_push_size _ rfl]
    simp
  · obtain ⟨u, rfl⟩ := hP
    rw [Int.mul_one] at F'
    exact turn i u m₁ news₁ h tk G own (by omega) hso hJ F' N' hG
  · cases r with
    | ok f => exact hr
    | error e => exact hr.elim
end Mine

namespace Mine
theorem offH1 : True := by
  w_top off
  trivial
local macro_rules | `(tactic| walk_at $s:str) => `(tactic| k_extra $s)

theorem len_tupI {prog : Program} {w : World} {A : Around} {E : Value → Shared → Prop} {s : Shared} {h₀ : Heap} {L : Addr} {news : List (Addr × Obj)} {c : Addr} {vs : List Value} {cs : List Int} {Q : Value → Shared → Prop} (N : News h₀ L s.heap news) (hm : (c, ({ cls := .type "tuple", data := .seq vs.toArray } : Obj)) ∈ news)
    (hI : IntsAre vs cs) (hz : cs.length ≤ 1001) (h : Q (.int (cs.length : Int) (s.toks + 1)) { s with toks := s.toks + 1 + 1 }) : wpAny (model prog w) A (call (.builtin "len") [.ref c]) Q E s := by
  have e : vs.toArray.size = cs.length := by rw [List.size_toArray, IntsAre.length hI]
  refine PyProof.Rows.len_tuple (News.isTup N hm) (by rw [e]; omega) ?_
  rw [e]; exact h
local macro_rules | `(tactic| walk_at "call builtin:len") => `(tactic| (k_here; (with_reducible show wpAny _ _ (call (Value.builtin "len") [Value.ref _]) _ _ _); k_dflt (refine' len_tupI ?k1 ?k2 ?k3 ?k4 ?_; (case k1 => k_asm); (case k2 => k_mem); (case k3 => with_reducible assumption); (case k4 => with_reducible assumption); k_whole)))
local macro_rules | `(tactic| walk_at "eval Name") => `(tactic| (k_here; k_dflt (refine' ld ?k1 ?k2 ?_; (case k1 => k_asm); (case k2 => assumption); k_whole)))
def vStmts : List Stmt := match wClass.drop 3 with | .FunctionDef _ _ b _ _ _ _ _ _ _ :: _ => b | _ => []
def vScope : Scope := match wClass.drop 3 with | .FunctionDef _ _ _ _ _ _ sc _ _ _ :: _ => sc | _ => default
def vBody : List Stmt := match vStmts with | [_, _, .For _ _ b _ _, _] => b | _ => []
abbrev vEnv (L : Addr) : Env := envOf (Str.ofString "Whitespace.indent_level") vScope L 73 (.ref 72)

def vMap (m₀ : Str → Option Value) (il : Int) (ti : Tok) (u1 : Option Value) : Str → Option Value := fun y =>
  if y = Str.ofString "il" then some (.int il ti) else if y = Str.ofString "i" then u1 else m₀ y
theorem vMap_of {m' m₀ : Str → Option Value} {il : Int} (hc : ∃ t, m' (Str.ofString "il") = some (.int il t))
    (hr : ∀ y, y ≠ Str.ofString "il" → y ≠ Str.ofString "i" → m' y = m₀ y) : ∃ ti u1, m' = vMap m₀ il ti u1 := by
  obtain ⟨ti, hc⟩ := hc
  refine ⟨ti, m' (Str.ofString "i"), funext fun y => ?_⟩
  unfold vMap
  by_cases h1 : y = Str.ofString "il"
  · rw [if_pos h1, h1, hc]
  rw [if_neg h1]
  by_cases h2 : y = Str.ofString "i"
  · rw [if_pos h2, h2]
  rw [if_neg h2]
  exact hr y h1 h2
/-- the weight of the first counts from the tab size on -/
def lvl (ts : Int) (cs : List Int) : Nat → Int
  | 0 => 0
  | i + 1 => lvl ts cs i + (ts + i) / ts * cs.getD (ts + i).toNat 0
def vJ (m₀ : Str → Option Value) (led : List (Addr × Obj)) (ts : Int) (cs : List Int) (i : Nat) (m : Str → Option Value) (l : List (Addr × Obj)) : Prop :=
  l = led ∧ ∃ ti u1, m = vMap m₀ (lvl ts cs i) ti u1
theorem tup_get {s : Shared} {h₀ : Heap} {L : Addr} {news : List (Addr × Obj)} {c : Addr} {vs : List Value} (N : News h₀ L s.heap news) (hm : (c, ({ cls := .type "tuple", data := .seq vs.toArray } : Obj)) ∈ news) : IsTup s.heap c vs.toArray := News.isTup N hm

theorem lvl_factor {ts : Int} {i : Nat} (h2 : 1 ≤ ts) (hi : ts + (i : Int) ≤ 1001) : 0 ≤ (ts + (i : Int)).fdiv ts ∧ (ts + (i : Int)).fdiv ts ≤ 1001 := by
  rw [Int.fdiv_eq_ediv_of_nonneg _ (by omega)]
  refine ⟨Int.ediv_nonneg (by omega) (by omega), ?_⟩
  exact Int.le_trans (Int.ediv_le_self _ (by omega)) hi
theorem getD_bound {cs : List Int} (hcs : ∀ v ∈ cs, 0 ≤ v ∧ v ≤ 1000) (k : Nat) : 0 ≤ cs.getD k 0 ∧ cs.getD k 0 ≤ 1000 := by
  rw [List.getD_eq_getElem?_getD]
  cases h : cs[k]? with
  | none => simp
  | some v => exact hcs v (List.mem_of_getElem? h)
theorem lvl_bound {ts : Int} {cs : List Int} (h2 : 1 ≤ ts) (hcs : ∀ v ∈ cs, 0 ≤ v ∧ v ≤ 1000) : ∀ i : Nat, ts + (i : Int) ≤ 1001 → 0 ≤ lvl ts cs i ∧ lvl ts cs i ≤ 1001000 * (i : Int)
  | 0, _ => by simp [lvl]
  | i + 1, h => by
    have ih := lvl_bound h2 hcs i (by omega)
    have hd := lvl_factor (ts := ts) (i := i) h2 (by omega)
    rw [Int.fdiv_eq_ediv_of_nonneg _ (by omega)] at hd
    have hc := getD_bound hcs (ts + i).toNat
    show 0 ≤ lvl ts cs i + _ ∧ _
    have p1 := Int.mul_nonneg hd.1 hc.1
    have p2 : (ts + (i : Int)) / ts * cs.getD (ts + i).toNat 0 ≤ 1001 * 1000 := Int.mul_le_mul hd.2 hc.2 hc.1 (by omega)
    refine ⟨by omega, ?_⟩
    show lvl ts cs i + _ ≤ _
    rw [Int.natCast_succ, Int.mul_add]
    omega
theorem level_turn {w : World} {A : Around} {s : Shared} {Q : Flow → Shared → Prop} {p : Program} {loose : List Str} {mean : ExcName → Option Value} {mg mb : Str → Option Value} {ts : Int} {t1 tu ti : Tok} {h₀ : Heap} {L C : Addr} {led own : List (Addr × Obj)} {vs : List Value} {cs : List Int}
    {m₀ : Str → Option Value} {u1 : Option Value} {i : Nat}
    (X : (hd.heap_39 w.params).In h₀) (T : Top p loose mean mg mb h₀) (hroom : A.depth + 1 < recursionLimit)
    (h2 : 1 ≤ ts) (h3 : ts ≤ 5) (hlen : cs.length ≤ 1001) (hi : ts + (i : Int) < cs.length) (hI : IntsAre vs cs) (hcs : ∀ v ∈ cs, 0 ≤ v ∧ v ≤ 1000)
    (hts : m₀ (Str.ofString "tabsize") = some (.int ts t1)) (hct : m₀ (Str.ofString "count") = some (.ref C))
    (F : Fr h₀ L s.heap (fun y => if y = Str.ofString "i" then some (.int (ts + i) tu) else (fun y => if y = Str.ofString "il" then some (.int (lvl ts cs i) ti) else if y = Str.ofString "i" then u1 else m₀ y) y))
    (N : News h₀ L s.heap ((C, { cls := .type "tuple", data := .seq vs.toArray }) :: led ++ own)) (hoff : OwnOff own ((((C, { cls := .type "tuple", data := .seq vs.toArray }) :: led : List (Addr × Obj))).map (·.1))) (hG : AllBare s.gens) :
    wpAny (model PySem.Challenge.pw_st0011_01 w) A (execs vBody (vEnv L)) (PostS h₀ L (vJ m₀ ((C, { cls := .type "tuple", data := .seq vs.toArray }) :: led) ts cs (i + 1)) own s Q) (fun _ _ => False) s := by
  k_with_none
  have hi0 : (0 : Int) ≤ i := Int.natCast_nonneg i
  generalize hM : model PySem.Challenge.pw_st0011_01 w = M
  delta vBody vStmts wClass PySem.Challenge.pw_st0011_01
  dsimp only [List.drop]
  subst hM
  (try k_fold)
  obtain ⟨hd0, hd1⟩ := lvl_factor (ts := ts) (i := i) h2 (by omega)
  obtain ⟨hc0, hc1⟩ := getD_bound hcs (ts + (i : Int)).toNat
  obtain ⟨hl0, hl1⟩ := lvl_bound h2 hcs i (by omega)
  have hstep : lvl ts cs (i + 1) = lvl ts cs i + (ts + i).fdiv ts * cs.getD (ts + i).toNat 0 := by
    rw [Int.fdiv_eq_ediv_of_nonneg _ (by omega)]; rfl
  k_steps
  generalize (ts + (i : Int)).fdiv ts = d at *
  generalize hcv : cs.getD (ts + (i : Int)).toNat 0 = c at *
  have hp0 := Int.mul_nonneg hd0 hc0
  have hp1 : d * c ≤ 1001 * 1000 := Int.mul_le_mul hd1 hc1 hc0 (by omega)
  k_steps
  with_reducible rename Fr _ _ _ _ => F9
  with_reducible rename News _ _ _ _ => N9
  refine EndS.intro (nx := (C, { cls := .type "tuple", data := .seq vs.toArray }) :: led) F9 N9 (fun q hq => List.mem_append_left own hq) (fun q hq => List.mem_append_right ((C, { cls := .type "tuple", data := .seq vs.toArray }) :: led) hq) hoff hG ⟨rfl, ?_⟩
  rw [hstep]
  refine vMap_of ⟨_, rfl⟩ fun y a1 a2 => ?_
  simp only [a1, a2, if_false]
theorem news_swap {h₀ h : Heap} {L : Addr} {p q : Addr × Obj} {l : List (Addr × Obj)} (N : News h₀ L h (p :: q :: l)) : News h₀ L h (q :: p :: l) := fun r hr => N r (by
  rcases List.mem_cons.mp hr with rfl | hr
  · exact .tail _ (.head _)
  rcases List.mem_cons.mp hr with rfl | hr
  · exact .head _
  · exact .tail _ (.tail _ hr))
theorem back_in {h g : Heap} {as : List Addr} (hb : (hideAll h as).StaysIn g) (hl : ∀ a ∈ as, ∀ o, h.get? a = some o → g.get? a = some o) : h.StaysIn g := fun a o e => by
  by_cases ha : a ∈ as
  · exact hl a ha o e
  · exact hb a o (hideAll_get _ e ha)
theorem news_drop {h₀ h : Heap} {L : Addr} {p : Addr × Obj} {l : List (Addr × Obj)} (N : News h₀ L h (p :: l)) : News h₀ L h l := fun q hq => N q (.tail _ hq)
theorem level_ok {w : World} {A : Around} {s : Shared} {Q E : Value → Shared → Prop} {p : Program} {loose : List Str} {mean : ExcName → Option Value} {mg mb : Str → Option Value} {h₀ : Heap} {ts : Int} {tts : Tok}
    {x dx N C : Addr} {vs : List Value} {cs : List Int} {b n nt : Int} {txt : Str} {isq : Bool} {t t1 t2 t3 t4 t5 tb tn tt : Tok}
    (X : (hd.heap_39 w.params).In h₀) (T : Top p loose mean mg mb h₀) (hs0 : h₀.StaysIn s.heap) (hA : A.handled = none) (hroom : A.depth + 2 < recursionLimit) (hG : AllBare s.gens)
    (hn : ∀ p ∈ lineNews w x dx N C vs b n nt txt isq t t1 t2 t3 t4 t5 tb tn tt, s.heap.get? p.1 = some p.2 ∧ h₀.get? p.1 = none)
    (hI : IntsAre vs cs) (hcs : ∀ v ∈ cs, 0 ≤ v ∧ v ≤ 1000) (hlen : cs.length ≤ 1001) (hb0 : 0 ≤ b) (hb1 : b ≤ 1000) (hnt0 : 0 ≤ nt) (hnt1 : nt ≤ 1000) (hts0 : 1 ≤ ts) (hts1 : ts ≤ 5)
    (hret : ∀ t' h' tk' G, s.heap.StaysIn h' → AllBare G → Q (.int (b + ts * (lvl ts cs ((cs.length : Int) - ts).toNat + nt)) t') { s with heap := h', toks := tk', gens := G }) :
    wpAny (model PySem.Challenge.pw_st0011_01 w) A (call (.ref 73) [.ref x, .int ts tts]) Q E s := by
  obtain ⟨ahd, adp, afr, agd, aun⟩ := A
  have hA' : ahd = none := hA
  subst hA'
  k_with_none
  k_with "exec For Name Call cons nil" => (k_dflt (refine' wpAny_For ?_ ?hs; (case hs => (intro _; with_unfolding_all rfl))))
  have hst : h₀.StaysIn (hideAll s.heap [N, C, x, dx]) := fun a o e => hideAll_get _ (hs0 a o e) (by
    intro hm
    have : h₀.get? a = none := by
      simp only [List.mem_cons, List.mem_nil_iff, or_false] at hm
      rcases hm with rfl | rfl | rfl | rfl
      · exact (hn _ (.head _)).2
      · exact (hn _ (.tail _ (.head _))).2
      · exact (hn _ (.tail _ (.tail _ (.head _)))).2
      · exact (hn _ (.tail _ (.tail _ (.tail _ (.head _))))).2
    rw [this] at e; cases e)
  have hk0 : ∀ q ∈ lineNews w x dx N C vs b n nt txt isq t t1 t2 t3 t4 t5 tb tn tt, s.heap.get? q.1 = some q.2 ∧ (hideAll s.heap [N, C, x, dx]).get? q.1 = none := fun r hr => ⟨(hn r hr).1, hideAll_none _ (by
    simp only [lineNews, List.mem_cons, List.mem_nil_iff, or_false] at hr
    rcases hr with rfl | rfl | rfl | rfl <;> simp)⟩
  have hX := X.keeps hst
  have hT := T.keeps hst
  have hbs : (hideAll s.heap [N, C, x, dx]).StaysIn s.heap := fun a o e => of_hideAll _ e
  have hsz : (hideAll s.heap [N, C, x, dx]).objs.size ≤ s.heap.objs.size := Nat.le_of_eq (hideAll_size _ _)
  generalize hbase : hideAll s.heap [N, C, x, dx] = base at *
  clear X T hst
  refine wpAny_call ?_
  refine' enterB (news := lineNews w x dx N C vs b n nt txt isq t t1 t2 t3 t4 t5 tb tn tt) hX hT hbs hsz hk0 ?k6 ?k7 ?k8 ?k9 ?kB ?_ ?c2 ?c3 ?c4 ?c5
  case k6 => k_is
  case k7 => k_is
  case k8 => omega
  case k9 => exact BindsTo.of_eq rfl
  case kB => exact locs rfl
  case c2 => rfl
  case c3 => rfl
  case c4 => rfl
  case c5 => decide
  intro L' h' F' N'
  (try dsimp only)
  unfold lineNews at N'
  (try k_fold)
  k_steps
  with_reducible rename IsRange _ _ _ _ _ _ _ _ => R9
  with_reducible rename Fr _ _ _ _ => F9
  with_reducible rename News _ _ _ _ => N9
  have N8 := news_swap N9
  clear N9
  refine for_range rfl rfl rfl rfl R9 (by omega) (by omega) (by omega) (by omega) F9 N8 hG (vJ _ _ ts cs) ⟨rfl, vMap_of ⟨_, rfl⟩ fun _ _ _ => rfl⟩ ?_ ?_
  · rintro i u m₁ news₁ h tk G own hi hoff ⟨rfl, ti, u1, rfl⟩ F' N' hG'
    exact level_turn hX hT (by rw [depth_deeper]; dsimp only at hroom ⊢; omega) hts0 hts1 hlen hi hI hcs rfl rfl F' N' hoff hG'
  · rintro m₁ news₁ h tk G ⟨rfl, ti, u1, rfl⟩ F' N' hG'
    dsimp only
    obtain ⟨hl0, hl1⟩ := lvl_bound hts0 hcs ((cs.length : Int) - ts).toNat (by omega)
    generalize lvl ts cs ((cs.length : Int) - ts).toNat = V at *
    k_steps
    refine hret _ h _ G (back_in (as := [N, C, x, dx]) (hbase ▸ F'.keep) fun a ha o e => ?_) hG'
    have hall : ∀ r ∈ lineNews w x dx N C vs b n nt txt isq t t1 t2 t3 t4 t5 tb tn tt, h.get? r.1 = some r.2 := fun r hr => (N' r (by
      unfold lineNews at hr
      simp only [List.mem_cons, List.mem_nil_iff, or_false] at hr ⊢
      rcases hr with rfl | rfl | rfl | rfl
      · exact .inr (.inl rfl)
      · exact .inl rfl
      · exact .inr (.inr (.inl rfl))
      · exact .inr (.inr (.inr rfl)))).1
    have look : ∀ r ∈ lineNews w x dx N C vs b n nt txt isq t t1 t2 t3 t4 t5 tb tn tt, r.1 = a → h.get? a = some o := fun r hr ea => by
      subst ea
      have e2 := (hk0 r hr).1
      rw [e] at e2
      cases e2
      exact hall r hr
    simp only [List.mem_cons, List.mem_nil_iff, or_false] at ha
    rcases ha with rfl | rfl | rfl | rfl
    · exact look _ (.head _) rfl
    · exact look _ (.tail _ (.head _)) rfl
    · exact look _ (.tail _ (.tail _ (.head _))) rfl
    · exact look _ (.tail _ (.tail _ (.tail _ (.head _)))) rfl
end Mine

namespace Mine
theorem offCP : True := by
  w_top off
  trivial

/-- all that an element may change: new objects, tokens, generators that hold nothing -/
def KeepsG (s s' : Shared) : Prop := ∃ h tk G, s' = { s with heap := h, toks := tk, gens := G } ∧ s.heap.StaysIn h ∧ AllBare G

section
variable {prog : Program} {w : World} {A : Around} {E : Value → Shared → Prop} {env : Env}

theorem compLoop_G {s : Shared} {R : Result → Shared → Prop} {elt iter : Expr} {x : Str} {px : Pos} {scope : Scope} {pos : Pos} {I D : Addr} {fp wr : List Addr} {n : Nat} {P : Nat → Value → Prop} {St : Nat → Heap → Prop}
    {cenv : Env} {m : Str → Option Value} (W : Walks prog w A I fp wr n P St) (Pe : Nat → Value → Prop)
    (hx : cenv.kindOf x = some .local) (hp : (cenv.scope.kind == .class || (cenv.scope.kind == .module && cenv.locals != cenv.globals)) = false)
    (hDC : D ≠ cenv.locals) (hDf : D ∉ fp) (hCf : cenv.locals ∉ fp)
    (hst : St 0 s.heap) (hacc : s.heap.PlainList D #[]) (hn : s.heap.Ns cenv.locals m) (hG : AllBare s.gens)
    (helt : ∀ i v s₂ m₂, P i v → s₂.heap.Ns cenv.locals m₂ → m₂ x = some v → (∀ b o, b ≠ cenv.locals → b ∉ wr → b ≠ D → s.heap.get? b = some o → s₂.heap.get? b = some o) → AllBare s₂.gens →
      wpAny (model prog w) A (eval elt cenv) (fun y s₃ => Pe i y ∧ KeepsG s₂ s₃) (notedBy (model prog w) A cenv fun e s' => R (.error e) s') s₂)
    (hR : ∀ h' tk G m' (ys : List Value), h'.Ns cenv.locals m' → h'.PlainList D ys.toArray → ys.length = n → (∀ j v, ys[j]? = some v → Pe j v) → AllBare G →
      (∀ b o, b ≠ cenv.locals → b ∉ wr → b ≠ D → s.heap.get? b = some o → h'.get? b = some o) → R (.ok .next) { s with heap := h', toks := tk, gens := G })
    (hsz : n ≤ 1000) :
    codeAny (model prog w) A (.compLoop (.ListComp elt [⟨.Name x px, iter, [], 0⟩] scope pos) 0 (.ref I) (.ref D) cenv) R s := by
  refine codeAny_compLoop_list
    (fun k s' => ∃ h' tk G m', ∃ ys : List Value, s' = { s with heap := h', toks := tk, gens := G } ∧ St ys.length h' ∧ h'.PlainList D ys.toArray ∧ h'.Ns cenv.locals m' ∧ (∀ j v, ys[j]? = some v → Pe j v) ∧
      ys.length ≤ n ∧ k = n + 1 - ys.length ∧ AllBare G ∧
      (∀ b o, b ≠ cenv.locals → b ∉ wr → b ≠ D → s.heap.get? b = some o → h'.get? b = some o)) ?_ (n + 1)
    ⟨s.heap, s.toks, s.gens, m, [], rfl, hst, hacc, hn, by simp, Nat.zero_le _, rfl, hG, fun _ _ _ _ _ e => e⟩
  rintro k s' ⟨H, tk, G, m', ys, rfl, hst', hacc', hn', hP, hi, rfl, hG', hk⟩
  have hCw : cenv.locals ∉ wr := fun h => hCf (W.sub _ h)
  have hDw : D ∉ wr := fun h => hDf (W.sub _ h)
  by_cases hlt : ys.length < n
  · refine W.item ys.length _ _ _ hlt hst' fun v h₁ tk₁ hPv hst₁ hk₁ => ?_
    refine wpAny_assign_Name (wpAny_storeName_local hx (hn'.at' fun o e => hk₁ _ o hCw e) (fun h₂ hn₂ hs₂ => ?_) hp)
    have up₂ : ∀ b o, b ≠ cenv.locals → b ∉ wr → H.get? b = some o → h₂.get? b = some o := fun b o hbC hbf e => hs₂.extBut b o hbC (hk₁ b o hbf e)
    have hst₂ : St (ys.length + 1) h₂ := W.frame _ _ _ hst₁ fun b hb o e => hs₂.extBut b o (fun h => hCf (h ▸ hb)) e
    refine wpAny_mono (helt ys.length v _ _ hPv hn₂ (by simp) (fun b o hbC hbf hbD e => up₂ b o hbC hbf (hk b o hbC hbf hbD e)) hG') (fun y s₄ h₄ => ?_) fun _ _ e => e
    obtain ⟨hFy, h₄, tk₄, G₄, rfl, hk₄, hG₄⟩ := h₄
    have hacc₄ : h₄.PlainList D ys.toArray := hacc'.at fun o e => hk₄ _ o (up₂ D o hDC hDw e)
    refine wpAny_list_append_plain (hsz := by rw [List.size_toArray, sizeLine_eq]; omega) hacc₄ fun h₅ hl₅ hs₅ => ?_
    have hl5 : h₅.PlainList D (ys ++ [y]).toArray := by simpa using hl₅
    refine ⟨n + 1 - (ys.length + 1), by omega, h₅, tk₄, G₄, _, ys ++ [y], rfl, ?_, hl5, (hn₂.keeps hk₄).sameBut hs₅ (Ne.symm hDC), fun j u hj => ?_, (by rw [List.length_append, List.length_singleton]; exact hlt), (by rw [List.length_append, List.length_singleton]), hG₄,
      fun b o hbC hbf hbD e => hs₅.extBut b o hbD (hk₄ b o (up₂ b o hbC hbf (hk b o hbC hbf hbD e)))⟩
    · have := W.frame _ _ h₅ hst₂ fun b hb o e => hs₅.extBut b o (fun h => hDf (h ▸ hb)) (hk₄ b o e)
      simpa using this
    · rcases Nat.lt_trichotomy j ys.length with h | h | h
      · exact hP j u (by rwa [List.getElem?_append_left h] at hj)
      · subst h; simp at hj; subst hj; exact hFy
      · have hnone : (ys ++ [y])[j]? = none := List.getElem?_eq_none (by rw [List.length_append, List.length_singleton]; omega)
        rw [hnone] at hj; cases hj
  · have hin : ys.length = n := by omega
    refine W.done _ _ _ (hin ▸ hst') fun h₁ tk₁ hk₁ => ?_
    exact hR h₁ tk₁ G m' ys (hn'.at' fun o e => hk₁ _ o hCw e) (hacc'.at fun o e => hk₁ _ o hDw e) hin hP hG' fun b o hbC hbf hbD e => hk₁ b o hbf (hk b o hbC hbf hbD e)

theorem comp_assign {s : Shared} {h₀ : Heap} {L : Addr} {m₀ : Str → Option Value} {led : List (Addr × Obj)} {elt iter : Expr} {x y : Str} {px py : Pos} {scope : Scope} {cl : List (Str × Addr)} {pos spos : Pos} {Q : Flow → Shared → Prop} {rl : Addr} {rs : List Value} {k : Nat} (Pe : Nat → Value → Prop)
    (hsw : swapsWith (.ListComp elt [⟨.Name x px, iter, [], 0⟩] scope pos) (some (.Name y py)) spos.line env = pure true)
    (hclos : closureFor scope env = pure cl) (hcell : ∀ z ∈ scope.names, z.2 ≠ .cell) (hkind : scope.kind = .function)
    (hnames : ∀ z ∈ scope.names, z.2 = .local → scope.names.lookup z.1 = some .local) (hx : scope.names.lookup x = some .local)
    (hy : env.kindOf y = some .local) (hp : (env.scope.kind == .class || (env.scope.kind == .module && env.locals != env.globals)) = false)
    (hs : ∀ x, foldedSetIterable iter env x = pure x) (hA : A.handled = none) (hL : env.locals = L)
    (hiter : ∀ Q' : Value → Shared → Prop, Q' (.ref rl) s → wpAny (model prog w) A (eval iter env) Q' E s)
    (F : Fr h₀ L s.heap m₀) (N : News h₀ L s.heap led) (hl : (rl, PySem.W.listOf rs.toArray k) ∈ led) (hsz : rs.length ≤ 1000) (hG : AllBare s.gens)
    (helt : ∀ i v C s₃ m₃ E', rs[i]? = some v → m₃ x = some v → Fr h₀ C s₃.heap m₃ → News h₀ C s₃.heap led → AllBare s₃.gens → (∀ q ∈ led, @LT.lt Nat _ q.1 C) →
      wpAny (model prog w) A (eval elt (compEnvC scope cl C env)) (fun y s₄ => Pe i y ∧ KeepsG s₃ s₄) E' s₃)
    (hQ : ∀ D n h' tk' G ys, Fr h₀ L h' (fun z => if z = y then some (.ref D) else m₀ z) → News h₀ L h' ((D, PySem.W.listOf (List.toArray ys) n) :: led) → (∀ q ∈ led, @LT.lt Nat _ q.1 D) → ys.length = rs.length → (∀ i v, ys[i]? = some v → Pe i v) → AllBare G →
      Q .next { s with heap := h', toks := tk', gens := G }) :
    wpAny (model prog w) A (exec (.Assign [.Name y py] (.ListComp elt [⟨.Name x px, iter, [], 0⟩] scope pos) spos) env) Q E s := by
  subst hL
  rw [exec_Assign_Name_used _ _ _ _ hsw]
  refine wpAny_bind (wpAny_standAt (wpAny_bind ?_))
  show wpAny _ A (do let _ ← comprehension (.ListComp elt [⟨.Name x px, iter, [], 0⟩] scope pos) scope env _ (newList []) false (eval iter env) (some (assign (.Name y py) env))) _ _ s
  refine wpAny_bind (wpAny_mono (wpAny_comprehension_free (use := some (assign (.Name y py) env)) (Q := fun _ s' => Q .next s') rfl hs hclos hkind hnames
    (hiter _ ?_)) (fun _ s' hq => wpAny_pure (wpAny_pure hq)) fun _ _ e => e)
  have hlist : s.heap.IsList rl rs.toArray := News.isList N hl
  refine wpAny_pyIter_list hlist ?_
  generalize hH1 : s.heap.push { cls := .type "list_iterator", data := .fields #[.ref rl, .int 0 0] } = H1
  have hI : H1.get? s.heap.objs.size = some { cls := .type "list_iterator", data := .fields #[.ref rl, .int 0 0] } := hH1 ▸ Heap.get?_push_size _ rfl
  have hS1 : H1.objs.size = s.heap.objs.size + 1 := by rw [← hH1, Heap.size_push]
  have old1 : ∀ b o, s.heap.get? b = some o → H1.get? b = some o := fun b o e => hH1 ▸ Heap.get?_push_of_some _ e
  refine wpAny_newObj_type (wpAny_newFunctionEnv hcell (by intro y hy; simp at hy) (fun h₁ hns₁ hsb₁ => ?_) hkind)
  dsimp only at hns₁ hsb₁ ⊢
  generalize hH2 : H1.push { cls := .type "list", dict := none, data := .seq ([] : List Value).toArray } = H2 at hns₁ hsb₁ ⊢
  have hS2 : H2.objs.size = s.heap.objs.size + 2 := by rw [← hH2, Heap.size_push, hS1]
  have lt0 : ∀ {b o}, s.heap.get? b = some o → @LT.lt Nat _ b s.heap.objs.size := fun e => Heap.lt_size e
  have old : ∀ b o, H1.get? b = some o → h₁.get? b = some o := fun b o e => hsb₁.extBut b o (by
    have hb1 : @LT.lt Nat _ b H1.objs.size := Heap.lt_size e
    intro hb; rw [hb, hS1, hS2] at hb1; exact absurd hb1 (by omega)) (Heap.get?_push_of_some _ (hH2 ▸ Heap.get?_push_of_some _ e))
  have hDC : H1.objs.size ≠ H2.objs.size := by rw [hS1, hS2]; exact Nat.ne_of_lt (Nat.lt_succ_self _)
  have hacc : h₁.PlainList H1.objs.size #[] := ⟨_, hsb₁.extBut _ _ hDC (Heap.get?_push_of_some _ (hH2 ▸ Heap.get?_push_size _ rfl))⟩
  have hrlt : @LT.lt Nat _ rl s.heap.objs.size := lt0 (N _ hl).1
  have hLlt : @LT.lt Nat _ env.locals s.heap.objs.size := F.ns.lt
  have hst₁ : h₁.IsListIter s.heap.objs.size rl 0 ∧ h₁.IsList rl rs.toArray := ⟨⟨_, old _ _ hI, rfl, rfl⟩, by
    obtain ⟨o, ho, r⟩ := hlist
    exact ⟨o, old _ _ (old1 _ _ ho), r⟩⟩
  have hIC : s.heap.objs.size ≠ H2.objs.size := by rw [hS2]; exact Nat.ne_of_lt (by omega)
  have W := Walks.list (prog := prog) (w := w) (A := A) hA s.heap.objs.size rl (Nat.ne_of_lt hrlt) rs.toArray
  have loop : ∀ s₃ : Shared, s₃ = { s with heap := h₁, toks := s.toks + ([] : List (Str × Value)).length } →
      codeAny (model prog w) A (.compLoop (.ListComp elt [⟨.Name x px, iter, [], 0⟩] scope pos) 0 (.ref s.heap.objs.size) (.ref H1.objs.size) (compEnvC scope cl H2.objs.size env))
        (compPost (model prog w) A E (some (assign (.Name y py) env)) (fun _ s' => Q .next s') (.ref H1.objs.size) H2.objs.size) s₃ := by
    rintro s₃ rfl
    refine compLoop_G (cenv := compEnvC scope cl H2.objs.size env) W Pe (lookup_relabel_local hx) (by simp [compEnvC, relabel, hkind]) hDC (by
        simp only [List.mem_cons, List.mem_nil_iff, or_false]
        rintro (e | e)
        · rw [hS1] at e; exact absurd e (Nat.ne_of_gt (Nat.lt_succ_self _))
        · rw [← e, hS1] at hrlt; exact absurd hrlt (by omega)) (by
        simp only [List.mem_cons, List.mem_nil_iff, or_false]
        rintro (e | e)
        · exact hIC e.symm
        · have e' : H2.objs.size = rl := e
          rw [← e', hS2] at hrlt; exact absurd hrlt (by omega)) hst₁ hacc hns₁ hG ?_ ?_ (by rw [List.size_toArray]; exact hsz)
    · intro i v s₃ m₃ hv hn hm hk hG₃
      have keep : ∀ b o, s.heap.get? b = some o → s₃.heap.get? b = some o := fun b o e => by
        have hb := lt0 e
        refine hk b o ?_ ?_ ?_ (old b o (old1 b o e))
        · show b ≠ H2.objs.size
          rintro rfl; rw [hS2] at hb; exact absurd hb (by omega)
        · simp only [List.mem_cons, List.mem_nil_iff, or_false]
          rintro rfl; exact absurd hb (Nat.lt_irrefl _)
        · rintro rfl; rw [hS1] at hb; exact absurd hb (by omega)
      refine helt i v H2.objs.size s₃ m₃ _ (by simpa using hv) hm ⟨hn, fun b o e => keep b o (F.keep b o e), ?_⟩ (fun q hq => ?_) hG₃ fun q hq => ?_
      · have := F.above
        have h3 := hLlt
        show @LE.le Nat _ _ _
        rw [hS2]
        exact Nat.le_of_lt (Nat.lt_of_le_of_lt this (Nat.lt_of_lt_of_le h3 (by omega)))
      · obtain ⟨e1, e2, e3⟩ := N q hq
        refine ⟨keep _ _ e1, ?_, e3⟩
        have := lt0 e1
        rintro e
        rw [e, hS2] at this; exact absurd this (by omega)
      · have := lt0 (N q hq).1
        rw [hS2]; omega
    · intro h' tk G m' ys hnC hpl hlen hP hG' hk
      have keep : ∀ b o, s.heap.get? b = some o → h'.get? b = some o := fun b o e => by
        have hb := lt0 e
        refine hk b o ?_ ?_ ?_ (old b o (old1 b o e))
        · show b ≠ H2.objs.size
          rintro rfl; rw [hS2] at hb; exact absurd hb (by omega)
        · simp only [List.mem_cons, List.mem_nil_iff, or_false]
          rintro rfl; exact absurd hb (Nat.lt_irrefl _)
        · rintro rfl; rw [hS1] at hb; exact absurd hb (by omega)
      have hLC : env.locals ≠ H2.objs.size := by intro e; rw [e, hS2] at hLlt; exact absurd hLlt (by omega)
      have hLD : env.locals ≠ H1.objs.size := by intro e; rw [e, hS1] at hLlt; exact absurd hLlt (by omega)
      show wpAny _ A (assign (.Name y py) env (.ref H1.objs.size)) _ _ _
      refine wpAny_assign_Name (wpAny_storeName_local hy (F.ns.at' fun o e => keep _ o e) (fun h₂ hn₂ hs₂ => ?_) hp)
      refine ⟨m', hnC.sameBut hs₂ (Ne.symm hLC), fun h₃ hs₃ => ?_⟩
      obtain ⟨n, hpl⟩ := hpl
      have keep3 : ∀ b o, b ≠ env.locals → b ≠ H2.objs.size → h'.get? b = some o → h₃.get? b = some o := fun b o h1 h2 e => hs₃.extBut b o h2 (hs₂.extBut b o h1 e)
      have hltL : ∀ q ∈ led, @LT.lt Nat _ q.1 H1.objs.size := fun q hq => by
        have := lt0 (N q hq).1
        rw [hS1]; omega
      have hD0 : h₀.get? H1.objs.size = none := by
        cases q : h₀.get? H1.objs.size with
        | none => rfl
        | some o' =>
          have h1 := Heap.lt_size q
          have h2 := F.above
          have h3 : @LT.lt Nat _ H1.objs.size env.locals := Nat.lt_of_lt_of_le h1 h2
          rw [hS1] at h3
          exact absurd h3 (by omega)
      refine hQ H1.objs.size n h₃ _ G ys ⟨hn₂.sameBut hs₃ hLC, fun b o e => ?_, F.above⟩ (fun q hq => ?_) hltL (by rw [hlen, List.size_toArray]) hP hG'
      · have h1 := Heap.lt_size e
        have h2 := F.above
        have h3 : @LT.lt Nat _ b env.locals := Nat.lt_of_lt_of_le h1 h2
        refine keep3 b o (Nat.ne_of_lt h3) ?_ (keep b o (F.keep b o e))
        intro e'; rw [e', hS2] at h3; exact absurd h3 (by omega)
      · rcases List.mem_cons.mp hq with rfl | hq
        · exact ⟨keep3 _ _ (Ne.symm hLD) hDC hpl, Ne.symm hLD, hD0⟩
        · obtain ⟨e1, e2, e3⟩ := N q hq
          have hb := lt0 e1
          exact ⟨keep3 _ _ e2 (by intro e'; rw [e', hS2] at hb; exact absurd hb (by omega)) (keep _ _ e1), e2, e3⟩
  exact codeAny_compStart_list (loop _ rfl) (W.self 0 _ _ _ hst₁ (loop _ rfl))
theorem comp_eval {s : Shared} {h₀ : Heap} {L : Addr} {m₀ : Str → Option Value} {led : List (Addr × Obj)} {elt iter : Expr} {x : Str} {px : Pos} {scope : Scope} {cl : List (Str × Addr)} {pos : Pos} {Q : Value → Shared → Prop} {rl : Addr} {rs : List Value} {k : Nat} (Pe : Nat → Value → Prop)
    (hclos : closureFor scope env = pure cl) (hcell : ∀ z ∈ scope.names, z.2 ≠ .cell) (hkind : scope.kind = .function)
    (hnames : ∀ z ∈ scope.names, z.2 = .local → scope.names.lookup z.1 = some .local) (hx : scope.names.lookup x = some .local)
    (hs : ∀ x, foldedSetIterable iter env x = pure x) (hA : A.handled = none) (hL : env.locals = L)
    (hiter : ∀ Q' : Value → Shared → Prop, Q' (.ref rl) s → wpAny (model prog w) A (eval iter env) Q' E s)
    (F : Fr h₀ L s.heap m₀) (N : News h₀ L s.heap led) (hl : (rl, PySem.W.listOf rs.toArray k) ∈ led) (hsz : rs.length ≤ 1000) (hG : AllBare s.gens)
    (helt : ∀ i v C s₃ m₃ E', rs[i]? = some v → m₃ x = some v → Fr h₀ C s₃.heap m₃ → News h₀ C s₃.heap led → AllBare s₃.gens → (∀ q ∈ led, @LT.lt Nat _ q.1 C) →
      wpAny (model prog w) A (eval elt (compEnvC scope cl C env)) (fun y s₄ => Pe i y ∧ KeepsG s₃ s₄) E' s₃)
    (hQ : ∀ D n h' tk' G ys, Fr h₀ L h' m₀ → News h₀ L h' ((D, PySem.W.listOf (List.toArray ys) n) :: led) → (∀ q ∈ led, @LT.lt Nat _ q.1 D) → ys.length = rs.length → (∀ i v, ys[i]? = some v → Pe i v) → AllBare G →
      Q (.ref D) { s with heap := h', toks := tk', gens := G }) :
    wpAny (model prog w) A (eval (.ListComp elt [⟨.Name x px, iter, [], 0⟩] scope pos) env) Q E s := by
  subst hL
  rw [eval_ListComp]
  refine wpAny_comprehension_free (use := none) rfl hs hclos hkind hnames (hiter _ ?_)
  have hlist : s.heap.IsList rl rs.toArray := News.isList N hl
  refine wpAny_pyIter_list hlist ?_
  generalize hH1 : s.heap.push { cls := .type "list_iterator", data := .fields #[.ref rl, .int 0 0] } = H1
  have hI : H1.get? s.heap.objs.size = some { cls := .type "list_iterator", data := .fields #[.ref rl, .int 0 0] } := hH1 ▸ Heap.get?_push_size _ rfl
  have hS1 : H1.objs.size = s.heap.objs.size + 1 := by rw [← hH1, Heap.size_push]
  have old1 : ∀ b o, s.heap.get? b = some o → H1.get? b = some o := fun b o e => hH1 ▸ Heap.get?_push_of_some _ e
  refine wpAny_newObj_type (wpAny_newFunctionEnv hcell (by intro y hy; simp at hy) (fun h₁ hns₁ hsb₁ => ?_) hkind)
  dsimp only at hns₁ hsb₁ ⊢
  generalize hH2 : H1.push { cls := .type "list", dict := none, data := .seq ([] : List Value).toArray } = H2 at hns₁ hsb₁ ⊢
  have hS2 : H2.objs.size = s.heap.objs.size + 2 := by rw [← hH2, Heap.size_push, hS1]
  have lt0 : ∀ {b o}, s.heap.get? b = some o → @LT.lt Nat _ b s.heap.objs.size := fun e => Heap.lt_size e
  have old : ∀ b o, H1.get? b = some o → h₁.get? b = some o := fun b o e => hsb₁.extBut b o (by
    have hb1 : @LT.lt Nat _ b H1.objs.size := Heap.lt_size e
    intro hb; rw [hb, hS1, hS2] at hb1; exact absurd hb1 (by omega)) (Heap.get?_push_of_some _ (hH2 ▸ Heap.get?_push_of_some _ e))
  have hDC : H1.objs.size ≠ H2.objs.size := by rw [hS1, hS2]; exact Nat.ne_of_lt (Nat.lt_succ_self _)
  have hacc : h₁.PlainList H1.objs.size #[] := ⟨_, hsb₁.extBut _ _ hDC (Heap.get?_push_of_some _ (hH2 ▸ Heap.get?_push_size _ rfl))⟩
  have hrlt : @LT.lt Nat _ rl s.heap.objs.size := lt0 (N _ hl).1
  have hLlt : @LT.lt Nat _ env.locals s.heap.objs.size := F.ns.lt
  have hst₁ : h₁.IsListIter s.heap.objs.size rl 0 ∧ h₁.IsList rl rs.toArray := ⟨⟨_, old _ _ hI, rfl, rfl⟩, by
    obtain ⟨o, ho, r⟩ := hlist
    exact ⟨o, old _ _ (old1 _ _ ho), r⟩⟩
  have hIC : s.heap.objs.size ≠ H2.objs.size := by rw [hS2]; exact Nat.ne_of_lt (by omega)
  have W := Walks.list (prog := prog) (w := w) (A := A) hA s.heap.objs.size rl (Nat.ne_of_lt hrlt) rs.toArray
  have loop : ∀ s₃ : Shared, s₃ = { s with heap := h₁, toks := s.toks + ([] : List (Str × Value)).length } →
      codeAny (model prog w) A (.compLoop (.ListComp elt [⟨.Name x px, iter, [], 0⟩] scope pos) 0 (.ref s.heap.objs.size) (.ref H1.objs.size) (compEnvC scope cl H2.objs.size env))
        (compPost (model prog w) A E none Q (.ref H1.objs.size) H2.objs.size) s₃ := by
    rintro s₃ rfl
    refine compLoop_G (cenv := compEnvC scope cl H2.objs.size env) W Pe (lookup_relabel_local hx) (by simp [compEnvC, relabel, hkind]) hDC (by
        simp only [List.mem_cons, List.mem_nil_iff, or_false]
        rintro (e | e)
        · rw [hS1] at e; exact absurd e (Nat.ne_of_gt (Nat.lt_succ_self _))
        · rw [← e, hS1] at hrlt; exact absurd hrlt (by omega)) (by
        simp only [List.mem_cons, List.mem_nil_iff, or_false]
        rintro (e | e)
        · exact hIC e.symm
        · have e' : H2.objs.size = rl := e
          rw [← e', hS2] at hrlt; exact absurd hrlt (by omega)) hst₁ hacc hns₁ hG ?_ ?_ (by rw [List.size_toArray]; exact hsz)
    · intro i v s₃ m₃ hv hn hm hk hG₃
      have keep : ∀ b o, s.heap.get? b = some o → s₃.heap.get? b = some o := fun b o e => by
        have hb := lt0 e
        refine hk b o ?_ ?_ ?_ (old b o (old1 b o e))
        · show b ≠ H2.objs.size
          rintro rfl; rw [hS2] at hb; exact absurd hb (by omega)
        · simp only [List.mem_cons, List.mem_nil_iff, or_false]
          rintro rfl; exact absurd hb (Nat.lt_irrefl _)
        · rintro rfl; rw [hS1] at hb; exact absurd hb (by omega)
      refine helt i v H2.objs.size s₃ m₃ _ (by simpa using hv) hm ⟨hn, fun b o e => keep b o (F.keep b o e), ?_⟩ (fun q hq => ?_) hG₃ fun q hq => ?_
      · have := F.above
        have h3 := hLlt
        show @LE.le Nat _ _ _
        rw [hS2]
        exact Nat.le_of_lt (Nat.lt_of_le_of_lt this (Nat.lt_of_lt_of_le h3 (by omega)))
      · obtain ⟨e1, e2, e3⟩ := N q hq
        refine ⟨keep _ _ e1, ?_, e3⟩
        have := lt0 e1
        rintro e
        rw [e, hS2] at this; exact absurd this (by omega)
      · have := lt0 (N q hq).1
        rw [hS2]; omega
    · intro h' tk G m' ys hnC hpl hlen hP hG' hk
      have keep : ∀ b o, s.heap.get? b = some o → h'.get? b = some o := fun b o e => by
        have hb := lt0 e
        refine hk b o ?_ ?_ ?_ (old b o (old1 b o e))
        · show b ≠ H2.objs.size
          rintro rfl; rw [hS2] at hb; exact absurd hb (by omega)
        · simp only [List.mem_cons, List.mem_nil_iff, or_false]
          rintro rfl; exact absurd hb (Nat.lt_irrefl _)
        · rintro rfl; rw [hS1] at hb; exact absurd hb (by omega)
      have hLC : env.locals ≠ H2.objs.size := by intro e; rw [e, hS2] at hLlt; exact absurd hLlt (by omega)
      have hLD : env.locals ≠ H1.objs.size := by intro e; rw [e, hS1] at hLlt; exact absurd hLlt (by omega)
      refine ⟨m', hnC, fun h₃ hs₃ => ?_⟩
      obtain ⟨n, hpl⟩ := hpl
      have keep3 : ∀ b o, b ≠ env.locals → b ≠ H2.objs.size → h'.get? b = some o → h₃.get? b = some o := fun b o _ h2 e => hs₃.extBut b o h2 e
      have hltL : ∀ q ∈ led, @LT.lt Nat _ q.1 H1.objs.size := fun q hq => by
        have := lt0 (N q hq).1
        rw [hS1]; omega
      have hD0 : h₀.get? H1.objs.size = none := by
        cases q : h₀.get? H1.objs.size with
        | none => rfl
        | some o' =>
          have h1 := Heap.lt_size q
          have h2 := F.above
          have h3 : @LT.lt Nat _ H1.objs.size env.locals := Nat.lt_of_lt_of_le h1 h2
          rw [hS1] at h3
          exact absurd h3 (by omega)
      refine hQ H1.objs.size n h₃ _ G ys ⟨(F.ns.at' fun o e => hs₃.extBut _ o hLC (keep _ o e)), fun b o e => ?_, F.above⟩ (fun q hq => ?_) hltL (by rw [hlen, List.size_toArray]) hP hG'
      · have h1 := Heap.lt_size e
        have h2 := F.above
        have h3 : @LT.lt Nat _ b env.locals := Nat.lt_of_lt_of_le h1 h2
        refine keep3 b o (Nat.ne_of_lt h3) ?_ (keep b o (F.keep b o e))
        intro e'; rw [e', hS2] at h3; exact absurd h3 (by omega)
      · rcases List.mem_cons.mp hq with rfl | hq
        · exact ⟨keep3 _ _ (Ne.symm hLD) hDC hpl, Ne.symm hLD, hD0⟩
        · obtain ⟨e1, e2, e3⟩ := N q hq
          have hb := lt0 e1
          exact ⟨keep3 _ _ e2 (by intro e'; rw [e', hS2] at hb; exact absurd hb (by omega)) (keep _ _ e1), e2, e3⟩
  exact codeAny_compStart_list (loop _ rfl) (W.self 0 _ _ _ hst₁ (loop _ rfl))
end
end Mine

namespace Mine
theorem offS4 : True := by
  w_top off
  trivial
local macro_rules | `(tactic| walk_at "no such place") => `(tactic| skip)
local macro_rules | `(tactic| walk_at "no such place") => `(tactic| skip)
local macro_rules | `(tactic| walk_at "no such place") => `(tactic| skip)
local macro_rules | `(tactic| walk_at "no such place") => `(tactic| skip)
local macro_rules | `(tactic| walk_at "no such place") => `(tactic| skip)
local macro_rules | `(tactic| walk_at "no such place") => `(tactic| skip)
local macro_rules | `(tactic| walk_at $s:str) => `(tactic| k_extra $s)

local macro_rules | `(tactic| walk_at "eval Name") => `(tactic| (k_here; (with_reducible show wpAny _ _ (eval _ (envOfC _ _ _ _ _)) _ _ _); k_dflt (refine' nameX_L ?k1 ?k2 ?_ ?a ?b ?c; (case a => rfl); (case b => rfl); (case c => decide); (case k1 => k_asm); (case k2 => assumption); k_whole)))
theorem nameD_L {M : Model} {A : Around} {E : Value → Shared → Prop} {s : Shared} {h₀ : Heap} {C : Addr} {m : Str → Option Value} {scope : Scope} {cl : List (Str × Addr)} {env : Env} {x : Str} {pos : Pos} {v : Value} {Q : Value → Shared → Prop} (F : Fr h₀ C s.heap m) (hv : m x = some v) (h : Q v s)
    (hk : (compEnvC scope cl C env).scope.kind = .function) (hx : (compEnvC scope cl C env).kindOf x = some .local) (hd : (x == ("__debug__" : Str)) = false) : wpAny M A (eval (.Name x pos) (compEnvC scope cl C env)) Q E s :=
  wpAny_Name (wpAny_loadName_local hk hx F.ns hv h) hd
local macro_rules | `(tactic| walk_at "eval Name") => `(tactic| (k_here; (with_reducible show wpAny _ _ (eval _ (compEnvC _ _ _ _)) _ _ _); k_dflt (refine' nameD_L ?k1 ?k2 ?_ ?a ?b ?c; (case a => rfl); (case b => rfl); (case c => decide); (case k1 => k_asm); (case k2 => assumption); k_whole)))
def lStmts : List Stmt := match (PySem.Challenge.pw_st0011_01.main.body.drop 13) with | .FunctionDef _ _ b _ _ _ _ _ _ _ :: _ => b | _ => []
def lScope : Scope := match (PySem.Challenge.pw_st0011_01.main.body.drop 13) with | .FunctionDef _ _ _ _ _ _ sc _ _ _ :: _ => sc | _ => default
def lTail : List Stmt := lStmts.drop 7
def lBody : List Stmt := match lStmts.drop 10 with | .For _ _ b _ _ :: _ => b | _ => []
def lTabs : List Stmt := match lBody.drop 4 with | .For _ _ b _ _ :: _ => b | _ => []
abbrev lEnv (L fa : Addr) (cd : Value) : Env := envOfC (Str.ofString "law") lScope L fa cd
example : lStmts.length = 12 := by rfl
example : lBody.length = 5 := by rfl
example : lTabs.length = 3 := by rfl

structure Hold (P : Prop) : Prop where
  go : P
theorem hold {P : Prop} (h : Hold P) : P := h.go
theorem ints_get {vs : List Value} {ns : List Int} (h : IntsAre vs ns) : ∀ {i : Nat} {v : Value}, vs[i]? = some v → ∃ r t, ns[i]? = some r ∧ v = .int r t := by
  induction h with
  | nil => intro i v e; simp at e
  | cons n t _ ih =>
    intro i v e
    cases i with
    | zero => simp at e; exact ⟨n, t, by simp, e.symm⟩
    | succ i => simpa using ih (by simpa using e)
theorem ints_of {f : Int → Int} : ∀ {ns : List Int} {ys : List Value}, ys.length = ns.length → (∀ (i : Nat) v, ys[i]? = some v → ∃ r t, ns[i]? = some r ∧ v = .int (f r) t) → IntsAre ys (ns.map f)
  | [], [], _, _ => .nil
  | [], _ :: _, h, _ => by simp at h
  | _ :: _, [], h, _ => by simp at h
  | n :: ns, y :: ys, h, hg => by
    obtain ⟨r, t, e, rfl⟩ := hg 0 y (by simp)
    simp at e
    subst e
    exact .cons _ _ (ints_of (by simpa using h) fun i v hv => by simpa using hg (i + 1) v (by simpa using hv))

theorem level_F {w : World} {A : Around} {s : Shared} {Q E : Value → Shared → Prop} {p : Program} {loose : List Str} {mean : ExcName → Option Value} {mg mb : Str → Option Value} {h₀ : Heap} {L : Addr} {m : Str → Option Value} {news : List (Addr × Obj)} {ts V : Int} {tts : Tok}
    {x dx N C : Addr} {vs : List Value} {cs : List Int} {b n nt : Int} {txt : Str} {isq : Bool} {t t1 t2 t3 t4 t5 tb tn tt : Tok} (F : Fr h₀ L s.heap m) (Nw : News h₀ L s.heap news)
    (X : (hd.heap_39 w.params).In h₀) (T : Top p loose mean mg mb h₀) (hA : A.handled = none) (hroom : A.depth + 2 < recursionLimit) (hG : AllBare s.gens)
    (hn : ∀ p ∈ lineNews w x dx N C vs b n nt txt isq t t1 t2 t3 t4 t5 tb tn tt, p ∈ news)
    (hI : IntsAre vs cs) (hcs : ∀ v ∈ cs, 0 ≤ v ∧ v ≤ 1000) (hlen : cs.length ≤ 1001) (hb0 : 0 ≤ b) (hb1 : b ≤ 1000) (hnt0 : 0 ≤ nt) (hnt1 : nt ≤ 1000) (hts0 : 1 ≤ ts) (hts1 : ts ≤ 5) (hV : b + ts * (lvl ts cs ((cs.length : Int) - ts).toNat + nt) = V)
    (hret : ∀ t' h' tk' G, Fr h₀ L h' m → News h₀ L h' news → AllBare G → Q (.int V t') { s with heap := h', toks := tk', gens := G }) :
    wpAny (model PySem.Challenge.pw_st0011_01 w) A (call (.ref 73) [.ref x, .int ts tts]) Q E s := by
  subst hV
  exact level_ok X T F.keep hA hroom hG (fun p hp => ⟨(Nw p (hn p hp)).1, (Nw p (hn p hp)).2.2⟩) hI hcs hlen hb0 hb1 hnt0 hnt1 hts0 hts1 fun t' h' tk' G st hG' => hret t' h' tk' G (Fr.keeps F st) (News.grown Nw st) hG'
theorem no_neg {ns : List Int} (h : ∀ v ∈ ns, 0 ≤ v ∧ v ≤ 40) : (ns.any fun x => x == -1) = false := by
  rw [List.any_eq_false]
  intro v hv
  have := h v hv
  simp only [beq_iff_eq]
  omega
theorem sum_is {prog : Program} {w : World} {A : Around} {E : Value → Shared → Prop} {s : Shared} {h₀ : Heap} {L l : Addr} {m : Str → Option Value} {news : List (Addr × Obj)} {vs : List Value} {ns : List Int} {S : Int} {Q : Value → Shared → Prop} (F : Fr h₀ L s.heap m) (N : News h₀ L s.heap news) (hh : A.handled = none) (hl : s.heap.IsList l vs.toArray) (hi : IntsAre vs ns) (hS : ns.sum = S)
    (h : ∀ h' tk t', Fr h₀ L h' m → News h₀ L h' news → Q (.int S t') { s with heap := h', toks := tk }) : wpAny (model prog w) A (call (.builtin "sum") [.ref l]) Q E s := LSm.sum_ints F N hh hl hi (hS ▸ h)
theorem sum_bound : ∀ {l : List Int}, (∀ v ∈ l, 0 ≤ v ∧ v ≤ 40) → 0 ≤ l.sum ∧ l.sum ≤ 40 * (l.length : Int)
  | [], _ => by simp
  | a :: r, h => by
    have h1 := h a (.head _)
    have h2 := sum_bound (l := r) fun v hv => h v (.tail _ hv)
    rw [List.sum_cons, List.length_cons, Int.natCast_succ]
    omega
section
variable {w : World} {s : Shared} {Q : Flow → Shared → Prop} {E : Value → Shared → Prop} {p : Program} {loose : List Str} {mean : ExcName → Option Value} {mg mb : Str → Option Value} {h₀ : Heap} {L fa : Addr} {cd : Value} {m₀ : Str → Option Value}

theorem tab_turn {rl x dx Nn C : Addr} {rs vs : List Value} {k : Nat} {ns cs : List Int} {ts st count due copies behind b n nt : Int} {txt : Str} {isq : Bool} {tt t4 tc td tco tbe t t1 t2 t3 t4' t5 tb tn tnt : Tok} {px : Pos} {oc4 oc6 : Obj} {rest : List (Addr × Obj)} {v6 : Option Value}
    (X : (hd.heap_39 w.params).In h₀) (T : Top p loose mean mg mb h₀)
    (hruns : m₀ (Str.ofString "runs") = some (.ref rl)) (hcount : m₀ (Str.ofString "count") = some (.int count tc)) (hdue : m₀ (Str.ofString "due") = some (.int due td)) (hcop : m₀ (Str.ofString "copies") = some (.int copies tco))
    (hbeh : m₀ (Str.ofString "behind") = some (.int behind tbe)) (hline : m₀ (Str.ofString "line") = some (.ref x))
    (hI : IntsAre rs ns) (hlen : ns.length ≤ 5) (hns : ∀ r ∈ ns, 0 ≤ r ∧ r ≤ 40) (hG : AllBare s.gens) (hts0 : 1 ≤ ts) (hts1 : ts ≤ 5) (hst0 : 1 ≤ st) (hst1 : st ≤ 5000)
    (h4 : oc4.data = .cell (some (.int st t4))) (h6 : oc6.data = .cell v6)
    (F : Fr h₀ L s.heap m₀) (N : News h₀ L s.heap ((L + 1 + 1 + 1 + 1 + 1 + 1, oc6) :: (L + 1 + 1 + 1 + 1, oc4) :: (rl, PySem.W.listOf rs.toArray k) :: (lineNews w x dx Nn C vs b n nt txt isq t t1 t2 t3 t4' t5 tb tn tnt ++ rest)))
    (hrl : @Ne Nat (L + 1 + 1 + 1 + 1 + 1 + 1) rl) (hx : @Ne Nat (L + 1 + 1 + 1 + 1 + 1 + 1) x) (hdx : @Ne Nat (L + 1 + 1 + 1 + 1 + 1 + 1) dx) (hNn : @Ne Nat (L + 1 + 1 + 1 + 1 + 1 + 1) Nn) (hC : @Ne Nat (L + 1 + 1 + 1 + 1 + 1 + 1) C) (hoff : OwnOff rest [L + 1 + 1 + 1 + 1 + 1 + 1])
    (hIc : IntsAre vs cs) (hcs : ∀ v ∈ cs, 0 ≤ v ∧ v ≤ 1000) (hclen : cs.length ≤ 1001) (hb0 : 0 ≤ b) (hb1 : b ≤ 3) (hnt0 : 0 ≤ nt) (hnt1 : nt ≤ 10) (hcount0 : 1 ≤ count) (hcount1 : count ≤ 5) (hcop0 : 1 ≤ copies) (hcop1 : copies ≤ 2) (hbe0 : 0 ≤ behind) (hbe1 : behind ≤ 3)
    (hdue' : ts = count → (ns.map (· / ts)).sum = due) (hlev : b + ts * (lvl ts cs ((cs.length : Int) - ts).toNat + nt) = copies * ts * (count + (ns.map (· / ts)).sum) + behind)
    (hQ : ∀ h' tk' G D n' ys o6, Fr h₀ L h' (fun z => if z = Str.ofString "under" then some (.ref D) else m₀ z) → News h₀ L h' ((D, PySem.W.listOf (List.toArray ys) n') :: (L + 1 + 1 + 1 + 1 + 1 + 1, o6) :: (L + 1 + 1 + 1 + 1, oc4) :: (rl, PySem.W.listOf rs.toArray k) :: (lineNews w x dx Nn C vs b n nt txt isq t t1 t2 t3 t4' t5 tb tn tnt ++ rest)) →
      o6.data = .cell (some (.int ts tt)) → AllBare G → Q .next { s with heap := h', toks := tk', gens := G }) :
    wpAny (model PySem.Challenge.pw_st0011_01 w) (callerA.deeper (lEnv L fa cd)) (assign (.Name (Str.ofString "tabsize") px) (lEnv L fa cd) (.int ts tt))
      (fun _ s' => wpAny (model PySem.Challenge.pw_st0011_01 w) (callerA.deeper (lEnv L fa cd)) (execs lTabs (lEnv L fa cd)) Q E s') E s := by
  k_with_none
  k_with "exec Assign cons ListComp" => (refine hold ?_)
  k_with "call ref" => (refine hold ?_)
  unfold lineNews at N
  simp only [List.cons_append, List.nil_append] at N
  generalize hM : model PySem.Challenge.pw_st0011_01 w = M
  delta lTabs lBody lStmts PySem.Challenge.pw_st0011_01
  dsimp only [List.drop]
  subst hM
  (try k_fold)
  k_steps
  refine Hold.mk ?_
  with_reducible rename Fr _ _ _ _ => F9
  with_reducible rename News _ _ _ _ => N9
  with_reducible rename Obj.data _ = Data.cell (some (Value.int ts _)) => d9
  refine comp_assign (rl := rl) (rs := rs) (fun i y => ∃ r t, ns[i]? = some r ∧ y = .int (r / ts) t) rfl rfl (by decide) rfl (by decide) rfl rfl rfl (fun _ => rfl) rfl rfl (fun Q' hq => nameX_L F9 hruns hq) F9 N9 (.tail _ (.tail _ (.head _))) (by rw [IntsAre.length hI]; omega) hG ?_ ?_
  · intro i v D s₃ m₃ E' hv hm F3 N3 hG3 hlt
    obtain ⟨r, tr, hr, rfl⟩ := ints_get hI hv
    k_steps
    refine Hold.mk ?_
    have hr0 := hns r (List.mem_of_getElem? hr)
    refine under_ok (X.keeps F3.keep) (T.keeps F3.keep) rfl (by rw [depth_deeper]; decide) hG3 hr0.1 hr0.2 hts0 hts1 hst0 hst1 fun t' h' tk' G' st' hG' => ?_
    exact ⟨⟨r, t', hr, rfl⟩, h', tk', G', rfl, st', hG'⟩
  · intro D n' h' tk' G ys F2 N2 hltD hlen2 hP hG2
    have hI2 : IntsAre ys (ns.map (· / ts)) := ints_of (by rw [hlen2, IntsAre.length hI]) hP
    dsimp only
    clear F9 N9
    have hS0 : ∀ v ∈ ns.map (· / ts), 0 ≤ v ∧ v ≤ 40 := fun v hv => by
      obtain ⟨r, hr, rfl⟩ := List.mem_map.mp hv
      have := hns r hr
      exact ⟨Int.ediv_nonneg this.1 (by omega), Int.le_trans (Int.ediv_le_self _ this.1) this.2⟩
    have hSb := sum_bound hS0
    rw [List.length_map] at hSb
    obtain ⟨S, hS⟩ : ∃ S, (ns.map (· / ts)).sum = S := ⟨_, rfl⟩
    rw [hS] at hSb hdue' hlev
    have hSl : 0 ≤ S := hSb.1
    have hSh : S ≤ 200 := by omega
    have hany := no_neg hS0
    clear hP hS0 hSb
    obtain ⟨V, hV⟩ : ∃ V, b + ts * (lvl ts cs ((cs.length : Int) - ts).toNat + nt) = V := ⟨_, rfl⟩
    rw [hV] at hlev
    k_with "call builtin:sum" => (k_dflt (refine' sum_is ?k1 ?k2 ?k0 ?k3 ?k4 ?k5 ?_; (case k1 => k_asm); (case k2 => k_asm); (case k0 => rfl); (case k3 => is_list); (case k4 => assumption); (case k5 => assumption); k_whole); intro h' tk' t' F' N')
    k_steps
    · exfalso; omega
    · refine Hold.mk ?_
      with_reducible rename Fr _ _ _ _ => F7
      with_reducible rename News _ _ _ _ => N7
      refine level_F (dx := dx) (N := Nn) (C := C) (n := n) (txt := txt) (isq := isq) (t := t) (t1 := t1) (t2 := t2) (t3 := t3) (t4 := t4') (t5 := t5) (tb := tb) (tn := tn) (tt := tnt) F7 N7 X T rfl (by rw [depth_deeper]; decide) hG2 (fun q hq => ?_) hIc hcs hclen hb0 (by omega) hnt0 (by omega) hts0 hts1 hV fun t' h5 tk5 G5 F5 N5 hG5 => ?_
      · simp only [lineNews, List.mem_cons, List.mem_nil_iff, or_false] at hq
        rcases hq with rfl | rfl | rfl | rfl <;> k_mem
      · clear F7 N7
        dsimp only
        k_steps
        · exfalso; omega
        · with_reducible rename Fr _ _ _ _ => F6
          with_reducible rename News _ _ _ _ => N6
          exact hQ _ _ _ D _ ys _ F6 N6 d9 hG5
    · refine Hold.mk ?_
      with_reducible rename Fr _ _ _ _ => F7
      with_reducible rename News _ _ _ _ => N7
      refine level_F (dx := dx) (N := Nn) (C := C) (n := n) (txt := txt) (isq := isq) (t := t) (t1 := t1) (t2 := t2) (t3 := t3) (t4 := t4') (t5 := t5) (tb := tb) (tn := tn) (tt := tnt) F7 N7 X T rfl (by rw [depth_deeper]; decide) hG2 (fun q hq => ?_) hIc hcs hclen hb0 (by omega) hnt0 (by omega) hts0 hts1 hV fun t' h5 tk5 G5 F5 N5 hG5 => ?_
      · simp only [lineNews, List.mem_cons, List.mem_nil_iff, or_false] at hq
        rcases hq with rfl | rfl | rfl | rfl <;> k_mem
      · clear F7 N7
        dsimp only
        k_steps
        · exfalso; omega
        · with_reducible rename Fr _ _ _ _ => F6
          with_reducible rename News _ _ _ _ => N6
          exact hQ _ _ _ D _ ys _ F6 N6 d9 hG5
end
end Mine

namespace Mine
theorem offG6 : True := by
  w_top off
  trivial
/-- as for_range, the target stored by the turn -/
theorem for_rangeA {prog : Program} {w : World} {A : Around} {h₀ : Heap} {s : Shared} {r : Addr} {a b : Int} {t u v : Tok} {L : Addr} {m₀ : Str → Option Value} {news : List (Addr × Obj)} {env : Env} {x : Str} {px : Pos} {body : List Stmt} {Q : Flow → Shared → Prop} {E : Value → Shared → Prop}
    (hA : A.handled = none) (hL : env.locals = L)
    (R : IsRange s.heap r a b 1 t u v) (ha : 0 ≤ a) (ha' : a ≤ 2000) (hb : 0 ≤ b) (hb' : b ≤ 2000)
    (F : Fr h₀ L s.heap m₀) (Nw : News h₀ L s.heap news) (hbare : AllBare s.gens)
    (J : Nat → (Str → Option Value) → List (Addr × Obj) → Prop) (hj : J 0 m₀ news)
    (turn : ∀ (i : Nat) u m₁ news₁ h tk G own, a + i < b → OwnOff own (news₁.map (·.1)) → J i m₁ news₁ → Fr h₀ L h m₁ → News h₀ L h (news₁ ++ own) → AllBare G →
      wpAny (model prog w) A (assign (.Name x px) env (.int (a + i) u)) (fun _ s' => wpAny (model prog w) A (execs body env) (PostS h₀ L (J (i + 1)) own { s with heap := h, toks := tk, gens := G } Q) (fun _ _ => False) s') (fun _ _ => False) { s with heap := h, toks := tk, gens := G })
    (done : ∀ m₁ news₁ h tk G, J (b - a).toNat m₁ news₁ → Fr h₀ L h m₁ → News h₀ L h news₁ → AllBare G → Q .next { s with heap := h, toks := tk, gens := G }) :
    wpAny (model prog w) A (pyIter (.ref r)) (fun it s₂ => codeAny (model prog w) A (.forLoop (.Name x px) it body [] env) (fun r s' => match r with | .ok f => Q f s' | .error e => cameBackBy (model prog w) A env E e s') s₂) E s := by
  subst hL
  have hLs : @LT.lt Nat _ env.locals s.heap.objs.size := F.ns.lt
  have hb0 : h₀.objs.size ≤ s.heap.objs.size := Nat.le_of_lt (Nat.lt_of_le_of_lt F.above hLs)
  have hI0 : h₀.get? s.heap.objs.size = none := by
    cases q : h₀.get? s.heap.objs.size with
    | none => rfl
    | some o' => exact absurd (Heap.lt_size q) (Nat.not_lt.mpr hb0)
  have hIn : s.heap.objs.size ∉ news.map (·.1) := fun hm => by
    obtain ⟨q, hq, e⟩ := List.mem_map.mp hm
    exact absurd (Heap.lt_size (Nw q hq).1) (by rw [e]; exact Nat.lt_irrefl _)
  refine wpAny_pyIter_range R (small_one (by omega) (by omega) (by omega) (by omega)) ?_
  rw [rs_one]
  have W := Walks.range (prog := prog) (w := w) hA s.heap.objs.size a 1 (b - a).toNat
  generalize hn : (b - a).toNat = n at *
  generalize hIx : s.heap.objs.size = I at *
  have hI : I ≠ env.locals := Nat.ne_of_gt hLs
  have neI : ∀ o, h₀.get? I ≠ some o := fun o e => by rw [hI0] at e; cases e
  have hst0 : IsRangeIter (s.heap.push { cls := .type "range_iterator", data := .fields #[rawInt a, rawInt n, rawInt 1] }) I (a + ((0 : Nat) : Int) * 1) (n - ((0 : Nat) : Int)) 1 := by
    show Heap.get? _ _ = _
    rw [← hIx, Heap.get?_push_size _ rfl]
    simp
  refine codeAny_forLoop (fun k s' => ∃ i m₁ news₁ h tk G, s' = { s with heap := h, toks := tk, gens := G } ∧ k = n - i ∧ i ≤ n ∧ IsRangeIter h I (a + (i : Nat) * 1) ((n : Int) - (i : Nat)) 1 ∧ J i m₁ news₁ ∧ I ∉ news₁.map (·.1) ∧ Fr h₀ env.locals h m₁ ∧ News h₀ env.locals h news₁ ∧ AllBare G)
    ?_ (n - 0) ⟨0, m₀, news, _, s.toks, s.gens, rfl, rfl, Nat.zero_le _, hst0, hj, hIn, F.push _, (fun q hq => News.push F Nw _ rfl q (.tail _ hq)), hbare⟩
  rintro k s' ⟨i, m₁, news₁, h, tk, G, rfl, rfl, hin, hSt, hJ, hI₁, F₁, N₁, hG⟩
  have frk : ∀ {h' : Heap}, (∀ b o, b ∉ [I] → h.get? b = some o → h'.get? b = some o) → Fr h₀ env.locals h' m₁ ∧ News h₀ env.locals h' news₁ := fun {h'} hk => by
    refine ⟨fr_at F₁ (fun b o e => hk b o (fun q => neI o ((List.mem_singleton.mp q) ▸ e)) (F₁.keep b o e)) fun o e => hk _ o (fun q => hI (List.mem_singleton.mp q).symm) e, fun q hq => ?_⟩
    obtain ⟨e1, e2, e3⟩ := N₁ q hq
    exact ⟨hk _ _ (fun z => hI₁ ((List.mem_singleton.mp z) ▸ List.mem_map_of_mem hq)) e1, e2, e3⟩
  rcases Nat.lt_or_ge i n with hlt | hge
  · refine W.item i _ _ _ hlt hSt fun v h' tk' hP hSt' hk => ?_
    dsimp only at hk ⊢
    obtain ⟨u, rfl⟩ := hP
    rw [Int.mul_one]
    obtain ⟨F₂, N₂⟩ := frk hk
    have hown : News h₀ env.locals h' (ownAt h' [I]) := fun q hq => by
      obtain ⟨h1, h2⟩ := ownAt_mem.mp hq
      rw [List.mem_singleton.mp h1]
      exact ⟨(List.mem_singleton.mp h1) ▸ h2, hI, hI0⟩
    have hso : OwnOff (ownAt h' [I]) (news₁.map (·.1)) := fun q hq b hb e => hI₁ ((List.mem_singleton.mp (ownAt_mem.mp hq).1) ▸ e ▸ hb)
    have hai : a + (i : Int) < b := by omega
    refine wpAny_mono (turn i u m₁ news₁ h' tk' G (ownAt h' [I]) hai hso hJ F₂ (fun q hq => (List.mem_append.mp hq).elim (N₂ q) (hown q)) hG) (fun _ s₁ h₁ => wpAny_mono h₁ (fun f s₂ hf => ?_) fun _ _ x => x.elim) fun _ _ x => x.elim
    have fin : EndS h₀ env.locals (J (i + 1)) (ownAt h' [I]) { s with heap := h', toks := tk', gens := G } s₂ →
        ∃ m, m < n - i ∧ ∃ i m₁ news₁ h tk G, s₂ = { s with heap := h, toks := tk, gens := G } ∧ m = n - i ∧ i ≤ n ∧ IsRangeIter h I (a + (i : Nat) * 1) ((n : Int) - (i : Nat)) 1 ∧ J i m₁ news₁ ∧ I ∉ news₁.map (·.1) ∧ Fr h₀ env.locals h m₁ ∧ News h₀ env.locals h news₁ ∧ AllBare G := by
      rintro ⟨h₅, tk₅, G₅, m₅, nx, news₅, rfl, F₅, N₅, hnx, hown₅, hoff₅, hG₅, hJ₅⟩
      have hmI : (I, _) ∈ ownAt h' [I] := ownAt_mem.mpr ⟨List.mem_singleton.mpr rfl, hSt'⟩
      refine ⟨n - (i + 1), by omega, i + 1, m₅, nx, h₅, tk₅, G₅, rfl, rfl, hlt, ?_, hJ₅, fun hm => hoff₅ _ hmI _ hm rfl, F₅, fun q hq => N₅ q (hnx q hq), hG₅⟩
      exact (N₅ _ (hown₅ _ hmI)).1
    cases f with
    | ret v => exact hf
    | brk => exact hf
    | next => exact fin hf
    | cont => exact fin hf
  · have e : i = n := by omega
    subst e
    refine W.done _ _ _ hSt fun h' tk' hk => ?_
    obtain ⟨F₂, N₂⟩ := frk hk
    exact wpAny_pure (done m₁ news₁ h' tk' G hJ F₂ N₂ hG)
end Mine

namespace Mine
theorem offS5 : True := by
  w_top off
  trivial
def tJ (m₀ : Str → Option Value) (L : Addr) (led : List (Addr × Obj)) (_ : Nat) (m : Str → Option Value) (l : List (Addr × Obj)) : Prop :=
  (∃ u, m = fun z => if z = Str.ofString "under" then u else m₀ z) ∧ ∃ o6 v6, l = (L + 1 + 1 + 1 + 1 + 1 + 1, o6) :: led ∧ o6.data = .cell v6
theorem skip_under {m₀ : Str → Option Value} {u v : Option Value} {y : Str} (hy : y ≠ Str.ofString "under") (h : m₀ y = v) : (fun z => if z = Str.ofString "under" then u else m₀ z) y = v := by
  show (if y = Str.ofString "under" then u else m₀ y) = v
  rw [if_neg hy]; exact h
theorem under_twice {m₀ : Str → Option Value} {u u' : Option Value} : (fun z => if z = Str.ofString "under" then u' else (fun z => if z = Str.ofString "under" then u else m₀ z) z) = fun z => if z = Str.ofString "under" then u' else m₀ z := by
  funext z
  by_cases h : z = Str.ofString "under" <;> simp [h]

section
variable {w : World} {s : Shared} {Q : Flow → Shared → Prop} {E : Value → Shared → Prop} {p : Program} {loose : List Str} {mean : ExcName → Option Value} {mg mb : Str → Option Value} {h₀ : Heap} {L fa : Addr} {cd : Value} {m₀ : Str → Option Value}
theorem tabs_for {rl x dx Nn C r : Addr} {rs vs : List Value} {k : Nat} {ns cs : List Int} {st count due copies behind b n nt : Int} {txt : Str} {isq : Bool} {t4 tc td tco tbe t t1 t2 t3 t4' t5 tb tn tnt ra rb rc : Tok} {px : Pos} {oc4 oc6 : Obj} {rest : List (Addr × Obj)} {v6 : Option Value}
    (X : (hd.heap_39 w.params).In h₀) (T : Top p loose mean mg mb h₀)
    (hruns : m₀ (Str.ofString "runs") = some (.ref rl)) (hcount : m₀ (Str.ofString "count") = some (.int count tc)) (hdue : m₀ (Str.ofString "due") = some (.int due td)) (hcop : m₀ (Str.ofString "copies") = some (.int copies tco))
    (hbeh : m₀ (Str.ofString "behind") = some (.int behind tbe)) (hline : m₀ (Str.ofString "line") = some (.ref x))
    (hI : IntsAre rs ns) (hlen : ns.length ≤ 5) (hns : ∀ r ∈ ns, 0 ≤ r ∧ r ≤ 40) (hG : AllBare s.gens) (hst0 : 1 ≤ st) (hst1 : st ≤ 5000)
    (h4 : oc4.data = .cell (some (.int st t4))) (h6 : oc6.data = .cell v6)
    (F : Fr h₀ L s.heap m₀) (N : News h₀ L s.heap ((L + 1 + 1 + 1 + 1 + 1 + 1, oc6) :: (L + 1 + 1 + 1 + 1, oc4) :: (rl, PySem.W.listOf rs.toArray k) :: (lineNews w x dx Nn C vs b n nt txt isq t t1 t2 t3 t4' t5 tb tn tnt ++ rest)))
    (hrl : @Ne Nat (L + 1 + 1 + 1 + 1 + 1 + 1) rl) (hx : @Ne Nat (L + 1 + 1 + 1 + 1 + 1 + 1) x) (hdx : @Ne Nat (L + 1 + 1 + 1 + 1 + 1 + 1) dx) (hNn : @Ne Nat (L + 1 + 1 + 1 + 1 + 1 + 1) Nn) (hC : @Ne Nat (L + 1 + 1 + 1 + 1 + 1 + 1) C) (hoff : OwnOff rest [L + 1 + 1 + 1 + 1 + 1 + 1])
    (hIc : IntsAre vs cs) (hcs : ∀ v ∈ cs, 0 ≤ v ∧ v ≤ 1000) (hclen : cs.length ≤ 1001) (hb0 : 0 ≤ b) (hb1 : b ≤ 3) (hnt0 : 0 ≤ nt) (hnt1 : nt ≤ 10) (hcount0 : 1 ≤ count) (hcount1 : count ≤ 5) (hcop0 : 1 ≤ copies) (hcop1 : copies ≤ 2) (hbe0 : 0 ≤ behind) (hbe1 : behind ≤ 3)
    (hdue' : (ns.map (· / count)).sum = due) (hlev : ∀ ts : Int, 1 ≤ ts → ts ≤ 5 → b + ts * (lvl ts cs ((cs.length : Int) - ts).toNat + nt) = copies * ts * (count + (ns.map (· / ts)).sum) + behind)
    (R : IsRange s.heap r 1 6 1 ra rb rc)
    (hQ : ∀ h' tk' G u o6 v6, Fr h₀ L h' (fun z => if z = Str.ofString "under" then u else m₀ z) → News h₀ L h' ((L + 1 + 1 + 1 + 1 + 1 + 1, o6) :: (L + 1 + 1 + 1 + 1, oc4) :: (rl, PySem.W.listOf rs.toArray k) :: (lineNews w x dx Nn C vs b n nt txt isq t t1 t2 t3 t4' t5 tb tn tnt ++ rest)) →
      o6.data = .cell v6 → AllBare G → Q .next { s with heap := h', toks := tk', gens := G }) :
    wpAny (model PySem.Challenge.pw_st0011_01 w) (callerA.deeper (lEnv L fa cd)) (pyIter (.ref r)) (fun it s₂ => codeAny (model PySem.Challenge.pw_st0011_01 w) (callerA.deeper (lEnv L fa cd)) (.forLoop (.Name (Str.ofString "tabsize") px) it lTabs [] (lEnv L fa cd)) (fun r s' => match r with | .ok f => Q f s' | .error e => cameBackBy (model PySem.Challenge.pw_st0011_01 w) (callerA.deeper (lEnv L fa cd)) (lEnv L fa cd) E e s') s₂) E s := by
  refine for_rangeA rfl rfl R (by omega) (by omega) (by omega) (by omega) F N hG (tJ m₀ L ((L + 1 + 1 + 1 + 1, oc4) :: (rl, PySem.W.listOf rs.toArray k) :: (lineNews w x dx Nn C vs b n nt txt isq t t1 t2 t3 t4' t5 tb tn tnt ++ rest))) ⟨⟨m₀ (Str.ofString "under"), ?_⟩, oc6, v6, rfl, h6⟩ ?_ ?_
  · funext z
    by_cases h : z = Str.ofString "under" <;> simp [h]
  · rintro i u m₁ news₁ h tk G own hi hoff' ⟨⟨u1, rfl⟩, o6, v6, rfl, h6'⟩ F' N' hG'
    have e : ∀ o6 : Obj, ((L + 1 + 1 + 1 + 1 + 1 + 1, o6) :: (L + 1 + 1 + 1 + 1, oc4) :: (rl, PySem.W.listOf rs.toArray k) :: (lineNews w x dx Nn C vs b n nt txt isq t t1 t2 t3 t4' t5 tb tn tnt ++ rest)) ++ own = (L + 1 + 1 + 1 + 1 + 1 + 1, o6) :: (L + 1 + 1 + 1 + 1, oc4) :: (rl, PySem.W.listOf rs.toArray k) :: (lineNews w x dx Nn C vs b n nt txt isq t t1 t2 t3 t4' t5 tb tn tnt ++ (rest ++ own)) := fun o6 => by
      simp only [List.cons_append, List.append_assoc]
    rw [e] at N'
    refine tab_turn (m₀ := fun z => if z = Str.ofString "under" then u1 else m₀ z) (s := { s with heap := h, toks := tk, gens := G }) X T (skip_under (by decide) hruns) (skip_under (by decide) hcount) (skip_under (by decide) hdue) (skip_under (by decide) hcop) (skip_under (by decide) hbeh) (skip_under (by decide) hline)
      hI hlen hns hG' (by omega) (by omega) hst0 hst1 h4 h6' F' N' hrl hx hdx hNn hC ?_ hIc hcs hclen hb0 hb1 hnt0 hnt1 hcount0 hcount1 hcop0 hcop1 hbe0 hbe1 (fun ec => ec ▸ hdue') (hlev _ (by omega) (by omega)) ?_
    · intro q hq b' hb'
      rcases List.mem_append.mp hq with hq | hq
      · exact hoff q hq b' hb'
      · rw [List.mem_singleton.mp hb']
        exact hoff' q hq _ (.head _)
    · intro h' tk' G' D n' ys o6' F2 N2 h62 hG2
      rw [under_twice] at F2
      rw [← e] at N2
      refine EndS.intro (nx := (L + 1 + 1 + 1 + 1 + 1 + 1, o6') :: (L + 1 + 1 + 1 + 1, oc4) :: (rl, PySem.W.listOf rs.toArray k) :: (lineNews w x dx Nn C vs b n nt txt isq t t1 t2 t3 t4' t5 tb tn tnt ++ rest)) F2 N2 (fun q hq => .tail _ (List.mem_append_left own hq)) (fun q hq => .tail _ (List.mem_append_right _ hq)) hoff' hG2 ⟨⟨_, rfl⟩, o6', _, rfl, h62⟩
  · rintro m₁ news₁ h tk G ⟨⟨u1, rfl⟩, o6, v6, rfl, h6'⟩ F' N' hG'
    exact hQ h tk G u1 o6 v6 F' N' h6' hG'
end
end Mine

namespace Mine
theorem offS6 : True := by
  w_top off
  trivial
local macro_rules | `(tactic| walk_at $s:str) => `(tactic| k_extra $s)
local macro_rules | `(tactic| walk_at "eval Name") => `(tactic| (k_here; (with_reducible show wpAny _ _ (eval _ (envOfC _ _ _ _ _)) _ _ _); k_dflt (refine' nameX_L ?k1 ?k2 ?_ ?a ?b ?c; (case a => rfl); (case b => rfl); (case c => decide); (case k1 => k_asm); (case k2 => assumption); k_whole)))

local macro_rules | `(tactic| walk_at "eval Name") => `(tactic| (k_here; (with_reducible show wpAny _ _ (eval _ (compEnvC _ _ _ _)) _ _ _); k_dflt (refine' nameD_L ?k1 ?k2 ?_ ?a ?b ?c; (case a => rfl); (case b => rfl); (case c => decide); (case k1 => k_asm); (case k2 => assumption); k_whole)))
theorem holdJ {M : Model} {A : Around} {E : Value → Shared → Prop} {Q : Value → Shared → Prop} {s : Shared} {env : Env} {e it : Expr} {px pos : Pos} {ifs : List Expr} {sc : Scope} (h : Hold (wpAny M A (eval (.ListComp e [⟨.Name (Str.ofString "run") px, it, ifs, 0⟩] sc pos) env) Q E s)) : wpAny M A (eval (.ListComp e [⟨.Name (Str.ofString "run") px, it, ifs, 0⟩] sc pos) env) Q E s := h.go
theorem fmod_bounds {a : Int} : 0 ≤ a.fmod 3 ∧ a.fmod 3 ≤ 2 := by
  rw [Int.fmod_eq_emod_of_nonneg _ (by omega)]
  omega
theorem strs_of {f : Int → Str} : ∀ {ns : List Int} {ys : List Value}, ys.length = ns.length → (∀ (i : Nat) v, ys[i]? = some v → ∃ r t, ns[i]? = some r ∧ v = .str (f r) t) → StrsAre ys (ns.map f)
  | [], [], _, _ => .nil
  | [], _ :: _, h, _ => by simp at h
  | _ :: _, [], h, _ => by simp at h
  | n :: ns, y :: ys, h, hg => by
    obtain ⟨r, t, e, rfl⟩ := hg 0 y (by simp)
    simp at e
    subst e
    exact .cons _ _ (strs_of (by simpa using h) fun i v hv => by simpa using hg (i + 1) v (by simpa using hv))
def leadL (ns : List Int) : List Nat := ns.flatMap fun r => List.replicate r.toNat 32 ++ [9]
def leadTs (ns : List Int) : List Str := ns.map fun r => Txt.mul (Str.ofString " ") r ++ Str.ofString "\t"
def preL (ns : List Int) (copies behind : Nat) : List Nat := (List.replicate copies (leadL ns)).flatten ++ List.replicate behind 32
theorem pre_signs {ns : List Int} {c b : Nat} : ∀ z ∈ preL ns c b, z = 32 ∨ z = 9 := by
  intro z hz
  unfold preL at hz
  rcases List.mem_append.mp hz with h | h
  · obtain ⟨l, hl, hz⟩ := List.mem_flatten.mp h
    have := List.eq_of_mem_replicate hl
    subst this
    unfold leadL at hz
    obtain ⟨r, _, hz⟩ := List.mem_flatMap.mp hz
    rcases List.mem_append.mp hz with h | h
    · exact .inl (List.eq_of_mem_replicate h)
    · exact .inr (List.mem_singleton.mp h)
  · exact .inl (List.eq_of_mem_replicate h)
theorem lead_len' : ∀ {ns : List Int}, (∀ r ∈ ns, 0 ≤ r ∧ r ≤ 40) → (leadL ns).length ≤ 41 * ns.length
  | [], _ => by simp [leadL]
  | r :: ns, h => by
    have ih := lead_len' (ns := ns) fun v hv => h v (.tail _ hv)
    have hr := h r (.head _)
    have e : leadL (r :: ns) = (List.replicate r.toNat 32 ++ [9]) ++ leadL ns := rfl
    rw [e]
    simp only [List.length_append, List.length_replicate, List.length_cons, List.length_nil]
    omega
theorem pre_len {ns : List Int} {c b : Nat} (hl : (leadL ns).length ≤ 205) (hc : c ≤ 2) (hb : b ≤ 3) : (preL ns c b).length ≤ 1000 := by
  unfold preL
  rw [List.length_append, List.length_replicate, List.length_flatten, List.map_replicate, List.sum_replicate_nat]
  have : c * (leadL ns).length ≤ 2 * 205 := Nat.mul_le_mul hc hl
  omega
theorem bump_getD (cs : List Int) (b i : Nat) : (bump cs b).getD i 0 = cs.getD i 0 + if i = b then 1 else 0 := by
  unfold bump
  split
  · rename_i h
    simp only [List.getD_eq_getElem?_getD, List.getElem?_set, List.length_append, List.length_replicate]
    by_cases e : b = i
    · subst e
      rw [if_pos rfl, if_pos (by omega), if_pos rfl]
      rw [List.getElem?_append_right h, List.getElem?_replicate, if_pos (by omega), List.getElem?_eq_none h]
      rfl
    · rw [if_neg e, if_neg (fun q => e q.symm), Int.add_zero]
      rcases Nat.lt_or_ge i cs.length with hi | hi
      · rw [List.getElem?_append_left hi]
      · rw [List.getElem?_append_right hi, List.getElem?_eq_none hi, List.getElem?_replicate]
        split <;> rfl
  · rename_i h
    simp only [List.getD_eq_getElem?_getD, List.getElem?_set]
    by_cases e : b = i
    · subst e
      rw [if_pos rfl, if_pos (by omega), if_pos rfl]
      rfl
    · rw [if_neg e, if_neg (fun q => e q.symm), Int.add_zero]
theorem foldl_cps : ∀ (l : List (Array Nat)) (acc : Array Nat), (l.foldl (· ++ ·) acc).toList = acc.toList ++ (l.map Array.toList).flatten
  | [], acc => by simp
  | a :: r, acc => by
    rw [List.foldl_cons, foldl_cps r, Array.toList_append, List.map_cons, List.flatten_cons, List.append_assoc]
theorem mul_cps {x : Str} {n : Int} (h : 0 ≤ n) : (Txt.mul x n).cps.toList = (List.replicate n.toNat x.cps.toList).flatten := by
  unfold Txt.mul
  split
  · have : n.toNat = 0 := by omega
    rw [this]; rfl
  · rename_i h1
    split
    · rename_i h2
      rcases Bool.or_eq_true _ _ |>.mp h2 with h3 | h3
      · have : n = 1 := by simpa using h3
        subst this
        simp
      · have h4 : x.cps.size = 0 := by simpa [Str.length] using h3
        have h5 : x.cps.toList = [] := by simpa using h4
        rw [h5]
        simp
    · show Array.toList (List.foldl (· ++ ·) (#[] : Array Nat) (List.replicate n.toNat x.cps)) = _
      rw [foldl_cps, List.map_replicate]
      rfl
theorem mul_len {x : Str} {n : Int} {B k : Nat} (h0 : 0 ≤ n) (hn : n ≤ k) (hx : x.length ≤ B) : (Txt.mul x n).length ≤ B * k := by
  have e : (Txt.mul x n).length = (Txt.mul x n).cps.toList.length := by simp [Str.length]
  have e2 : x.cps.toList.length ≤ B := by simpa [Str.length] using hx
  rw [e, mul_cps h0, List.length_flatten, List.map_replicate, List.sum_replicate_nat]
  rw [Nat.mul_comm]
  exact Nat.mul_le_mul e2 (by omega)
theorem app_cps (a b : Str) : (a ++ b).cps.toList = a.cps.toList ++ b.cps.toList := by
  show (a.cps ++ b.cps).toList = _
  simp
theorem line_cps {ld : Str} {ns : List Int} {copies behind : Int} (hld : ld.cps.toList = leadL ns) (hc0 : 1 ≤ copies) (hb : 0 ≤ behind) :
    (Txt.mul ld copies ++ Txt.mul (Str.ofString " ") behind ++ Str.ofString "x \t").cps.toList = preL ns copies.toNat behind.toNat ++ [120, 32, 9] := by
  rw [app_cps, app_cps, mul_cps (by omega), mul_cps hb, hld]
  have e1 : (Str.ofString " ").cps.toList = [32] := by decide +kernel
  have e2 : (Str.ofString "x \t").cps.toList = [120, 32, 9] := by decide +kernel
  rw [e1, e2]
  unfold preL
  congr 2
  induction behind.toNat with
  | zero => rfl
  | succ k ih => rw [List.replicate_succ, List.flatten_cons, ih, List.replicate_succ]; rfl
theorem fold_blanks : ∀ (r : Nat) (σ : WS), (List.replicate r 32).foldl WS.step σ = { σ with b := σ.b + r, n := σ.n + r }
  | 0, σ => by simp
  | r + 1, σ => by
    rw [List.replicate_succ, List.foldl_cons, fold_blanks r]
    show ({ σ.blank with b := σ.blank.b + r, n := σ.blank.n + r } : WS) = _
    unfold WS.blank
    simp only [WS.mk.injEq, true_and, and_true]
    refine ⟨by omega, by omega⟩
theorem fold_run (r : Nat) (σ : WS) (h : σ.b = 0) : (List.replicate r 32 ++ [9]).foldl WS.step σ = ⟨bump σ.cs r, 0, σ.n + r + 1, σ.nt + 1⟩ := by
  rw [List.foldl_append, fold_blanks]
  show WS.tab _ = _
  unfold WS.tab
  simp [h]
/-- the weight of counts under f, over the first k -/
def wt (f : Nat → Int) (cs : List Int) : Nat → Int
  | 0 => 0
  | k + 1 => wt f cs k + f k * cs.getD k 0
theorem wt_bump (f : Nat → Int) (cs : List Int) (b : Nat) : ∀ k, wt f (bump cs b) k = wt f cs k + if b < k then f b else 0
  | 0 => by simp [wt]
  | k + 1 => by
    show wt f (bump cs b) k + f k * (bump cs b).getD k 0 = wt f cs k + f k * cs.getD k 0 + _
    rw [wt_bump f cs b k, bump_getD, Int.mul_add]
    by_cases e : k = b
    · subst e
      rw [if_neg (Nat.lt_irrefl _), if_pos rfl, if_pos (Nat.lt_succ_self _)]
      omega
    · rw [if_neg e]
      by_cases h : b < k
      · rw [if_pos h, if_pos (by omega)]; omega
      · rw [if_neg h, if_neg (by omega)]; omega
theorem fold_lead (f : Nat → Int) (K : Nat) : ∀ (ns : List Int) (σ : WS), (∀ r ∈ ns, 0 ≤ r ∧ r ≤ 40) → 41 ≤ K → σ.b = 0 → σ.cs.length ≤ 41 → (∀ i, 0 ≤ σ.cs.getD i 0 ∧ σ.cs.getD i 0 ≤ σ.nt) →
    ((leadL ns).foldl WS.step σ).b = 0 ∧ ((leadL ns).foldl WS.step σ).nt = σ.nt + ns.length ∧ ((leadL ns).foldl WS.step σ).cs.length ≤ 41 ∧ (∀ i, 0 ≤ ((leadL ns).foldl WS.step σ).cs.getD i 0 ∧ ((leadL ns).foldl WS.step σ).cs.getD i 0 ≤ ((leadL ns).foldl WS.step σ).nt) ∧
    wt f ((leadL ns).foldl WS.step σ).cs K = wt f σ.cs K + (ns.map fun r => f r.toNat).sum
  | [], σ, _, _, h0, hl, hv => by simp [leadL, h0, hl]; exact hv
  | r :: ns, σ, h, hK, h0, hl, hv => by
    have hr := h r (.head _)
    have e : leadL (r :: ns) = (List.replicate r.toNat 32 ++ [9]) ++ leadL ns := rfl
    rw [e, List.foldl_append, fold_run _ _ h0]
    have hl' : (bump σ.cs r.toNat).length ≤ 41 := by rw [bump_len]; omega
    obtain ⟨a1, a2, a3, a4, a5⟩ := fold_lead f K ns ⟨bump σ.cs r.toNat, 0, σ.n + r.toNat + 1, σ.nt + 1⟩ (fun v hv => h v (.tail _ hv)) hK rfl hl' (fun i => by
      rw [bump_getD]
      have := hv i
      split <;> dsimp only <;> omega)
    refine ⟨a1, ?_, a3, a4, ?_⟩
    · rw [a2, List.length_cons, Int.natCast_succ]; dsimp only; omega
    · rw [a5, List.map_cons, List.sum_cons]
      dsimp only
      rw [wt_bump, if_pos (by omega)]
      omega
theorem fold_copies (f : Nat → Int) (K : Nat) (ns : List Int) (h : ∀ r ∈ ns, 0 ≤ r ∧ r ≤ 40) (hK : 41 ≤ K) : ∀ (c : Nat) (σ : WS), σ.b = 0 → σ.cs.length ≤ 41 → (∀ i, 0 ≤ σ.cs.getD i 0 ∧ σ.cs.getD i 0 ≤ σ.nt) →
    ((List.replicate c (leadL ns)).flatten.foldl WS.step σ).b = 0 ∧ ((List.replicate c (leadL ns)).flatten.foldl WS.step σ).nt = σ.nt + c * ns.length ∧ ((List.replicate c (leadL ns)).flatten.foldl WS.step σ).cs.length ≤ 41 ∧ (∀ i, 0 ≤ ((List.replicate c (leadL ns)).flatten.foldl WS.step σ).cs.getD i 0 ∧ ((List.replicate c (leadL ns)).flatten.foldl WS.step σ).cs.getD i 0 ≤ ((List.replicate c (leadL ns)).flatten.foldl WS.step σ).nt) ∧
    wt f ((List.replicate c (leadL ns)).flatten.foldl WS.step σ).cs K = wt f σ.cs K + c * (ns.map fun r => f r.toNat).sum
  | 0, σ, h0, hl, hv => by simp [h0, hl]; exact hv
  | c + 1, σ, h0, hl, hv => by
    rw [List.replicate_succ, List.flatten_cons, List.foldl_append]
    obtain ⟨a1, a2, a3, a4, a5⟩ := fold_lead f K ns σ h hK h0 hl hv
    obtain ⟨b1, b2, b3, b4, b5⟩ := fold_copies f K ns h hK c _ a1 a3 a4
    refine ⟨b1, ?_, b3, b4, ?_⟩
    · rw [b2, a2, Int.natCast_succ, Int.add_mul]; omega
    · rw [b5, a5, Int.natCast_succ, Int.add_mul]; omega
theorem wt_ge (f : Nat → Int) (cs : List Int) (d : Nat) : ∀ k, wt f cs (cs.length + d + k) = wt f cs (cs.length + d)
  | 0 => rfl
  | k + 1 => by
    show wt f cs (cs.length + d + k) + f _ * cs.getD (cs.length + d + k) 0 = _
    rw [wt_ge f cs d k, List.getD_eq_getElem?_getD, List.getElem?_eq_none (by omega)]
    simp
theorem wt_zero (cs : List Int) (T : Nat) : ∀ k, k ≤ T → wt (fun i => (i : Int) / (T : Int)) cs k = 0
  | 0, _ => rfl
  | k + 1, h => by
    show wt _ cs k + (k : Int) / (T : Int) * _ = 0
    rw [wt_zero cs T k (by omega), Int.ediv_eq_zero_of_lt (by omega) (by omega)]
    simp
theorem lvl_wt (cs : List Int) (T : Nat) : ∀ k, lvl (T : Int) cs k = wt (fun i => (i : Int) / (T : Int)) cs (T + k)
  | 0 => by rw [Nat.add_zero, wt_zero cs T T (Nat.le_refl _)]; rfl
  | k + 1 => by
    show lvl (T : Int) cs k + ((T : Int) + (k : Int)) / (T : Int) * cs.getD ((T : Int) + (k : Int)).toNat 0 = wt _ cs (T + k) + ((T + k : Nat) : Int) / (T : Int) * cs.getD (T + k) 0
    rw [lvl_wt cs T k, show ((T : Int) + (k : Int)).toNat = T + k by omega, Int.natCast_add]
theorem line_law {ns : List Int} {copies behind : Int} (hns : ∀ r ∈ ns, 0 ≤ r ∧ r ≤ 40) (hlen : ns.length ≤ 5) (hc0 : 1 ≤ copies) (hc1 : copies ≤ 2) (hb0 : 0 ≤ behind) (hb1 : behind ≤ 3) :
    ((wFold (preL ns copies.toNat behind.toNat)).b : Int) = behind ∧ (wFold (preL ns copies.toNat behind.toNat)).nt = copies * (ns.length : Int) ∧ (∀ v ∈ (wFold (preL ns copies.toNat behind.toNat)).cs, 0 ≤ v ∧ v ≤ 1000) ∧ (wFold (preL ns copies.toNat behind.toNat)).cs.length ≤ 1001 ∧
    ∀ ts : Int, 1 ≤ ts → ts ≤ 5 → lvl ts (wFold (preL ns copies.toNat behind.toNat)).cs (((wFold (preL ns copies.toNat behind.toNat)).cs.length : Int) - ts).toNat = copies * (ns.map (· / ts)).sum := by
  have key := fun f => fold_copies f 50 ns hns (by omega) copies.toNat ⟨[], 0, 0, 0⟩ rfl (by simp) (by simp)
  have hcn : ((copies.toNat : Nat) : Int) = copies := by omega
  unfold wFold preL
  rw [List.foldl_append, fold_blanks]
  dsimp only
  generalize hσ : (List.replicate copies.toNat (leadL ns)).flatten.foldl WS.step ⟨[], 0, 0, 0⟩ = σ at *
  obtain ⟨a1, a2, a3, a4, _⟩ := key fun _ => 0
  rw [hcn] at a2
  dsimp only at a2
  have hp : copies * (ns.length : Int) ≤ 2 * 5 := Int.mul_le_mul hc1 (by omega) (by omega) (by omega)
  refine ⟨by rw [a1]; omega, by omega, fun v hv => ?_, by omega, fun ts h1 h2 => ?_⟩
  · obtain ⟨i, hi, rfl⟩ := List.getElem_of_mem hv
    have := a4 i
    rw [List.getD_eq_getElem?_getD, List.getElem?_eq_getElem hi] at this
    simp only [Option.getD_some] at this
    omega
  · obtain ⟨T, rfl⟩ : ∃ T : Nat, ts = (T : Int) := ⟨ts.toNat, by omega⟩
    obtain ⟨_, _, _, _, a5⟩ := key fun i => (i : Int) / (T : Int)
    rw [hcn] at a5
    have e0 : wt (fun i => (i : Int) / (T : Int)) ([] : List Int) 50 = 0 := by
      have := wt_ge (fun i => (i : Int) / (T : Int)) ([] : List Int) 0 50
      simpa [wt] using this
    dsimp only at a5
    rw [e0, Int.zero_add] at a5
    rw [lvl_wt]
    have e1 : wt (fun i => (i : Int) / (T : Int)) σ.cs (T + ((σ.cs.length : Int) - (T : Int)).toNat) = wt (fun i => (i : Int) / (T : Int)) σ.cs 50 := by
      obtain ⟨d, hd⟩ : ∃ d, T + ((σ.cs.length : Int) - (T : Int)).toNat = σ.cs.length + d := ⟨T + ((σ.cs.length : Int) - (T : Int)).toNat - σ.cs.length, by omega⟩
      have hd2 : d ≤ 5 := by omega
      have := wt_ge (fun i => (i : Int) / (T : Int)) σ.cs d (50 - (σ.cs.length + d))
      rw [hd, ← this]
      congr 1
      omega
    rw [e1, a5]
    congr 2
    refine List.map_congr_left fun r hr => ?_
    have := hns r hr
    show ((r.toNat : Nat) : Int) / (T : Int) = r / (T : Int)
    rw [show ((r.toNat : Nat) : Int) = r by omega]
theorem one_cps {r : Int} (h : 0 ≤ r) : (Txt.mul (Str.ofString " ") r ++ Str.ofString "\t").cps.toList = List.replicate r.toNat 32 ++ [9] := by
  rw [app_cps, mul_cps h]
  have e1 : (Str.ofString " ").cps.toList = [32] := by decide +kernel
  have e2 : (Str.ofString "\t").cps.toList = [9] := by decide +kernel
  rw [e1, e2]
  congr 1
  induction r.toNat with
  | zero => rfl
  | succ k ih => rw [List.replicate_succ, List.flatten_cons, ih, List.replicate_succ]; rfl
theorem join_cps : ∀ (l : List Str), (Str.join (Str.ofString "") l).cps.toList = (l.map fun x => x.cps.toList).flatten
  | [] => rfl
  | [x] => by simp [Str.join]
  | x :: y :: r => by
    have e0 : (Str.ofString "").cps.toList = [] := by decide +kernel
    show (x ++ Str.ofString "" ++ Str.join (Str.ofString "") (y :: r)).cps.toList = _
    rw [app_cps, app_cps, e0, List.append_nil, join_cps (y :: r), List.map_cons (a := x), List.flatten_cons]
theorem lead_cps {ns : List Int} (h : ∀ r ∈ ns, 0 ≤ r ∧ r ≤ 40) : (Txt.join (Str.ofString "") (leadTs ns)).cps.toList = leadL ns := by
  have e : Txt.join (Str.ofString "") (leadTs ns) = Str.join (Str.ofString "") (leadTs ns) := StrLaws.glued_eq_join _ _
  rw [e, join_cps]
  unfold leadTs leadL
  rw [List.map_map, List.flatMap_def]
  congr 1
  exact List.map_congr_left fun r hr => one_cps (h r hr).1
theorem lead_weight' : ∀ {ns : List Int}, (∀ r ∈ ns, 0 ≤ r ∧ r ≤ 40) → ((leadTs ns).map (·.length)).sum + (leadTs ns).length ≤ 42 * ns.length
  | [], _ => by simp [leadTs]
  | r :: ns, h => by
    have ih := lead_weight' (ns := ns) fun v hv => h v (.tail _ hv)
    have hr := h r (.head _)
    have e : leadTs (r :: ns) = (Txt.mul (Str.ofString " ") r ++ Str.ofString "\t") :: leadTs ns := rfl
    have hl : (Txt.mul (Str.ofString " ") r ++ Str.ofString "\t").length ≤ 41 := by
      have : (Txt.mul (Str.ofString " ") r ++ Str.ofString "\t").length = (Txt.mul (Str.ofString " ") r ++ Str.ofString "\t").cps.toList.length := by simp [Str.length]
      rw [this, one_cps hr.1]
      simp
      omega
    rw [e, List.map_cons, List.sum_cons, List.length_cons, List.length_cons]
    omega
theorem lead_weight {ns : List Int} (h : ∀ r ∈ ns, 0 ≤ r ∧ r ≤ 40) (hl : ns.length ≤ 5) : ((leadTs ns).map (·.length)).sum + (leadTs ns).length ≤ 1048576 := by
  have := lead_weight' h
  omega
theorem lead_len {ns : List Int} (h : ∀ r ∈ ns, 0 ≤ r ∧ r ≤ 40) (hl : ns.length ≤ 5) : (leadL ns).length ≤ 205 := by
  have := lead_len' h
  omega
theorem lev_eq {behind ts copies count S : Int} : behind + ts * (copies * S + copies * count) = copies * ts * (count + S) + behind := by
  have : ts * (copies * S + copies * count) = copies * ts * (count + S) := by
    simp only [Int.mul_add, Int.mul_assoc, Int.mul_comm, Int.mul_left_comm]
    omega
  omega
theorem news_perm {α : Type} {z a b c d e f g : α} {l rest : List α} (h : z ∈ a :: b :: c :: (l ++ d :: e :: rest)) : z ∈ l ++ f :: g :: c :: d :: b :: e :: a :: rest := by
  simp only [List.mem_cons, List.mem_append] at h ⊢
  rcases h with rfl | rfl | rfl | h | rfl | rfl | h <;> simp [*]
theorem news_perm2 {α : Type} {z a b c d e : α} {l rest : List α} (h : z ∈ a :: b :: c :: d :: rest) : z ∈ d :: b :: e :: (l ++ a :: c :: rest) := by
  simp only [List.mem_cons, List.mem_append] at h ⊢
  rcases h with rfl | rfl | rfl | rfl | h <;> simp [*]
theorem marks_len {x step : Int} {k : Nat} : (marks x step k).length = k := by simp [marks]
theorem join_to {prog : Program} {w : World} {A : Around} {E : Value → Shared → Prop} {s : Shared} {Q : Value → Shared → Prop} {D : Addr} {ys : List Value} {lts : List Str} {ld : Str} {x : Str} {t : Tok} (hl : s.heap.IsList D ys.toArray) (hi : StrsAre ys lts) (hw : (lts.map (·.length)).sum + lts.length ≤ 1048576) (hx : x.length ≤ 16) (hJ : Txt.join x lts = ld)
    (h : ∀ t' k, Q (.str ld t') { s with toks := k }) : wpAny (model prog w) A (call (.builtin "str.join") [.str x t, .ref D]) Q E s :=
  join_listW hl (by simpa using hi) hx hw (hJ ▸ h)
theorem marks_bound {x step : Int} (hx0 : 0 ≤ x) (hx1 : x ≤ 6) (hs0 : 1 ≤ step) (hs1 : step ≤ 5) {k : Nat} (hk : k ≤ 5) : ∀ r ∈ marks x step k, 0 ≤ r ∧ r ≤ 40 := by
  intro r hr
  obtain ⟨i, hi, rfl⟩ := List.mem_map.mp hr
  have hi' := List.mem_range.mp hi
  have p1 : step * (i : Int) ≤ 5 * 4 := Int.mul_le_mul hs1 (by omega) (by omega) (by omega)
  have p0 : 0 ≤ step * (i : Int) := Int.mul_nonneg (by omega) (by omega)
  omega

section
variable {w : World} {s : Shared} {Q : Flow → Shared → Prop} {E : Value → Shared → Prop} {p : Program} {loose : List Str} {mean : ExcName → Option Value} {mg mb : Str → Option Value} {h₀ : Heap} {L fa : Addr} {cd : Value} {m₀ : Str → Option Value}

theorem runs_F {A : Around} {E : Value → Shared → Prop} {Q : Value → Shared → Prop} {m : Str → Option Value} {news : List (Addr × Obj)} {x step count way : Int} {t1 t2 t3 t4 : Tok} (F : Fr h₀ L s.heap m) (N : News h₀ L s.heap news)
    (X : (hd.heap_39 w.params).In h₀) (T : Top p loose mean mg mb h₀) (hA : A.handled = none) (hroom : A.depth + 3 < recursionLimit) (hb : AllBare s.gens)
    (hx : 0 ≤ x) (hx' : x ≤ 6) (hs : 1 ≤ step) (hs' : step ≤ 5) (hc : 1 ≤ count) (hc' : count ≤ 5) (hw : 0 ≤ way) (hw' : way ≤ 2)
    (hret : ∀ r vs n h' tk' G, Fr h₀ L h' m → News h₀ L h' ((r, PySem.W.listOf (List.toArray vs) n) :: news) → (∀ q ∈ news, @Ne Nat q.1 r) → IntsAre vs (marks x step count.toNat) → AllBare G → Q (.ref r) { s with heap := h', toks := tk', gens := G }) :
    wpAny (model PySem.Challenge.pw_st0011_01 w) A (call (.ref 115) [.int x t1, .int step t2, .int count t3, .int way t4]) Q E s := by
  refine runs_ok (X.keeps F.keep) (T.keeps F.keep) hA hroom hb hx hx' hs hs' hc hc' hw hw' fun r vs n h' tk' G st hr hr' hi hG => hret r vs n h' tk' G (Fr.keeps F st) (fun q hq => ?_) (fun q hq e => ?_) hi hG
  · rcases List.mem_cons.mp hq with rfl | hq
    · refine ⟨hr', ?_, ?_⟩
      · intro e
        obtain ⟨o, _, _, ho, _⟩ := F.ns
        have e' : r = L := e
        rw [e', ho] at hr; cases hr
      · cases q : h₀.get? r with
        | none => rfl
        | some o => rw [F.keep _ _ q] at hr; cases hr
    · exact News.grown N st q hq
  · have := (N q hq).1
    have e' : q.1 = r := e
    rw [e', hr] at this; cases this

theorem ws_F {A : Around} {E : Value → Shared → Prop} {Q : Value → Shared → Prop} {m : Str → Option Value} {news : List (Addr × Obj)} {txt : Str} {t : Tok} {pre : List Nat} (F : Fr h₀ L s.heap m) (N : News h₀ L s.heap news)
    (X : (hd.heap_39 w.params).In h₀) (T : Top p loose mean mg mb h₀) (hA : A.handled = none) (hroom : A.depth + 4 < recursionLimit) (hb : AllBare s.gens)
    (htxt : txt.cps.toList = pre ++ [120, 32, 9]) (hpre : ∀ c ∈ pre, c = 32 ∨ c = 9) (hlen : pre.length ≤ 1000)
    (hret : ∀ x dx Nn C vs q t1 t2 t3 t4 t5 tb tn tt h' tk' G, Fr h₀ L h' m → News h₀ L h' (lineNews w x dx Nn C vs (wFold pre).b (wFold pre).n (wFold pre).nt txt q t t1 t2 t3 t4 t5 tb tn tt ++ news) → (∀ q ∈ news, @Ne Nat q.1 x ∧ @Ne Nat q.1 dx ∧ @Ne Nat q.1 Nn ∧ @Ne Nat q.1 C) →
      IntsAre vs (wFold pre).cs → AllBare G → Q (.ref x) { s with heap := h', toks := tk', gens := G }) :
    wpAny (model PySem.Challenge.pw_st0011_01 w) A (call (.ref 104) [.str txt t]) Q E s := by
  refine ws_ok (X.keeps F.keep) (T.keeps F.keep) hA hroom hb htxt hpre hlen fun x dx Nn C vs q t1 t2 t3 t4 t5 tb tn tt h' tk' G st hn hi hG => hret x dx Nn C vs q t1 t2 t3 t4 t5 tb tn tt h' tk' G (Fr.keeps F st) (fun q hq => ?_) (fun q hq => ?_) hi hG
  · rcases List.mem_append.mp hq with hq | hq
    · obtain ⟨e1, e2⟩ := hn q hq
      refine ⟨e1, ?_, ?_⟩
      · intro e
        obtain ⟨o, _, _, ho, _⟩ := F.ns
        rw [e, ho] at e2; cases e2
      · cases z : h₀.get? q.1 with
        | none => rfl
        | some o => rw [F.keep _ _ z] at e2; cases e2
    · exact News.grown N st q hq
  · have e0 := (N q hq).1
    have ne : ∀ r ∈ lineNews w x dx Nn C vs (wFold pre).b (wFold pre).n (wFold pre).nt txt _ t t1 t2 t3 t4 t5 tb tn tt, @Ne Nat q.1 r.1 := fun r hr e => by
      have e2 := (hn r hr).2
      have e' : q.1 = r.1 := e
      rw [← e', e0] at e2; cases e2
    exact ⟨ne _ (.tail _ (.tail _ (.head _))), ne _ (.tail _ (.tail _ (.tail _ (.head _)))), ne _ (.head _), ne _ (.tail _ (.head _))⟩

theorem body_ok {x step count total due copies behind st : Int} {t3 t4 t5 tc tt td tco tbe : Tok} {oc3 oc4 oc5 oc6 : Obj} {rest : List (Addr × Obj)} {v6 : Option Value}
    (X : (hd.heap_39 w.params).In h₀) (T : Top p loose mean mg mb h₀)
    (htotal : m₀ (Str.ofString "total") = some (.int total tt)) (hcount : m₀ (Str.ofString "count") = some (.int count tc)) (hdue : m₀ (Str.ofString "due") = some (.int due td)) (hcop : m₀ (Str.ofString "copies") = some (.int copies tco))
    (hbeh : m₀ (Str.ofString "behind") = some (.int behind tbe)) (hG : AllBare s.gens) (hst0 : 1 ≤ st) (hst1 : st ≤ 5000)
    (ht0 : 0 ≤ total) (ht1 : total ≤ 100000000) (hx0 : 0 ≤ x) (hx1 : x ≤ 6) (hs0 : 1 ≤ step) (hs1 : step ≤ 5) (hcount0 : 1 ≤ count) (hcount1 : count ≤ 5) (hcop0 : 1 ≤ copies) (hcop1 : copies ≤ 2) (hbe0 : 0 ≤ behind) (hbe1 : behind ≤ 3)
    (h3 : oc3.data = .cell (some (.int x t3))) (h5 : oc5.data = .cell (some (.int step t5))) (h4 : oc4.data = .cell (some (.int st t4))) (h6 : oc6.data = .cell v6)
    (F : Fr h₀ L s.heap m₀) (N : News h₀ L s.heap ((L + 1 + 1 + 1, oc3) :: (L + 1 + 1 + 1 + 1, oc4) :: (L + 1 + 1 + 1 + 1 + 1, oc5) :: (L + 1 + 1 + 1 + 1 + 1 + 1, oc6) :: rest)) (hoff : OwnOff rest [L + 1 + 1 + 1 + 1 + 1 + 1])
    (hdueE : ((marks x step count.toNat).map (· / count)).sum = due)
    (hQ : ∀ h' tk' G u1 u2 u3 u4 o6 v6, Fr h₀ L h' (fun z => if z = Str.ofString "under" then u1 else if z = Str.ofString "line" then u2 else if z = Str.ofString "lead" then u3 else if z = Str.ofString "runs" then u4 else m₀ z) →
      News h₀ L h' ((L + 1 + 1 + 1, oc3) :: (L + 1 + 1 + 1 + 1, oc4) :: (L + 1 + 1 + 1 + 1 + 1, oc5) :: (L + 1 + 1 + 1 + 1 + 1 + 1, o6) :: rest) → o6.data = .cell v6 → AllBare G → Q .next { s with heap := h', toks := tk', gens := G }) :
    wpAny (model PySem.Challenge.pw_st0011_01 w) (callerA.deeper (lEnv L fa cd)) (execs lBody (lEnv L fa cd)) Q E s := by
  k_with_none
  k_with "call ref" => (refine hold ?_)
  generalize hM : model PySem.Challenge.pw_st0011_01 w = M
  delta lBody lStmts PySem.Challenge.pw_st0011_01
  dsimp only [List.drop]
  subst hM
  (try k_fold)
  k_steps
  refine Hold.mk ?_
  with_reducible rename Fr _ _ _ _ => F9
  with_reducible rename News _ _ _ _ => N9
  refine runs_F F9 N9 X T rfl (by rw [depth_deeper]; decide) hG hx0 hx1 hs0 hs1 hcount0 hcount1 ?_ ?_ fun rl rs n1 h1 tk1 G1 F1 N1 hne1 hI1 hG1 => ?_
  · exact fmod_bounds.1
  · exact fmod_bounds.2
  clear F9 N9
  have hmk := marks_bound hx0 hx1 hs0 hs1 (k := count.toNat) (by omega)
  dsimp only
  k_with "eval ListComp" => (with_reducible refine holdJ ?_)
  k_steps
  rotate_left
  · exfalso
    with_reducible rename ¬ marks x step count.toNat = _ => hm
    exact hm (by simp [marks, rangeKs, Function.comp])
  refine Hold.mk ?_
  with_reducible rename Fr _ _ _ _ => F8
  with_reducible rename News _ _ _ _ => N8
  refine comp_eval (rl := rl) (rs := rs) (fun i y => ∃ r t, (marks x step count.toNat)[i]? = some r ∧ y = .str (Txt.mul (Str.ofString " ") r ++ Str.ofString "\t") t) rfl (by decide) rfl (by decide) rfl (fun _ => rfl) rfl rfl (fun Q' hq => nameX_L F8 rfl hq) F8 N8 (by k_mem) (by rw [IntsAre.length hI1, marks_len]; omega) hG1 ?_ ?_
  · intro i v D s₃ m₃ E' hv hm F3 N3 hG3 hlt
    obtain ⟨r, tr, hr, rfl⟩ := ints_get hI1 hv
    have hr0 := hmk r (List.mem_of_getElem? hr)
    obtain ⟨hr0, hr1⟩ := hr0
    k_steps
    all_goals exact ⟨_, _, _, rfl, fun _ _ e => e, hG3⟩
  · intro D n2 h2 tk2 G2 ys F2 N2 hlt2 hylen hys hG2
    have hSt : StrsAre ys (leadTs (marks x step count.toNat)) := strs_of (by rw [hylen, IntsAre.length hI1]) hys
    have hml : (marks x step count.toNat).length ≤ 5 := by rw [marks_len]; omega
    have hlw := lead_weight hmk hml
    have hlc := lead_cps hmk
    have hll := lead_len hmk hml
    obtain ⟨ld, hJ⟩ : ∃ ld, Txt.join (Str.ofString "") (leadTs (marks x step count.toNat)) = ld := ⟨_, rfl⟩
    rw [hJ] at hlc
    have hldl : ld.length ≤ 205 := by
      have : ld.length = ld.cps.toList.length := by simp [Str.length]
      rw [this, hlc]; exact hll
    clear F8 N8 hys
    have hm1 : (Txt.mul ld copies).length ≤ 410 := mul_len (B := 205) (k := 2) (by omega) (by omega) hldl
    have hm2 : (Txt.mul (Str.ofString " ") behind).length ≤ 3 := mul_len (B := 1) (k := 3) (by omega) (by omega) (by decide)
    dsimp only
    k_with "call builtin:str.join" => (k_dflt (refine' join_to ?k1 ?k2 ?k3 ?k4 ?k5 ?_; (case k1 => is_list); (case k2 => assumption); (case k3 => assumption); (case k4 => decide); (case k5 => assumption); k_whole); intro t' k')
    k_steps
    refine Hold.mk ?_
    with_reducible rename Fr _ _ _ _ => F7
    with_reducible rename News _ _ _ _ => N7
    refine ws_F F7 N7 X T rfl (by rw [depth_deeper]; decide) hG2 (line_cps hlc hcop0 hbe0) pre_signs (pre_len hll (by omega) (by omega)) fun xl dx Nn C vs q t1 t2 t3' t4' t5' tb tn tnt h4' tk4 G4 F4 N4 hne4 hI4 hG4 => ?_
    clear F7 N7
    dsimp only
    k_with "exec For Name Call cons nil" => (k_dflt (refine' wpAny_For ?_ ?hs; (case hs => (intro _; with_unfolding_all rfl))))
    k_steps
    with_reducible rename Fr _ _ _ _ => F6
    with_reducible rename News _ _ _ _ => N6
    with_reducible rename IsRange _ _ _ _ _ _ _ _ => R6
    obtain ⟨lb, lnt, lcs, lcl, llv⟩ := line_law hmk hml hcop0 hcop1 hbe0 hbe1
    rw [marks_len] at lnt
    have hcn : ((count.toNat : Nat) : Int) = count := by omega
    rw [hcn] at lnt
    have hp2 : copies * count ≤ 2 * 5 := Int.mul_le_mul hcop1 hcount1 (by omega) (by omega)
    have hp0 : 0 ≤ copies * count := Int.mul_nonneg (by omega) (by omega)
    generalize hσ : wFold (preL (marks x step count.toNat) copies.toNat behind.toNat) = σ at *
    refine tabs_for (rl := rl) (rs := rs) (k := n1) (x := xl) (dx := dx) (Nn := Nn) (C := C) (vs := vs) (cs := σ.cs) (oc4 := oc4) (oc6 := oc6) (rest := (L + 1 + 1 + 1, oc3) :: (L + 1 + 1 + 1 + 1 + 1, oc5) :: rest) (b := (σ.b : Int)) (n := σ.n) (nt := σ.nt) X T (by rfl) (by exact hcount) (by exact hdue) (by exact hcop) (by exact hbeh) (by rfl) hI1 hml hmk hG4 hst0 hst1 h4 h6 F6 (fun z hz => N6 z (news_perm hz)) ?_ ?_ ?_ ?_ ?_ ?_ hI4 lcs lcl (by omega) (by omega) (by omega) (by omega) hcount0 hcount1 hcop0 hcop1 hbe0 hbe1 hdueE ?_ R6 ?_
    · exact hne1 (L + 1 + 1 + 1 + 1 + 1 + 1, oc6) (by k_mem)
    · exact (hne4 (L + 1 + 1 + 1 + 1 + 1 + 1, oc6) (by k_mem)).1
    · exact (hne4 (L + 1 + 1 + 1 + 1 + 1 + 1, oc6) (by k_mem)).2.1
    · exact (hne4 (L + 1 + 1 + 1 + 1 + 1 + 1, oc6) (by k_mem)).2.2.1
    · exact (hne4 (L + 1 + 1 + 1 + 1 + 1 + 1, oc6) (by k_mem)).2.2.2
    · intro z hz b' hb'
      rcases List.mem_cons.mp hz with rfl | hz
      · rw [List.mem_singleton.mp hb']; k_ne
      rcases List.mem_cons.mp hz with rfl | hz
      · rw [List.mem_singleton.mp hb']; k_ne
      · exact hoff z hz b' hb'
    · intro ts h1 h2
      rw [llv ts h1 h2, lb, lnt]
      exact lev_eq
    · intro h' tk' G u o6 v6 F5 N5 h65 hG5
      dsimp only
      k_steps
      exact hQ h' _ G u _ _ _ o6 v6 F5 (fun z hz => N5 z (news_perm2 hz)) h65 hG5
end
end Mine

namespace Mine
theorem offDC : True := by
  w_top off
  trivial
local macro_rules | `(tactic| walk_at "no such place") => `(tactic| skip)
local macro_rules | `(tactic| walk_at "no such place") => `(tactic| skip)
local macro_rules | `(tactic| walk_at "no such place") => `(tactic| skip)
local macro_rules | `(tactic| walk_at "no such place") => `(tactic| skip)
local macro_rules | `(tactic| walk_at "no such place") => `(tactic| skip)
local macro_rules | `(tactic| walk_at "no such place") => `(tactic| skip)
local macro_rules | `(tactic| walk_at $s:str) => `(tactic| k_extra $s)
local macro_rules | `(tactic| walk_at "eval Name") => `(tactic| (k_here; (with_reducible show wpAny _ _ (eval _ (compEnvC _ _ _ _)) _ _ _); k_dflt (refine' nameD_L ?k1 ?k2 ?_ ?a ?b ?c; (case a => rfl); (case b => rfl); (case c => decide); (case k1 => k_asm); (case k2 => assumption); k_whole)))
def dExpr : Expr := match lStmts.drop 8 with | .Assign _ (.Call _ [e] _ _) _ :: _ => e | _ => default
def divs (m n : Int) : List Int := [1, 2, 3, 4, 5].filter fun k => decide (m.fmod k = 0 ∧ n.fmod k = 0)
def dTest (m n : Int) : Value → Bool
  | .int k _ => decide (m.fmod k = 0 ∧ n.fmod k = 0)
  | _ => false
theorem ints_filter {m n : Int} {vs : List Value} {ns : List Int} (h : IntsAre vs ns) : IntsAre (vs.filter (dTest m n)) (ns.filter fun k => decide (m.fmod k = 0 ∧ n.fmod k = 0)) := by
  induction h with
  | nil => exact .nil
  | cons k t _ ih =>
    rw [List.filter_cons, List.filter_cons]
    show IntsAre (if (decide (m.fmod k = 0 ∧ n.fmod k = 0)) = true then _ else _) _
    by_cases q : decide (m.fmod k = 0 ∧ n.fmod k = 0) = true
    · rw [if_pos q, if_pos q]; exact .cons _ _ ih
    · rw [if_neg q, if_neg q]; exact ih
theorem paired_eq : ∀ {as bs : List Value}, Paired (fun v y => y = v) as bs → bs = as := by
  intro as bs h
  induction h with
  | nil => rfl
  | cons e _ ih => rw [e, ih]

section
variable {w : World} {s : Shared} {Q : Value → Shared → Prop} {E : Value → Shared → Prop} {p : Program} {loose : List Str} {mean : ExcName → Option Value} {mg mb : Str → Option Value} {h₀ : Heap} {L fa : Addr} {cd : Value} {m₀ : Str → Option Value}
theorem d_comp {m n : Int} {t1 t2 : Tok} {oc1 oc2 : Obj} {led : List (Addr × Obj)}
    (X : (hd.heap_39 w.params).In h₀) (T : Top p loose mean mg mb h₀) (hm0 : 1 ≤ m) (hm1 : m ≤ 5) (hn0 : 1 ≤ n) (hn1 : n ≤ 5)
    (h1 : oc1.data = .cell (some (.int m t1))) (h2 : oc2.data = .cell (some (.int n t2)))
    (F : Fr h₀ L s.heap m₀) (N : News h₀ L s.heap led) (hc1 : (L + 1, oc1) ∈ led) (hc2 : (L + 1 + 1, oc2) ∈ led)
    (hret : ∀ D k h' tk' ys, Fr h₀ L h' m₀ → News h₀ L h' ((D, PySem.W.listOf (List.toArray ys) k) :: led) → IntsAre ys (divs m n) → Q (.ref D) { s with heap := h', toks := tk' }) :
    wpAny (model PySem.Challenge.pw_st0011_01 w) (callerA.deeper (lEnv L fa cd)) (eval dExpr (lEnv L fa cd)) Q E s := by
  k_with_none
  k_with "pyIter ref" => (refine hold ?_)
  generalize hM : model PySem.Challenge.pw_st0011_01 w = M
  delta dExpr lStmts PySem.Challenge.pw_st0011_01
  dsimp only [List.drop]
  subst hM
  refine wpAny_ListComp_free (dTest m n) (fun v y => y = v) rfl (by decide) rfl (by decide) rfl ?_ (fun _ => rfl)
  (try k_fold)
  k_steps
  refine Hold.mk ?_
  with_reducible rename IsRange _ _ _ _ _ _ _ _ => R9
  with_reducible rename Fr _ _ _ _ => F9
  with_reducible rename News _ _ _ _ => N9
  refine wpAny_pyIter_range R9 (small_one (by omega) (by omega) (by omega) (by omega)) ?_
  rw [rs_one]
  with_reducible rename Heap => H
  dsimp only at *
  have hLs : @LT.lt Nat _ L H.objs.size := F9.ns.lt
  have hS : ∀ o : Obj, (H.push o).objs.size = H.objs.size + 1 := fun o => Heap.size_push ..
  have up : ∀ (o : Obj) b o', H.get? b = some o' → (H.push o).get? b = some o' := fun o b o' e => Heap.get?_push_of_some _ e
  refine ⟨_, [_], [_], 5, _, _, rfl, Walks.range rfl _ 1 1 5, by rw [sizeLine_eq]; decide, ?_, ?_, ⟨?_, ?_⟩, ?_⟩
  · show Heap.get? _ _ = _
    rw [Heap.get?_push_size _ rfl]
    rfl
  · intro b hb
    rw [List.mem_singleton.mp hb]
    show @LT.lt Nat _ H.objs.size (H.push _).objs.size
    rw [hS]; exact Nat.lt_succ_self _
  · rintro C i v s₃ m₃ E' hC ⟨t, rfl⟩ hn hm hk htk
    have hC1 : @LT.lt Nat _ H.objs.size C := by
      have : @LE.le Nat _ (H.push _).objs.size C := hC
      rw [hS] at this; omega
    have keep : ∀ b o, H.get? b = some o → s₃.heap.get? b = some o := fun b o e => hk b o (by
      intro hb
      have h1 : @LT.lt Nat _ b H.objs.size := Heap.lt_size e
      rw [List.mem_singleton.mp hb] at h1
      exact absurd h1 (Nat.lt_irrefl _)) (up _ b o e)
    have F3 : Fr h₀ C s₃.heap m₃ := ⟨hn, fun b o e => keep b o (F9.keep b o e), by
      have h1 : @LE.le Nat _ h₀.objs.size L := F9.above
      show @LE.le Nat _ _ _
      omega⟩
    have N3 : News h₀ C s₃.heap led := fun q hq => ⟨keep _ _ (N9 q hq).1, (by
      have h1 : @LT.lt Nat _ q.1 H.objs.size := Heap.lt_size (N9 q hq).1
      exact Nat.ne_of_lt (Nat.lt_trans h1 hC1)), (N9 q hq).2.2⟩
    obtain ⟨kk, hkk⟩ : ∃ kk, 1 + (i : Int) * 1 = kk := ⟨_, rfl⟩
    have hk1 : 1 ≤ kk := by omega
    rw [hkk] at hm ⊢
    clear hk keep F9 N9 R9
    k_steps
    all_goals first | exact ⟨_, _, rfl, fun _ _ e => e⟩ | (show _ = decide (_ ∧ _); simp [*]; done) | (show _ = decide (_ ∧ _); symm; simp_all; done)
  · rintro C i v s₃ m₃ E' hC ⟨t, rfl⟩ hp hn hm hk htk
    have hC1 : @LT.lt Nat _ H.objs.size C := by
      have : @LE.le Nat _ (H.push _).objs.size C := hC
      rw [hS] at this; omega
    have keep : ∀ b o, H.get? b = some o → s₃.heap.get? b = some o := fun b o e => hk b o (by
      intro hb
      have h1 : @LT.lt Nat _ b H.objs.size := Heap.lt_size e
      rw [List.mem_singleton.mp hb] at h1
      exact absurd h1 (Nat.lt_irrefl _)) (up _ b o e)
    have F3 : Fr h₀ C s₃.heap m₃ := ⟨hn, fun b o e => keep b o (F9.keep b o e), by
      have h1 : @LE.le Nat _ h₀.objs.size L := F9.above
      show @LE.le Nat _ _ _
      omega⟩
    have N3 : News h₀ C s₃.heap led := fun q hq => ⟨keep _ _ (N9 q hq).1, (by
      have h1 : @LT.lt Nat _ q.1 H.objs.size := Heap.lt_size (N9 q hq).1
      exact Nat.ne_of_lt (Nat.lt_trans h1 hC1)), (N9 q hq).2.2⟩
    obtain ⟨kk, hkk⟩ : ∃ kk, 1 + (i : Int) * 1 = kk := ⟨_, rfl⟩
    have hk1 : 1 ≤ kk := by omega
    rw [hkk] at hm ⊢
    clear hk keep F9 N9 R9
    k_steps
    all_goals first | exact ⟨_, _, rfl, fun _ _ e => e⟩ | (show _ = decide (_ ∧ _); simp [*]; done) | (show _ = decide (_ ∧ _); symm; simp_all; done)
  · intro D h' tk ys vs hD hl hpl hlen hP hpair hk
    have st : H.StaysIn h' := fun b o e => hk b o (by
      intro hb
      have h1 : @LT.lt Nat _ b H.objs.size := Heap.lt_size e
      rw [List.mem_singleton.mp hb] at h1
      exact absurd h1 (Nat.lt_irrefl _)) (up _ b o e)
    obtain ⟨k, hpl⟩ := hpl
    have e1 : ys.toList = vs.filter (dTest m n) := paired_eq hpair
    have e2 : ys = (vs.filter (dTest m n)).toArray := by rw [← e1]
    have hD' : H.get? D = none := by
      cases q : H.get? D with
      | none => rfl
      | some o =>
        have := up { cls := .type "range_iterator", data := .fields #[rawInt 1, rawInt ((6 - 1 : Int).toNat : Int), rawInt 1] } D o q
        rw [show (H.push _).get? D = none from hD] at this; cases this
    subst e2
    refine hret D k h' tk (vs.filter (dTest m n)) (Fr.keeps F9 st) (fun q hq => ?_) ?_
    · rcases List.mem_cons.mp hq with rfl | hq
      · refine ⟨hpl, ?_, ?_⟩
        · intro e
          obtain ⟨o, _, _, ho, _⟩ := F9.ns
          have e' : D = L := e
          rw [e', ho] at hD'; cases hD'
        · cases q : h₀.get? D with
          | none => rfl
          | some o => rw [F9.keep _ _ q] at hD'; cases hD'
      · exact News.grown N9 st q hq
    · refine ints_filter ?_
      have := ints_of (f := fun k => k) (ns := [1, 2, 3, 4, 5]) (ys := vs) hlen fun i v hv => by
        obtain ⟨t, rfl⟩ := hP i v hv
        have hi : i < 5 := by
          have := (List.getElem?_eq_some_iff.mp hv).1
          omega
        refine ⟨1 + (i : Int) * 1, t, ?_, rfl⟩
        rcases i with _ | _ | _ | _ | _ | i
        · rfl
        · rfl
        · rfl
        · rfl
        · rfl
        · omega
      simpa using this
end
end Mine

namespace Mine
theorem offS8 : True := by
  w_top off
  trivial
local macro_rules | `(tactic| walk_at $s:str) => `(tactic| k_extra $s)
def lTgt : Expr := match lStmts.drop 10 with | .For t _ _ _ _ :: _ => t | _ => default
theorem holdB {M : Model} {A : Around} {Q : Flow → Shared → Prop} {E : Value → Shared → Prop} {s : Shared} {p1 p2 : Pos} {e : Expr} {rest : List Stmt} {env : Env} (h : Hold (wpAny M A (execs (.Assign [.Name (Str.ofString "runs") p1] e p2 :: rest) env) Q E s)) : wpAny M A (execs (.Assign [.Name (Str.ofString "runs") p1] e p2 :: rest) env) Q E s := h.go
theorem skip_count {m₀ : Str → Option Value} {u v : Option Value} {y : Str} (hy : y ≠ Str.ofString "count") (h : m₀ y = v) : (fun z => if z = Str.ofString "count" then u else m₀ z) y = v := by
  show (if y = Str.ofString "count" then u else m₀ y) = v
  rw [if_neg hy]; exact h

section
variable {w : World} {s : Shared} {Q : Flow → Shared → Prop} {E : Value → Shared → Prop} {p : Program} {loose : List Str} {mean : ExcName → Option Value} {mg mb : Str → Option Value} {h₀ : Heap} {L fa : Addr} {cd : Value} {m₀ : Str → Option Value}
theorem pair_turn {x a b total due copies behind st : Int} {t3 t4 ta tb tt td tco tbe : Tok} {oc3 oc4 oc5 oc6 : Obj} {rest : List (Addr × Obj)} {v5 v6 : Option Value} {Dk : Addr}
    (X : (hd.heap_39 w.params).In h₀) (T : Top p loose mean mg mb h₀)
    (htotal : m₀ (Str.ofString "total") = some (.int total tt)) (hdue : m₀ (Str.ofString "due") = some (.int due td)) (hcop : m₀ (Str.ofString "copies") = some (.int copies tco))
    (hbeh : m₀ (Str.ofString "behind") = some (.int behind tbe)) (hG : AllBare s.gens) (hst0 : 1 ≤ st) (hst1 : st ≤ 5000)
    (ht0 : 0 ≤ total) (ht1 : total ≤ 100000000) (hx0 : 0 ≤ x) (hx1 : x ≤ 6) (hs0 : 1 ≤ b) (hs1 : b ≤ 5) (hcount0 : 1 ≤ a) (hcount1 : a ≤ 5) (hcop0 : 1 ≤ copies) (hcop1 : copies ≤ 2) (hbe0 : 0 ≤ behind) (hbe1 : behind ≤ 3)
    (h3 : oc3.data = .cell (some (.int x t3))) (h5 : oc5.data = .cell v5) (h4 : oc4.data = .cell (some (.int st t4))) (h6 : oc6.data = .cell v6)
    (F : Fr h₀ L s.heap m₀) (N : News h₀ L s.heap ((L + 1 + 1 + 1 + 1 + 1, oc5) :: (L + 1 + 1 + 1, oc3) :: (L + 1 + 1 + 1 + 1, oc4) :: (L + 1 + 1 + 1 + 1 + 1 + 1, oc6) :: (Dk, { cls := .type "tuple", data := .seq #[.int a ta, .int b tb] }) :: rest))
    (hD5 : @Ne Nat Dk (L + 1 + 1 + 1 + 1 + 1)) (hD6 : @Ne Nat Dk (L + 1 + 1 + 1 + 1 + 1 + 1)) (hoff : OwnOff rest [L + 1 + 1 + 1 + 1 + 1, L + 1 + 1 + 1 + 1 + 1 + 1])
    (hdueE : ((marks x b a.toNat).map (· / a)).sum = due)
    (hQ : ∀ h' tk' G u1 u2 u3 u4 u5 o5 v5 o6 v6, Fr h₀ L h' (fun z => if z = Str.ofString "under" then u1 else if z = Str.ofString "line" then u2 else if z = Str.ofString "lead" then u3 else if z = Str.ofString "runs" then u4 else if z = Str.ofString "count" then u5 else m₀ z) →
      News h₀ L h' ((L + 1 + 1 + 1 + 1 + 1, o5) :: (L + 1 + 1 + 1, oc3) :: (L + 1 + 1 + 1 + 1, oc4) :: (L + 1 + 1 + 1 + 1 + 1 + 1, o6) :: (Dk, { cls := .type "tuple", data := .seq #[.int a ta, .int b tb] }) :: rest) → o5.data = .cell v5 → o6.data = .cell v6 → AllBare G → Q .next { s with heap := h', toks := tk', gens := G }) :
    wpAny (model PySem.Challenge.pw_st0011_01 w) (callerA.deeper (lEnv L fa cd)) (assign lTgt (lEnv L fa cd) (.ref Dk)) (fun _ s' => wpAny (model PySem.Challenge.pw_st0011_01 w) (callerA.deeper (lEnv L fa cd)) (execs lBody (lEnv L fa cd)) Q E s') E s := by
  k_with_none
  k_with "execs cons" => (with_reducible refine holdB ?_)
  generalize hM : model PySem.Challenge.pw_st0011_01 w = M
  delta lTgt lBody lStmts PySem.Challenge.pw_st0011_01
  dsimp only [List.drop]
  subst hM
  (try k_fold)
  k_steps
  refine Hold.mk ?_
  with_reducible rename Fr _ _ _ _ => F9
  with_reducible rename News _ _ _ _ => N9
  with_reducible rename Obj.data _ = Data.cell (some (Value.int b _)) => d9
  have hcm : (fun y => if y = Str.ofString "count" then some (Value.int a ta) else m₀ y) (Str.ofString "count") = some (.int a ta) := if_pos rfl
  refine body_ok (m₀ := fun y => if y = Str.ofString "count" then some (Value.int a ta) else m₀ y) X T (skip_count (by decide) htotal) hcm (skip_count (by decide) hdue) (skip_count (by decide) hcop) (skip_count (by decide) hbeh) hG hst0 hst1 ht0 ht1 hx0 hx1 hs0 hs1 hcount0 hcount1 hcop0 hcop1 hbe0 hbe1 h3 d9 h4 h6 F9
    (rest := (Dk, { cls := .type "tuple", data := .seq #[.int a ta, .int b tb] }) :: rest) (fun z hz => N9 z ?_) (fun z hz b' hb' => ?_) hdueE fun h' tk' G u1 u2 u3 u4 o6 v6 F1 N1 h61 hG1 => ?_
  · simp only [List.mem_cons] at hz ⊢
    rcases hz with rfl | rfl | rfl | rfl | rfl | hz <;> simp [*]
  · rw [List.mem_singleton.mp hb']
    rcases List.mem_cons.mp hz with rfl | hz
    · exact hD6
    · exact hoff z hz _ (.tail _ (.head _))
  · refine hQ h' tk' G u1 u2 u3 u4 (some (.int a ta)) _ _ o6 v6 F1 (fun z hz => N1 z ?_) d9 h61 hG1
    simp only [List.mem_cons] at hz ⊢
    rcases hz with rfl | rfl | rfl | rfl | rfl | hz <;> simp [*]
end
end Mine

namespace Mine
theorem offS9 : True := by
  w_top off
  trivial
def pMap (m₀ : Str → Option Value) (u1 u2 u3 u4 u5 : Option Value) : Str → Option Value := fun z => if z = Str.ofString "under" then u1 else if z = Str.ofString "line" then u2 else if z = Str.ofString "lead" then u3 else if z = Str.ofString "runs" then u4 else if z = Str.ofString "count" then u5 else m₀ z
theorem pMap_self {m₀ : Str → Option Value} : m₀ = pMap m₀ (m₀ (Str.ofString "under")) (m₀ (Str.ofString "line")) (m₀ (Str.ofString "lead")) (m₀ (Str.ofString "runs")) (m₀ (Str.ofString "count")) := by
  funext z
  unfold pMap
  by_cases h1 : z = Str.ofString "under"
  · rw [if_pos h1, h1]
  rw [if_neg h1]
  by_cases h2 : z = Str.ofString "line"
  · rw [if_pos h2, h2]
  rw [if_neg h2]
  by_cases h3 : z = Str.ofString "lead"
  · rw [if_pos h3, h3]
  rw [if_neg h3]
  by_cases h4 : z = Str.ofString "runs"
  · rw [if_pos h4, h4]
  rw [if_neg h4]
  by_cases h5 : z = Str.ofString "count"
  · rw [if_pos h5, h5]
  rw [if_neg h5]
theorem pMap_twice {m₀ : Str → Option Value} {u1 u2 u3 u4 u5 v1 v2 v3 v4 v5 : Option Value} : pMap (pMap m₀ u1 u2 u3 u4 u5) v1 v2 v3 v4 v5 = pMap m₀ v1 v2 v3 v4 v5 := by
  funext z
  unfold pMap
  by_cases h1 : z = Str.ofString "under"
  · simp only [if_pos h1]
  by_cases h2 : z = Str.ofString "line"
  · simp only [if_neg h1, if_pos h2]
  by_cases h3 : z = Str.ofString "lead"
  · simp only [if_neg h1, if_neg h2, if_pos h3]
  by_cases h4 : z = Str.ofString "runs"
  · simp only [if_neg h1, if_neg h2, if_neg h3, if_pos h4]
  by_cases h5 : z = Str.ofString "count"
  · simp only [if_neg h1, if_neg h2, if_neg h3, if_neg h4, if_pos h5]
  · simp only [if_neg h1, if_neg h2, if_neg h3, if_neg h4, if_neg h5]
theorem pMap_skip {m₀ : Str → Option Value} {u1 u2 u3 u4 u5 v : Option Value} {y : Str} (h1 : y ≠ Str.ofString "under") (h2 : y ≠ Str.ofString "line") (h3 : y ≠ Str.ofString "lead") (h4 : y ≠ Str.ofString "runs") (h5 : y ≠ Str.ofString "count") (h : m₀ y = v) : pMap m₀ u1 u2 u3 u4 u5 y = v := by
  unfold pMap
  simp only [if_neg h1, if_neg h2, if_neg h3, if_neg h4, if_neg h5]
  exact h
abbrev tup2 (a b : Value) : Obj := { cls := .type "tuple", data := .seq #[a, b] }

def pLed (L D0 D1 D2 : Addr) (m n : Int) (ta tb tc td' : Tok) (oc3 oc4 o5 o6 : Obj) : List (Addr × Obj) := [(L + 1 + 1 + 1 + 1 + 1, o5), (L + 1 + 1 + 1, oc3), (L + 1 + 1 + 1 + 1, oc4), (L + 1 + 1 + 1 + 1 + 1 + 1, o6), (D1, tup2 (.int m ta) (.int n tb)), (D2, tup2 (.int n tc) (.int m td')), (D0, tup2 (.ref D1) (.ref D2))]

section
variable {w : World} {s : Shared} {Q : Flow → Shared → Prop} {E : Value → Shared → Prop} {p : Program} {loose : List Str} {mean : ExcName → Option Value} {mg mb : Str → Option Value} {h₀ : Heap} {L fa : Addr} {cd : Value} {m₀ : Str → Option Value}
theorem pairs_for {x m n total due copies behind st : Int} {t3 t4 ta tb tc td' tt td tco tbe : Tok} {oc3 oc4 oc5 oc6 : Obj} {v5 v6 : Option Value} {D0 D1 D2 : Addr}
    (X : (hd.heap_39 w.params).In h₀) (T : Top p loose mean mg mb h₀)
    (htotal : m₀ (Str.ofString "total") = some (.int total tt)) (hdue : m₀ (Str.ofString "due") = some (.int due td)) (hcop : m₀ (Str.ofString "copies") = some (.int copies tco))
    (hbeh : m₀ (Str.ofString "behind") = some (.int behind tbe)) (hG : AllBare s.gens) (hst0 : 1 ≤ st) (hst1 : st ≤ 5000)
    (ht0 : 0 ≤ total) (ht1 : total ≤ 100000000) (hx0 : 0 ≤ x) (hx1 : x ≤ 6) (hm0 : 1 ≤ m) (hm1 : m ≤ 5) (hn0 : 1 ≤ n) (hn1 : n ≤ 5) (hcop0 : 1 ≤ copies) (hcop1 : copies ≤ 2) (hbe0 : 0 ≤ behind) (hbe1 : behind ≤ 3)
    (h3 : oc3.data = .cell (some (.int x t3))) (h5 : oc5.data = .cell v5) (h4 : oc4.data = .cell (some (.int st t4))) (h6 : oc6.data = .cell v6)
    (F : Fr h₀ L s.heap m₀) (N : News h₀ L s.heap (pLed L D0 D1 D2 m n ta tb tc td' oc3 oc4 oc5 oc6))
    (hD05 : @Ne Nat D0 (L + 1 + 1 + 1 + 1 + 1)) (hD06 : @Ne Nat D0 (L + 1 + 1 + 1 + 1 + 1 + 1)) (hD15 : @Ne Nat D1 (L + 1 + 1 + 1 + 1 + 1)) (hD16 : @Ne Nat D1 (L + 1 + 1 + 1 + 1 + 1 + 1)) (hD25 : @Ne Nat D2 (L + 1 + 1 + 1 + 1 + 1)) (hD26 : @Ne Nat D2 (L + 1 + 1 + 1 + 1 + 1 + 1))
    (hdue1 : ((marks x n m.toNat).map (· / m)).sum = due) (hdue2 : ((marks x m n.toNat).map (· / n)).sum = due)
    (hQ : ∀ h' tk' G m', Fr h₀ L h' m' → AllBare G → Q .next { s with heap := h', toks := tk', gens := G }) :
    wpAny (model PySem.Challenge.pw_st0011_01 w) (callerA.deeper (lEnv L fa cd)) (pyIter (.ref D0)) (fun it s₂ => codeAny (model PySem.Challenge.pw_st0011_01 w) (callerA.deeper (lEnv L fa cd)) (.forLoop lTgt it lBody [] (lEnv L fa cd)) (fun r s' => match r with | .ok f => Q f s' | .error e => cameBackBy (model PySem.Challenge.pw_st0011_01 w) (callerA.deeper (lEnv L fa cd)) (lEnv L fa cd) E e s') s₂) E s := by
  have tup0 : ∀ {h : Heap} {D : Addr} {a b : Value}, h.get? D = some (tup2 a b) → h.IsTuple D #[a, b] := fun e => ⟨_, e, rfl, 0, rfl⟩
  have hlt : ∀ q ∈ pLed L D0 D1 D2 m n ta tb tc td' oc3 oc4 oc5 oc6, @LT.lt Nat _ q.1 s.heap.objs.size := fun q hq => Heap.lt_size (N q hq).1
  have hI5 : @LT.lt Nat _ (L + 1 + 1 + 1 + 1 + 1) s.heap.objs.size := hlt _ (.head _)
  have hI6 : @LT.lt Nat _ (L + 1 + 1 + 1 + 1 + 1 + 1) s.heap.objs.size := hlt _ (.tail _ (.tail _ (.tail _ (.head _))))
  have m0 : ∀ o5 o6, (D0, tup2 (.ref D1) (.ref D2)) ∈ pLed L D0 D1 D2 m n ta tb tc td' oc3 oc4 o5 o6 := fun _ _ => .tail _ (.tail _ (.tail _ (.tail _ (.tail _ (.tail _ (.head _))))))
  have hI0 : @LT.lt Nat _ D0 s.heap.objs.size := hlt _ (m0 _ _)
  have hltI : ∀ o5 o6, ∀ q ∈ pLed L D0 D1 D2 m n ta tb tc td' oc3 oc4 o5 o6, @LT.lt Nat _ q.1 s.heap.objs.size := fun o5 o6 q hq => by
    simp only [pLed, List.mem_cons, List.mem_nil_iff, or_false] at hq
    rcases hq with rfl | rfl | rfl | rfl | rfl | rfl | rfl
    · exact hI5
    · exact hlt _ (.tail _ (.head _))
    · exact hlt _ (.tail _ (.tail _ (.head _)))
    · exact hI6
    · exact hlt _ (.tail _ (.tail _ (.tail _ (.tail _ (.head _)))))
    · exact hlt _ (.tail _ (.tail _ (.tail _ (.tail _ (.tail _ (.head _))))))
    · exact hI0
  have hLs : @LT.lt Nat _ L s.heap.objs.size := F.ns.lt
  have hIh : h₀.get? s.heap.objs.size = none := by
    have hb0 : h₀.objs.size ≤ s.heap.objs.size := Nat.le_of_lt (Nat.lt_of_le_of_lt F.above hLs)
    cases q : h₀.get? s.heap.objs.size with
    | none => rfl
    | some o' => exact absurd (Heap.lt_size q) (Nat.not_lt.mpr hb0)
  refine wpAny_pyIter_tuple (tup0 (N _ (m0 _ _)).1) ?_
  have hst0' : (s.heap.push { cls := .type "tuple_iterator", data := .fields #[.ref D0, .int 0 0] }).IsTupleIter s.heap.objs.size D0 0 := ⟨_, Heap.get?_push_size _ rfl, rfl, rfl⟩
  have F1 := F.push { cls := .type "tuple_iterator", data := .fields #[.ref D0, .int 0 0] }
  have N1 : News h₀ L (s.heap.push { cls := .type "tuple_iterator", data := .fields #[.ref D0, .int 0 0] }) (pLed L D0 D1 D2 m n ta tb tc td' oc3 oc4 oc5 oc6) := fun q hq => News.push F N _ rfl q (.tail _ hq)
  generalize s.heap.push { cls := .type "tuple_iterator", data := .fields #[.ref D0, .int 0 0] } = H1 at *
  have W := Walks.tuple (prog := PySem.Challenge.pw_st0011_01) (w := w) (A := callerA.deeper (lEnv L fa cd)) rfl s.heap.objs.size D0 (Nat.ne_of_lt hI0) #[.ref D1, .ref D2]
  clear F N hlt
  generalize s.heap.objs.size = I at *
  rw [pMap_self (m₀ := m₀)] at F1
  refine codeAny_forLoop_any (fun k s' => ∃ (i : Nat) (h : Heap) (tk : Nat) (G : Array GenState) (u1 u2 u3 u4 u5 : Option Value) (o5 o6 : Obj) (v5 v6 : Option Value), s' = { s with heap := h, toks := tk, gens := G } ∧ k = 2 - i ∧ i ≤ 2 ∧ h.IsTupleIter I D0 i ∧
    Fr h₀ L h (pMap m₀ u1 u2 u3 u4 u5) ∧ News h₀ L h (pLed L D0 D1 D2 m n ta tb tc td' oc3 oc4 o5 o6) ∧ o5.data = .cell v5 ∧ o6.data = .cell v6 ∧ AllBare G)
    ?_ 2 ⟨0, H1, s.toks, s.gens, _, _, _, _, _, oc5, oc6, v5, v6, rfl, rfl, Nat.zero_le _, hst0', F1, N1, h5, h6, hG⟩
  rintro k s' ⟨i, h, tk, G, u1, u2, u3, u4, u5, o5, o6, w5, w6, rfl, rfl, hi, hit, F2, N2, hd5, hd6, hG2⟩
  have hneI : ∀ q ∈ pLed L D0 D1 D2 m n ta tb tc td' oc3 oc4 o5 o6, q.1 ≠ I := fun q hq => Nat.ne_of_lt (hltI _ _ q hq)
  have hStt : h.IsTupleIter I D0 i ∧ h.IsTuple D0 #[.ref D1, .ref D2] := ⟨hit, tup0 (N2 _ (m0 _ _)).1⟩
  have frk : ∀ {h' : Heap}, (∀ b o, b ∉ [I] → h.get? b = some o → h'.get? b = some o) → Fr h₀ L h' (pMap m₀ u1 u2 u3 u4 u5) ∧ News h₀ L h' (pLed L D0 D1 D2 m n ta tb tc td' oc3 oc4 o5 o6) := fun {h'} hk => by
    refine ⟨fr_at F2 (fun b o e => hk b o (fun q => by rw [List.mem_singleton.mp q, hIh] at e; cases e) (F2.keep b o e)) fun o e => hk _ o (fun q => absurd ((List.mem_singleton.mp q) ▸ hLs) (Nat.lt_irrefl _)) e, fun q hq => ?_⟩
    obtain ⟨e1, e2, e3⟩ := N2 q hq
    exact ⟨hk _ _ (fun z => hneI q hq (List.mem_singleton.mp z)) e1, e2, e3⟩
  rcases Nat.lt_or_ge i 2 with hlt | hge
  · refine W.item i _ _ _ hlt hStt fun v h' tk' hP hSt' hk => ?_
    dsimp only at hk ⊢
    obtain ⟨F3, N3⟩ := frk hk
    refine letGo_tupleiter hSt'.1 ?_
    have step : ∀ (a b : Int) (ta' tb' : Tok) (Dk : Addr) (rest : List (Addr × Obj)) (it : Obj), 1 ≤ a → a ≤ 5 → 1 ≤ b → b ≤ 5 → @Ne Nat Dk (L + 1 + 1 + 1 + 1 + 1) → @Ne Nat Dk (L + 1 + 1 + 1 + 1 + 1 + 1) → ((marks x b a.toNat).map (· / a)).sum = due → v = .ref Dk →
        h'.get? I = some it → it.cls = .type "tuple_iterator" → it.data = .fields #[.ref D0, .int ((i + 1 : Nat) : Int) 0] →
        (∀ q ∈ rest, q ∈ pLed L D0 D1 D2 m n ta tb tc td' oc3 oc4 o5 o6) → OwnOff rest [L + 1 + 1 + 1 + 1 + 1, L + 1 + 1 + 1 + 1 + 1 + 1] → (Dk, tup2 (.int a ta') (.int b tb')) ∈ pLed L D0 D1 D2 m n ta tb tc td' oc3 oc4 o5 o6 →
        (∀ o5' o6' q, q ∈ pLed L D0 D1 D2 m n ta tb tc td' oc3 oc4 o5' o6' → q ∈ (L + 1 + 1 + 1 + 1 + 1, o5') :: (L + 1 + 1 + 1, oc3) :: (L + 1 + 1 + 1 + 1, oc4) :: (L + 1 + 1 + 1 + 1 + 1 + 1, o6') :: (Dk, tup2 (.int a ta') (.int b tb')) :: rest) →
        wpAny (model PySem.Challenge.pw_st0011_01 w) (callerA.deeper (lEnv L fa cd)) (assign lTgt (lEnv L fa cd) v) (fun _ s₂ => wpAny (model PySem.Challenge.pw_st0011_01 w) (callerA.deeper (lEnv L fa cd)) (execs lBody (lEnv L fa cd)) (fun f s₃ => match f with
          | .next | .cont => ∃ m', m' < 2 - i ∧ ∃ (i : Nat) (h : Heap) (tk : Nat) (G : Array GenState) (u1 u2 u3 u4 u5 : Option Value) (o5 o6 : Obj) (v5 v6 : Option Value), s₃ = { s with heap := h, toks := tk, gens := G } ∧ m' = 2 - i ∧ i ≤ 2 ∧ h.IsTupleIter I D0 i ∧
              Fr h₀ L h (pMap m₀ u1 u2 u3 u4 u5) ∧ News h₀ L h (pLed L D0 D1 D2 m n ta tb tc td' oc3 oc4 o5 o6) ∧ o5.data = .cell v5 ∧ o6.data = .cell v6 ∧ AllBare G
          | .brk => Q .next s₃
          | .ret v => Q (.ret v) s₃) (fun _ _ => False) s₂) (fun _ _ => False) { s with heap := h', toks := tk', gens := G } := by
      rintro a b ta' tb' Dk rest it ha0 ha1 hb0 hb1 hk5 hk6 hdk rfl hit' hic hid hrest hroff hDk hall
      refine pair_turn (s := { s with heap := h', toks := tk', gens := G }) (m₀ := pMap m₀ u1 u2 u3 u4 u5) (ta := ta') (tb := tb') (rest := (I, it) :: rest) X T (pMap_skip (by decide) (by decide) (by decide) (by decide) (by decide) htotal) (pMap_skip (by decide) (by decide) (by decide) (by decide) (by decide) hdue) (pMap_skip (by decide) (by decide) (by decide) (by decide) (by decide) hcop) (pMap_skip (by decide) (by decide) (by decide) (by decide) (by decide) hbeh)
        hG2 hst0 hst1 ht0 ht1 hx0 hx1 hb0 hb1 ha0 ha1 hcop0 hcop1 hbe0 hbe1 h3 hd5 h4 hd6 F3 (fun q hq => ?_) hk5 hk6 (fun q hq b' hb' => ?_) hdk fun h5' tk5 G5 w1 w2 w3 w4 w5' o5' x5 o6' x6 F5 N5 hx5 hx6 hG5 => ?_
      · rcases List.mem_cons.mp hq with rfl | hq
        · exact N3 _ (.head _)
        rcases List.mem_cons.mp hq with rfl | hq
        · exact N3 _ (.tail _ (.head _))
        rcases List.mem_cons.mp hq with rfl | hq
        · exact N3 _ (.tail _ (.tail _ (.head _)))
        rcases List.mem_cons.mp hq with rfl | hq
        · exact N3 _ (.tail _ (.tail _ (.tail _ (.head _))))
        rcases List.mem_cons.mp hq with rfl | hq
        · exact N3 _ hDk
        rcases List.mem_cons.mp hq with rfl | hq
        · exact ⟨hit', Nat.ne_of_gt hLs, hIh⟩
        · exact N3 _ (hrest q hq)
      · rcases List.mem_cons.mp hq with rfl | hq
        · rcases List.mem_cons.mp hb' with rfl | hb'
          · exact Nat.ne_of_gt hI5
          · rw [List.mem_singleton.mp hb']; exact Nat.ne_of_gt hI6
        · exact hroff q hq b' hb'
      · have F6 : Fr h₀ L h5' (pMap (pMap m₀ u1 u2 u3 u4 u5) w1 w2 w3 w4 w5') := F5
        rw [pMap_twice] at F6
        refine ⟨2 - (i + 1), by omega, i + 1, h5', tk5, G5, w1, w2, w3, w4, w5', o5', o6', x5, x6, rfl, rfl, hlt, ⟨it, (N5 (I, it) (.tail _ (.tail _ (.tail _ (.tail _ (.tail _ (.head _))))))).1, hic, hid⟩, F6, fun q hq => N5 q ?_, hx5, hx6, hG5⟩
        have := hall o5' o6' q hq
        rcases List.mem_cons.mp this with rfl | this
        · exact .head _
        rcases List.mem_cons.mp this with rfl | this
        · exact .tail _ (.head _)
        rcases List.mem_cons.mp this with rfl | this
        · exact .tail _ (.tail _ (.head _))
        rcases List.mem_cons.mp this with rfl | this
        · exact .tail _ (.tail _ (.tail _ (.head _)))
        rcases List.mem_cons.mp this with rfl | this
        · exact .tail _ (.tail _ (.tail _ (.tail _ (.head _))))
        · exact .tail _ (.tail _ (.tail _ (.tail _ (.tail _ (.tail _ this)))))
    obtain ⟨it, hi1, hi2, hi3⟩ := hSt'.1
    have off2 : ∀ (Da Db : Addr) (oa ob : Obj), @Ne Nat Da (L + 1 + 1 + 1 + 1 + 1) → @Ne Nat Da (L + 1 + 1 + 1 + 1 + 1 + 1) → @Ne Nat Db (L + 1 + 1 + 1 + 1 + 1) → @Ne Nat Db (L + 1 + 1 + 1 + 1 + 1 + 1) → OwnOff [(Da, oa), (Db, ob)] [L + 1 + 1 + 1 + 1 + 1, L + 1 + 1 + 1 + 1 + 1 + 1] := by
      intro Da Db oa ob a5 a6 b5 b6 q hq b' hb'
      simp only [List.mem_cons, List.mem_nil_iff, or_false] at hq hb'
      rcases hq with rfl | rfl <;> rcases hb' with rfl | rfl
      · exact a5
      · exact a6
      · exact b5
      · exact b6
    have hi2' : i = 0 ∨ i = 1 := by omega
    refine wpAny_mono (Q := fun _ s₂ => wpAny (model PySem.Challenge.pw_st0011_01 w) (callerA.deeper (lEnv L fa cd)) (execs lBody (lEnv L fa cd)) (fun f s₃ => match f with
          | .next | .cont => ∃ m', m' < 2 - i ∧ ∃ (i : Nat) (h : Heap) (tk : Nat) (G : Array GenState) (u1 u2 u3 u4 u5 : Option Value) (o5 o6 : Obj) (v5 v6 : Option Value), s₃ = { s with heap := h, toks := tk, gens := G } ∧ m' = 2 - i ∧ i ≤ 2 ∧ h.IsTupleIter I D0 i ∧
              Fr h₀ L h (pMap m₀ u1 u2 u3 u4 u5) ∧ News h₀ L h (pLed L D0 D1 D2 m n ta tb tc td' oc3 oc4 o5 o6) ∧ o5.data = .cell v5 ∧ o6.data = .cell v6 ∧ AllBare G
          | .brk => Q .next s₃
          | .ret v => Q (.ret v) s₃) (fun _ _ => False) s₂) (E := fun _ _ => False) ?_ (fun _ s₁ h₁ => wpAny_mono h₁ (fun f s₂ hf => ?_) fun _ _ x => x.elim) fun _ _ x => x.elim
    · rcases hi2' with rfl | rfl
      · have hv : v = .ref D1 := by simpa using hP.symm
        exact step m n ta tb D1 [(D2, tup2 (.int n tc) (.int m td')), (D0, tup2 (.ref D1) (.ref D2))] it hm0 hm1 hn0 hn1 hD15 hD16 hdue1 hv hi1 hi2 hi3 (fun q hq => .tail _ (.tail _ (.tail _ (.tail _ (.tail _ hq))))) (off2 _ _ _ _ hD25 hD26 hD05 hD06) (.tail _ (.tail _ (.tail _ (.tail _ (.head _))))) (fun _ _ q hq => hq)
      · have hv : v = .ref D2 := by simpa using hP.symm
        refine step n m tc td' D2 [(D1, tup2 (.int m ta) (.int n tb)), (D0, tup2 (.ref D1) (.ref D2))] it hn0 hn1 hm0 hm1 hD25 hD26 hdue2 hv hi1 hi2 hi3 (fun q hq => ?_) (off2 _ _ _ _ hD15 hD16 hD05 hD06) (.tail _ (.tail _ (.tail _ (.tail _ (.tail _ (.head _)))))) (fun _ _ q hq => ?_)
        · rcases List.mem_cons.mp hq with rfl | hq
          · exact .tail _ (.tail _ (.tail _ (.tail _ (.head _))))
          · exact .tail _ (.tail _ (.tail _ (.tail _ (.tail _ (.tail _ hq)))))
        · simp only [pLed, List.mem_cons, List.mem_nil_iff, or_false] at hq ⊢
          rcases hq with rfl | rfl | rfl | rfl | rfl | rfl | rfl <;> simp
    · cases f <;> exact hf
  · have e : i = 2 := by omega
    subst e
    refine W.done _ _ _ hStt fun h' tk' hk => ?_
    obtain ⟨F3, N3⟩ := frk hk
    exact wpAny_pure (hQ h' tk' G _ F3 hG2)
end
end Mine

namespace Mine
theorem offS7 : True := by
  w_top off
  trivial
local macro_rules | `(tactic| walk_at "no such place") => `(tactic| skip)
local macro_rules | `(tactic| walk_at "no such place") => `(tactic| skip)
local macro_rules | `(tactic| walk_at "no such place") => `(tactic| skip)
local macro_rules | `(tactic| walk_at "no such place") => `(tactic| skip)
local macro_rules | `(tactic| walk_at "no such place") => `(tactic| skip)
local macro_rules | `(tactic| walk_at "no such place") => `(tactic| skip)
local macro_rules | `(tactic| walk_at $s:str) => `(tactic| k_extra $s)
local macro_rules | `(tactic| walk_at "eval Name") => `(tactic| (k_here; (with_reducible show wpAny _ _ (eval _ (envOfC _ _ _ _ _)) _ _ _); k_dflt (refine' nameX_L ?k1 ?k2 ?_ ?a ?b ?c; (case a => rfl); (case b => rfl); (case c => decide); (case k1 => k_asm); (case k2 => assumption); k_whole)))

theorem due_all : ∀ m ∈ [(1 : Int), 2, 3, 4, 5], ∀ n ∈ [(1 : Int), 2, 3, 4, 5], ∀ x ∈ [(0 : Int), 1, 2, 3, 4, 5, 6], ∀ d ∈ divs m n, (∀ a ∈ divs m n, a ≤ d) →
    ((marks x n m.toNat).map (· / m)).sum = d * x.fdiv d + ((m - 1) * (n - 1) + d - 1).fdiv 2 ∧ ((marks x m n.toNat).map (· / n)).sum = d * x.fdiv d + ((m - 1) * (n - 1) + d - 1).fdiv 2 := by decide +kernel
theorem due_law {m n x d : Int} (hm0 : 1 ≤ m) (hm1 : m ≤ 5) (hn0 : 1 ≤ n) (hn1 : n ≤ 5) (hx0 : 0 ≤ x) (hx1 : x ≤ 6) (hd : d ∈ divs m n) (hdm : ∀ a ∈ divs m n, a ≤ d) :
    ((marks x n m.toNat).map (· / m)).sum = d * x.fdiv d + ((m - 1) * (n - 1) + d - 1).fdiv 2 ∧ ((marks x m n.toNat).map (· / n)).sum = d * x.fdiv d + ((m - 1) * (n - 1) + d - 1).fdiv 2 := by
  refine due_all m ?_ n ?_ x ?_ d hd hdm <;> simp <;> omega
theorem divs_pos {m n : Int} : 0 < (divs m n).length := by
  have : (1 : Int) ∈ divs m n := List.mem_filter.mpr ⟨by simp, by simp [Int.fmod_one]⟩
  exact List.length_pos_of_mem this
theorem divs_in {m n d : Int} (h : d ∈ divs m n) : 1 ≤ d ∧ d ≤ 5 := by
  have := (List.mem_filter.mp h).1
  simp at this
  omega
theorem pick_pairs {h₀ h : Heap} {L D0 D1 D2 : Addr} {oa ob o0 : Obj} {pl c1 c2 c3 c4 c5 c6 : Addr × Obj} (N : News h₀ L h [(D0, o0), (D2, ob), (D1, oa), pl, c6, c5, c4, c3, c2, c1]) : News h₀ L h [c5, c3, c4, c6, (D1, oa), (D2, ob), (D0, o0)] := fun q hq => N q (by
  simp only [List.mem_cons, List.mem_nil_iff, or_false] at hq ⊢
  rcases hq with rfl | rfl | rfl | rfl | rfl | rfl | rfl <;> simp)

section
variable {w : World} {s : Shared} {Q : Flow → Shared → Prop} {E : Value → Shared → Prop} {p : Program} {loose : List Str} {mean : ExcName → Option Value} {mg mb : Str → Option Value} {h₀ : Heap} {L fa : Addr} {cd : Value} {m₀ : Str → Option Value}

theorem tail2_ok {m n x total copies behind st : Int} {t1 t2 t3 t4 tt tco tbe : Tok} {oc1 oc2 oc3 oc4 oc5 oc6 : Obj} {v5 v6 : Option Value}
    (X : (hd.heap_39 w.params).In h₀) (T : Top p loose mean mg mb h₀)
    (htotal : m₀ (Str.ofString "total") = some (.int total tt)) (hcop : m₀ (Str.ofString "copies") = some (.int copies tco))
    (hbeh : m₀ (Str.ofString "behind") = some (.int behind tbe)) (hG : AllBare s.gens) (hst0 : 1 ≤ st) (hst1 : st ≤ 5000)
    (ht0 : 0 ≤ total) (ht1 : total ≤ 100000000) (hm0 : 1 ≤ m) (hm1 : m ≤ 5) (hn0 : 1 ≤ n) (hn1 : n ≤ 5) (hx0 : 0 ≤ x) (hx1 : x ≤ 6) (hcop0 : 1 ≤ copies) (hcop1 : copies ≤ 2) (hbe0 : 0 ≤ behind) (hbe1 : behind ≤ 3)
    (h1 : oc1.data = .cell (some (.int m t1))) (h2 : oc2.data = .cell (some (.int n t2))) (h3 : oc3.data = .cell (some (.int x t3))) (h4 : oc4.data = .cell (some (.int st t4))) (h5 : oc5.data = .cell v5) (h6 : oc6.data = .cell v6)
    (F : Fr h₀ L s.heap m₀) (N : News h₀ L s.heap ((L + 1 + 1 + 1 + 1 + 1 + 1, oc6) :: (L + 1 + 1 + 1 + 1 + 1, oc5) :: (L + 1 + 1 + 1 + 1, oc4) :: (L + 1 + 1 + 1, oc3) :: (L + 1 + 1, oc2) :: (L + 1, oc1) :: []))
    (hQ : ∀ h' tk' G, h₀.StaysIn h' → AllBare G → Q (.ret (.bool true)) { s with heap := h', toks := tk', gens := G }) :
    wpAny (model PySem.Challenge.pw_st0011_01 w) (callerA.deeper (lEnv L fa cd)) (execs (lStmts.drop 8) (lEnv L fa cd)) Q E s := by
  k_with_none
  k_with "eval ListComp" => (refine hold ?_)
  k_with "call builtin:max" => (refine hold ?_)
  k_with "exec For Tuple Tuple" => (k_dflt (refine' wpAny_For ?_ ?hs; (case hs => (intro _; with_unfolding_all rfl))))
  k_with "pyIter ref" => (refine hold ?_)
  generalize hM : model PySem.Challenge.pw_st0011_01 w = M
  delta lStmts PySem.Challenge.pw_st0011_01
  dsimp only [List.drop]
  subst hM
  (try k_fold)
  k_steps
  refine Hold.mk ?_
  with_reducible rename Fr _ _ _ _ => F9
  with_reducible rename News _ _ _ _ => N9
  refine d_comp (oc1 := oc1) (oc2 := oc2) X T hm0 hm1 hn0 hn1 h1 h2 F9 N9 (by k_mem) (by k_mem) fun D k h' tk' ys F2 N2 hI2 => ?_
  clear F9 N9
  dsimp only
  k_steps
  refine Hold.mk ?_
  with_reducible rename Fr _ _ _ _ => F9
  with_reducible rename News _ _ _ _ => N9
  refine max_list_N rfl F9 N9 (News.isList N9 (.head _)) hI2 divs_pos fun h4' d td tk4 F4 N4 hd hdm => ?_
  obtain ⟨hd0, hd1⟩ := divs_in hd
  obtain ⟨hdue1, hdue2⟩ := due_law hm0 hm1 hn0 hn1 hx0 hx1 hd hdm
  clear F9 N9
  dsimp only
  k_steps
  refine Hold.mk ?_
  with_reducible rename Fr _ _ _ _ => F9
  with_reducible rename News _ _ _ _ => N9
  have N8 := pick_pairs N9
  refine pairs_for (due := d * x.fdiv d + ((m - 1) * (n - 1) + d - 1).fdiv 2) (total := total) (copies := copies) (behind := behind) X T (by exact htotal) (by rfl) (by exact hcop) (by exact hbeh) hG hst0 hst1 ht0 ht1 hx0 hx1 hm0 hm1 hn0 hn1 hcop0 hcop1 hbe0 hbe1 h3 h5 h4 h6 F9 N8 (by k_ne) (by k_ne) (by k_ne) (by k_ne) (by k_ne) (by k_ne) hdue1 hdue2 fun h' tk' G m' F5 hG5 => ?_
  clear F9 N9 N8
  dsimp only
  have N0 : News h₀ L h' [] := News.nil
  k_steps
  exact hQ _ _ _ F5.keep hG5
theorem holdD {M : Model} {A : Around} {Q : Flow → Shared → Prop} {E : Value → Shared → Prop} {s : Shared} {p1 p2 : Pos} {e : Expr} {rest : List Stmt} {env : Env} (h : Hold (wpAny M A (execs (.Assign [.Name (Str.ofString "d") p1] e p2 :: rest) env) Q E s)) : wpAny M A (execs (.Assign [.Name (Str.ofString "d") p1] e p2 :: rest) env) Q E s := h.go
theorem tail1_ok {m n x total copies behind : Int} {t1 t2 t3 tt tco tbe : Tok} {oc1 oc2 oc3 oc4 oc5 oc6 : Obj} {v4 v5 v6 : Option Value}
    (X : (hd.heap_39 w.params).In h₀) (T : Top p loose mean mg mb h₀)
    (htotal : m₀ (Str.ofString "total") = some (.int total tt)) (hcop : m₀ (Str.ofString "copies") = some (.int copies tco))
    (hbeh : m₀ (Str.ofString "behind") = some (.int behind tbe)) (hG : AllBare s.gens)
    (ht0 : 0 ≤ total) (ht1 : total ≤ 100000000) (hm0 : 1 ≤ m) (hm1 : m ≤ 5) (hn0 : 1 ≤ n) (hn1 : n ≤ 5) (hx0 : 0 ≤ x) (hx1 : x ≤ 6) (hcop0 : 1 ≤ copies) (hcop1 : copies ≤ 2) (hbe0 : 0 ≤ behind) (hbe1 : behind ≤ 3)
    (h1 : oc1.data = .cell (some (.int m t1))) (h2 : oc2.data = .cell (some (.int n t2))) (h3 : oc3.data = .cell (some (.int x t3))) (h4 : oc4.data = .cell v4) (h5 : oc5.data = .cell v5) (h6 : oc6.data = .cell v6)
    (F : Fr h₀ L s.heap m₀) (N : News h₀ L s.heap ((L + 1 + 1 + 1 + 1 + 1 + 1, oc6) :: (L + 1 + 1 + 1 + 1 + 1, oc5) :: (L + 1 + 1 + 1 + 1, oc4) :: (L + 1 + 1 + 1, oc3) :: (L + 1 + 1, oc2) :: (L + 1, oc1) :: []))
    (hQ : ∀ h' tk' G, h₀.StaysIn h' → AllBare G → Q (.ret (.bool true)) { s with heap := h', toks := tk', gens := G }) :
    wpAny (model PySem.Challenge.pw_st0011_01 w) (callerA.deeper (lEnv L fa cd)) (execs (lStmts.drop 7) (lEnv L fa cd)) Q E s := by
  k_with_none
  k_with "execs cons" => (with_reducible refine holdD ?_)
  generalize hM : model PySem.Challenge.pw_st0011_01 w = M
  delta lStmts PySem.Challenge.pw_st0011_01
  dsimp only [List.drop]
  subst hM
  (try k_fold)
  k_steps
  all_goals
    refine Hold.mk ?_
    with_reducible rename Fr _ _ _ _ => F9
    with_reducible rename News _ _ _ _ => N9
    with_reducible rename Obj.data _ = Data.cell (some _) => d9
    exact tail2_ok X T htotal hcop hbeh hG (by decide) (by decide) ht0 ht1 hm0 hm1 hn0 hn1 hx0 hx1 hcop0 hcop1 hbe0 hbe1 h1 h2 h3 d9 h5 h6 F9 (news_drop N9) hQ
end
end Mine

namespace Mine
theorem offM1 : True := by
  w_top off
  trivial
local macro_rules | `(tactic| walk_at $s:str) => `(tactic| k_extra $s)
theorem holdS {M : Model} {A : Around} {Q : Flow → Shared → Prop} {E : Value → Shared → Prop} {s : Shared} {p1 p2 : Pos} {e : Expr} {rest : List Stmt} {env : Env} (h : Hold (wpAny M A (execs (.Assign [.Name (Str.ofString "stretch") p1] e p2 :: rest) env) Q E s)) : wpAny M A (execs (.Assign [.Name (Str.ofString "stretch") p1] e p2 :: rest) env) Q E s := h.go
theorem fm_in (a : Int) {k : Int} (hk : 0 < k) : 0 ≤ a.fmod k ∧ a.fmod k < k := ⟨Int.fmod_nonneg_of_pos a hk, Int.fmod_lt_of_pos a hk⟩
theorem m_lo {a : Int} : 1 ≤ a.fmod 5 + 1 := by have := fm_in a (k := 5) (by decide); omega
theorem m_hi {a : Int} : a.fmod 5 + 1 ≤ 5 := by have := fm_in a (k := 5) (by decide); omega
theorem x_lo {a : Int} : 0 ≤ a.fmod 7 := by have := fm_in a (k := 7) (by decide); omega
theorem x_hi {a : Int} : a.fmod 7 ≤ 6 := by have := fm_in a (k := 7) (by decide); omega
theorem c_lo {a : Int} : 1 ≤ a.fmod 2 + 1 := by have := fm_in a (k := 2) (by decide); omega
theorem c_hi {a : Int} : a.fmod 2 + 1 ≤ 2 := by have := fm_in a (k := 2) (by decide); omega
theorem b_lo {a : Int} : 0 ≤ a.fmod 4 := by have := fm_in a (k := 4) (by decide); omega
theorem b_hi {a : Int} : a.fmod 4 ≤ 3 := by have := fm_in a (k := 4) (by decide); omega
theorem total_hi {t : Int} {l : List Int} (h : t ≤ 2688 + 1000000 * ((List.take 60 l).length : Int)) : t ≤ 100000000 := by
  have : (List.take 60 l).length ≤ 60 := by rw [List.length_take]; omega
  omega
end Mine

open Mine
local macro_rules | `(tactic| walk_at $s:str) => `(tactic| k_extra $s)
theorem PySem.Challenge.cw_st0011_01_holds : PySem.Challenge.rw_st0011_01.Holds :=
  hd (by
  k_fill
  intro w s₀ s₁ mg mb G Y fa o pm cd doc dV kV ho hd' hcd hD hmg hg args vals as hpre hlay hrd hwl hlo
  have KX := kIn_of Y
  refine Ground.open G ?_
  intro T B D TE TW
  have TA := at_of_top T
  obtain ⟨_, _, rfl, B0⟩ := based_of_top T rfl hmg ho hd'
  wrow_args hpre hlay hrd hwl hlo
  refine enter_call ?_
  have K0 := below_caller (Top.heap T)
  w_call any ho hd' hcd hD T F
  clear hd' TA
  k_drop
  k_fold
  k_with_none
  k_with "pyIter ref" => k_state (fun pre t => 2688 ≤ t ∧ t ≤ 2688 + 1000000 * (pre.length : Int)) "total"
  k_with "execs cons" => (with_reducible refine holdS ?_)
  k_with "state" => (have h9 := fm_in kN (k := 1000000) (by decide); simp only [List.length_append, List.length_cons, List.length_nil]; (rw [show (10 : Int) ^ Int.toNat 6 = 1000000 by decide]); refine ⟨?_, ?_⟩ <;> omega)
  k_steps
  refine Hold.mk ?_
  with_reducible rename Fr _ _ _ _ => F9
  with_reducible rename News _ _ _ _ => N9
  with_reducible rename _ ≤ _ + 1000000 * _ => hup
  have hup2 := total_hi hup
  refine' tail1_ok KX T ?ht ?hc ?hb ?hG ?t0 ?t1 ?m0 ?m1 ?n0 ?n1 ?x0 ?x1 ?c0 ?c1 ?b0 ?b1 ?h1 ?h2 ?h3 ?h4 ?h5 ?h6 F9 (news_drop N9) ?hQ
  case ht => rfl
  case hc => rfl
  case hb => rfl
  case hG => exact .of_eq hg
  case h1 => assumption
  case h2 => assumption
  case h3 => assumption
  case h4 => assumption
  case h5 => assumption
  case h6 => assumption
  case t0 => omega
  case t1 => exact hup2
  case m0 => exact m_lo
  case m1 => exact m_hi
  case n0 => exact m_lo
  case n1 => exact m_hi
  case x0 => exact x_lo
  case x1 => exact x_hi
  case c0 => exact c_lo
  case c1 => exact c_hi
  case b0 => exact b_lo
  case b1 => exact b_hi
  case hQ =>
    intro h' tk' G' st hG'
    exact ⟨.inl ⟨_, _, [], rfl, fun _ => rfl, ReadsW.bool true, (by wrow_post), fun _ => ⟨List.nodup_nil, fun _ hm => (nomatch hm)⟩⟩, .of_keep st, rfl, hG'⟩)
