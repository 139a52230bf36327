import PyProof.Rows.All
import Wide.All
import OpenK.AllK
import Wide.FinOn
import KE.KIntText
import PySem.Challenge.RW_ta0052_01
set_option Elab.async false
set_option compiler.extract_closed false
set_option maxRecDepth 100000
set_option maxHeartbeats 8000000
set_option linter.unusedVariables false
namespace Mine

section
open _root_.PySem _root_.PySem.W _root_.PyProof.Rows
theorem ltAllL {D : Addr} {l : List (Addr × Obj)} (h : AllLt D l) {q : Addr × Obj} (hq : q ∈ l) : @LT.lt Nat _ q.1 D := by
  induction hq with
  | head l => exact h.1
  | tail b _ ih => exact ih h.2
theorem neA {a D : Addr} {o : Obj} {news : List (Addr × Obj)} (l : AllLt D news) (h : (a, o) ∈ news) : @Ne Nat a D := Nat.ne_of_lt (ltAllL l h)
theorem neB {a D : Addr} {o : Obj} {news : List (Addr × Obj)} (l : AllLt D news) (h : (a, o) ∈ news) : @Ne Nat D a := Nat.ne_of_gt (ltAllL l h)
theorem mH {x : Addr × Obj} {l : List (Addr × Obj)} : x ∈ x :: l := .head _
theorem mT {x y : Addr × Obj} {l : List (Addr × Obj)} (h : x ∈ l) : x ∈ y :: l := .tail _ h
theorem allNe {D : Addr} {news : List (Addr × Obj)} (l : AllLt D news) : ∀ p ∈ news, p.1 ≠ D := fun p h => Nat.ne_of_lt (ltAllL l h)
theorem neUp {a b : Nat} (h : a < b) : a ≠ b := Nat.ne_of_lt h
theorem neDn {a b : Nat} (h : b < a) : a ≠ b := Nat.ne_of_gt h
theorem neSS {a b : Nat} (h : a ≠ b) : a + 1 ≠ b + 1 := fun e => h (Nat.succ.inj e)
theorem ltU {a b : Nat} (h : a < b) : a < b + 1 := Nat.lt_succ_of_lt h
theorem ltU0 {a : Nat} : a < a + 1 := Nat.lt_succ_self a
theorem ltLow {k L : Nat} (h : 160 < L) (hk : Nat.ble k 160 = true) : k < L := Nat.lt_of_le_of_lt (Nat.le_of_ble_eq_true hk) h
theorem mAl {x : Addr × Obj} {a b : List (Addr × Obj)} (h : x ∈ a) : x ∈ a ++ b := List.mem_append_left b h
theorem mAr {x : Addr × Obj} {a b : List (Addr × Obj)} (h : x ∈ b) : x ∈ a ++ b := List.mem_append_right a h
theorem sub0 {l : List (Addr × Obj)} : ∀ p ∈ ([] : List (Addr × Obj)), p ∈ l := fun _ h => nomatch h
theorem subI {l : List (Addr × Obj)} : ∀ p ∈ l, p ∈ l := fun _ h => h
theorem subC {x : Addr × Obj} {r l : List (Addr × Obj)} (h : x ∈ l) (t : ∀ p ∈ r, p ∈ l) : ∀ p ∈ x :: r, p ∈ l := fun p hp => by
  cases hp with
  | head _ => exact h
  | tail _ hp => exact t p hp
theorem subT {x : Addr × Obj} {r l : List (Addr × Obj)} (t : ∀ p ∈ r, p ∈ l) : ∀ p ∈ r, p ∈ x :: l := fun p hp => .tail _ (t p hp)
theorem subA {a b l : List (Addr × Obj)} (s : ∀ p ∈ a, p ∈ l) (t : ∀ p ∈ b, p ∈ l) : ∀ p ∈ a ++ b, p ∈ l := fun p hp => (List.mem_append.mp hp).elim (s p) (t p)
theorem subL {r a b : List (Addr × Obj)} (t : ∀ p ∈ r, p ∈ a) : ∀ p ∈ r, p ∈ a ++ b := fun p hp => mAl (t p hp)
theorem subR {r a b : List (Addr × Obj)} (t : ∀ p ∈ r, p ∈ b) : ∀ p ∈ r, p ∈ a ++ b := fun p hp => mAr (t p hp)
theorem newsS {g h : Heap} {L : Addr} {l l' : List (Addr × Obj)} (N : News g L h l) (hs : ∀ p ∈ l', p ∈ l) : News g L h l' := fun p hp => N p (hs p hp)
theorem ne_dd {g h : Heap} {L a b : Addr} {o o' : Obj} {D D' : Data} {l : List (Addr × Obj)} (N : News g L h l) (h1 : (a, o) ∈ l) (h2 : (b, o') ∈ l) (e : o.data = D) (e' : o'.data = D') (d : Nat.beq D.ctorIdx D'.ctorIdx = false) : @Ne Nat a b := fun q => by
  have e1 := (N _ h1).1
  have e2 := (N _ h2).1
  dsimp only at e1 e2
  have q' : a = b := q
  rw [q', e2] at e1
  have e3 := Option.some.inj e1
  rw [← e', ← e, e3] at d
  rw [Nat.beq_refl] at d
  cases d
theorem ne0 {D : Addr} : ∀ q ∈ ([] : List (Addr × Obj)), q.1 ≠ D := fun _ h => nomatch h
theorem neC {a D : Addr} {o : Obj} {r : List (Addr × Obj)} (h : @Ne Nat a D) (t : ∀ q ∈ r, q.1 ≠ D) : ∀ q ∈ (a, o) :: r, q.1 ≠ D := fun q hq => by
  cases hq with
  | head _ => exact h
  | tail _ hq => exact t q hq
theorem cutG {G : Prop} (h : ∀ P : Prop, (G → P) → P) : G := h G id
noncomputable def Stop (P : Prop) : Prop := P
theorem stop_here {P : Prop} (h : Stop P) : P := h
theorem stop3 {M : Model} {A : Around} {E : Value → Shared → Prop} {s : Shared} {Q : Flow → Shared → Prop} {env : Env} {x0 x1 x2 : Stmt} (h : Stop (wpAny M A (execs [x0, x1, x2] env) Q E s)) : wpAny M A (execs [x0, x1, x2] env) Q E s := h
theorem stop5 {M : Model} {A : Around} {E : Value → Shared → Prop} {s : Shared} {Q : Flow → Shared → Prop} {env : Env} {x0 x1 x2 x3 x4 : Stmt} (h : Stop (wpAny M A (execs [x0, x1, x2, x3, x4] env) Q E s)) : wpAny M A (execs [x0, x1, x2, x3, x4] env) Q E s := h
theorem stop8 {M : Model} {A : Around} {E : Value → Shared → Prop} {s : Shared} {Q : Flow → Shared → Prop} {env : Env} {x0 x1 x2 x3 x4 x5 x6 x7 : Stmt} (h : Stop (wpAny M A (execs [x0, x1, x2, x3, x4, x5, x6, x7] env) Q E s)) : wpAny M A (execs [x0, x1, x2, x3, x4, x5, x6, x7] env) Q E s := h
theorem stop12 {M : Model} {A : Around} {E : Value → Shared → Prop} {s : Shared} {Q : Flow → Shared → Prop} {env : Env} {x0 x1 x2 x3 x4 x5 x6 x7 x8 x9 x10 x11 : Stmt} (h : Stop (wpAny M A (execs [x0, x1, x2, x3, x4, x5, x6, x7, x8, x9, x10, x11] env) Q E s)) : wpAny M A (execs [x0, x1, x2, x3, x4, x5, x6, x7, x8, x9, x10, x11] env) Q E s := h
theorem stopA {M : Model} {A : Around} {E : Value → Shared → Prop} {s : Shared} {Q : Flow → Shared → Prop} {env : Env} {ts f a b c d r k p q} (h : Stop (wpAny M A (exec (.Assign ts (.Call f (.ListComp a b c d :: r) k p) q) env) Q E s)) : wpAny M A (exec (.Assign ts (.Call f (.ListComp a b c d :: r) k p) q) env) Q E s := h
theorem exFn {a b c d} : ∃ oc od fd sl, (⟨a, b, .func c, d⟩ : Obj) = ⟨oc, od, .func fd, sl⟩ := ⟨_, _, _, _, rfl⟩
theorem len_pos_of {ns : List Int} (h : ns ≠ []) : (0 : Int) < ns.length := by
  cases ns with
  | nil => exact absurd rfl h
  | cons a r => rw [List.length_cons]; exact Int.ofNat_lt.mpr (Nat.succ_pos _)
theorem shut {T : Type} (ne : Nonempty T) {Q : T → Prop} (h : Q (@Classical.epsilon T ne fun c => ¬ Q c)) (c : T) : Q c := Classical.byContradiction fun hn => Classical.epsilon_spec (p := fun c => ¬ Q c) ⟨c, hn⟩ h
def tabK : List (Char × Lean.Name × String × Nat) := [('a', `PySem.W.tacticK_asm, "k_asm", 0), ('m', `PySem.W.tacticK_mem, "k_mem", 0), ('o', `Lean.Parser.Tactic.omega, "omega", 1), ('s', `Lean.Parser.Tactic.assumption, "assumption", 0), ('d', `Lean.Parser.Tactic.decide, "decide", 1), ('i', `PySem.W.tacticK_is, "k_is", 0), ('p', `PySem.W.tacticKmk_part, "kmk_part", 0), ('l', `PySem.W.tacticKmk_list, "kmk_list", 0), ('t', `PySem.W.tacticKmk_pure, "kmk_pure", 0), ('k', `PySem.W.tacticKmk_size, "kmk_size", 0), ('T', `PySem.W.tacticL_ints, "l_ints", 0), ('C', `PySem.W.tacticKn_code, "kn_code", 0), ('U', `PySem.W.tacticK_updF, "k_updF", 0), ('w', `PySem.W.tacticK_whole, "k_whole", 0), ('>', `Lean.Parser.Tactic.rotateLeft, "rotate_left", 2), ('<', `Lean.Parser.Tactic.rotateRight, "rotate_right", 2), ('I', `Lean.Parser.Tactic.intros, "intros", 2)]
def wkK (s : String) : Lean.MacroM (Lean.TSyntax `tactic) := `(tactic| walk_at $(Lean.Syntax.mkStrLit s))
def rowK (c : Char) : Lean.MacroM (Lean.TSyntax `tactic) :=
  match tabK.lookup c with
  | some (k, s, n) =>
    let z : Lean.Syntax := .node .none `null #[]
    pure ⟨.node .none k ((.atom .none s : Lean.Syntax) :: (if n = 0 then [] else if n = 1 then [.node .none `Lean.Parser.Tactic.optConfig #[z]] else [z])).toArray⟩
  | none => match c with
    | 'r' => `(tactic| exact rfl)
    | 'u' => `(tactic| with_unfolding_all rfl)
    | 'v' => `(tactic| (intro _; with_unfolding_all rfl))
    | 'S' => `(tactic| try k_sweep)
    | 'c' => wkK "my c"
    | 'P' => wkK "my p"
    | 'q' => wkK "my q"
    | 'x' => `(tactic| first | rfl | assumption)
    | 'M' => `(tactic| first | exact kmk_upto (by assumption) (by omega) | exact kmk_from (by assumption) (by omega) | exact kmk_run (by assumption) (by omega) (by omega))
    | 'Z' => `(tactic| (refine kmk_sz (by assumption) ?_; rw [sizeLine_eq]; omega))
    | 'Y' => `(tactic| ((try simp only [List.length_append, List.length_take, List.length_drop, List.length_map, List.length_cons, List.length_nil]); omega))
    | 'F' => `(tactic| exact PySem.F.slot_list_append)
    | 'G' => `(tactic| exact PySem.F.type_list_append)
    | 'H' => `(tactic| all_goals (intro hT; (try have hT' := len_pos_of hT); dsimp only))
    | 'N' => `(tactic| (intro n1; try dsimp only at n1))
    | 'L' => `(tactic| (intro l1; try k_lt l1))
    | _ => `(tactic| intro _)
theorem units_mark {A : Around} {x : Option Value} : (A.mark x).units = A.units := rfl
def anyK (l : List Lean.Name) (r : Lean.TSyntax `tactic) : Lean.MacroM Lean.Syntax := return (← l.foldrM (fun n r => `(tactic| first | exact $(Lean.mkIdent n) (by assumption) | $r:tactic)) r).raw
def rowL (l : Lean.Name) (s : List Char) : Lean.MacroM Lean.Syntax := do
  let r ← s.foldlM (fun r c => do `(tactic| ($r:tactic; $(← rowK c):tactic))) (← `(tactic| apply $(Lean.mkIdent l)))
  return (← `(tactic| (k_here; k_dflt $r:tactic))).raw
def rowR (l : Lean.Name) (s : String) : Lean.MacroM Lean.Syntax := rowL l s.toList
def rowW (l : Lean.Name) (s : String) (k : Lean.Name) (t : String) : Lean.MacroM Lean.Syntax := do
  let a ← rowR l s
  let b ← rowR k t
  return (← `(tactic| ($(⟨a⟩):tactic; $(⟨b⟩):tactic))).raw
def rowC (l : Lean.Name) (n : Nat) : Lean.MacroM Lean.Syntax := rowL l ('s' :: (List.replicate n 'c' ++ ['w', 'I']))
def neK : Lean.MacroM Lean.Syntax := do
  let a ← `(tactic| with_reducible assumption)
  let l ← `(tactic| ((repeat' (first | exact ltLow (by $a:tactic) rfl | $a:tactic | with_reducible exact ltU0 | with_reducible refine ltU ?_)); first | done | fail))
  let u ← `(tactic| first | exact neUp (by $l:tactic) | exact neDn (by $l:tactic))
  let m ← `(tactic| walk_at "my m")
  return (← `(tactic| (refine neN ?_; (try dsimp only); first | exact neA (by $a:tactic) (by $m:tactic) | exact neB (by $a:tactic) (by $m:tactic) | $a:tactic | exact Ne.symm (by $a:tactic) | decide | $u:tactic | ((repeat (with_reducible refine neSS ?_)); $u:tactic) | lia | (simp only [AllLt, and_true] at *; lia)))).raw
end
section
open _root_.PySem _root_.PySem.W _root_.PyProof.Rows
noncomputable def pk (l : List (Addr × Obj)) : List Nat → List (Addr × Obj)
  | [] => []
  | i :: is => match l.drop i with
    | [] => pk l is
    | x :: _ => x :: pk l is
theorem pk_mem (l : List (Addr × Obj)) : ∀ is, ∀ p ∈ pk l is, p ∈ l
  | [], _, h => nomatch h
  | i :: is, p, h => by
    unfold pk at h
    split at h
    · exact pk_mem l is p h
    · rename_i x r e
      rcases List.mem_cons.mp h with rfl | h
      · exact List.mem_of_mem_drop (i := i) (by rw [e]; exact .head _)
      · exact pk_mem l is p h
theorem news_pick {g h : Heap} {L : Addr} {l : List (Addr × Obj)} (N : News g L h l) (is : List Nat) : News g L h (pk l is) := fun p hp => N p (pk_mem l is p hp)
example {g h : Heap} {L : Addr} {o1 o2 o3 : Obj} {R : List (Addr × Obj)} (N : News g L h ((L + 1, o1) :: (L, o2) :: (66, o3) :: R)) : News g L h [(66, o3), (L + 1, o1)] := news_pick N [2, 0]
end
section
open _root_.PySem _root_.PySem.W _root_.PyProof.Rows
theorem said : PySem.Challenge.rw_ta0052_01.wellSaid = true := by decide +kernel
end
section
open _root_.PySem _root_.PyProof.Rows
open Sem (wp)
/-- the caller of the claim -/
noncomputable def isC (c : Code) : Bool := match c with | .builtin "claim.caller" _ => true | _ => false
/-- the claim's caller stands in the stack -/
noncomputable def HasC (G : Ctx) : Prop := (G.code :: G.below.map (·.1)).any isC = true
noncomputable def DeepC (G : Ctx) : Prop := (G.below.map (·.1)).any isC = true
theorem HasC.of_deep {G : Ctx} (h : DeepC G) : HasC G := by
  unfold HasC DeepC at *
  rw [List.any_cons, h, Bool.or_true]
theorem HasC.enter {G : Ctx} (h : HasC G) (c : Code) (x : Option Value) (p : Pos) : DeepC (G.enter c x p) := h
theorem DeepC.goto {G : Ctx} (h : DeepC G) (c : Code) : DeepC (G.goto c) := h
noncomputable def wpR {α : Type} (M : Model) (A : Around) (t : Sem α) (Q : α → Shared → Prop) (E : Value → Shared → Prop) (s : Shared) : Prop :=
  ∀ G p, G.In A → HasC G → wp M G t (fun a _ s' => Q a s') (fun e _ s' => E e s') p s
noncomputable def codeR (M : Model) (A : Around) (c : Code) (R : Result → Shared → Prop) (s : Shared) : Prop :=
  ∀ G p, G.code = c → G.Below A → DeepC G → wpCode M G R p s
section
variable {α β : Type} {M : Model} {A : Around} {E : Value → Shared → Prop} {s : Shared}
theorem wpR_of {t : Sem α} {Q : α → Shared → Prop} (h : wpAny M A t Q E s) : wpR M A t Q E s := fun G p hi _ => h G p hi
theorem wpR_pure {a : α} {Q : α → Shared → Prop} (h : Q a s) : wpR M A (pure a) Q E s := fun _ _ _ _ => h
theorem wpR_mono {t : Sem α} {Q Q' : α → Shared → Prop} {E' : Value → Shared → Prop} (h : wpR M A t Q E s) (hQ : ∀ a s, Q a s → Q' a s) (hE : ∀ e s, E e s → E' e s) : wpR M A t Q' E' s :=
  fun G p hi hc => Sem.wp_mono M G t (fun a _ s => hQ a s) (fun e _ s => hE e s) p s (h G p hi hc)
theorem wpR_bind {m : Sem α} {f : α → Sem β} {Q : β → Shared → Prop} (h : wpR M A m (fun a s' => wpR M A (f a) Q E s') E s) : wpR M A (m >>= f) Q E s := fun G p hi hc => by
  rw [Sem.wp_bind']
  exact Sem.wp_mono M G m (fun a p' s' h' => h' G p' hi hc) (fun _ _ _ h' => h') p s (h G p hi hc)
theorem wpR_onRaise {m : Sem α} {k : Value → Sem Unit} {Q : α → Shared → Prop} (h : wpR M A m Q (fun e s' => wpR M A (k e) (fun _ s'' => E e s'') E s') s) : wpR M A (m.onRaise k) Q E s := fun G p hi hc => by
  rw [Sem.wp_onRaise]
  exact Sem.wp_mono M G m (fun _ _ _ h' => h') (fun e p' s' h' => h' G p' hi hc) p s (h G p hi hc)
theorem wpR_attempt {m : Sem α} {Q : Except Value α → Shared → Prop} (h : wpR M A m (fun a => Q (.ok a)) (fun e => Q (.error e)) s) : wpR M A m.attempt Q E s := fun G p hi hc => by rw [Sem.wp_attempt]; exact h G p hi hc
theorem wpR_holding {vs : List Value} {m : Sem α} {Q : α → Shared → Prop} (h : wpR M A m Q E s) : wpR M A (holding vs m) Q E s := fun G p hi hc => by rw [Sem.wp_holding]; exact h G p hi hc
theorem wpR_standAt {pos : Pos} {Q : Unit → Shared → Prop} (h : Q () s) : wpR M A (standAt pos) Q E s := wpR_of (wpAny_standAt h)
theorem codeR_mono {c : Code} {R R' : Result → Shared → Prop} (h : codeR M A c R s) (hR : ∀ r s, R r s → R' r s) : codeR M A c R' s := fun G p hc hb hd => wpCode_mono hR (h G p hc hb hd)
theorem wpR_run {c : Code} {h : Option Value} {Q : Flow → Shared → Prop} (hc : codeR M (A.mark h) c (fun r s' => match r with | .ok f => Q f s' | .error e => E e s') s) (hnb : h ≠ some byPass := by intro x; cases x) : wpR M A (run c h) Q E s :=
  fun G p hi hC => by rw [Sem.wp_run]; exact hc _ p rfl (hi.enter c h p hnb) (hC.enter c h p)
theorem wpR_runValue {c : Code} {Q : Value → Shared → Prop} (hc : codeR M A c (fun r s' => match r with | .ok (.ret v) => Q v s' | .ok _ => False | .error e => E e s') s) : wpR M A (runValue c) Q E s := fun G p hi hC => by
  rw [Sem.wp_runValue]; exact hc _ p rfl (hi.enter c none p (by intro x; cases x)) (hC.enter c none p)
theorem wpR_call {f : Value} {pos : List Value} {kw : List (Str × Value)} {Q : Value → Shared → Prop} (hc : codeR M A (.call f ⟨pos, kw⟩) (fun r s' => match r with | .ok (.ret v) => Q v s' | .ok _ => False | .error e => E e s') s) : wpR M A (call f pos kw) Q E s := wpR_runValue hc
theorem codeR_of_tree {c : Code} {R : Result → Shared → Prop} (h : wpR M (A.under c) (M.den c) (fun fin s' => match fin with | .done f => R (.ok f) s' | .again c' => c'.quiet = true ∧ codeR M A c' R s') (fun e s' => R (.error e) s') s) : codeR M A c R s := fun G p hc hb hd => by
  rw [wpCode_iff_wp, hc]
  refine Sem.wp_mono M G _ (fun fin p' s' h' => ?_) (fun _ _ _ h' => h') p s (h G p (hc ▸ hb.in) (.of_deep hd))
  cases fin with
  | done f => exact h'
  | again c' => exact ⟨h'.1, h'.2 (G.goto c') p' rfl (hb.goto c') (hd.goto c')⟩
end
end
section
open _root_.PySem _root_.PyProof.Rows _root_.PySem.W
section
variable {prog : Program} {w : World} {A : Around} {s : Shared} {R : Result → Shared → Prop}
theorem codeR_func {body : List Stmt} {env : Env}
    (h : wpR (model prog w) (A.deeper env) (execs body env) (fun f s' => R (.ok (.ret (match f with | .ret v => v | _ => .none))) s')
      (fun e s' => wpAny (model prog w) (A.deeper env) (leaving env e) (fun _ s'' => R (.error e) s'') (fun e' s'' => R (.error e') s'') s') s) : codeR (model prog w) A (.func body env) R s := by
  refine codeR_of_tree ?_
  show wpR _ (A.deeper env) (do point; match ← (execs body env).onRaise (leaving env) with | .ret v => ret v | _ => ret .none) _ _ s
  refine wpR_bind (wpR_of (wpAny_point (wpR_bind (wpR_onRaise (wpR_mono h (fun f s' h' => ?_) fun _ _ h' => wpR_of h')))))
  cases f <;> exact wpR_pure h'
theorem codeR_call_function {a : Addr} {args : Args} {o : Obj} {fd : FuncData} {body : List Stmt} (hroom : A.depth < recursionLimit)
    (ho : s.heap.get? a = some o)
    (hd' : o.data = .func fd) (hco : fd.scope.isCoroutine = false) (hgen : fd.scope.isGenerator = false) (hbody : fd.body = .stmts body) (hcd : s.heap.CodeRec fd.code fd.qualname)
    (h : wpAny (model prog w) A.in1 (bindArgs fd args) (fun binds s₁ =>
      wpAny (model prog w) A.in1 (newFunctionEnv fd.scope fd.globals fd.closure binds (fd.qualname ++ ".<locals>.") (some a) fd.code none fd.builtins)
        (fun env s₂ => s₂.heap.NoLimit ∧ codeR (model prog w) A (.func body env) R s₂) (fun e s' => R (.error e) s') s₁) (fun e s' => R (.error e) s') s) :
    codeR (model prog w) A (.call (.ref a) args) R s := by
  refine codeR_of_tree (wpR_of ?_)
  show wpAny _ A.in1 (callAny (.ref a) args) _ _ s
  unfold callAny
  refine wpAny_bind (wpAny_load ho ?_)
  refine cutG fun Pc kc => ?_
  obtain ⟨c, oc, vs, tq, hc, hoc, hdc, hq⟩ := hcd
  refine kc ?_
  clear kc Pc
  rw [hd']
  show wpAny _ A.in1 (callFunction _ _ _) _ _ s
  unfold callFunction
  rw [hco, hgen, hbody, hc]
  rw [hc] at h
  refine wpAny_bind (m := field (.ref c) 1) (wpAny_field hoc hdc hq (wpAny_bind (wpAny_pure ?_)))
  exact wpAny_bind (wpAny_mono h (fun binds s₁ h₁ => wpAny_bind (wpAny_mono h₁ (fun env s₂ h₂ => wpAny_bind (wpAny_enterFrame h₂.1 hroom
    (wpAny_pure (And.intro rfl h₂.2)))) fun _ _ h' => h')) fun _ _ h' => h')
theorem codeR_call_def {a : Addr} {o : Obj} {fd : FuncData} {body : List Stmt} {args : Args} {binds : List (Str × Value)}
    (hroom : A.depth < recursionLimit) (ho : s.heap.get? a = some o) (hdata : o.data = .func fd) (hlim : s.heap.NoLimit) (hcd : s.heap.CodeRec fd.code fd.qualname)
    (hbody : fd.body = .stmts body) (hbind : BindsTo s fd args binds)
    (hcell : ∀ x ∈ fd.scope.names, x.2 ≠ .cell) (hloc : ∀ x ∈ binds, fd.scope.names.lookup x.1 = some .local)
    (h : ∀ h₀, h₀.Ns s.heap.objs.size (fun x => binds.reverse.lookup x) → (∀ b o, s.heap.get? b = some o → h₀.get? b = some o) →
      wpR (model prog w) (A.deeper (callEnv fd s.heap.objs.size a)) (execs body (callEnv fd s.heap.objs.size a)) (fun f s' => R (.ok (.ret (match f with | .ret v => v | _ => .none))) s')
        (fun e s' => wpAny (model prog w) (A.deeper (callEnv fd s.heap.objs.size a)) (leaving (callEnv fd s.heap.objs.size a) e) (fun _ s'' => R (.error e) s'') (fun e' s'' => R (.error e') s'') s')
        { s with heap := h₀, toks := s.toks + binds.length })
    (hco : fd.scope.isCoroutine = false := by rfl) (hgen : fd.scope.isGenerator = false := by rfl) (hk : fd.scope.kind = .function := by rfl) :
    codeR (model prog w) A (.call (.ref a) args) R s := by
  refine codeR_call_function hroom ho hdata hco hgen hbody hcd (hbind _ _ _ _ ?_)
  refine wpAny_newFunctionEnv hcell hloc (fun h₀ hns₀ hsb₀ => ⟨hlim.fresh _ hsb₀, codeR_func (h h₀ hns₀ fun b o e => ?_)⟩) hk
  exact hsb₀.extBut b o (Nat.ne_of_lt (Heap.lt_size e)) (Heap.get?_push_of_some _ e)
theorem codeR_call_cells {a : Addr} {o : Obj} {fd : FuncData} {body : List Stmt} {vals : List Value} {binds : List (Str × Value)}
    (hroom : A.depth < recursionLimit) (ho : s.heap.get? a = some o) (hdata : o.data = .func fd) (hlim : s.heap.NoLimit) (hcd : s.heap.CodeRec fd.code fd.qualname)
    (hbody : fd.body = .stmts body) (hbind : bindArgs fd ⟨vals, []⟩ = pure binds) (hclo : fd.closure = [])
    (hkind : ∀ x ∈ binds, fd.scope.names.lookup x.1 = some .local ∨ (fd.scope.names.lookup x.1 = some .cell ∧ ((cellsFrom (s.heap.objs.size + 1) fd.scope.names []).lookup x.1).isSome = true))
    (h : ∀ s₁, InCallC s (callEnvC fd s.heap.objs.size a).locals (bindL (callEnvC fd s.heap.objs.size a).kindOf binds fun _ => none) (callEnvC fd s.heap.objs.size a).cells
        (bindC (callEnvC fd s.heap.objs.size a).kindOf binds fun _ => none) s₁ →
      wpR (model prog w) (A.deeper (callEnvC fd s.heap.objs.size a)) (execs body (callEnvC fd s.heap.objs.size a)) (fun f s' => R (.ok (.ret (match f with | .ret v => v | _ => .none))) s')
        (fun e s' => wpAny (model prog w) (A.deeper (callEnvC fd s.heap.objs.size a)) (leaving (callEnvC fd s.heap.objs.size a) e) (fun _ s'' => R (.error e) s'') (fun e' s'' => R (.error e') s'') s') s₁)
    (hco : fd.scope.isCoroutine = false := by rfl) (hgen : fd.scope.isGenerator = false := by rfl) (hk : fd.scope.kind = .function := by rfl) :
    codeR (model prog w) A (.call (.ref a) ⟨vals, []⟩) R s := by
  refine codeR_call_function hroom ho hdata hco hgen hbody hcd ?_
  rw [hbind, hclo]
  refine wpAny_pure (wpAny_newFunctionEnv_cells hk hkind fun env he s' x => ?_)
  subst he
  exact ⟨hlim.keeps x.toInCall.keep, codeR_func (h s' x)⟩
end
end
section
open _root_.PySem _root_.PyProof.Rows _root_.PySem.W
section
variable {prog : Program} {w : World} {A : Around} {s : Shared} {R : Result → Shared → Prop} {E : Value → Shared → Prop}
theorem mark_none {own : List String} {codes : List Code} (h : codes.any isC = true) : pythonCodeMadeTheCall own codes = false := by
  show (!(codes.any isC) && _ && _) = false
  rw [h]
  rfl
theorem wpR_mark {M : Model} {own : List String} {e : Value} {Q : Unit → Shared → Prop} (h : Q () s) : wpR M A (markTheRefusal own e) Q E s := fun G p hi hc => by
  unfold markTheRefusal
  rw [Sem.wp_bind']
  have e : pythonCodeMadeTheCall own (((G.code, p) :: G.below).map fun x => x.1) = false := mark_none hc
  show Sem.wp M G (if pythonCodeMadeTheCall own (((G.code, p) :: G.below).map fun x => x.1) = true then _ else _) _ _ p s
  rw [e]
  exact h
theorem codeR_builtin {id : String} {args : Args} {b : Builtin} (hb : entryFor table id = some b)
    (h : wpR (model prog w) (A.under (.builtin id args)) (b args)
      (fun fin s' => match fin with | .done f => R (.ok f) s' | .again c' => c'.quiet = true ∧ codeR (model prog w) A c' R s') (fun e s' => R (.error e) s') s) :
    codeR (model prog w) A (.builtin id args) R s := by
  refine codeR_of_tree ?_
  show wpR _ _ (match entryFor table id with | some b => b args | none => unsupported ((withoutEnding? id "#data").getD id)) _ _ s
  rw [hb]; exact h
end
end
section
open _root_.PySem _root_.PyProof.Rows _root_.PySem.W _root_.PySem.Calls _root_.PySem.NumText
section
variable {prog : Program} {w : World} {A : Around} {s : Shared} {R : Result → Shared → Prop} {E : Value → Shared → Prop}
theorem wpR_ite_pos {α : Type} {Q : α → Shared → Prop} {c : Prop} [Decidable c] {t e : Sem α} (hc : c) (h : wpR (model prog w) A t Q E s) : wpR (model prog w) A (if c then t else e) Q E s := by rw [if_pos hc]; exact h
theorem wpR_ite_neg {α : Type} {Q : α → Shared → Prop} {c : Prop} [Decidable c] {t e : Sem α} (hc : ¬ c) (h : wpR (model prog w) A e Q E s) : wpR (model prog w) A (if c then t else e) Q E s := by rw [if_neg hc]; exact h
theorem text_tail {x : PySem.Str} {u : Tok} {Q : Value → Shared → Prop} (hh : A.handled = none) (hl : x.length ≤ 640) (hx : (reprText x).length ≤ 10000)
    (h : ∀ h' tk e, Heap.NewExc s.heap h' e "ValueError" → E (.ref e) { s with heap := h', toks := tk }) :
    wpR (model prog w) A (do
        let shown ← pyRepr (.str x u)
        let __do_lift ← mkStr (PySem.Str.ofString (toString "invalid literal for int() with base " ++ toString 10 ++ toString ": ") ++ { cps := shown.cps.extract 0 200 })
        let refusal ← newExc (Value.type "ValueError") [__do_lift]
        markTheRefusal ["int.__new__"] refusal
        raiseNew refusal) Q E s := by
  refine wpR_bind (wpR_of ?_)
  unfold pyRepr
  refine wpAny_bind (pyReprObj_str ?_ (Nat.le_trans hx (by decide)))
  refine wpAny_pure ?_
  refine wpR_bind (wpR_of (wpAny_mkStr ?_ ?_))
  rotate_left
  · have e : ∀ a b : PySem.Str, (a ++ b).length = a.length + b.length := fun a b => Array.size_append
    rw [e]
    have h1 : (PySem.Str.ofString (toString "invalid literal for int() with base " ++ toString 10 ++ toString ": ")).length ≤ 100 := by decide +kernel
    have h2 : ({ cps := (reprText x).cps.extract 0 200 } : PySem.Str).length ≤ 200 := by
      show ((reprText x).cps.extract 0 200).size ≤ 200
      rw [Array.size_extract]
      omega
    exact Nat.le_trans (Nat.add_le_add h1 h2) (by decide)
  refine wpR_bind (wpR_of (wpAny_newExc_plain plainExc_ValueError fun h' e hm => ?_))
  refine wpR_bind (wpR_mark ?_)
  exact wpR_of (wpAny_raiseNew_none hh (h _ _ _ hm.newExc))
theorem text_inv {x : PySem.Str} {u : Tok} {text : List Nat} {Q : Value → Shared → Prop} (hh : A.handled = none) (hl : x.length ≤ 640) (hx : (reprText x).length ≤ 10000) (hs : (text.takeWhile (· != 0)).length ≤ 640)
    (hr : (int_private% "readNumeral") 0 10 (text.takeWhile (· != 0)) = int_private% "Numeral.invalid")
    (h : ∀ h' tk e, Heap.NewExc s.heap h' e "ValueError" → E (.ref e) { s with heap := h', toks := tk }) :
    wpR (model prog w) A ((int_private% "intFromText") (.str x u) text 10) Q E s := by
  refine wpR_ite_pos (c := (text.takeWhile (· != 0)).length ≤ 640) hs ?_
  refine wpR_bind (wpR_pure ?_)
  dsimp only
  rw [hr]
  dsimp only
  refine wpR_bind (m := pure none) (wpR_pure ?_)
  refine wpR_ite_neg (by rw [Option.isSome_none, Bool.false_and]; exact Bool.false_ne_true) ?_
  refine wpR_bind (m := PySem.rule _) (wpR_of ?_)
  repeat (any_goals (first | assumption | wp_step))
  refine wpR_bind (m := pure none) (wpR_pure ?_)
  exact text_tail hh hl hx h
theorem text_val {x : PySem.Str} {u : Tok} {text : List Nat} {i : Int} {Q : Value → Shared → Prop} (hh : A.handled = none) (hl : x.length ≤ 640) (hx : (reprText x).length ≤ 10000) (hs : (text.takeWhile (· != 0)).length ≤ 640)
    (hr : (int_private% "readNumeral") 0 10 (text.takeWhile (· != 0)) = (int_private% "Numeral.value") i) (hne : ¬ ((text.takeWhile (· != 0)).length == text.length) = true)
    (h : ∀ h' tk e, Heap.NewExc s.heap h' e "ValueError" → E (.ref e) { s with heap := h', toks := tk }) :
    wpR (model prog w) A ((int_private% "intFromText") (.str x u) text 10) Q E s := by
  refine wpR_ite_pos (c := (text.takeWhile (· != 0)).length ≤ 640) hs ?_
  refine wpR_bind (wpR_pure ?_)
  dsimp only
  rw [hr]
  dsimp only
  refine wpR_ite_neg hne ?_
  refine wpR_bind (m := PySem.rule _) (wpR_of ?_)
  repeat (any_goals (first | assumption | wp_step))
  refine wpR_bind (m := pure none) (wpR_pure ?_)
  exact text_tail hh hl hx h
theorem fromObj_bad {x : PySem.Str} {u : Tok} {Q : Value → Shared → Prop} (hh : A.handled = none) (hl : x.length ≤ 640) (hx : (reprText x).length ≤ 10000) (hn : PySem.intText? x = none) (h : ∀ h' tk e, Heap.NewExc s.heap h' e "ValueError" → E (.ref e) { s with heap := h', toks := tk }) :
    wpR (model prog w) A ((int_private% "intFromObject") (.str x u)) Q E s := by
  refine cutG fun Pc kc => ?_
  obtain ⟨hp, g, d, tk, os⟩ := s
  refine kc ?_
  clear kc Pc
  have f3 := KIN.str_int
  have f4 := KIN.str_idx
  have f5 := KIN.str_trunc
  have f6 : typeOf (.str x u) = pure (.type "str") := rfl
  refine wpR_bind (m := callSpecial? (.str x u) "__int__") (wpR_of ?_)
  repeat (any_goals (first | assumption | wp_step))
  dsimp only
  refine wpR_bind (m := specialOf (.str x u) "__index__") (wpR_of ?_)
  repeat (any_goals (first | assumption | wp_step))
  refine wpR_bind (m := specialOf (.str x u) "__trunc__") (wpR_of ?_)
  repeat (any_goals (first | assumption | wp_step))
  dsimp only
  refine wpR_bind (m := (int_private% "numeralText?") (.str x u)) (wpR_of ?_)
  repeat (any_goals (first | assumption | wp_step))
  show wpR (model prog w) A ((int_private% "intFromText") (.str x u) (numTextOf x) 10) Q E _
  have hs : (numSeenOf x).length ≤ 640 := Nat.le_trans (seen_length x) hl
  rcases read0 x hs with ⟨m, h1, _⟩ | ⟨_, h1 | ⟨i, h1, h2⟩⟩
  · rw [hn] at h1; cases h1
  · exact text_inv hh hl hx hs h1 h
  · exact text_val hh hl hx hs h1 h2 h
end
end
section
open _root_.PySem _root_.PyProof.Rows _root_.PySem.W _root_.PySem.Calls _root_.PySem.NumText
section
variable {prog : Program} {w : World} {A : Around} {s : Shared} {R : Result → Shared → Prop} {E : Value → Shared → Prop}
theorem codeR_call_builtin {id : String} {args : Args} {b : Builtin} (hp : plainId id = true) (hb : entryFor table id = some b) (hcn : checkBuiltinCall id args = pure ())
    (h : wpR (model prog w) A.in1 (b args) (fun fin s' => match fin with | .done f => R (.ok f) s' | .again c' => c'.quiet = true ∧ codeR (model prog w) A c' R s') (fun e s' => R (.error e) s') s) :
    codeR (model prog w) A (.call (.builtin id) args) R s := by
  refine codeR_of_tree ?_
  show wpR _ A.in1 (do checkBuiltinCall id args; again (.builtin id args)) _ _ s
  rw [hcn]
  refine wpR_bind (wpR_pure (wpR_pure ⟨plainId_quiet hp args, codeR_builtin hb ?_⟩))
  rw [Around.under_plainId hp]
  exact h
theorem wpR_fail {α β : Type} {M : Model} {m : Sem α} {f : α → Sem β} {Q : β → Shared → Prop} (h : wpR M A m (fun _ _ => False) E s) : wpR M A (m >>= f) Q E s :=
  wpR_bind (wpR_mono h (fun _ _ x => x.elim) fun _ _ x => x)
theorem new_bad {x : PySem.Str} {u : Tok} {Q : Fin → Shared → Prop} (hh : A.handled = none) (hl : x.length ≤ 640) (hx : (reprText x).length ≤ 10000) (hn : PySem.intText? x = none) (h : ∀ h' tk e, Heap.NewExc s.heap h' e "ValueError" → E (.ref e) { s with heap := h', toks := tk }) :
    wpR (model prog w) A (Builtin.«int.__new__» ⟨[.type "int", .str x u], []⟩) Q E s := by
  unfold Builtin.«int.__new__»
  dsimp only
  refine wpR_bind (wpR_of ?_)
  repeat (any_goals (first | assumption | wp_step))
  rw [F.conv_sub_int, F.madeHere_int]
  have e1 : (Value.type "int" == Value.type "int") = true := by decide +kernel
  rw [e1]
  repeat refine wpR_bind (wpR_pure ?_)
  exact wpR_fail (fromObj_bad hh hl hx hn h)
theorem int_bad_call {x : PySem.Str} {u : Tok} {Q : Value → Shared → Prop} (hh : A.handled = none) (hl : x.length ≤ 640) (hx : (reprText x).length ≤ 10000) (hn : PySem.intText? x = none)
    (h : ∀ h' tk e, Heap.NewExc s.heap h' e "ValueError" → E (.ref e) { s with heap := h', toks := tk }) :
    wpR (model prog w) A (call (.type "int") [.str x u]) Q E s := by
  refine wpR_call (codeR_of_tree ?_)
  show wpR _ _ (callAny (.type "int") _) _ _ _
  refine wpR_pure ⟨Code.quiet_builtin _ (by decide +kernel), codeR_builtin F.entry_type_call ?_⟩
  rw [Around.under_plain (weight_type_call_type "int" _ []) (units_type_call_type "int" _ [])]
  refine cutG fun Pc kc => ?_
  obtain ⟨c, tl, hmro⟩ := F.called_int.mro
  refine kc ?_
  clear kc Pc
  have hmade := F.called_int.made
  have h1 := F.called_int.notType
  have h2 := F.called_int.canCreate
  have hct := F.typeCall_int_1 (.str x u)
  unfold Builtin.«type.__call__»
  dsimp only
  rw [h1, h2, hct, hmro, hmade]
  repeat refine wpR_bind (wpR_pure ?_)
  refine wpR_fail (wpR_holding (wpR_call (codeR_call_builtin (by decide +kernel) F.entry_int_new (F.newCall_int_1 _) ?_)))
  exact new_bad hh hl hx hn h
end
end
section
open _root_.PySem _root_.PyProof.Rows _root_.PySem.W _root_.PySem.Calls
section
variable {M : Model} {A : Around} {s : Shared} {E : Value → Shared → Prop} {env : Env}
theorem wpR_execs_cons {st : Stmt} {rest : List Stmt} {Q : Flow → Shared → Prop} (h : wpR M A (exec st env) (fun f s' => match f with | .next => wpR M A (execs rest env) Q E s' | f => Q f s') E s) : wpR M A (execs (st :: rest) env) Q E s := by
  rw [arm_execs_cons]
  refine wpR_bind (wpR_mono h (fun f s' h' => ?_) fun _ _ x => x)
  cases f <;> first | exact h' | exact wpR_pure h'
theorem wpR_Return {e : PySem.Expr} {pos : Pos} {Q : Flow → Shared → Prop} (h : wpR M A (eval e env) (fun v s' => Q (.ret v) s') E s) : wpR M A (exec (.Return (some e) pos) env) Q E s := by
  rw [arm_exec_Return]
  refine wpR_bind (wpR_standAt ?_)
  show wpR M A (do return .ret (← eval e env)) Q E s
  exact wpR_bind (wpR_mono h (fun _ _ h' => wpR_pure h') fun _ _ x => x)
theorem wpR_Try {body : List Stmt} {h0 : ExceptHandler} {hs : List ExceptHandler} {pos : Pos} {Q : Flow → Shared → Prop}
    (h : wpR M A (execs body env) Q (fun e s' => wpAny M A (noteFrame e env) (fun _ s₂ => wpAny M A (setFlight e none) (fun _ s₃ => wpAny M A (handleBy e env (h0 :: hs)) Q E s₃) E s₂) E s') s) :
    wpR M A (exec (.Try body (h0 :: hs) [] [] pos) env) Q E s := by
  rw [arm_exec_Try]
  refine wpR_bind (wpR_standAt ?_)
  unfold tryStmt
  refine wpR_bind (wpR_attempt (wpR_mono h (fun f s' h' => ?_) fun e s' h' => ?_))
  · cases f <;> exact wpR_pure h'
  · exact wpR_bind (wpR_of (wpAny_mono h' (fun _ s₂ h₂ => wpR_bind (wpR_of (wpAny_mono h₂ (fun _ s₃ h₃ => wpR_of h₃) fun _ _ x => x))) fun _ _ x => x))
theorem wpR_Call_Name {id : Str} {p pos : Pos} {args : List PySem.Expr} {Q : Value → Shared → Prop} (h : wpAny M A (eval (.Name id p) env) (fun f s₁ => wpR M A (callWith pos f [] (backTo pos (starEach args env)) []) Q E s₁) E s) :
    wpR M A (eval (.Call (.Name id p) args [] pos) env) Q E s := by
  rw [arm_eval_Call_Name']
  exact wpR_bind (wpR_of h)
theorem wpR_keep {α : Type} {t : Sem α} {vs : List Value} {Q : α → Shared → Prop} (h : wpR M A t Q E s) : wpR M A (t.keep vs) Q E s := fun G p hi hc => by
  rw [Sem.wp_keep]
  exact h G p hi hc
theorem wpR_callWith_func {pos : Pos} {a : Addr} {o : Obj} {fd : FuncData} {args : List (Bool × Sem Value)} {Q : Value → Shared → Prop} (hs : args.any (·.1) = false) (hn : args.length ≤ 30)
    (h : wpAny M A (evalArgs (.ref a) true args []) (fun x s₁ => (s₁.heap.get? a = some o ∧ o.data = .func fd) ∧ wpR M A (call (.ref a) x.pos x.kw) Q E s₁) E s) :
    wpR M A (callWith pos (.ref a) [] args []) Q E s := by
  unfold callWith
  refine wpR_bind (wpR_holding (wpR_of (wpAny_mono h (fun x s₁ h₁ => wpR_bind (wpR_standAt ?_)) fun _ _ x => x)))
  rw [hs]
  refine wpR_bind (m := keeperOf (.ref a)) (wpR_of ?_)
  unfold keeperOf
  refine wpAny_bind (wpAny_load h₁.1.1 ?_)
  rw [h₁.1.2]
  refine wpAny_pure ?_
  have tail : ∀ {t : Sem Value}, wpR M A t Q E s₁ → wpR M A (t >>= fun r => holding [r] point >>= fun _ => pure r) Q E s₁ :=
    fun ht => wpR_bind (wpR_mono ht (fun r s₂ hr => wpR_bind (wpR_of (wpAny_holding (wpAny_point (wpR_pure hr))))) fun _ _ x => x)
  dsimp only
  have h30 : ¬ (args.length + 2 * ([] : List (Option Str × Sem Value)).length > 30) := by rw [List.length_nil]; omega
  rw [if_neg h30]
  exact tail (wpR_keep h₁.2)
theorem wpR_callWith_type {pos : Pos} {T : String} {args : List (Bool × Sem Value)} {Q : Value → Shared → Prop} (hs : args.any (·.1) = false)
    (h : wpAny M A (evalArgs (.type T) true args []) (fun x s₁ => wpR M A (call (.type T) x.pos x.kw) Q E s₁) E s) :
    wpR M A (callWith pos (.type T) [] args []) Q E s := by
  unfold callWith
  refine wpR_bind (wpR_holding (wpR_of (wpAny_mono h (fun x s₁ h₁ => wpR_bind (wpR_standAt ?_)) fun _ _ x => x)))
  rw [hs]
  refine wpR_bind (m := keeperOf (.type T)) (wpR_pure ?_)
  exact wpR_bind (wpR_mono h₁ (fun r s₂ hr => wpR_bind (wpR_of (wpAny_holding (wpAny_point (wpR_pure hr))))) fun _ _ x => x)
end
end
section
open _root_.PySem _root_.PySem.W _root_.PyProof.Rows
local macro_rules | `(tactic| omega) => `(tactic| lia)
local macro_rules | `(tactic| walk_at "my m") => `(tactic| solve | (repeat' (with_reducible first | exact mH | assumption | refine mT ?_ | (refine mAl ?_; walk_at "my m") | refine mAr ?_)))
local macro_rules | `(tactic| walk_at "my s") => `(tactic| solve | (repeat' (with_reducible first | exact mH | exact sub0 | exact subI | assumption | refine subC ?_ ?_ | refine subA ?_ ?_ | refine mT ?_ | (refine mAl ?_; walk_at "my m") | refine mAr ?_ | (refine subL ?_; walk_at "my s") | refine subR ?_ | refine subT ?_)))
local macro_rules | `(tactic| simp) => `(tactic| walk_at "my m")
local macro_rules | `(tactic| k_all) => `(tactic| solve | (repeat' first | (with_reducible exact ne0) | assumption | (refine neC (by k_ne) ?_)))
section
open _root_.PySem _root_.PySem.W _root_.PyProof.Rows
local macro_rules | `(tactic| k_lt $h) => `(tactic| replace $h := allLt_of $h)
local macro_rules | `(tactic| k_ne) => neK
section
open _root_.PySem _root_.PyProof.Rows
/-- the step from one number to the next: 1 up (or level), 0 down -/
noncomputable def S1 (x y : Int) : Int := if x ≤ y then 1 else 0
theorem S1_or (x y : Int) : S1 x y = 0 ∨ S1 x y = 1 := by unfold S1; by_cases h : x ≤ y <;> simp [h]
theorem S1_one {x y : Int} (h : S1 x y = 1) : x ≤ y := by
  unfold S1 at h
  by_cases h' : x ≤ y
  · exact h'
  · rw [if_neg h'] at h; cases h
theorem S1_zero {x y : Int} (h : S1 x y = 0) : y < x := by
  unfold S1 at h
  by_cases h' : x ≤ y
  · rw [if_pos h'] at h; cases h
  · omega
theorem S1_eq {x y : Int} (h : x = y) : S1 x y = 1 := if_pos (by omega)
theorem S1_le {x y : Int} (h : x ≤ y) : S1 x y = 1 := if_pos h
section
variable {n p e : Nat} {c z : Nat → Int} {C : Nat → Nat} {b : Int} {A B H f l : Nat}
structure Core (n p e : Nat) (c z : Nat → Int) (C : Nat → Nat) (b : Int) (A B H : Nat) : Prop where
  hp : p ≤ n
  he : e < n
  hpe : e = p ∨ e + 1 = p
  c1 : ∀ i, i < p → c i = z i
  c2 : ∀ i, p ≤ i → c i = z (i + 1)
  t1 : ∀ i, i + 1 < n → i < e → S1 (c i) (c (i + 1)) = S1 (z i) (z (i + 1))
  t2 : ∀ i, i + 1 < n → e ≤ i → S1 (c i) (c (i + 1)) = S1 (z (i + 1)) (z (i + 2))
  hb : b = S1 (z e) (z (e + 1))
  hC : ∀ i, i + 1 < n → C (i + 1) = C i + (if S1 (c i) (c (i + 1)) = 1 - b then 1 else 0)
  hA : C e = A
  hB : B ≤ n
  hB1 : ∀ i, i < B → C i < A
  hB2 : ∀ i, B ≤ i → i < n → A ≤ C i
  hH : H ≤ n
  hH1 : ∀ i, i < H → C i ≤ A
  hH2 : ∀ i, H ≤ i → i < n → A < C i
variable (K : Core n p e c z C b A B H)
include K
theorem Core.b01 : b = 0 ∨ b = 1 := K.hb ▸ S1_or _ _
theorem Core.Be : B ≤ e := Nat.le_of_not_lt fun h => by have := K.hB1 e h; have := K.hA; omega
theorem Core.eH : e < H := Nat.lt_of_not_le fun h => by have := K.hH2 e h K.he; have := K.hA; omega
theorem Core.step {i : Nat} (h0 : B ≤ i) (h1 : i + 1 < H) : S1 (c i) (c (i + 1)) = b := by
  have hn := K.hH
  have a1 := K.hB2 i h0 (by omega)
  have a2 := K.hH1 (i + 1) h1
  have a3 := K.hC i (by omega)
  have a4 := S1_or (c i) (c (i + 1))
  have a5 := K.b01
  by_cases h : S1 (c i) (c (i + 1)) = 1 - b
  · rw [if_pos h] at a3; omega
  · omega
theorem Core.up {i : Nat} (h0 : C i < A) (h1 : A ≤ C (i + 1)) (hn : i + 1 < n) : S1 (c i) (c (i + 1)) = 1 - b := by
  have a3 := K.hC i hn
  by_cases h : S1 (c i) (c (i + 1)) = 1 - b
  · exact h
  · rw [if_neg h] at a3; omega
theorem Core.up2 {i : Nat} (h0 : C i ≤ A) (h1 : A < C (i + 1)) (hn : i + 1 < n) : S1 (c i) (c (i + 1)) = 1 - b := by
  have a3 := K.hC i hn
  by_cases h : S1 (c i) (c (i + 1)) = 1 - b
  · exact h
  · rw [if_neg h] at a3; omega
/-- the sign ahead of the lost one -/
theorem Core.left {q : Nat} (hq : q + 1 = p) (h : B ≤ q) : S1 (c q) (z p) = b := by
  have hp := K.hp
  have he := K.he
  have heH := K.eH
  rcases K.hpe with e1 | e1
  · have h1 := K.step h (by omega)
    rw [K.t1 q (by omega) (by omega)] at h1
    rw [K.c1 q (by omega), ← hq]
    exact h1
  · have e2 : e = q := by omega
    rw [K.c1 q (by omega), ← hq, ← e2]
    exact K.hb.symm
/-- the sign behind the lost one -/
theorem Core.right (h : p < H) : S1 (z p) (c p) = b := by
  have hp := K.hp
  have hBe := K.Be
  have hH := K.hH
  rcases K.hpe with e1 | e1
  · rw [K.c2 p (Nat.le_refl _), ← e1]
    exact K.hb.symm
  · have h1 := K.step (i := e) hBe (by omega)
    rw [K.t2 e (by omega) (Nat.le_refl _)] at h1
    rw [K.c2 p (Nat.le_refl _), ← e1]
    exact h1
structure Runs (n p : Nat) (c z : Nat → Int) (f l : Nat) : Prop where
  fp : f ≤ p
  fe : ∀ i, f ≤ i → i < p → c i = z p
  fx : ∀ q, q + 1 = f → c q ≠ z p
  pl : p ≤ l
  ln : l ≤ n
  le : ∀ i, p ≤ i → i < l → c i = z p
  lx : l < n → c l ≠ z p
variable (W : Runs n p c z f l)
include W
theorem Core.f0 (h0 : b = 0) : f = p := by
  refine Nat.le_antisymm W.fp (Nat.le_of_not_lt fun hfp => ?_)
  refine cutG fun Pc kc => ?_
  obtain ⟨q, hq⟩ : ∃ q, q + 1 = p := ⟨p - 1, by omega⟩
  refine kc ?_
  clear kc Pc
  have hc := W.fe q (by omega) (by omega)
  by_cases hB : B ≤ q
  · have := K.left hq hB
    rw [S1_eq hc, h0] at this
    cases this
  · have hBe := K.Be
    have he := K.he
    have e1 : e = p := by rcases K.hpe with h | h <;> omega
    have hBp : B = p := by omega
    have h1 := K.up (i := q) (K.hB1 q (by omega)) (by rw [hq]; exact K.hB2 p (by omega) (by omega)) (by omega)
    rw [h0] at h1
    have h2 : c q ≤ c (q + 1) := S1_one (by omega)
    rw [hq, hc, K.c2 p (Nat.le_refl _)] at h2
    have h3 := K.hb
    rw [e1, S1_le h2, h0] at h3
    cases h3
theorem Core.l0 (h0 : b = 0) : l = p := by
  refine (Nat.le_antisymm W.pl (Nat.le_of_not_lt fun hpl => ?_)).symm
  have hc := W.le p (Nat.le_refl _) hpl
  have hln := W.ln
  by_cases hH : p < H
  · have := K.right hH
    rw [S1_eq hc.symm, h0] at this
    cases this
  · have heH := K.eH
    have e1 : e + 1 = p := by rcases K.hpe with h | h <;> omega
    have h1 := K.up2 (i := e) (K.hH1 e heH) (by rw [e1]; exact K.hH2 p (by omega) (by omega)) (by omega)
    rw [h0] at h1
    have h2 : c e ≤ c (e + 1) := S1_one (by omega)
    rw [e1, hc, K.c1 e (by omega)] at h2
    have h3 := K.hb
    rw [e1, S1_le h2, h0] at h3
    cases h3
theorem Core.Bf : B ≤ f := by
  have hBe := K.Be
  have he := K.he
  have hfp := W.fp
  rcases K.b01 with h0 | h0
  · rw [K.f0 W h0]; rcases K.hpe with h | h <;> omega
  · refine Nat.le_of_not_lt fun hfB => ?_
    refine cutG fun Pc kc => ?_
    obtain ⟨j, hj⟩ : ∃ j, j + 1 = B := ⟨B - 1, by omega⟩
    refine kc ?_
    clear kc Pc
    have hjp : j < p := by rcases K.hpe with h | h <;> omega
    have h1 := K.up (i := j) (K.hB1 j (by omega)) (by rw [hj]; exact K.hB2 B (Nat.le_refl _) (by omega)) (by omega)
    have hc := W.fe j (by omega) hjp
    by_cases hjp2 : j + 1 < p
    · have hc2 := W.fe (j + 1) (by omega) hjp2
      rw [S1_eq (hc.trans hc2.symm), h0] at h1
      cases h1
    · have e1 : e = p := by rcases K.hpe with h | h <;> omega
      have e2 : j + 1 = p := by omega
      rw [K.t1 j (by omega) (by omega), S1_eq (by rw [← K.c1 j hjp, e2]; exact hc), h0] at h1
      cases h1
theorem Core.lH : l ≤ H := by
  have heH := K.eH
  have hln := W.ln
  have hpl := W.pl
  rcases K.b01 with h0 | h0
  · rw [K.l0 W h0]; rcases K.hpe with h | h <;> omega
  · refine Nat.le_of_not_lt fun hHl => ?_
    refine cutG fun Pc kc => ?_
    obtain ⟨j, hj⟩ : ∃ j, j + 1 = H := ⟨H - 1, by omega⟩
    refine kc ?_
    clear kc Pc
    have hpH : p ≤ H := by rcases K.hpe with h | h <;> omega
    have h1 := K.up2 (i := j) (K.hH1 j (by omega)) (by rw [hj]; exact K.hH2 H (Nat.le_refl _) (by omega)) (by omega)
    have hc := W.le H hpH hHl
    by_cases hjp : p ≤ j
    · have hc2 := W.le j hjp (by omega)
      rw [hj, S1_eq (hc2.trans hc.symm), h0] at h1
      cases h1
    · have e1 : e + 1 = p := by rcases K.hpe with h | h <;> omega
      have e2 : H = p := by omega
      have e3 : j = e := by omega
      subst e3
      have h2 : z (j + 2) = c p := by rw [K.c2 p (Nat.le_refl _), ← e1]
      rw [K.t2 j (by omega) (Nat.le_refl _), e1, h2, S1_eq (by rw [← e2]; rw [e2]; exact (W.le p (Nat.le_refl _) (by omega)).symm), h0] at h1
      cases h1
omit W in
theorem Core.mono1 (h0 : b = 1) {i : Nat} (hi : B ≤ i) : ∀ d, i + d < H → c i ≤ c (i + d)
  | 0, _ => Int.le_refl _
  | d + 1, h => by
    have h1 := Core.mono1 h0 hi d (by omega)
    have h2 := K.step (i := i + d) (by omega) (by omega)
    rw [h0] at h2
    exact Int.le_trans h1 (S1_one h2)
omit W in
theorem Core.mono0 (h0 : b = 0) {i : Nat} (hi : B ≤ i) : ∀ d, i + d < H → c (i + d) ≤ c i
  | 0, _ => Int.le_refl _
  | d + 1, h => by
    have h1 := Core.mono0 h0 hi d (by omega)
    have h2 := K.step (i := i + d) (by omega) (by omega)
    rw [h0] at h2
    exact Int.le_trans (Int.le_of_lt (S1_zero h2)) h1
omit W in
theorem Core.m1 (h0 : b = 1) {i j : Nat} (hi : B ≤ i) (hij : i ≤ j) (hj : j < H) : c i ≤ c j := by
  have := K.mono1 h0 hi (j - i) (by omega)
  rwa [show i + (j - i) = j by omega] at this
omit W in
theorem Core.m0 (h0 : b = 0) {i j : Nat} (hi : B ≤ i) (hij : i ≤ j) (hj : j < H) : c j ≤ c i := by
  have := K.mono0 h0 hi (j - i) (by omega)
  rwa [show i + (j - i) = j by omega] at this
/-- the keys ahead of f are below the lost one's -/
theorem Core.L1 (h0 : b = 1) {i : Nat} (hi : B ≤ i) (hf : i < f) : c i < z p := by
  have hfp := W.fp
  have heH := K.eH
  have hpH : p ≤ H := by rcases K.hpe with h | h <;> omega
  refine cutG fun Pc kc => ?_
  obtain ⟨q, hq⟩ : ∃ q, q + 1 = f := ⟨f - 1, by omega⟩
  refine kc ?_
  clear kc Pc
  have h1 := K.m1 h0 hi (j := q) (by omega) (by omega)
  have h2 := W.fx q hq
  have h3 : c q ≤ z p := by
    refine cutG fun Pc kc => ?_
    obtain ⟨r, hr⟩ : ∃ r, r + 1 = p := ⟨p - 1, by omega⟩
    refine kc ?_
    clear kc Pc
    have h4 := K.left hr (by omega)
    rw [h0] at h4
    exact Int.le_trans (K.m1 h0 (by omega) (by omega) (by omega)) (S1_one h4)
  omega
theorem Core.L2 (h0 : b = 1) {i : Nat} (hi : f ≤ i) (hH : i < H) : z p ≤ c i := by
  by_cases h : i < p
  · rw [W.fe i hi h]; exact Int.le_refl _
  · have h1 := K.right (by omega)
    rw [h0] at h1
    have hBe := K.Be
    have hBp : B ≤ p := by rcases K.hpe with h | h <;> omega
    exact Int.le_trans (S1_one h1) (K.m1 h0 hBp (by omega) hH)
theorem Core.R1 (h0 : b = 1) {i : Nat} (hi : B ≤ i) (hl : i < l) : c i ≤ z p := by
  have heH := K.eH
  have hpH : p ≤ H := by rcases K.hpe with h | h <;> omega
  by_cases h : i < p
  · refine cutG fun Pc kc => ?_
    obtain ⟨r, hr⟩ : ∃ r, r + 1 = p := ⟨p - 1, by omega⟩
    refine kc ?_
    clear kc Pc
    have h4 := K.left hr (by omega)
    rw [h0] at h4
    exact Int.le_trans (K.m1 h0 hi (by omega) (by omega)) (S1_one h4)
  · rw [W.le i (by omega) hl]; exact Int.le_refl _
theorem Core.R2 (h0 : b = 1) {i : Nat} (hi : l ≤ i) (hH : i < H) : z p < c i := by
  have hHn := K.hH
  have hBf := K.Bf W
  have hfp := W.fp
  have hpl := W.pl
  have h1 := K.L2 W h0 (i := l) (by omega) (by omega)
  have h2 := W.lx (by omega)
  have h3 := K.m1 h0 (i := l) (j := i) (by omega) hi hH
  omega
omit W in
theorem Core.Z1 (h0 : b = 0) {i : Nat} (hi : B ≤ i) (hf : i < p) : z p < c i := by
  have heH := K.eH
  have hpH : p ≤ H := by rcases K.hpe with h | h <;> omega
  refine cutG fun Pc kc => ?_
  obtain ⟨r, hr⟩ : ∃ r, r + 1 = p := ⟨p - 1, by omega⟩
  refine kc ?_
  clear kc Pc
  have h4 := K.left hr (by omega)
  rw [h0] at h4
  exact Int.lt_of_lt_of_le (S1_zero h4) (K.m0 h0 hi (by omega) (by omega))
omit W in
theorem Core.Z2 (h0 : b = 0) {i : Nat} (hi : p ≤ i) (hH : i < H) : c i < z p := by
  have h1 := K.right (by omega)
  rw [h0] at h1
  have hBe := K.Be
  have hBp : B ≤ p := by rcases K.hpe with h | h <;> omega
  exact Int.lt_of_le_of_lt (K.m0 h0 hBp hi hH) (S1_zero h1)
end
end
end
end
section
open _root_.PySem _root_.PySem.W _root_.PyProof.Rows _root_.PySem.Calls
theorem hasC_caller : HasC ⟨.builtin "claim.caller" {}, none, none, [], none⟩ := rfl
/-- the thread of the claim, from what holds under its caller -/
theorem thread_ends_R {prog : Program} {w : World} {t : Sem Fin} {s : Shared} {R : Result → Shared → Prop} (hreg : s.asleep)
    (h : wpR (model prog w) callerA t (fun fin s' => ∃ f, fin = .done f ∧ (R (.ok f) s' ∧ leftWithCleanup s'.gens = false)) (fun e s' => R (.error e) s' ∧ leftWithCleanup s'.gens = false) s) :
    ∃ n r s' s'', runN (denote table) prog w n s ⟨t, .builtin "claim.caller" {}, default, []⟩ = .halted (outcomeOf r) s' ∧
      schedN (denote table) prog w n (.single s ⟨t, .builtin "claim.caller" {}, default, []⟩) = .halted (outcomeOf r) s' ∧ s'.forget = s''.forget ∧ R r s'' := by
  have h' : Sem.wp (model prog w) ⟨.builtin "claim.caller" {}, none, none, [], none⟩ t (Sem.finPost (model prog w) ⟨.builtin "claim.caller" {}, none, none, [], none⟩ fun r s' => R r s' ∧ leftWithCleanup s'.gens = false)
      (fun e _ s' => R (.error e) s' ∧ leftWithCleanup s'.gens = false) default s := by
    refine Sem.wp_mono _ _ t (fun fin p' s' h' => ?_) (fun _ _ _ h' => h') default s (h _ default caller_in hasC_caller)
    refine cutG fun Pc kc => ?_
    obtain ⟨f, rfl, hf⟩ := h'
    refine kc ?_
    clear kc Pc
    exact hf
  refine cutG fun Pc kc => ?_
  obtain ⟨n, r, s₁, s₂, hs, hn, hfo, hR⟩ := wp_halts_full (M := model prog w) (R := R) hreg h'
  refine kc ?_
  clear kc Pc
  exact ⟨n, r, s₂, s₁, hn, hs, hfo, hR⟩
theorem callFrom_R {c : ClaimW} {tree : List Value → Sem Fin} {w : World} {s : Shared} {free : Addr → Prop} {gens : Prop} {kept : Heap → Prop} (hz : s.asleep) (hgens : s.gens = #[])
    (hspec : ∀ args, c.pre args = true → WData.layableAll args = true →
      ∀ ord : List DictEntry → List DictEntry, (∀ l, (ord l).Perm l) →
      ∃ vs s₁, layAllW c.records (classAt s.heap) w.params ord args s = some (vs, s₁) ∧
        wpR (model c.prog w) callerA (tree vs) (fun fin s' => ∃ f, fin = .done f ∧ (c.Ends s args vs s₁ (.ok f) s' ∧ s'.os = s.os ∧ AllBare s'.gens ∧ kept s'.heap))
          (fun e s' => c.Ends s args vs s₁ (.error e) s' ∧ s'.os = s.os ∧ AllBare s'.gens ∧ kept s'.heap) s₁) :
    c.CallFrom (fun vs => ⟨tree vs, .builtin "claim.caller" {}, default, []⟩) w free gens kept s := by
  intro args hpre hlay ord hord
  refine cutG fun Pc kc => ?_
  obtain ⟨vs, s₁, hlaid, hcode⟩ := hspec args hpre hlay ord hord
  refine kc ?_
  clear kc Pc
  have hal := layAllW_rest _ _ _ hlaid
  refine cutG fun Pc kc => ?_
  obtain ⟨k, r, s', s'', hrun, hsched, hfo, hcase, hos, hkp⟩ := thread_ends_R (prog := c.prog) (w := w) (t := tree vs) (s := s₁)
    (R := fun r s' => c.Ends s args vs s₁ r s' ∧ s'.os = s.os ∧ kept s'.heap)
    (Shared.asleep_of_life hal.2.2.2 hz)
    (wpR_mono hcode (by
      rintro fin s' ⟨f, e, h1, h2, h3, h4⟩
      exact ⟨f, e, ⟨h1, h2, h4⟩, leftWithCleanup_false_of_bare h3⟩) (by
      rintro e s' ⟨h1, h2, h3, h4⟩
      exact ⟨⟨h1, h2, h4⟩, leftWithCleanup_false_of_bare h3⟩))
  refine kc ?_
  clear kc Pc
  refine cutG fun Pc kc => ?_
  obtain ⟨eh, _, _, eo, _⟩ := Shared.forget_eq hfo
  refine kc ?_
  clear kc Pc
  have hcase := hcase.congr eh
  have hkp : kept s'.heap := by first | exact eh ▸ hkp | (rw [eh] at hkp; exact hkp) | (rw [← eh] at hkp; exact hkp)
  rw [← eo] at hos
  have hlife : s'.heap.life = s.heap.life := (runN_life _ _ _ hrun).trans hal.2.2.2
  refine ⟨vs, s₁, hlaid, k, _, s', hsched, ?_, (fun _ i x hx => by rw [hgens] at hx; simp at hx), hkp, by rw [hlife], Shared.rest_eq hos⟩
  rcases hcase with ⟨v, rfl, d1, d2, d3, d4, d5⟩ | ⟨e, ob, cls, rfl, d1, d2, d3, d4, d5⟩
  · exact .inl ⟨v, rfl, d1, d2, d3, fun b o y _ => d4 b o y, d5⟩
  · exact .inr ⟨e, ob, cls, rfl, d1, d2, d3, d4, fun b o y _ => d5 b o y⟩
theorem open_R {r : RowW} {run : Value → List Value → Sem Value} {tree : List Value → Sem Fin} {q : Program} {loose defs kps : List Str} {writes : Bool} {Xt : Shared → Bool} {XP : (Str → Option Value) → Heap → Prop} {α : Type} {Yf : Shared → α} {Ya : World → α} {YP : World → Heap → Prop} {N : Nat}
    (left : LeftO r.prog q loose Xt Yf Ya N) (hY : ∀ w s, Yf s = Ya w → YP w s.heap) (hYk : ∀ w h h', YP w h → (∀ b o, h.get? b = some o → h'.get? b = some o) → YP w h') (hX : ∀ s, Xt s = true → XP (s.heap.nsMap mainGlobals) s.heap) (hXk : ∀ mg h h', XP mg h → (∀ b o, h.get? b = some o → h'.get? b = some o) → XP mg h')
    (hRf : ∀ s, Xt s = true → RecFacts r.records s.heap) (hwr : (!writes || r.records.isEmpty) = true) (ok : (chainsOk q && opensWell r.prog && (frees r && r.within.isEmpty)) = true) (hb : r.prog.bare) (hw : r.promised)
    (ht : ∀ vs (w : World) (s : Shared) mg f (Q : Fin → Shared → Prop) (E : Value → Shared → Prop), s.heap.Ns mainGlobals mg → mg r.name = some f → wpR (model r.prog w) callerA (run f vs) (fun v s' => Q (.done (.ret v)) s') E s → wpR (model r.prog w) callerA (tree vs) Q E s)
    (pin : ∀ w s, s.heap.isNs mainGlobals = true → Ground q loose [] XP w s (s.heap.nsMap mainGlobals) (s.heap.nsMap builtinsNs) s.heap → ∀ n ∈ defs, isTheDefsW r.prog s.heap n)
    (call : ∀ (w : World) (s₀ s₁ : Shared) (mg mb : Str → Option Value), Ground q loose r.records XP w s₀ mg mb s₁.heap → YP w s₁.heap → ∀ (args : List WData) (vs : List Value) (as : List Addr),
      r.claim.pre args = true → WData.layableAll args = true → Laid r.records w s₀ s₁ args vs as → sysModules < s₀.heap.objs.size → ∃ f, mg r.name = some f ∧
        wpR (model r.prog w) callerA (run f vs) (fun v s' => GoodWG r.claim (classAt s₀.heap) (ExcName.means s₀.heap) args s₁ (.ok (.ret v)) s')
          (fun e s' => GoodWG r.claim (classAt s₀.heap) (ExcName.means s₀.heap) args s₁ (.error e) s') s₁) : r.claim.HoldsOpenBy (fun vs => ⟨tree vs, .builtin "claim.caller" {}, default, []⟩) defs kps writes := by
  refine cutG fun Pc kc => ?_
  obtain ⟨ok, k5⟩ := Bool.and_eq_true_iff.mp ok
  obtain ⟨hch, o1⟩ := Bool.and_eq_true_iff.mp ok
  obtain ⟨k5, k6⟩ := Bool.and_eq_true_iff.mp k5
  refine cutG fun Pc kc => ?_
  obtain ⟨hsame, hu, ha, hap, hm⟩ := frees_parts k5
  refine kc ?_
  clear kc Pc
  refine kc ?_
  clear kc Pc
  refine ⟨⟨hb, o1, by show r.makers.map _ = []; rw [hm]; rfl⟩, hw.witness, fun w => ⟨(left.behind hX hch w).1, fun s' hs' => ?_⟩⟩
  refine cutG fun Pc kc => ?_
  obtain ⟨s₀, hf, hg0, s, hT, hz, hgens, hg, G00, y⟩ := (left.behind (XP := fun mg h => XP mg h ∧ RecFacts r.records h) (fun s hs => ⟨hX s hs, hRf s hs⟩) hch w).2 s' hs'
  refine kc ?_
  clear kc Pc
  have G0 : Ground q loose [] XP w s (s.heap.nsMap mainGlobals) (s.heap.nsMap builtinsNs) s.heap := ⟨G00.T, G00.B, G00.D, G00.TE, G00.TD, G00.W, G00.X.1, G00.cls, G00.has, G00.apart, G00.once, G00.K⟩
  have RF := G00.X.2
  have hT' := hT
  refine ⟨s₀, hf, hg0, s, hT, pin w s hg G0, RF.1, RF.2.1, ?_⟩
  have hgens : s.gens = #[] := Array.eq_empty_of_size_eq_zero (beq_iff_eq.mp hgens)
  have G : Ground q loose r.records XP w s _ _ s.heap := RF.ground G0
  refine callFrom_R (c := r.claim) hz hgens fun args hpre hlay ord hord => ?_
  refine cutG fun Pc kc => ?_
  obtain ⟨⟨vs, s₁⟩, hlaid⟩ := Option.isSome_iff_exists.mp (layAllW_isSome (P := w.params) (ord := ord) G.has args r.args s (pre_splitW hpre).1)
  refine kc ?_
  clear kc Pc
  have keeps := layAllW_keeps _ _ _ hlaid
  have hal := layAllW_rest _ _ _ hlaid
  refine cutG fun Pc kc => ?_
  obtain ⟨as, hrd, hin, hold⟩ := reads_layAllW hord _ _ _ hlaid hlay s₁.heap (fun _ _ e => e)
  refine kc ?_
  clear kc Pc
  have L : Laid r.records w s s₁ args vs as := ⟨⟨ord, hord, hlaid⟩, hrd, hin, hold, keeps, hal.1.trans hgens, hal.2.2.1⟩
  have G₁ := G.keeps hXk keeps
  refine cutG fun Pc kc => ?_
  obtain ⟨f, hf, h⟩ := call w s s₁ _ _ G₁ (hYk _ _ _ (hY w s y) keeps) args vs as hpre hlay L G.low
  refine kc ?_
  clear kc Pc
  have hi := ident_freeW hu ha hap
  have hwi : r.claim.within = [] := List.isEmpty_iff.mp k6
  exact ⟨vs, s₁, hlaid, ht vs w s₁ _ f _ _ G₁.T.g hf (wpR_mono h (fun v s' g => ⟨_, rfl, have z := g.laid (c := r.claim) hsame hwi hi L; ⟨z.1, z.2.1, z.2.2, fun q => ⟨namesKept_of hT' hg kps keeps g.2.1.old, noTable hwr q⟩⟩⟩) fun e s' g => have z := g.laid (c := r.claim) hsame hwi hi L; ⟨z.1, z.2.1, z.2.2, fun q => ⟨namesKept_of hT' hg kps keeps g.2.1.old, noTable hwr q⟩⟩)⟩
abbrev WalkR (q : Program) (loose : List Str) (XP : (Str → Option Value) → Heap → Prop) (YP : World → Heap → Prop) (r : RowW) (d : DefRec) (kwd : List (Str × Expr)) (run : Value → List Value → Sem Value) : Prop :=
  ∀ (w : World) (s₀ s₁ : Shared) (mg mb : Str → Option Value), Ground q loose r.records XP w s₀ mg mb s₁.heap → YP w s₁.heap → ∀ (a : Addr) (o : Obj) (pm cd doc dV kV : Value), s₁.heap.get? a = some o →
    o.data = .func { docDef d.name d.params d.body d.scope pm cd doc with defaults := dV, kwdefaults := kV } → s₁.heap.CodeRec cd d.name → Dflts mg s₁.heap d.params kwd dV kV → mg d.name = some (.ref a) → s₁.gens = #[] →
    ∀ (args : List WData) (vals : List Value) (as : List Addr), r.claim.pre args = true → WData.layableAll args = true → ReadsAllW r.records (classAt s₀.heap) s₁.heap vals args as → WellAll w.params s₁.heap vals args → (∀ a ∈ as, (a == sysModules) = false) →
      wpR (model r.prog w) callerA (run (.ref a) vals) (fun v s' => GoodWG r.claim (classAt s₀.heap) (ExcName.means s₀.heap) args s₁ (.ok (.ret v)) s')
        (fun e s' => GoodWG r.claim (classAt s₀.heap) (ExcName.means s₀.heap) args s₁ (.error e) s') s₁
namespace PySem.W
open Mine
theorem holds_open {r : OpenRow} {q : Program} {loose : List Str} {Xt : Shared → Bool} {XP : (Str → Option Value) → Heap → Prop} {α : Type} {Yf : Shared → α} {Ya : World → α} {YP : World → Heap → Prop} {d : DefRec} {kwd : List (Str × Expr)} {N : Nat}
    (left : ∀ w, (openEnds treeTable r.prog w N).map (fun s => (openSeen q loose (importedModules r.prog.main.body) Xt true s, Yf s)) = some (openGood q loose, Ya w)) (hY : ∀ w s, Yf s = Ya w → YP w s.heap) (hYk : ∀ w h h', YP w h → (∀ b o, h.get? b = some o → h'.get? b = some o) → YP w h')
    (hX : ∀ s, Xt s = true → XP (s.heap.nsMap mainGlobals) s.heap) (hXk : ∀ mg h h', XP mg h → (∀ b o, h.get? b = some o → h'.get? b = some o) → XP mg h')
    (hdef : defOf q r.name = some (d, kwd)) (hp : r.prog.theDef r.name = some (d.params, d.body, d.scope)) (hk : kwWritten? d.params.kwonlyargs d.params.kw_defaults = some kwd) (hRf : ∀ s, Xt s = true → RecFacts r.records s.heap) (hwr : (!r.writes || r.records.isEmpty) = true)
    (k1 : r.wellSaid = true) (ok : (chainsOk q && opensWell r.prog && (frees r.toRowW && r.within.isEmpty)) = true) (hb : r.prog.bare) (hw : r.toRowW.promised)
    (call : WalkR q loose XP YP r.toRowW d kwd fun f vs => PySem.call f vs) : r.Holds := by
  refine ⟨k1, hw, open_R (r := r.toRowW) (run := fun f vs => PySem.call f vs) (tree := fun vs => do match ← nsGet mainNs r.name with
      | some f => do ret (← PySem.call f vs)
      | none => unsupported "claim.caller:no-such-global") left hY hYk hX hXk hRf hwr ok hb hw
    (fun vs w s mg f Q E hg hf h => wpR_bind (wpR_of (wpAny_nsGet hg (by rw [hf]; exact wpR_bind (wpR_mono h (fun _ _ x => wpR_pure x) fun _ _ x => x)))))
    (fun w s hg G n hn => ?_) fun w s₀ s₁ mg mb G Y args vs as hpre hlay L low => ?_⟩
  · obtain rfl : n = r.name := by split at hn <;> simp_all
    exact pinned_of_view hg G hdef hp hk
  · refine cutG fun Pc kc => ?_
    obtain ⟨a, o, pm, cd, doc, dV, kV, h1, h2, h3, h4, h5⟩ := G.fn hdef
    refine kc ?_
    clear kc Pc
    exact ⟨.ref a, h1, call w s₀ s₁ mg mb G Y a o pm cd doc dV kV h2 h3 h4 h5 (defOf_name hdef ▸ h1) L.gens args vs as hpre hlay L.reads L.well (L.low low)⟩
end PySem.W
end
section
open _root_.PySem _root_.PySem.W _root_.PyProof.Rows
local macro_rules | `(tactic| o_law) => `(tactic| refine holds_law said fun said => ?_)
open_top hd for PySem.Challenge.rw_ta0052_01
end
section
open _root_.PySem _root_.PySem.W _root_.PyProof.Rows
local macro_rules | `(tactic| omega) => `(tactic| lia)
local macro_rules | `(tactic| walk_at "my m") => `(tactic| solve | (repeat' (with_reducible first | exact mH | assumption | refine mT ?_ | (refine mAl ?_; walk_at "my m") | refine mAr ?_)))
local macro_rules | `(tactic| walk_at "my s") => `(tactic| solve | (repeat' (with_reducible first | exact mH | exact sub0 | exact subI | assumption | refine subC ?_ ?_ | refine subA ?_ ?_ | refine mT ?_ | (refine mAl ?_; walk_at "my m") | refine mAr ?_ | (refine subL ?_; walk_at "my s") | refine subR ?_ | refine subT ?_)))
local macro_rules | `(tactic| simp) => `(tactic| walk_at "my m")
local macro_rules | `(tactic| k_all) => `(tactic| solve | (repeat' first | (with_reducible exact ne0) | assumption | (refine neC (by k_ne) ?_)))
section
open _root_.PySem _root_.PySem.W _root_.PyProof.Rows
local macro_rules | `(tactic| k_lt $h) => `(tactic| replace $h := allLt_of $h)
local macro_rules | `(tactic| k_ne) => neK
section
open _root_.PySem _root_.PySem.W _root_.PyProof.Rows
noncomputable abbrev PG : Program := PySem.Challenge.rw_ta0052_01.row.prog
noncomputable def topStmt (i : Nat) : Stmt := PG.main.body.getD i (.Pass default)
noncomputable def bodyOf : Stmt → List Stmt
  | .FunctionDef _ _ b _ _ _ _ _ _ _ => b
  | _ => []
noncomputable def paramsOf : Stmt → Arguments
  | .FunctionDef _ p _ _ _ _ _ _ _ _ => p
  | _ => default
noncomputable def scopeOf : Stmt → Scope
  | .FunctionDef _ _ _ _ _ _ s _ _ _ => s
  | _ => default
theorem truthy_ints {prog : Program} {w : World} {A : Around} {E : Value → Shared → Prop} {s : Shared} {h₀ : Heap} {L l : Addr} {news : List (Addr × Obj)} {vs : List Value} {ns : List Int} {k : Nat} {Q : Bool → Shared → Prop}
    (N : News h₀ L s.heap news) (hm : (l, listOf vs.toArray k) ∈ news) (hi : IntsAre vs ns) (hz : (ns.length : Int) < 2 ^ 63)
    (h0 : ns = [] → Q false { s with toks := s.toks + 1 + 1 }) (h1 : ns ≠ [] → Q true { s with toks := s.toks + 1 + 1 }) : wpAny (model prog w) A (truthy (.ref l)) Q E s := by
  refine wpAny_truthy_list (PySem.IsL.isList (n := k) (N _ hm).1) (by rw [List.size_toArray, hi.length]; exact hz) ?_
  cases hi with
  | nil => exact h0 rfl
  | cons a b r => exact h1 (by simp)
theorem len_ints {prog : Program} {w : World} {A : Around} {E : Value → Shared → Prop} {s : Shared} {h₀ : Heap} {L l : Addr} {news : List (Addr × Obj)} {vs : List Value} {ns : List Int} {k : Nat} {Q : Value → Shared → Prop}
    (N : News h₀ L s.heap news) (hm : (l, listOf vs.toArray k) ∈ news) (hi : IntsAre vs ns) (hz : ns.length < 2 ^ 62)
    (h : Q (.int (ns.length : Nat) (s.toks + 1)) { s with toks := s.toks + 1 + 1 }) : wpAny (model prog w) A (call (.builtin "len") [.ref l]) Q E s :=
  KM.len_K N hm (by rw [List.size_toArray]; exact hi.length) hz h
theorem allLt_mono {a b : Nat} (h : a ≤ b) : ∀ {l : List (Addr × Obj)}, AllLt a l → AllLt b l
  | [], _ => trivial
  | _ :: _, x => ⟨Nat.lt_of_lt_of_le x.1 h, allLt_mono h x.2⟩
theorem allLt_up {a : Nat} (k : Nat) {l : List (Addr × Obj)} (h : AllLt a l) : AllLt (a + k) l := allLt_mono (Nat.le_add_right _ _) h
theorem news_mid {h₀ h : Heap} {L : Addr} {x : Addr × Obj} (l : List (Addr × Obj)) {r : List (Addr × Obj)} (N : News h₀ L h (l ++ x :: r)) : News h₀ L h (x :: (l ++ r)) := fun p hp => N p (by
  rcases List.mem_cons.mp hp with rfl | hp
  · exact List.mem_append_right _ (.head _)
  · rcases List.mem_append.mp hp with hp | hp
    · exact List.mem_append_left _ hp
    · exact List.mem_append_right _ (.tail _ hp))
theorem news_2nd {h₀ h : Heap} {L : Addr} {x1 y : Addr × Obj} {r : List (Addr × Obj)} (N : News h₀ L h (x1 :: y :: r)) : News h₀ L h (y :: x1 :: r) := news_mid [x1] N
theorem news_3rd {h₀ h : Heap} {L : Addr} {x1 x2 y : Addr × Obj} {r : List (Addr × Obj)} (N : News h₀ L h (x1 :: x2 :: y :: r)) : News h₀ L h (y :: x1 :: x2 :: r) := news_mid [x1, x2] N
theorem news_4th {h₀ h : Heap} {L : Addr} {x1 x2 x3 y : Addr × Obj} {r : List (Addr × Obj)} (N : News h₀ L h (x1 :: x2 :: x3 :: y :: r)) : News h₀ L h (y :: x1 :: x2 :: x3 :: r) := news_mid [x1, x2, x3] N
theorem news_5th {h₀ h : Heap} {L : Addr} {x1 x2 x3 x4 y : Addr × Obj} {r : List (Addr × Obj)} (N : News h₀ L h (x1 :: x2 :: x3 :: x4 :: y :: r)) : News h₀ L h (y :: x1 :: x2 :: x3 :: x4 :: r) := news_mid [x1, x2, x3, x4] N
theorem news_6th {h₀ h : Heap} {L : Addr} {x1 x2 x3 x4 x5 y : Addr × Obj} {r : List (Addr × Obj)} (N : News h₀ L h (x1 :: x2 :: x3 :: x4 :: x5 :: y :: r)) : News h₀ L h (y :: x1 :: x2 :: x3 :: x4 :: x5 :: r) := news_mid [x1, x2, x3, x4, x5] N
theorem news_8th {h₀ h : Heap} {L : Addr} {x1 x2 x3 x4 x5 x6 x7 y : Addr × Obj} {r : List (Addr × Obj)} (N : News h₀ L h (x1 :: x2 :: x3 :: x4 :: x5 :: x6 :: x7 :: y :: r)) : News h₀ L h (y :: x1 :: x2 :: x3 :: x4 :: x5 :: x6 :: x7 :: r) := news_mid [x1, x2, x3, x4, x5, x6, x7] N
theorem news_blk {h₀ h : Heap} {L : Addr} {a b c d : Addr × Obj} (l : List (Addr × Obj)) {r : List (Addr × Obj)} (N : News h₀ L h (l ++ a :: b :: c :: d :: r)) : News h₀ L h (a :: b :: c :: d :: (l ++ r)) := newsS N (by walk_at "my s")
theorem news_b2 {h₀ h : Heap} {L : Addr} {x1 x2 a b c d : Addr × Obj} {r : List (Addr × Obj)} (N : News h₀ L h (x1 :: x2 :: a :: b :: c :: d :: r)) : News h₀ L h (a :: b :: c :: d :: x1 :: x2 :: r) := news_blk [x1, x2] N
theorem news_b3 {h₀ h : Heap} {L : Addr} {x1 x2 x3 a b c d : Addr × Obj} {r : List (Addr × Obj)} (N : News h₀ L h (x1 :: x2 :: x3 :: a :: b :: c :: d :: r)) : News h₀ L h (a :: b :: c :: d :: x1 :: x2 :: x3 :: r) := news_blk [x1, x2, x3] N
noncomputable def TabSt (ln col : Nat) (qual : String) (ps : Array Value) (news : List (Addr × Obj)) : Prop :=
  ps = #[] ∨ ∃ c' oc vs t, ps = #[rawInt ln, rawInt col, .ref c'] ∧ (c', oc) ∈ news ∧ @LT.lt Nat _ 160 c' ∧ oc.data = .fields vs ∧ vs[1]? = some (.str (Str.ofString qual) t)
theorem tabSt_mono {ln col : Nat} {qual : String} {ps : Array Value} {l l' : List (Addr × Obj)} (h : TabSt ln col qual ps l) (hs : ∀ p ∈ l, p ∈ l') : TabSt ln col qual ps l' :=
  h.imp id fun ⟨c', oc, vs, t, e, m, r⟩ => ⟨c', oc, vs, t, e, hs _ m, r⟩
theorem above160 {w : World} {g h : Heap} {L : Addr} {m : Str → Option Value} (X : (hd.heap_1 w.params).In g) (F : Fr g L h m) : @LT.lt Nat _ 160 L :=
  Nat.lt_of_lt_of_le (Heap.lt_size (X 160 _ rfl)) F.above
structure RestIn (h₀ : Heap) (L : Addr) (g : Heap) (L' : Addr) (rest : List (Addr × Obj)) : Prop where
  lt : AllLt L' rest
  get : ∀ p ∈ rest, g.get? p.1 = some p.2
  off : ∀ p ∈ rest, p.1 ≠ L ∧ h₀.get? p.1 = none
theorem RestIn.back {h₀ g h : Heap} {L L' : Addr} {m' : Str → Option Value} {rest l : List (Addr × Obj)} (R : RestIn h₀ L g L' rest) (F' : Fr g L' h m') (N : News h₀ L h l) : News h₀ L h (l ++ rest) := fun p hp => by
  rcases List.mem_append.mp hp with hp | hp
  · exact N p hp
  · exact ⟨F'.keep _ _ (R.get p hp), (R.off p hp).1, (R.off p hp).2⟩
section
variable {prog : Program} {w : World} {A₀ A : Around} {s : Shared} {base h₀ : Heap} {outer : List Env} {L : Addr} {m : Str → Option Value} {env : Env} {small rest : List (Addr × Obj)} {K : Frag} {p : Program} {loose : List Str} {mean : ExcName → Option Value} {mg mb : Str → Option Value}
  {R : Result → Shared → Prop} {name qual : Str} {params : Arguments} {body : List Stmt} {scope : Scope} {dV kV doc pm cdv ct oc : Value} {an od : Option Addr} {osl : Array (Option Value)} {f : Addr} {args : Args} {binds : List (Str × Value)}
theorem rest_in (N : News h₀ L s.heap (small ++ rest)) (hdis : ∀ q ∈ rest, q.1 ∉ small.map (·.1)) : RestIn h₀ L (hideAll s.heap (small.map (·.1))) s.heap.objs.size rest where
  lt := allLt_of fun q hq => Heap.lt_size (N q (List.mem_append_right _ hq)).1
  get := fun q hq => hideAll_get _ (N q (List.mem_append_right _ hq)).1 (hdis q hq)
  off := fun q hq => (N q (List.mem_append_right _ hq)).2
theorem code_defR (B : Below A₀ base outer h₀) (F : Fr h₀ L s.heap m) (X₀ : K.In h₀) (N : News h₀ L s.heap (small ++ rest)) (hdis : ∀ q ∈ rest, q.1 ∉ small.map (·.1)) (T : Top p loose mean mg mb h₀) (hA : A.frames = some (env :: outer)) (hf : env.frame = some L) (hke : env.scope.kind = .function)
    (ho : K.lookup f = some ⟨oc, od, .func (fnOf name qual params body scope dV kV doc pm an cdv ct), osl⟩) (hcd : codeIn K cdv qual = true) (hroom : A.depth < recursionLimit)
    (hbind : BindsTo s (fnOf name qual params body scope dV kV doc pm an cdv ct) args binds) (hloc : ∀ y ∈ binds, scope.names.lookup y.1 = some .local)
    (h : ∀ g L' h₁, Fr h₀ L g m → Fr g L' h₁ (fun y => binds.reverse.lookup y) → News g L' h₁ small → Below A base (env :: outer) g → K.In g → Top p loose mean mg mb g → AllLt L' small → RestIn h₀ L g L' rest →
      wpAny (model prog w) (A.deeper (envOf qual scope L' f cdv)) (execs body (envOf qual scope L' f cdv))
        (fun fl s' => LeaveK h₀ L m g R (match fl with | .ret v => v | _ => .none) s')
        (fun e s' => wpAny (model prog w) (A.deeper (envOf qual scope L' f cdv)) (leaving (envOf qual scope L' f cdv) e) (fun _ s'' => R (.error e) s'') (fun e' s'' => R (.error e') s'') s')
        { s with heap := h₁, toks := s.toks + binds.length })
    (hco : scope.isCoroutine = false) (hgen : scope.isGenerator = false) (hk : scope.kind = .function)
    (hcell : ∀ x ∈ scope.names, x.2 ≠ .cell) : codeAny (model prog w) A (.call (.ref f) args) R s := by
  have N1 : News h₀ L s.heap small := fun q hq => N q (List.mem_append_left _ hq)
  refine cutG fun Pc kc => ?_
  obtain ⟨FG, BG, st, lv⟩ := groundX (R := R) B F N1 hA hf hke
  refine kc ?_
  clear kc Pc
  have RI := rest_in N hdis
  refine codeAny_call_def (fd := fnOf name qual params body scope dV kV doc pm an cdv ct) (body := body) (binds := binds) hroom ((X₀.keeps F.keep) _ _ ho) rfl (T.nolimit.keeps F.keep) (codeRec_of (X₀.keeps F.keep) hcd) rfl hbind hcell hloc (fun h₁ hns hk₁ => ?_) hco hgen hk
  refine wpAny_mono (h _ s.heap.objs.size h₁ FG ⟨hns, fun b o e => hk₁ b o (of_hideAll _ e), Nat.le_of_eq (hideAll_size _ _)⟩
    (fun q hq => ⟨hk₁ _ _ (N1 q hq).1, Nat.ne_of_lt (Heap.lt_size (N1 q hq).1), hideAll_none _ (List.mem_map_of_mem hq)⟩) BG (X₀.keeps st) (T.keeps st) (allLt_of fun q hq => Heap.lt_size (N1 q hq).1) RI) (fun fl s' hl => lv _ _ hl) fun _ _ y => y
theorem code_defCR (B : Below A₀ base outer h₀) (F : Fr h₀ L s.heap m) (X₀ : K.In h₀) (N : News h₀ L s.heap (small ++ rest)) (hdis : ∀ q ∈ rest, q.1 ∉ small.map (·.1)) (T : Top p loose mean mg mb h₀) (hA : A.frames = some (env :: outer)) (hf : env.frame = some L) (hke : env.scope.kind = .function)
    (ho : K.lookup f = some ⟨oc, od, .func (fnOf name qual params body scope dV kV doc pm an cdv ct), osl⟩) (hcd : codeIn K cdv qual = true) (hroom : A.depth < recursionLimit)
    (hbind : BindsTo s (fnOf name qual params body scope dV kV doc pm an cdv ct) args binds) (hkind : (binds.all fun y => scope.names.lookup y.1 == some .local || scope.names.lookup y.1 == some .cell) = true)
    (hnd : ((cellsFrom 0 scope.names []).map (·.1)).Nodup)
    (h : ∀ g L' h₁ tk cells, Fr h₀ L g m → Fr g L' h₁ (bindL (envOfC qual scope L' f cdv).kindOf binds fun _ => none) → News g L' h₁ (cells ++ small) →
      CellsAre (bindC (envOfC qual scope L' f cdv).kindOf binds fun _ => none) (cellsFrom (L' + 1) scope.names []) cells → Below A base (env :: outer) g → K.In g → Top p loose mean mg mb g → AllLt L' small → RestIn h₀ L g L' rest →
      wpAny (model prog w) (A.deeper (envOfC qual scope L' f cdv)) (execs body (envOfC qual scope L' f cdv))
        (fun fl s' => LeaveK h₀ L m g R (match fl with | .ret v => v | _ => .none) s')
        (fun e s' => wpAny (model prog w) (A.deeper (envOfC qual scope L' f cdv)) (leaving (envOfC qual scope L' f cdv) e) (fun _ s'' => R (.error e) s'') (fun e' s'' => R (.error e') s'') s')
        { s with heap := h₁, toks := tk })
    (hco : scope.isCoroutine = false) (hgen : scope.isGenerator = false) (hk : scope.kind = .function) : codeAny (model prog w) A (.call (.ref f) args) R s := by
  have N1 : News h₀ L s.heap small := fun q hq => N q (List.mem_append_left _ hq)
  refine cutG fun Pc kc => ?_
  obtain ⟨FG, BG, st, lv⟩ := groundX (R := R) B F N1 hA hf hke
  refine kc ?_
  clear kc Pc
  have RI := rest_in N hdis
  refine codeAny_call_function hroom ((X₀.keeps F.keep) _ _ ho) rfl hco hgen rfl (codeRec_of (X₀.keeps F.keep) hcd) (hbind _ _ _ _ ?_)
  refine wpAny_newFunctionEnv_cells hk (kindsX hkind _) fun env' he s' x => ?_
  subst he
  refine ⟨(T.nolimit.keeps F.keep).keeps x.toInCall.keep, codeAny_func ?_⟩
  refine cutG fun Pc kc => ?_
  obtain ⟨h₁, tk, rfl, _⟩ := x.done
  refine kc ?_
  clear kc Pc
  have hk₁ := x.toInCall.keep
  refine cutG fun Pc kc => ?_
  obtain ⟨cells, NC, Y⟩ := Cl.news (h₀ := s.heap) (Nat.le_refl _) fun n c hm => ⟨x.cell n c (lookup_of_mem_nodup (cellsFrom_names scope.names 0 (s.heap.objs.size + 1) [] [] rfl ▸ hnd) hm), x.above n c hm⟩
  refine kc ?_
  clear kc Pc
  refine wpAny_mono (h _ s.heap.objs.size h₁ tk cells FG ⟨x.toInCall.ns, fun b o e => hk₁ b o (of_hideAll _ e), Nat.le_of_eq (hideAll_size _ _)⟩ (fun q hq => ?_) Y BG (X₀.keeps st) (T.keeps st) (allLt_of fun q hq => Heap.lt_size (N1 q hq).1) RI) (fun fl s' hl => lv _ _ hl) fun _ _ y => y
  rcases List.mem_append.mp hq with hq | hq
  · refine ⟨(NC q hq).1, (NC q hq).2.1, ?_⟩
    cases e : (hideAll s.heap (small.map (·.1))).get? q.1 with
    | none => rfl
    | some o => have := of_hideAll _ e; rw [(NC q hq).2.2] at this; cases this
  · exact ⟨hk₁ _ _ (N1 q hq).1, Nat.ne_of_lt (Heap.lt_size (N1 q hq).1), hideAll_none _ (List.mem_map_of_mem hq)⟩
end
end
section
open _root_.PySem _root_.PySem.W _root_.PyProof.Rows
theorem sum_nonneg' {l : List Int} (h : ∀ i ∈ l, 0 ≤ i) : 0 ≤ l.sum := by
  induction l with
  | nil => exact Int.le_refl _
  | cons a l ih =>
    have h1 := ih fun i hi => h i (List.mem_cons_of_mem _ hi)
    have h2 := h a List.mem_cons_self
    rw [List.sum_cons]
    exact Int.add_nonneg h2 h1
theorem sum_le_of {b : Int} {l : List Int} (h : ∀ i ∈ l, i ≤ b) : l.sum ≤ b * (l.length : Int) := by
  induction l with
  | nil => simp
  | cons a l ih =>
    have h1 := ih fun i hi => h i (List.mem_cons_of_mem _ hi)
    have h2 := h a List.mem_cons_self
    rw [List.sum_cons, List.length_cons, Int.natCast_add, Int.mul_add]
    have : b * ((1 : Nat) : Int) = b := by simp
    rw [this]; omega
theorem news_tail {g h : Heap} {L : Addr} {a : Addr × Obj} {l : List (Addr × Obj)} (N : News g L h (a :: l)) : News g L h l := fun p hp => N p (List.mem_cons_of_mem _ hp)
end
section
open _root_.PySem _root_.PySem.W _root_.PyProof.Rows
local macro_rules | `(tactic| k_mem) => `(tactic| assumption)
local macro_rules | `(tactic| k_all) => `(tactic| assumption)
local macro_rules | `(tactic| walk_at "my c") => `(tactic| solve | k_asm | exact rfl | k_mem | k_all | omega | ((try simp only [depth_deeper, units_deeper]); (try dsimp only); omega) | walk_at "my p")
section
open _root_.PySem _root_.PySem.W _root_.PyProof.Rows
theorem fresh_1 : True := by (w_top off); exact trivial
noncomputable def innI : Stmt := (bodyOf (topStmt 9)).getD 1 (.Pass default)
noncomputable def putD (n : Int) : Nat → List Int → Int → Int → Int → List Int
  | 0, ns, _, _, _ => ns
  | k + 1, ns, x, l, r => if l + 1 = r then ns.set l.toNat x else
      putD n k (putD n k ns (Builtin.bitXor x (x.fdiv (2 ^ (((l + r).fdiv (2 ^ Int.toNat 1) - l) * n).toNat) * 2 ^ (((l + r).fdiv (2 ^ Int.toNat 1) - l) * n).toNat)) l ((l + r).fdiv (2 ^ Int.toNat 1)))
        (x.fdiv (2 ^ (((l + r).fdiv (2 ^ Int.toNat 1) - l) * n).toNat)) ((l + r).fdiv (2 ^ Int.toNat 1)) r
theorem putD_len (n : Int) : ∀ (k : Nat) (ns : List Int) (x l r : Int), (putD n k ns x l r).length = ns.length
  | 0, _, _, _, _ => rfl
  | k + 1, ns, x, l, r => by
    unfold putD
    split
    · exact List.length_set ..
    · rw [putD_len n k, putD_len n k]
theorem low_fit {x : Int} {sh : Nat} (h0 : 0 ≤ x) (h1 : x < 64) (hs : sh ≤ 8) : 0 ≤ Builtin.bitXor x (x.fdiv (2 ^ sh) * 2 ^ sh) ∧ Builtin.bitXor x (x.fdiv (2 ^ sh) * 2 ^ sh) < 64 := by
  obtain ⟨y, rfl⟩ := Int.eq_ofNat_of_zero_le h0
  have := (by decide +kernel : ∀ sh : Nat, sh ≤ 8 → ∀ x : Nat, x < 64 → 0 ≤ Builtin.bitXor (x : Int) ((x : Int).fdiv (2 ^ sh) * 2 ^ sh) ∧ Builtin.bitXor (x : Int) ((x : Int).fdiv (2 ^ sh) * 2 ^ sh) < 64)
  exact this sh hs y (by omega)
theorem up_fit {x : Int} {sh : Nat} (h0 : 0 ≤ x) (h1 : x < 64) (hs : sh ≤ 8) : 0 ≤ x.fdiv (2 ^ sh) ∧ x.fdiv (2 ^ sh) < 64 := by
  obtain ⟨y, rfl⟩ := Int.eq_ofNat_of_zero_le h0
  have := (by decide +kernel : ∀ sh : Nat, sh ≤ 8 → ∀ x : Nat, x < 64 → 0 ≤ (x : Int).fdiv (2 ^ sh) ∧ (x : Int).fdiv (2 ^ sh) < 64)
  exact this sh hs y (by omega)
theorem mid_or {l r : Int} (h0 : 0 ≤ l) (h1 : l < r) (h3 : r ≤ 3) : l + 1 = r ∨ (l + r).fdiv (2 ^ Int.toNat 1) = l + 1 := by
  have e : (2 : Int) ^ Int.toNat 1 = 2 := rfl
  rw [e, Int.fdiv_eq_ediv_of_nonneg _ (by decide)]
  omega
theorem sh_fit {l r n : Int} (h0 : 0 ≤ l) (h1 : l < r) (h3 : r ≤ 3) (hn2 : 2 ≤ n) (hn4 : n ≤ 4) : 0 ≤ ((l + r).fdiv (2 ^ Int.toNat 1) - l) * n ∧ ((l + r).fdiv (2 ^ Int.toNat 1) - l) * n ≤ 8 := by
  have e : (l + r).fdiv (2 ^ Int.toNat 1) - l = 0 ∨ (l + r).fdiv (2 ^ Int.toNat 1) - l = 1 := by
    rw [show (2 : Int) ^ Int.toNat 1 = 2 from rfl, Int.fdiv_eq_ediv_of_nonneg _ (by decide)]
    omega
  rcases e with e | e <;> rw [e] <;> omega
noncomputable def InSpec (w : World) (mean : ExcName → Option Value) (mg mb : Str → Option Value) (loose : List Str) (k : Nat) : Prop :=
  ∀ ⦃dp un : Nat⦄ ⦃gd : Option (List Code)⦄ ⦃cn : Str⦄ ⦃cs : Scope⦄ ⦃a : Addr⦄ ⦃ccd : Value⦄ ⦃cl : List (Str × Addr)⦄ ⦃outer : List Env⦄ ⦃A₀ : Around⦄ ⦃base h₀ : Heap⦄ ⦃L : Addr⦄ ⦃m : Str → Option Value⦄ ⦃s : Shared⦄ ⦃Q E : Value → Shared → Prop⦄
   ⦃rest : List (Addr × Obj)⦄ ⦃f c' cn' ca ci ad : Addr⦄ ⦃oc on oa oi fo : Obj⦄ ⦃vs' : Array Value⦄ ⦃qual : Str⦄ ⦃t' : Tok⦄ ⦃doc pm ctv : Value⦄ ⦃n : Int⦄ ⦃tn : Tok⦄ ⦃x l r : Int⦄ ⦃t1 t2 t3 : Tok⦄ ⦃vs : List Value⦄ ⦃ns : List Int⦄ ⦃kk : Nat⦄
   (B : Below A₀ base outer h₀) (F : Fr h₀ L s.heap m) (X : (hd.heap_1 w.params).In h₀) (T : Top topProg loose mean mg mb h₀) (hk : cs.kind = .function) (N : News h₀ L s.heap ((ad, listOf vs.toArray kk) :: rest)) (C : CodeHd base 70 66) (hr : ∀ q ∈ rest, q.1 ≠ ad) (hf : (f, fo) ∈ rest) (hfo : fo = fnMade (Str.ofString "inner") qual (paramsOf innI) (bodyOf innI) (scopeOf innI) [(Str.ofString "n", cn'), (Str.ofString "inner", ci), (Str.ofString "a_digits", ca)] doc pm c' ctv) (hc : (c', oc) ∈ rest) (hcd : oc.data = .fields vs') (hcv : vs'[1]? = some (.str qual t')) (hn : (cn', on) ∈ rest) (hnd : on.data = .cell (some (.int n tn))) (ha : (ca, oa) ∈ rest) (had : oa.data = .cell (some (.ref ad))) (hi : (ci, oi) ∈ rest) (hid : oi.data = .cell (some (.ref f))) (hints : IntsAre vs ns) (hl0 : 0 ≤ l) (hlr : l < r) (hrk : r ≤ l + k) (hrn : r ≤ ns.length) (hn3 : ns.length ≤ 3) (hn2 : 2 ≤ n) (hn4 : n ≤ 4) (hx0 : 0 ≤ x) (hx : x < 64) (hd : dp + k + 1 < recursionLimit) (hu : un + 8 * (k + 1) < cLine) (ret : ∀ (h' : Heap) (tk' : Nat) (vs₂ : List Value), Fr h₀ L h' m → News h₀ L h' ((ad, listOf vs₂.toArray kk) :: rest) → IntsAre vs₂ (putD n k ns x l r) → Q .none { s with heap := h', toks := tk' }),
   wpAny (model PySem.Challenge.rw_ta0052_01.row.prog w) (ktrTop dp un gd cn cs L a ccd cl outer) (call (.ref f) [.int x t1, .int l t2, .int r t3]) Q E s
theorem InSpec.use {w : World} {mean : ExcName → Option Value} {mg mb : Str → Option Value} {loose : List Str} {k : Nat} (spc : InSpec w mean mg mb loose k) : InSpec w mean mg mb loose k := spc
local macro_rules | `(tactic| walk_at "my p") => do anyK [`news_2nd, `news_3rd] (← `(tactic| ((try simp only [putD_len]); omega)))
section
local macro_rules | `(tactic| walk_at "call ref") => rowC `InSpec.use 31
theorem inS (w : World) (mean) (mg mb) (loose) (k : Nat) (ih : InSpec w mean mg mb loose k) : InSpec w mean mg mb loose (k + 1) := by
  unfold InSpec
  intro dp un gd cn cs a ccd cl outer A₀ base h₀ L m s Q E rest f c' cn' ca ci ad oc on oa oi fo vs' qual t' doc pm ctv n tn x l r t1 t2 t3 vs ns kk B F X T hk N C hr hf hfo hc hcd hcv hn hnd ha had hi hid hints hl0 hlr hrk hrn hn3 hn2 hn4 hx0 hx hd hu ret
  subst hfo
  revert X T; k_fill; intro X T
  refine wpAny_call ?_
  refine' code_nest (binds := [(Str.ofString "x", .int x t1), (Str.ofString "L", .int l t2), (Str.ofString "R", .int r t3)]) B F X N T rfl rfl hk (List.mem_cons_of_mem _ hf) (codeRec_news N (List.mem_cons_of_mem _ hc) hcd hcv) ?_ (BindsTo.of_eq rfl) (locs rfl) ?_ rfl rfl rfl (by decide)
  · show dp < recursionLimit
    omega
  intro g' L' h' FG' F' N' B' X' T'
  clear N F B
  have F2 : Fr g' L' h' (fun y => List.lookup y [(Str.ofString "R", .int r t3), (Str.ofString "L", .int l t2), (Str.ofString "x", .int x t1)]) := F'
  clear F'
  dsimp only
  k_unmd
  k_fold
  change wpAny _ _ (execs (_ :: _) _) _ _ _
  k_unmd
  have m1 := mid_or hl0 hlr (show r ≤ 3 by omega)
  have ⟨s1, s2⟩ := sh_fit hl0 hlr (show r ≤ 3 by omega) hn2 hn4
  have s3 : (((l + r).fdiv (2 ^ Int.toNat 1) - l) * n).toNat ≤ 8 := by omega
  have ⟨b1, b2⟩ := low_fit hx0 hx s3
  have ⟨b3, b4⟩ := up_fit hx0 hx s3
  k_steps
  all_goals (try dsimp only)
  all_goals k_steps
  · refine ret _ _ _ (by assumption) (by assumption) ?_
    unfold putD
    rw [if_pos (by assumption)]
    assumption
  · refine ret _ _ _ (by assumption) (by assumption) ?_
    unfold putD
    rw [if_neg (by assumption)]
    assumption
end
theorem inS3 (w : World) (mean) (mg mb) (loose) : InSpec w mean mg mb loose 3 :=
  inS w mean mg mb loose 2 (inS w mean mg mb loose 1 (inS w mean mg mb loose 0 (by unfold InSpec; intros; omega)))
end
section
open _root_.PySem _root_.PySem.W _root_.PyProof.Rows
theorem fresh_2 : True := by (w_top off); exact trivial
noncomputable def innD : Stmt := (bodyOf (topStmt 10)).getD 0 (.Pass default)
noncomputable def valD (n : Int) : Nat → List Int → Int → Int → Int
  | 0, _, _, _ => 0
  | k + 1, ns, l, r => if l + 1 = r then ns.getD l.toNat 0 else
      valD n k ns ((l + r).fdiv (2 ^ Int.toNat 1)) r * 2 ^ (((l + r).fdiv (2 ^ Int.toNat 1) - l) * n).toNat + valD n k ns l ((l + r).fdiv (2 ^ Int.toNat 1))
theorem valD_base {n : Int} {k : Nat} {ns : List Int} {l r : Int} (h : l + 1 = r) : valD n (k + 1) ns l r = ns.getD l.toNat 0 := by unfold valD; rw [if_pos h]
theorem valD_step {n : Int} {k : Nat} {ns : List Int} {l r : Int} (h : l + 1 ≠ r) : valD n (k + 1) ns l r =
    valD n k ns ((l + r).fdiv (2 ^ Int.toNat 1)) r * 2 ^ (((l + r).fdiv (2 ^ Int.toNat 1) - l) * n).toNat + valD n k ns l ((l + r).fdiv (2 ^ Int.toNat 1)) := by
  show (if l + 1 = r then _ else _) = _
  rw [if_neg h]
theorem getD_fit {ns : List Int} (hb : ∀ i ∈ ns, 0 ≤ i ∧ i < 128) (j : Nat) : 0 ≤ ns.getD j 0 ∧ ns.getD j 0 < 128 := by
  rw [List.getD_eq_getElem?_getD]
  cases h : ns[j]? with
  | none => exact ⟨by decide, by decide⟩
  | some v => exact hb v (List.mem_of_getElem? h)
theorem mid_in {l r : Int} (h0 : 0 ≤ l) (h1 : l < r) : l ≤ (l + r).fdiv (2 ^ Int.toNat 1) ∧ (l + r).fdiv (2 ^ Int.toNat 1) < r := by
  rw [show (2 : Int) ^ Int.toNat 1 = 2 from rfl, Int.fdiv_eq_ediv_of_nonneg _ (by decide)]
  omega
theorem valD_fit {n : Int} (hn2 : 2 ≤ n) (hn4 : n ≤ 4) {ns : List Int} (hb : ∀ i ∈ ns, 0 ≤ i ∧ i < 128) : ∀ (k : Nat) (l r : Int), 0 ≤ l → l < r → r ≤ 3 → 0 ≤ valD n k ns l r ∧ valD n k ns l r < 128 * 257 ^ k
  | 0, _, _, _, _, _ => ⟨Int.le_refl _, show (0 : Int) < 128 * 257 ^ 0 by decide⟩
  | k + 1, l, r, h0, h1, h3 => by
    unfold valD
    have hp : (1 : Int) ≤ 257 ^ k := Int.pow_pos (by decide)
    split
    · have ⟨a, b⟩ := getD_fit hb l.toNat
      refine ⟨a, Int.lt_of_lt_of_le b ?_⟩
      rw [Int.pow_succ]; omega
    · rename_i hne
      have hm := (mid_or h0 h1 h3).resolve_left hne
      have ⟨s1, s2⟩ := sh_fit h0 h1 h3 hn2 hn4
      have ⟨a1, a2⟩ := valD_fit hn2 hn4 hb k ((l + r).fdiv (2 ^ Int.toNat 1)) r (by omega) (by omega) h3
      have ⟨b1, b2⟩ := valD_fit hn2 hn4 hb k l ((l + r).fdiv (2 ^ Int.toNat 1)) h0 (by omega) (by omega)
      have p1 : (0 : Int) ≤ 2 ^ (((l + r).fdiv (2 ^ Int.toNat 1) - l) * n).toNat := Int.pow_nonneg (by decide)
      have p2 : (2 : Int) ^ (((l + r).fdiv (2 ^ Int.toNat 1) - l) * n).toNat ≤ 256 := by
        have : ∀ e : Nat, e ≤ 8 → (2 : Int) ^ e ≤ 256 := by decide
        exact this _ (by omega)
      refine ⟨Int.add_nonneg (Int.mul_nonneg a1 p1) b1, ?_⟩
      have p3 := Int.mul_le_mul_of_nonneg_left p2 a1
      rw [Int.pow_succ]; omega
noncomputable def DnSpec (w : World) (mean : ExcName → Option Value) (mg mb : Str → Option Value) (loose : List Str) (k : Nat) : Prop :=
  ∀ ⦃dp un : Nat⦄ ⦃gd : Option (List Code)⦄ ⦃cn : Str⦄ ⦃cs : Scope⦄ ⦃a : Addr⦄ ⦃ccd : Value⦄ ⦃cl : List (Str × Addr)⦄ ⦃outer : List Env⦄ ⦃A₀ : Around⦄ ⦃base h₀ : Heap⦄ ⦃L : Addr⦄ ⦃m : Str → Option Value⦄ ⦃s : Shared⦄ ⦃Q E : Value → Shared → Prop⦄
   ⦃rest : List (Addr × Obj)⦄ ⦃f c' cn' ca ci ad : Addr⦄ ⦃oc on oa oi fo : Obj⦄ ⦃vs' : Array Value⦄ ⦃qual : Str⦄ ⦃t' : Tok⦄ ⦃doc pm ctv : Value⦄ ⦃n : Int⦄ ⦃tn : Tok⦄ ⦃l r : Int⦄ ⦃t2 t3 : Tok⦄ ⦃vs : List Value⦄ ⦃ns : List Int⦄ ⦃kk : Nat⦄
   (B : Below A₀ base outer h₀) (F : Fr h₀ L s.heap m) (X : (hd.heap_1 w.params).In h₀) (T : Top topProg loose mean mg mb h₀) (hk : cs.kind = .function) (N : News h₀ L s.heap rest) (C : CodeHd base 77 73) (hf : (f, fo) ∈ rest) (hfo : fo = fnMade (Str.ofString "inner") qual (paramsOf innD) (bodyOf innD) (scopeOf innD) [(Str.ofString "n", cn'), (Str.ofString "inner", ci), (Str.ofString "digits", ca)] doc pm c' ctv) (hc : (c', oc) ∈ rest) (hcd : oc.data = .fields vs') (hcv : vs'[1]? = some (.str qual t')) (hn : (cn', on) ∈ rest) (hnd : on.data = .cell (some (.int n tn))) (ha : (ca, oa) ∈ rest) (had : oa.data = .cell (some (.ref ad))) (hi : (ci, oi) ∈ rest) (hid : oi.data = .cell (some (.ref f))) (hl : (ad, listOf vs.toArray kk) ∈ rest) (hints : IntsAre vs ns) (hb : ∀ i ∈ ns, 0 ≤ i ∧ i < 128) (hl0 : 0 ≤ l) (hlr : l < r) (hrk : r ≤ l + k) (hrn : r ≤ ns.length) (hn3 : ns.length ≤ 3) (hn2 : 2 ≤ n) (hn4 : n ≤ 4) (hd : dp + k + 1 < recursionLimit) (hu : un + 8 * (k + 1) < cLine) (ret : ∀ (h' : Heap) (tk' : Nat) (t₂ : Tok), Fr h₀ L h' m → News h₀ L h' rest → Q (.int (valD n k ns l r) t₂) { s with heap := h', toks := tk' }),
   wpAny (model PySem.Challenge.rw_ta0052_01.row.prog w) (ktrTop dp un gd cn cs L a ccd cl outer) (call (.ref f) [.int l t2, .int r t3]) Q E s
theorem DnSpec.use {w : World} {mean : ExcName → Option Value} {mg mb : Str → Option Value} {loose : List Str} {k : Nat} (spc : DnSpec w mean mg mb loose k) : DnSpec w mean mg mb loose k := spc
section
local macro_rules | `(tactic| walk_at "call ref") => rowC `DnSpec.use 30
theorem dnS (w : World) (mean) (mg mb) (loose) (k : Nat) (hk3 : k ≤ 2) (ih : DnSpec w mean mg mb loose k) : DnSpec w mean mg mb loose (k + 1) := by
  unfold DnSpec
  intro dp un gd cn cs a ccd cl outer A₀ base h₀ L m s Q E rest f c' cn' ca ci ad oc on oa oi fo vs' qual t' doc pm ctv n tn l r t2 t3 vs ns kk B F X T hk N C hf hfo hc hcd hcv hn hnd ha had hi hid hl hints hb hl0 hlr hrk hrn hn3 hn2 hn4 hd hu ret
  subst hfo
  revert X T; k_fill; intro X T
  refine wpAny_call ?_
  refine' code_nest (binds := [(Str.ofString "L", .int l t2), (Str.ofString "R", .int r t3)]) B F X N T rfl rfl hk hf (codeRec_news N hc hcd hcv) ?_ (BindsTo.of_eq rfl) (locs rfl) ?_ rfl rfl rfl (by decide)
  · show dp < recursionLimit
    omega
  intro g' L' h' FG' F' N' B' X' T'
  clear N F B
  have F2 : Fr g' L' h' (fun y => List.lookup y [(Str.ofString "R", .int r t3), (Str.ofString "L", .int l t2)]) := F'
  clear F'
  dsimp only
  k_unmd
  k_fold
  change wpAny _ _ (execs (_ :: _) _) _ _ _
  k_unmd
  have m1 := mid_or hl0 hlr (show r ≤ 3 by omega)
  have ⟨s1, s2⟩ := sh_fit hl0 hlr (show r ≤ 3 by omega) hn2 hn4
  have s3 : (((l + r).fdiv (2 ^ Int.toNat 1) - l) * n).toNat ≤ 8 := by omega
  have ⟨m2, m3⟩ := mid_in hl0 hlr
  have ⟨v1, v2'⟩ := valD_fit hn2 hn4 hb k ((l + r).fdiv (2 ^ Int.toNat 1)) r (by omega) (by omega) (by omega)
  have v2 : valD n k ns ((l + r).fdiv (2 ^ Int.toNat 1)) r < 9000000 := Int.lt_of_lt_of_le v2' (by
    have : ∀ e : Nat, e ≤ 2 → (128 * 257 ^ e : Int) ≤ 9000000 := by decide
    exact this k hk3)
  clear v2'
  k_steps
  all_goals (try dsimp only)
  all_goals k_steps
  · rw [← valD_base (n := n) (k := k) (ns := ns) (by assumption)]
    exact ret _ _ _ (by assumption) (by assumption)
  · rw [← valD_step (by assumption)]
    exact ret _ _ _ (by assumption) (by assumption)
end
theorem dnS3 (w : World) (mean) (mg mb) (loose) : DnSpec w mean mg mb loose 3 :=
  dnS w mean mg mb loose 2 (by decide) (dnS w mean mg mb loose 1 (by decide) (dnS w mean mg mb loose 0 (by decide) (by unfold DnSpec; intros; omega)))
end
section
open _root_.PySem _root_.PySem.W _root_.PyProof.Rows
theorem fresh_3 : True := by (w_top off); exact trivial
local macro_rules | `(tactic| k_lt $h) => `(tactic| (replace $h := allLt_of $h; simp only [AllLt, and_true] at $h:ident))
local macro_rules | `(tactic| k_ne) => `(tactic| (refine neN ?_; (try dsimp only); omega))
section
variable {h₀ h : Heap} {L : Addr} {d f c l a b e t : Addr × Obj} {r : List (Addr × Obj)}
theorem drop_a (N : News h₀ L h (d :: f :: c :: l :: a :: b :: e :: t :: r)) : News h₀ L h (d :: c :: t :: r) := newsS N (by walk_at "my s")
theorem drop_b (N : News h₀ L h (f :: c :: d :: l :: a :: b :: e :: t :: r)) : News h₀ L h (d :: c :: t :: r) := newsS N (by walk_at "my s")
theorem drop_c (hm : c ∈ r) (N : News h₀ L h (d :: f :: l :: a :: b :: e :: t :: r)) : News h₀ L h (d :: c :: t :: r) := newsS N (by walk_at "my s")
theorem drop_d (hm : c ∈ r) (N : News h₀ L h (f :: d :: l :: a :: b :: e :: t :: r)) : News h₀ L h (d :: c :: t :: r) := newsS N (by walk_at "my s")
end
noncomputable def lenD (n x : Int) : Nat := (((Builtin.Int.intBits x : Int) + n - 1).fdiv n).toNat
theorem flat_rep {α : Type} (k : Nat) (a : α) : (List.replicate k [a]).flatten = List.replicate k a := by
  induction k with
  | zero => rfl
  | succ k ih => rw [List.replicate_succ, List.flatten_cons, ih]; rfl
theorem lenD_nil {n x : Int} (h : x = 0) (h2 : 2 ≤ n) (h4 : n ≤ 4) : (((Builtin.Int.intBits x : Int) + n - 1).fdiv n).toNat = 0 := by
  subst h
  have : n = 2 ∨ n = 3 ∨ n = 4 := by omega
  rcases this with rfl | rfl | rfl <;> decide +kernel
noncomputable def digsD (n x : Int) : List Int := if x = 0 then [] else putD n 3 (List.replicate (lenD n x) 0) x 0 (lenD n x)
theorem digsD_nil {n x : Int} (h : x = 0) : digsD n x = [] := if_pos h
theorem digsD_some {n x : Int} (h : x ≠ 0) : digsD n x = putD n 3 (List.replicate (lenD n x) 0) x 0 (lenD n x) := if_neg h
theorem i2_nil {n x : Int} {vs : List Value} (h2 : 2 ≤ n) (h4 : n ≤ 4) (h : x = 0) (hi : IntsAre vs (List.replicate (((Builtin.Int.intBits x : Int) + n - 1).fdiv n).toNat [0]).flatten) : IntsAre vs (digsD n x) := by
  rw [lenD_nil h h2 h4] at hi
  rw [digsD_nil h]
  exact hi
theorem i2_some {n x : Int} {vs : List Value} {k : Nat} (_h2 : 2 ≤ n) (_h4 : n ≤ 4) (h : x ≠ 0) (hk : (List.replicate (((Builtin.Int.intBits x : Int) + n - 1).fdiv n).toNat [(0 : Int)]).flatten.length = k)
    (hi : IntsAre vs (putD n 3 (List.replicate (((Builtin.Int.intBits x : Int) + n - 1).fdiv n).toNat [0]).flatten x 0 k)) : IntsAre vs (digsD n x) := by
  subst hk
  rw [digsD_some h]
  rw [flat_rep, List.length_replicate] at hi
  exact hi
noncomputable def I2Spec.R (w : World) (mean : ExcName → Option Value) (mg mb : Str → Option Value) (loose : List Str) (dp un : Nat) (gd : Option (List Code)) (cn : Str) (cs : Scope) (a : Addr) (ccd : Value) (cl : List (Str × Addr)) (outer : List Env) (A₀ : Around) (base h₀ : Heap) (L : Addr) (m : Str → Option Value) (s : Shared) (Q E : Value → Shared → Prop) (rest : List (Addr × Obj)) (ps : Array Value) (x n : Int) (t1 t2 : Tok) : Prop :=
  ∀ (B : Below A₀ base outer h₀) (F : Fr h₀ L s.heap m) (X : (hd.heap_1 w.params).In h₀) (T : Top topProg loose mean mg mb h₀) (hk : cs.kind = .function) (N : News h₀ L s.heap ((66, tabObj ps) :: rest)) (C : CodeHd base 70 66) (hP : ∀ q ∈ rest, q.1 ≠ 66) (S : TabSt 85 4 "_int2digits.<locals>.inner" ps rest) (hn2 : 2 ≤ n) (hn4 : n ≤ 4) (hx0 : 0 ≤ x) (hx : x < 64) (hL : ((Builtin.Int.intBits x : Int) + n - 1).fdiv n ≤ 3 ∧ 0 ≤ ((Builtin.Int.intBits x : Int) + n - 1).fdiv n ∧ (x ≠ 0 → 0 < ((Builtin.Int.intBits x : Int) + n - 1).fdiv n)) (hd : dp + 6 < recursionLimit) (hu : un + 60 < cLine) (ret : ∀ (h' : Heap) (tk' : Nat) (D c' : Addr) (oc : Obj) (vs : List Value) (kk : Nat) (ps' : Array Value), Fr h₀ L h' m → News h₀ L h' ((D, listOf vs.toArray kk) :: (c', oc) :: (66, tabObj ps') :: rest) → @LT.lt Nat _ 66 D → AllLt D rest → TabSt 85 4 "_int2digits.<locals>.inner" ps' [(c', oc)] → (∃ vs, oc.data = .fields vs) → @LT.lt Nat _ 160 c' → IntsAre vs (digsD n x) → Q (.ref D) { s with heap := h', toks := tk' }),
   wpAny (model PySem.Challenge.rw_ta0052_01.row.prog w) (ktrTop dp un gd cn cs L a ccd cl outer) (call (.ref 71) [.int x t1, .int n t2]) Q E s
noncomputable def I2Spec (w : World) (mean : ExcName → Option Value) (mg mb : Str → Option Value) (loose : List Str) : Prop := ∀ ⦃dp un : Nat⦄ ⦃gd : Option (List Code)⦄ ⦃cn : Str⦄ ⦃cs : Scope⦄ ⦃a : Addr⦄ ⦃ccd : Value⦄ ⦃cl : List (Str × Addr)⦄ ⦃outer : List Env⦄ ⦃A₀ : Around⦄ ⦃base h₀ : Heap⦄ ⦃L : Addr⦄ ⦃m : Str → Option Value⦄ ⦃s : Shared⦄ ⦃Q E : Value → Shared → Prop⦄ ⦃rest : List (Addr × Obj)⦄ ⦃ps : Array Value⦄ ⦃x n : Int⦄ ⦃t1 t2 : Tok⦄, I2Spec.R w mean mg mb loose dp un gd cn cs a ccd cl outer A₀ base h₀ L m s Q E rest ps x n t1 t2
theorem I2Spec.use {w : World} {mean : ExcName → Option Value} {mg mb : Str → Option Value} {loose : List Str} (spc : I2Spec w mean mg mb loose) : I2Spec w mean mg mb loose := spc
local macro_rules | `(tactic| walk_at "my p") => do anyK [`news_2nd, `news_3rd] (← `(tactic| ((try simp only [putD_len]); omega)))
section
local macro_rules | `(tactic| walk_at "call ref") => rowC `InSpec.use 31
local macro_rules | `(tactic| walk_at "execs cons") => `(tactic| with_reducible refine stop3 ?_)
abbrev i2dSK.TT : Type := World × (ExcName → Option Value) × (Str → Option Value) × (Str → Option Value) × (List Str) × Nat × Nat × (Option (List Code)) × Str × Scope × Addr × Value × (List (Str × Addr)) × (List Env) × Around × Heap × Heap × Addr × (Str → Option Value) × Shared × (Value → Shared → Prop) × (Value → Shared → Prop) × (List (Addr × Obj)) × Int × Int × Tok × Tok
theorem i2dSK.nn : Nonempty i2dSK.TT := ⟨(⟨fun _ _ => 0, { strHash := fun _ => 0, shareClass := fun _ => 0, mergeTok := fun _ => 0, idOf := fun _ => 0, idOfShared := fun _ _ => 0, followText := fun _ => false, idOfImm := fun _ => 0 }⟩, fun _ => none, fun _ => none, fun _ => none, [], 0, 0, none, Str.ofString "", default, 0, .none, [], [], {}, {}, {}, 0, fun _ => none, {}, fun _ _ => True, fun _ _ => True, [], 0, 0, 0, 0)⟩
noncomputable def i2dSK.QQ (c : i2dSK.TT) : Prop := ∀ (ps : Array Value), I2Spec.R c.1 c.2.1 c.2.2.1 c.2.2.2.1 c.2.2.2.2.1 c.2.2.2.2.2.1 c.2.2.2.2.2.2.1 c.2.2.2.2.2.2.2.1 c.2.2.2.2.2.2.2.2.1 c.2.2.2.2.2.2.2.2.2.1 c.2.2.2.2.2.2.2.2.2.2.1 c.2.2.2.2.2.2.2.2.2.2.2.1 c.2.2.2.2.2.2.2.2.2.2.2.2.1 c.2.2.2.2.2.2.2.2.2.2.2.2.2.1 c.2.2.2.2.2.2.2.2.2.2.2.2.2.2.1 c.2.2.2.2.2.2.2.2.2.2.2.2.2.2.2.1 c.2.2.2.2.2.2.2.2.2.2.2.2.2.2.2.2.1 c.2.2.2.2.2.2.2.2.2.2.2.2.2.2.2.2.2.1 c.2.2.2.2.2.2.2.2.2.2.2.2.2.2.2.2.2.2.1 c.2.2.2.2.2.2.2.2.2.2.2.2.2.2.2.2.2.2.2.1 c.2.2.2.2.2.2.2.2.2.2.2.2.2.2.2.2.2.2.2.2.1 c.2.2.2.2.2.2.2.2.2.2.2.2.2.2.2.2.2.2.2.2.2.1 c.2.2.2.2.2.2.2.2.2.2.2.2.2.2.2.2.2.2.2.2.2.2.1 ps c.2.2.2.2.2.2.2.2.2.2.2.2.2.2.2.2.2.2.2.2.2.2.2.1 c.2.2.2.2.2.2.2.2.2.2.2.2.2.2.2.2.2.2.2.2.2.2.2.2.1 c.2.2.2.2.2.2.2.2.2.2.2.2.2.2.2.2.2.2.2.2.2.2.2.2.2.1 c.2.2.2.2.2.2.2.2.2.2.2.2.2.2.2.2.2.2.2.2.2.2.2.2.2.2
noncomputable def i2dSK.cc : i2dSK.TT := Classical.epsilon (h := i2dSK.nn) fun c => ¬ i2dSK.QQ c
namespace i2dSK
@[irreducible] noncomputable def w := cc.1
@[irreducible] noncomputable def mean := cc.2.1
@[irreducible] noncomputable def mg := cc.2.2.1
@[irreducible] noncomputable def mb := cc.2.2.2.1
@[irreducible] noncomputable def loose := cc.2.2.2.2.1
@[irreducible] noncomputable def dp := cc.2.2.2.2.2.1
@[irreducible] noncomputable def un := cc.2.2.2.2.2.2.1
@[irreducible] noncomputable def gd := cc.2.2.2.2.2.2.2.1
@[irreducible] noncomputable def cn := cc.2.2.2.2.2.2.2.2.1
@[irreducible] noncomputable def cs := cc.2.2.2.2.2.2.2.2.2.1
@[irreducible] noncomputable def a := cc.2.2.2.2.2.2.2.2.2.2.1
@[irreducible] noncomputable def ccd := cc.2.2.2.2.2.2.2.2.2.2.2.1
@[irreducible] noncomputable def cl := cc.2.2.2.2.2.2.2.2.2.2.2.2.1
@[irreducible] noncomputable def outer := cc.2.2.2.2.2.2.2.2.2.2.2.2.2.1
@[irreducible] noncomputable def A₀ := cc.2.2.2.2.2.2.2.2.2.2.2.2.2.2.1
@[irreducible] noncomputable def base := cc.2.2.2.2.2.2.2.2.2.2.2.2.2.2.2.1
@[irreducible] noncomputable def h₀ := cc.2.2.2.2.2.2.2.2.2.2.2.2.2.2.2.2.1
@[irreducible] noncomputable def L := cc.2.2.2.2.2.2.2.2.2.2.2.2.2.2.2.2.2.1
@[irreducible] noncomputable def m := cc.2.2.2.2.2.2.2.2.2.2.2.2.2.2.2.2.2.2.1
@[irreducible] noncomputable def s := cc.2.2.2.2.2.2.2.2.2.2.2.2.2.2.2.2.2.2.2.1
@[irreducible] noncomputable def Q := cc.2.2.2.2.2.2.2.2.2.2.2.2.2.2.2.2.2.2.2.2.1
@[irreducible] noncomputable def E := cc.2.2.2.2.2.2.2.2.2.2.2.2.2.2.2.2.2.2.2.2.2.1
@[irreducible] noncomputable def rest := cc.2.2.2.2.2.2.2.2.2.2.2.2.2.2.2.2.2.2.2.2.2.2.1
@[irreducible] noncomputable def x := cc.2.2.2.2.2.2.2.2.2.2.2.2.2.2.2.2.2.2.2.2.2.2.2.1
@[irreducible] noncomputable def n := cc.2.2.2.2.2.2.2.2.2.2.2.2.2.2.2.2.2.2.2.2.2.2.2.2.1
@[irreducible] noncomputable def t1 := cc.2.2.2.2.2.2.2.2.2.2.2.2.2.2.2.2.2.2.2.2.2.2.2.2.2.1
@[irreducible] noncomputable def t2 := cc.2.2.2.2.2.2.2.2.2.2.2.2.2.2.2.2.2.2.2.2.2.2.2.2.2.2
theorem main (ps : Array Value) : I2Spec.R w mean mg mb loose dp un gd cn cs a ccd cl outer A₀ base h₀ L m s Q E rest ps x n t1 t2 := by
  intro B F X T hk N C hP S hn2 hn4 hx0 hx hL hd hu ret
  have ih := inS3 w mean mg mb loose
  revert X T; k_fill; intro X T
  refine wpAny_call ?_
  refine' code_defC (binds := [(Str.ofString "a", .int x t1), (Str.ofString "n", .int n t2)]) B F X N T rfl rfl hk ?k6 ?k7 ?k8 ?k9 ?kB ?kD ?_ ?c2 ?c3 ?c4
  case k6 => k_is
  case k7 => k_is
  case k9 => exact BindsTo.of_eq rfl
  case kB => exact rfl
  case kD => decide +kernel
  case c2 => exact rfl
  case c3 => exact rfl
  case c4 => exact rfl
  case k8 => (show dp < recursionLimit; omega)
  intro g' L' h' tk' cells' FG' F' N' Y' B' X' T' l1
  k_lt l1
  have l5 := l1.2
  have l6 : AllLt (L' + 1) rest := allLt_up 1 l5
  have l7 : AllLt (L' + 1 + 1) rest := allLt_up 2 l5
  have l8 : AllLt (L' + 1 + 1 + 1) rest := allLt_up 3 l5
  refine cutG fun Pc kc => ?_
  obtain ⟨o1, o2, o3, hE, d1, d2, d3⟩ := CellsAre.three Y'
  refine kc ?_
  clear kc Pc
  subst hE
  clear Y'
  replace d1 : o1.data = .cell none := d1
  replace d2 : o2.data = .cell none := d2
  replace d3 : o3.data = .cell (some (.int n t2)) := d3
  simp only [List.cons_append, List.nil_append] at N'
  have hL160 := above160 X' F'
  clear N F B
  have F2 : Fr g' L' h' (fun y => if y = Str.ofString "a" then some (.int x t1) else none) := F'
  clear F'
  dsimp only
  k_unmd
  k_fold
  change wpAny _ _ (execs (_ :: _) _) _ _ _
  k_unmd
  k_steps
  unfold Stop
  refine wpAny_execs_cons ?_
  rcases S with rfl | ⟨c0, oc0, vs0, t0, rfl, hm0, h160, hd0, hv0⟩
  all_goals k_steps
  all_goals (try dsimp only)
  all_goals k_steps
  all_goals first
    | (refine ret _ _ _ _ _ _ _ _ (by assumption) (drop_a (by assumption)) (ltN (by omega)) (by tbn_find) (.inr ⟨_, _, _, _, rfl, .head _, ltN (by omega), by assumption, Eq.trans (by assumption) (congrArg (fun q => some (Value.str q _)) (by rfl))⟩) ⟨_, by assumption⟩ (ltN (by omega)) (i2_some hn2 hn4 (by assumption) (by assumption) (by assumption)))
    | (refine ret _ _ _ _ _ _ _ _ (by assumption) (drop_b (by assumption)) (ltN (by omega)) (by tbn_find) (.inr ⟨_, _, _, _, rfl, .head _, ltN (by omega), by assumption, Eq.trans (by assumption) (congrArg (fun q => some (Value.str q _)) (by rfl))⟩) ⟨_, by assumption⟩ (ltN (by omega)) (i2_nil hn2 hn4 (by assumption) (by assumption)))
    | (refine ret _ _ _ _ _ _ _ _ (by assumption) (drop_c hm0 (by assumption)) (ltN (by omega)) (by tbn_find) (.inr ⟨_, _, _, _, rfl, .head _, h160, hd0, hv0⟩) ⟨_, hd0⟩ h160 (i2_some hn2 hn4 (by assumption) (by assumption) (by assumption)))
    | (refine ret _ _ _ _ _ _ _ _ (by assumption) (drop_d hm0 (by assumption)) (ltN (by omega)) (by tbn_find) (.inr ⟨_, _, _, _, rfl, .head _, h160, hd0, hv0⟩) ⟨_, hd0⟩ h160 (i2_nil hn2 hn4 (by assumption) (by assumption)))
    | skip
end i2dSK
theorem i2dS (w : World) (mean) (mg mb) (loose) : I2Spec w mean mg mb loose := fun dp un gd cn cs a ccd cl outer A₀ base h₀ L m s Q E rest ps x n t1 t2 => shut i2dSK.nn (Q := i2dSK.QQ) (by with_unfolding_all exact i2dSK.main) (w, mean, mg, mb, loose, dp, un, gd, cn, cs, a, ccd, cl, outer, A₀, base, h₀, L, m, s, Q, E, rest, x, n, t1, t2) ps
end
end
section
open _root_.PySem _root_.PySem.W _root_.PyProof.Rows
local macro_rules | `(tactic| walk_at "truthy ref") => rowR `truthy_ints "amsoH"
local macro_rules | `(tactic| walk_at "call builtin:len") => rowR `len_ints "amso"
section
open _root_.PySem _root_.PySem.W _root_.PyProof.Rows
theorem fresh_4 : True := by (w_top off); exact trivial
local macro_rules | `(tactic| k_lt $h) => `(tactic| (replace $h := allLt_of $h; simp only [AllLt, and_true] at $h:ident))
local macro_rules | `(tactic| k_ne) => `(tactic| (refine neN ?_; (try dsimp only); omega))
noncomputable def d2iV (n : Int) (ns : List Int) : Int := if ns = [] then 0 else valD n 3 ns 0 ns.length
theorem d2iV_nil {n : Int} {ns : List Int} (h : ns = []) : d2iV n ns = 0 := if_pos h
theorem d2iV_some {n : Int} {ns : List Int} (h : ns ≠ []) : d2iV n ns = valD n 3 ns 0 ns.length := if_neg h
section
variable {h₀ h : Heap} {L : Addr} {d f c l a b e t : Addr × Obj} {r : List (Addr × Obj)}
theorem drop_e (N : News h₀ L h (f :: c :: a :: b :: e :: t :: r)) : News h₀ L h (c :: t :: r) := newsS N (by walk_at "my s")
theorem drop_f (hm : c ∈ r) (N : News h₀ L h (f :: a :: b :: e :: t :: r)) : News h₀ L h (c :: t :: r) := newsS N (by walk_at "my s")
end
noncomputable def D2Spec (w : World) (mean : ExcName → Option Value) (mg mb : Str → Option Value) (loose : List Str) : Prop :=
  ∀ ⦃dp un : Nat⦄ ⦃gd : Option (List Code)⦄ ⦃cn : Str⦄ ⦃cs : Scope⦄ ⦃a : Addr⦄ ⦃ccd : Value⦄ ⦃cl : List (Str × Addr)⦄ ⦃outer : List Env⦄ ⦃A₀ : Around⦄ ⦃base h₀ : Heap⦄ ⦃L : Addr⦄ ⦃m : Str → Option Value⦄ ⦃s : Shared⦄ ⦃Q E : Value → Shared → Prop⦄
   ⦃rest : List (Addr × Obj)⦄ ⦃ps : Array Value⦄ ⦃ad : Addr⦄ ⦃vs : List Value⦄ ⦃ns : List Int⦄ ⦃kk : Nat⦄ ⦃n : Int⦄ ⦃t2 : Tok⦄
   (B : Below A₀ base outer h₀) (F : Fr h₀ L s.heap m) (X : (hd.heap_1 w.params).In h₀) (T : Top topProg loose mean mg mb h₀) (hk : cs.kind = .function) (N : News h₀ L s.heap ((73, tabObj ps) :: rest)) (C : CodeHd base 77 73) (hP : ∀ q ∈ rest, q.1 ≠ 73) (S : TabSt 100 4 "_digits2int.<locals>.inner" ps rest) (hl : (ad, listOf vs.toArray kk) ∈ rest) (hints : IntsAre vs ns) (hb : ∀ i ∈ ns, 0 ≤ i ∧ i < 128) (hn3 : ns.length ≤ 3) (hn2 : 2 ≤ n) (hn4 : n ≤ 4) (hd : dp + 6 < recursionLimit) (hu : un + 60 < cLine) (ret : ∀ (h' : Heap) (tk' : Nat) (t₂ : Tok) (c' : Addr) (oc : Obj) (ps' : Array Value), Fr h₀ L h' m → News h₀ L h' ((c', oc) :: (73, tabObj ps') :: rest) → TabSt 100 4 "_digits2int.<locals>.inner" ps' [(c', oc)] → (∃ vs, oc.data = .fields vs) → @LT.lt Nat _ 160 c' → Q (.int (d2iV n ns) t₂) { s with heap := h', toks := tk' }),
   wpAny (model PySem.Challenge.rw_ta0052_01.row.prog w) (ktrTop dp un gd cn cs L a ccd cl outer) (call (.ref 78) [.ref ad, .int n t2]) Q E s
theorem D2Spec.use {w : World} {mean : ExcName → Option Value} {mg mb : Str → Option Value} {loose : List Str} (spc : D2Spec w mean mg mb loose) : D2Spec w mean mg mb loose := spc
theorem fresh_5 : True := by (w_top off); first | (walk1; done) | trivial
section
local macro_rules | `(tactic| walk_at "call ref") => rowC `DnSpec.use 30
theorem d2iS (w : World) (mean) (mg mb) (loose) : D2Spec w mean mg mb loose := by
  unfold D2Spec
  intro dp un gd cn cs a ccd cl outer A₀ base h₀ L m s Q E rest ps ad vs ns kk n t2 B F X T hk N C hP S hl hints hb hn3 hn2 hn4 hd hu ret
  have ih := dnS3 w mean mg mb loose
  revert X T; k_fill; intro X T
  refine wpAny_call ?_
  refine' code_defC (binds := [(Str.ofString "digits", .ref ad), (Str.ofString "n", .int n t2)]) B F X N T rfl rfl hk ?k6 ?k7 ?k8 ?k9 ?kB ?kD ?_ ?c2 ?c3 ?c4
  case k6 => k_is
  case k7 => k_is
  case k9 => exact BindsTo.of_eq rfl
  case kB => exact rfl
  case kD => decide +kernel
  case c2 => exact rfl
  case c3 => exact rfl
  case c4 => exact rfl
  case k8 => (show dp < recursionLimit; omega)
  intro g' L' h' tk' cells' FG' F' N' Y' B' X' T' l1
  k_lt l1
  have l5 := l1.2
  have l6 : AllLt (L' + 1) rest := allLt_up 1 l5
  have l7 : AllLt (L' + 1 + 1) rest := allLt_up 2 l5
  have l8 : AllLt (L' + 1 + 1 + 1) rest := allLt_up 3 l5
  refine cutG fun Pc kc => ?_
  obtain ⟨o1, o2, o3, hE, d1, d2, d3⟩ := CellsAre.three Y'
  refine kc ?_
  clear kc Pc
  subst hE
  clear Y'
  replace d1 : o1.data = .cell none := d1
  replace d2 : o2.data = .cell (some (.int n t2)) := d2
  replace d3 : o3.data = .cell (some (.ref ad)) := d3
  simp only [List.cons_append, List.nil_append] at N'
  have hL160 := above160 X' F'
  clear N F B
  have F2 : Fr g' L' h' (fun y => none) := F'
  clear F'
  dsimp only
  k_unmd
  k_fold
  change wpAny _ _ (execs (_ :: _) _) _ _ _
  k_unmd
  rcases S with rfl | ⟨c0, oc0, vs0, t0, rfl, hm0, h160, hd0, hv0⟩
  all_goals k_steps
  all_goals (try dsimp only)
  all_goals k_steps
  all_goals first
    | exact ret _ _ _ _ _ _ (by assumption) (drop_e (by assumption)) (.inr ⟨_, _, _, _, rfl, .head _, ltN (by omega), by assumption, Eq.trans (by assumption) (congrArg (fun q => some (Value.str q _)) (by rfl))⟩) ⟨_, by assumption⟩ (ltN (by omega))
    | exact ret _ _ _ _ _ _ (by assumption) (drop_f hm0 (by assumption)) (.inr ⟨_, _, _, _, rfl, .head _, h160, hd0, hv0⟩) ⟨_, hd0⟩ h160
    | (rw [← d2iV_nil (n := n) (by assumption)]; first
        | exact ret _ _ _ _ _ _ (by assumption) (drop_e (by assumption)) (.inr ⟨_, _, _, _, rfl, .head _, ltN (by omega), by assumption, Eq.trans (by assumption) (congrArg (fun q => some (Value.str q _)) (by rfl))⟩) ⟨_, by assumption⟩ (ltN (by omega))
        | exact ret _ _ _ _ _ _ (by assumption) (drop_f hm0 (by assumption)) (.inr ⟨_, _, _, _, rfl, .head _, h160, hd0, hv0⟩) ⟨_, hd0⟩ h160)
    | (rw [← d2iV_some (by assumption)]; first
        | exact ret _ _ _ _ _ _ (by assumption) (drop_e (by assumption)) (.inr ⟨_, _, _, _, rfl, .head _, ltN (by omega), by assumption, Eq.trans (by assumption) (congrArg (fun q => some (Value.str q _)) (by rfl))⟩) ⟨_, by assumption⟩ (ltN (by omega))
        | exact ret _ _ _ _ _ _ (by assumption) (drop_f hm0 (by assumption)) (.inr ⟨_, _, _, _, rfl, .head _, h160, hd0, hv0⟩) ⟨_, hd0⟩ h160)
    | skip
end
end
section
open _root_.PySem _root_.PySem.W _root_.PyProof.Rows
theorem fresh_6 : True := by (w_top off); exact trivial
theorem shl_fit {r n d : Int} (h0 : 0 ≤ r) (h1 : r < 10) (hn2 : 2 ≤ n) (hn4 : n ≤ 4) (d0 : 0 ≤ d) (d1 : d < 16) : 0 ≤ r * 2 ^ n.toNat + d ∧ r * 2 ^ n.toNat + d < 256 := by
  have : n = 2 ∨ n = 3 ∨ n = 4 := by omega
  rcases this with rfl | rfl | rfl
  · show 0 ≤ r * 4 + d ∧ r * 4 + d < 256
    omega
  · show 0 ≤ r * 8 + d ∧ r * 8 + d < 256
    omega
  · show 0 ≤ r * 16 + d ∧ r * 16 + d < 256
    omega
theorem bits_fit {x : Int} (h0 : 0 ≤ x) (h1 : x < 256) : (Builtin.Int.intBits x : Int) ≤ 8 := by
  obtain ⟨y, rfl⟩ := Int.eq_ofNat_of_zero_le h0
  have := (by decide +kernel : ∀ x : Nat, x < 256 → (Builtin.Int.intBits (x : Int) : Int) ≤ 8)
  exact this y (by omega)
theorem fmod_fit {x y : Int} (hy : 2 ≤ y) : 0 ≤ x.fmod y ∧ x.fmod y < y := by
  rw [Int.fmod_eq_emod_of_nonneg _ (by omega)]
  exact ⟨Int.emod_nonneg _ (by omega), Int.emod_lt_of_pos _ (by omega)⟩
theorem fdiv_fit {x y : Int} (h0 : 0 ≤ x) (h1 : x < 256) (hy : 2 ≤ y) : 0 ≤ x.fdiv y ∧ x.fdiv y < 128 := by
  rw [Int.fdiv_eq_ediv_of_nonneg _ (by omega)]
  exact ⟨Int.ediv_nonneg h0 (by omega), Int.ediv_lt_of_lt_mul (by omega) (by omega)⟩
theorem news_allLt {h₀ h : Heap} {L : Addr} {news : List (Addr × Obj)} (N : News h₀ L h news) : AllLt h.objs.size news := allLt_of fun p hp => Heap.lt_size (N p hp).1
noncomputable def D21Spec (w : World) (mean : ExcName → Option Value) (mg mb : Str → Option Value) (loose : List Str) : Prop :=
  ∀ ⦃dp un : Nat⦄ ⦃gd : Option (List Code)⦄ ⦃cn : Str⦄ ⦃cs : Scope⦄ ⦃a : Addr⦄ ⦃ccd : Value⦄ ⦃cl : List (Str × Addr)⦄ ⦃outer : List Env⦄ ⦃A₀ : Around⦄ ⦃base h₀ : Heap⦄ ⦃L : Addr⦄ ⦃m : Str → Option Value⦄ ⦃s : Shared⦄ ⦃Q E : Value → Shared → Prop⦄
   ⦃news : List (Addr × Obj)⦄ ⦃x y n : Int⦄ ⦃t1 t2 t3 : Tok⦄
   (B : Below A₀ base outer h₀) (F : Fr h₀ L s.heap m) (X : (hd.heap_1 w.params).In h₀) (T : Top topProg loose mean mg mb h₀) (hk : cs.kind = .function) (N : News h₀ L s.heap news) (hx0 : 0 ≤ x) (hx : x < 256) (hy0 : 2 ≤ y) (hy : y ≤ 10) (hn0 : 0 ≤ n) (hn : n ≤ 10) (hd : dp + 2 < recursionLimit) (hu : un + 20 < cLine) (ret : ∀ (h' : Heap) (tk' : Nat) (D : Addr) (ta tb : Tok), Fr h₀ L h' m → News h₀ L h' ((D, { cls := .type "tuple", data := .seq #[.int (x.fdiv y) ta, .int (x.fmod y) tb] }) :: news) → AllLt D news → (0 ≤ x.fdiv y ∧ x.fdiv y < 128) → (0 ≤ x.fmod y ∧ x.fmod y < y) → Q (.ref D) { s with heap := h', toks := tk' }),
   wpAny (model PySem.Challenge.rw_ta0052_01.row.prog w) (ktrTop dp un gd cn cs L a ccd cl outer) (call (.ref 57) [.int x t1, .int y t2, .int n t3]) Q E s
theorem D21Spec.use {w : World} {mean : ExcName → Option Value} {mg mb : Str → Option Value} {loose : List Str} (spc : D21Spec w mean mg mb loose) : D21Spec w mean mg mb loose := spc
section
theorem d21S (w : World) (mean) (mg mb) (loose) : D21Spec w mean mg mb loose := by
  unfold D21Spec
  intro dp un gd cn cs a ccd cl outer A₀ base h₀ L m s Q E news x y n t1 t2 t3 B F X T hk N hx0 hx hy0 hy hn0 hn hd hu ret
  revert X T; k_fill; intro X T
  refine wpAny_call ?_
  refine' code_def (binds := [(Str.ofString "a", .int x t1), (Str.ofString "b", .int y t2), (Str.ofString "n", .int n t3)]) B F X N T rfl rfl hk ?k6 ?k7 ?k8 ?k9 ?kB ?_ ?c2 ?c3 ?c4 ?c5
  case k6 => k_is
  case k7 => k_is
  case k9 => exact BindsTo.of_eq rfl
  case kB => exact locs rfl
  case c5 => decide
  case c2 => exact rfl
  case c3 => exact rfl
  case c4 => exact rfl
  case k8 => (show dp < recursionLimit; omega)
  intro g' L' h' FG' F' N' B' X' T'
  clear N F B
  have F2 : Fr g' L' h' (fun y_1 => List.lookup y_1 [(Str.ofString "n", .int n t3), (Str.ofString "b", .int y t2), (Str.ofString "a", .int x t1)]) := F'
  clear F'
  dsimp only
  k_unmd
  k_fold
  change wpAny _ _ (execs (_ :: _) _) _ _ _
  k_unmd
  have hbits := bits_fit hx0 hx
  k_steps
  all_goals (try dsimp only)
  all_goals k_steps
  · refine ret _ _ _ _ _ (by assumption) (by assumption) (news_allLt (by assumption)) (fdiv_fit hx0 hx hy0) (fmod_fit hy0)
end
end
section
open _root_.PySem _root_.PySem.W _root_.PyProof.Rows
theorem fresh_7 : True := by (w_top off); exact trivial
local macro_rules | `(tactic| walk_at "my p") => do anyK [`news_2nd, `news_3rd, `news_4th, `news_5th, `news_6th] (← `(tactic| first | exact IntsAre.nil | exact Nat.le_of_ble_eq_true rfl | (refine tabSt_mono (by assumption) (by walk_at "my s"))))
theorem ybits {y : Int} (h2 : 2 ≤ y) (h10 : y ≤ 10) : 2 ≤ (Builtin.Int.intBits y : Int) ∧ (Builtin.Int.intBits y : Int) ≤ 4 := by
  obtain ⟨z, rfl⟩ := Int.eq_ofNat_of_zero_le (show 0 ≤ y by omega)
  have := (by decide +kernel : ∀ x : Nat, x < 11 → 2 ≤ x → 2 ≤ (Builtin.Int.intBits (x : Int) : Int) ∧ (Builtin.Int.intBits (x : Int) : Int) ≤ 4)
  exact this z (by omega) (by omega)
theorem lens_fit {x n : Int} (hx0 : 0 ≤ x) (hx : x < 64) (hn2 : 2 ≤ n) (hn4 : n ≤ 4) : ((Builtin.Int.intBits x : Int) + n - 1).fdiv n ≤ 3 ∧ 0 ≤ ((Builtin.Int.intBits x : Int) + n - 1).fdiv n ∧ (x ≠ 0 → 0 < ((Builtin.Int.intBits x : Int) + n - 1).fdiv n) := by
  obtain ⟨z, rfl⟩ := Int.eq_ofNat_of_zero_le hx0
  obtain ⟨k, rfl⟩ := Int.eq_ofNat_of_zero_le (show 0 ≤ n by omega)
  have := (by decide +kernel : ∀ k : Nat, k < 5 → 2 ≤ k → ∀ x : Nat, x < 64 → ((Builtin.Int.intBits (x : Int) : Int) + (k : Int) - 1).fdiv (k : Int) ≤ 3 ∧ 0 ≤ ((Builtin.Int.intBits (x : Int) : Int) + (k : Int) - 1).fdiv (k : Int) ∧ ((x : Int) ≠ 0 → 0 < ((Builtin.Int.intBits (x : Int) : Int) + (k : Int) - 1).fdiv (k : Int)))
  exact this k (by omega) (by omega) z (by omega)
theorem digs_fit {x n : Int} (hx0 : 0 ≤ x) (hx : x < 64) (hn2 : 2 ≤ n) (hn4 : n ≤ 4) : (digsD n x).length ≤ 3 ∧ ∀ i ∈ digsD n x, 0 ≤ i ∧ i < 16 := by
  obtain ⟨z, rfl⟩ := Int.eq_ofNat_of_zero_le hx0
  obtain ⟨k, rfl⟩ := Int.eq_ofNat_of_zero_le (show 0 ≤ n by omega)
  have := (by decide +kernel : ∀ k : Nat, k < 5 → 2 ≤ k → ∀ x : Nat, x < 64 → (digsD (k : Int) (x : Int)).length ≤ 3 ∧ ∀ i ∈ digsD (k : Int) (x : Int), 0 ≤ i ∧ i < 16)
  exact this k (by omega) (by omega) z (by omega)
theorem notin4 {a b c d e : Nat} (h1 : a ≠ b) (h2 : a ≠ c) (h3 : a ≠ d) (h4 : a ≠ e) : a ∉ [b, c, d, e] := by simp [h1, h2, h3, h4]
theorem niC {x : Addr × Obj} {r : List (Addr × Obj)} {b c d e : Nat} (h1 : x.1 ≠ b) (h2 : x.1 ≠ c) (h3 : x.1 ≠ d) (h4 : x.1 ≠ e) (t : ∀ q ∈ r, q.1 ∉ [b, c, d, e]) : ∀ q ∈ x :: r, q.1 ∉ [b, c, d, e] := List.forall_mem_cons.mpr ⟨notin4 h1 h2 h3 h4, t⟩
noncomputable def dmLoop (n y : Int) : List Int → Int → List Int → List Int × Int
  | [], r, qs => (qs, r)
  | d :: ds, r, qs => dmLoop n y ds ((r * 2 ^ n.toNat + d).fmod y) (qs ++ [(r * 2 ^ n.toNat + d).fdiv y])
noncomputable def dmGood (n y x : Int) : Bool :=
  decide (d2iV n (dmLoop n y (digsD n x).reverse 0 []).1.reverse = x.fdiv y ∧ (dmLoop n y (digsD n x).reverse 0 []).2 = x.fmod y ∧ (dmLoop n y (digsD n x).reverse 0 []).1.reverse.length ≤ 3 ∧ ∀ q ∈ (dmLoop n y (digsD n x).reverse 0 []).1.reverse, 0 ≤ q ∧ q < 128)
theorem dm_good {x y : Int} (hx0 : 0 ≤ x) (hx : x < 64) (hy0 : 2 ≤ y) (hy : y ≤ 10) : dmGood (Builtin.Int.intBits y : Int) y x = true := by
  obtain ⟨z, rfl⟩ := Int.eq_ofNat_of_zero_le hx0
  obtain ⟨k, rfl⟩ := Int.eq_ofNat_of_zero_le (show 0 ≤ y by omega)
  have := (by decide +kernel : ∀ k : Nat, k < 11 → 2 ≤ k → ∀ x : Nat, x < 64 → dmGood (Builtin.Int.intBits (k : Int) : Int) (k : Int) (x : Int) = true)
  exact this k (by omega) (by omega) z (by omega)
noncomputable def forB : Stmt → List Stmt
  | .For _ _ b _ _ => b
  | _ => []
section
local macro_rules | `(tactic| walk_at "UnrPost") => `(tactic| refine stop_here ?_)
local macro_rules | `(tactic| walk_at "eval Name") => rowR `nameX_L "as>rrrw"
local macro_rules | `(tactic| walk_at "call ref") => rowC `D21Spec.use 14
theorem dmTurns (w : World) (mean) (mg mb) (loose) (dp un : Nat) (gd : Option (List Code)) (cn : Str) (cs : Scope) (L a : Addr) (ccd : Value) (cl : List (Str × Addr)) (outer : List Env) (base g : Heap) (L' : Addr) (s : Shared) (Q : Flow → Shared → Prop) (ek : Value → Shared → Prop)
    (R : List (Addr × Obj)) (I l : Addr) (lp : Addr × Obj) (y n : Int) (t2 t3 : Tok)
    (B : Below (ktrTop dp un gd cn cs L a ccd cl outer) base (envX cn cs L a ccd cl :: outer) g) (X : (hd.heap_1 w.params).In g) (T : Top topProg loose mean mg mb g) (hd9 : dp + 8 < recursionLimit) (hu9 : un + 80 < cLine) (hy0 : 2 ≤ y) (hy : y ≤ 10) (n2 : 2 ≤ n) (n4 : n ≤ 4)
    (hlp : lp ∈ R) (hI : ∀ q ∈ R, q.1 ≠ I) (hl : ∀ q ∈ R, q.1 ≠ l) (hlI : @Ne Nat l I) :
    ∀ (ds : List Int) (vs : List Value) (r : Int) (qs : List Int) (qv : List Value) (kk : Nat) (tr : Tok) (m : Str → Option Value),
      IntsAre vs ds → IntsAre qv qs → (∀ d ∈ ds, 0 ≤ d ∧ d < 16) → 0 ≤ r → r < y → ds.length + qs.length ≤ 3 →
      m (Str.ofString "r") = some (.int r tr) → m (Str.ofString "q_digits") = some (.ref l) → m (Str.ofString "n") = some (.int n t3) → m (Str.ofString "b") = some (.int y t2) →
      (∀ (h : Heap) (tk : Nat) (tr' : Tok) (qv' : List Value) (kk' : Nat) (m' : Str → Option Value), IntsAre qv' (dmLoop n y ds r qs).1 →
        m' (Str.ofString "r") = some (.int (dmLoop n y ds r qs).2 tr') → m' (Str.ofString "q_digits") = some (.ref l) → m' (Str.ofString "n") = some (.int n t3) →
        Fr g L' h m' → News g L' h ((l, listOf qv'.toArray kk') :: R) → Q .next { s with heap := h, toks := tk }) →
      RevRest PySem.Challenge.rw_ta0052_01.row.prog w ((ktrTop dp un gd cn cs L a ccd cl outer).deeper (envOf (Str.ofString "_divmod_pos") (scopeOf (topStmt 11)) L' 85 (.ref 84))) ek g (envOf (Str.ofString "_divmod_pos") (scopeOf (topStmt 11)) L' 85 (.ref 84)) (Str.ofString "a_digit") (forB ((bodyOf (topStmt 11)).getD 4 (.Pass default))) Q s I lp vs m ((l, listOf qv.toArray kk) :: R) := by
  refine cutG fun Pc kc => ?_
  obtain ⟨sc, hsc⟩ : ∃ sc, sc = scopeOf (topStmt 11) := ⟨_, rfl⟩
  refine kc ?_
  clear kc Pc
  rw [← hsc]
  conv at hsc => rhs; whnf
  subst hsc
  have i3 := d21S w mean mg mb loose
  revert X T; k_fill; intro X T
  intro ds
  induction ds with
  | nil =>
    intro vs r qs qv kk tr m hv hq _ _ _ _ e1 e2 e3 e4 fin
    cases hv
    exact fun h tk F N => fin h tk tr qv kk m hq e1 e2 e3 F N
  | cons d ds ih =>
    intro vs r qs qv kk tr m hv hq hb r0 r1 hlen e1 e2 e3 e4 fin
    cases hv with
    | cons _ u hv' =>
    have hb0 := hb _ (.head _)
    have hb' : ∀ d ∈ ds, 0 ≤ d ∧ d < 16 := fun q hq => hb q (.tail _ hq)
    have hlen9 : ds.length + qs.length ≤ 2 := by simp only [List.length_cons] at hlen; omega
    have hfit := shl_fit (d := d) r0 (show r < 10 by omega) n2 n4 hb0.1 hb0.2
    refine RevRest.succ fun it h tk hit F N => ?_
    change Fr g L' h _ at F
    change News g L' h _ at N
    change wpAny _ _ (execs (_ :: _) _) _ _ _
    k_unmd
    k_steps
    unfold Stop
    rename News _ _ _ _ => N9
    rename Fr _ _ _ _ => F9
    rename _ ≤ Int.fmod _ _ ∧ _ => q9
    rename AllLt _ _ => l9
    rw [List.push_toArray] at N9
    refine UnrEnd.intro F9 N9 ((l, listOf (qv ++ [_]).toArray (kk + 1)) :: R) (by walk_at "my s") (List.forall_mem_cons.mpr ⟨hlI, hI⟩) ⟨.tail _ hlp, ?_⟩
    exact ih _ _ _ _ _ _ _ hv' (hq.append (.cons _ _ .nil)) hb' q9.1 q9.2 (by rw [List.length_append]; simp only [List.length_cons, List.length_nil]; omega) rfl e2 e3 e4 fin
end
noncomputable def DmpSpec (w : World) (mean : ExcName → Option Value) (mg mb : Str → Option Value) (loose : List Str) : Prop :=
  ∀ ⦃dp un : Nat⦄ ⦃gd : Option (List Code)⦄ ⦃cn : Str⦄ ⦃cs : Scope⦄ ⦃a : Addr⦄ ⦃ccd : Value⦄ ⦃cl : List (Str × Addr)⦄ ⦃outer : List Env⦄ ⦃A₀ : Around⦄ ⦃base h₀ : Heap⦄ ⦃L : Addr⦄ ⦃m : Str → Option Value⦄ ⦃s : Shared⦄ ⦃Q E : Value → Shared → Prop⦄
   ⦃rest : List (Addr × Obj)⦄ ⦃c1 c2 : Addr⦄ ⦃oc1 oc2 : Obj⦄ ⦃p1 p2 : Array Value⦄ ⦃x y : Int⦄ ⦃t1 t2 : Tok⦄
   (B : Below A₀ base outer h₀) (F : Fr h₀ L s.heap m) (X : (hd.heap_1 w.params).In h₀) (T : Top topProg loose mean mg mb h₀) (hk : cs.kind = .function) (N : News h₀ L s.heap ((66, tabObj p1) :: (73, tabObj p2) :: (c1, oc1) :: (c2, oc2) :: rest)) (C : CodeHd base 70 66) (C2 : CodeHd base 77 73) (hP : ∀ q ∈ rest, q.1 ∉ [66, 73, c1, c2]) (hc1 : @LT.lt Nat _ 160 c1) (hc2 : @LT.lt Nat _ 160 c2) (S : TabSt 85 4 "_int2digits.<locals>.inner" p1 [(c1, oc1)]) (S2 : TabSt 100 4 "_digits2int.<locals>.inner" p2 [(c2, oc2)]) (hx0 : 0 ≤ x) (hx : x < 64) (hy0 : 2 ≤ y) (hy : y ≤ 10) (hd : dp + 8 < recursionLimit) (hu : un + 80 < cLine) (ret : ∀ (h' : Heap) (tk' : Nat) (D : Addr) (ta tb : Tok) (c1' c2' : Addr) (oc1' oc2' : Obj) (p1' p2' : Array Value), Fr h₀ L h' m → TabSt 85 4 "_int2digits.<locals>.inner" p1' [(c1', oc1')] → TabSt 100 4 "_digits2int.<locals>.inner" p2' [(c2', oc2')] → (∃ vs, oc1'.data = .fields vs) → (∃ vs, oc2'.data = .fields vs) → @LT.lt Nat _ 160 c1' → @LT.lt Nat _ 160 c2' → News h₀ L h' ((D, { cls := .type "tuple", data := .seq #[.int (x.fdiv y) ta, .int (x.fmod y) tb] }) :: (66, tabObj p1') :: (73, tabObj p2') :: (c1', oc1') :: (c2', oc2') :: rest) → Q (.ref D) { s with heap := h', toks := tk' }),
   wpAny (model PySem.Challenge.rw_ta0052_01.row.prog w) (ktrTop dp un gd cn cs L a ccd cl outer) (call (.ref 85) [.int x t1, .int y t2]) Q E s
theorem DmpSpec.use {w : World} {mean : ExcName → Option Value} {mg mb : Str → Option Value} {loose : List Str} (spc : DmpSpec w mean mg mb loose) : DmpSpec w mean mg mb loose := spc
section
local macro_rules | `(tactic| walk_at "call ref") => rowC `I2Spec.use 16
local macro_rules | `(tactic| walk_at "call ref") => rowC `D2Spec.use 17
local macro_rules | `(tactic| walk_at "pyIter ref") => `(tactic| refine stop_here ?_)
local macro_rules | `(tactic| walk_at "eval Name") => rowR `nameX_L "as>rrrw"
theorem dmpS (w : World) (mean) (mg mb) (loose) : DmpSpec w mean mg mb loose := by
  unfold DmpSpec
  intro dp un gd cn cs a ccd cl outer A₀ base h₀ L m s Q E rest c1 c2 oc1 oc2 p1 p2 x y t1 t2 B F X T hk N C C2 hP hc1 hc2 S S2 hx0 hx hy0 hy hd hu ret
  have i1 := i2dS w mean mg mb loose
  have i2 := d2iS w mean mg mb loose
  revert X T; k_fill; intro X T
  refine wpAny_call ?_
  refine' code_defR (small := [(66, tabObj p1), (73, tabObj p2), (c1, oc1), (c2, oc2)]) (binds := [(Str.ofString "a", .int x t1), (Str.ofString "b", .int y t2)]) B F X N (fun q hq => by simpa using hP q hq) T rfl rfl hk ?k6 ?k7 ?k8 ?k9 ?kB ?_ ?c2 ?c3 ?c4 ?c5
  case k6 => k_is
  case k7 => k_is
  case k9 => exact BindsTo.of_eq rfl
  case kB => exact locs rfl
  case c5 => decide
  case c2 => exact rfl
  case c3 => exact rfl
  case c4 => exact rfl
  case k8 => (show dp < recursionLimit; omega)
  intro g' L' h' FG' F' N' B' X' T' l0 RI
  skip
  clear N F B
  have F2 : Fr g' L' h' (fun y_1 => List.lookup y_1 [(Str.ofString "b", .int y t2), (Str.ofString "a", .int x t1)]) := F'
  clear F'
  dsimp only
  k_unmd
  k_fold
  change wpAny _ _ (execs (_ :: _) _) _ _ _
  k_unmd
  have ⟨n2, n4⟩ := ybits hy0 hy
  have hLs := lens_fit hx0 hx n2 n4
  have hdg := digs_fit hx0 hx n2 n4
  have hgo := of_decide_eq_true (dm_good hx0 hx hy0 hy)
  k_steps
  unfold Stop
  rename News _ _ _ _ => N9
  rename Fr _ _ _ _ => F9
  rename AllLt _ ((_, listOf #[] 0) :: _) => lD
  rename AllLt _ ((_, listOf _ _) :: (_, _) :: (66, _) :: _) => lq
  rename IntsAre _ _ => hi
  have nD := allNe lD
  have nl := allNe lq
  refine iter_revUnr rfl F9 N9 (by k_offL) (.tail _ (.head _)) rfl rfl ?_
  refine dmTurns w mean mg mb loose dp un gd cn cs L a ccd cl outer base g' L' _ _ _ _ _ _ _ y _ t2 _ B' X' T' hd hu hy0 hy n2 n4 (.head _) (fun q hq => nD q (.tail _ hq)) nl (nD _ (.head _)) _ _ 0 [] [] 0 _ _ hi.reverse .nil (fun d hd => hdg.2 d (List.mem_reverse.mp hd)) (Int.le_refl 0) (by omega) (by rw [List.length_reverse]; exact hdg.1) rfl rfl rfl rfl ?_
  intro h2 tk2 tr2 qv2 kk2 m2 hq2 e1 e2 e3 F2 N2
  clear N9 F9 hi
  dsimp only
  k_steps
  have hq3 := hq2.reverse
  clear hq2
  have hlq : qv2.toArray.toList.length ≤ sizeLine := by
    have z := hgo.2.2.1
    rw [← hq3.length, List.length_reverse] at z
    exact Nat.le_trans z (by decide)
  have hb3 := hgo.2.2.2
  have hn3 := hgo.2.2.1
  refine kl_reverse (its := qv2.toArray) (l := qv2.reverse) (n := kk2) F2 N2 rfl (.head nl) hlq ?_
  intro h3 F3 N3
  k_steps
  exact ret _ _ _ _ _ _ _ _ _ _ _ (by assumption) (by assumption) (by assumption) (by assumption) (by assumption) (by assumption) (by assumption) (RI.back (l := [_, _, _, _, _]) (by assumption) (cb_drop (by assumption) (List.forall_mem_cons.mpr ⟨by rw [← hgo.1, ← hgo.2.1]; k_mem, by kcj_all⟩)))
end
end
section
open _root_.PySem _root_.PySem.W _root_.PyProof.Rows
theorem fresh_8 : True := by (w_top off); exact trivial
theorem neg_div (x : Int) {y : Int} (hy : 2 ≤ y) : Builtin.bitNot ((Builtin.bitNot x).fdiv y) = x.fdiv y ∧ y + Builtin.bitNot ((Builtin.bitNot x).fmod y) = x.fmod y := by
  have b : ∀ z : Int, Builtin.bitNot z = -z - 1 := fun z => by unfold Builtin.bitNot; omega
  simp only [b]
  rw [Int.fdiv_eq_ediv_of_nonneg _ (by omega), Int.fdiv_eq_ediv_of_nonneg _ (by omega), Int.fmod_eq_emod_of_nonneg _ (by omega), Int.fmod_eq_emod_of_nonneg _ (by omega)]
  have h1 := Int.emod_nonneg (-x - 1) (show y ≠ 0 by omega)
  have h2 := Int.emod_lt_of_pos (-x - 1) (show 0 < y by omega)
  have h3 := Int.emod_add_mul_ediv (-x - 1) y
  have h := (Int.ediv_emod_unique (a := x) (b := y) (r := y + (-((-x - 1) % y) - 1)) (q := -((-x - 1) / y) - 1) (by omega)).mpr ⟨by rw [Int.mul_sub, Int.mul_neg]; omega, by omega, by omega⟩
  exact ⟨h.1.symm, h.2.symm⟩
theorem bitNot_eq (x : Int) : Builtin.bitNot x = -x - 1 := by
  unfold Builtin.bitNot; omega
noncomputable def IdpSpec (w : World) (mean : ExcName → Option Value) (mg mb : Str → Option Value) (loose : List Str) : Prop :=
  ∀ ⦃dp un : Nat⦄ ⦃gd : Option (List Code)⦄ ⦃cn : Str⦄ ⦃cs : Scope⦄ ⦃a : Addr⦄ ⦃ccd : Value⦄ ⦃cl : List (Str × Addr)⦄ ⦃outer : List Env⦄ ⦃A₀ : Around⦄ ⦃base h₀ : Heap⦄ ⦃L : Addr⦄ ⦃m : Str → Option Value⦄ ⦃s : Shared⦄ ⦃Q E : Value → Shared → Prop⦄
   ⦃rest : List (Addr × Obj)⦄ ⦃c1 c2 : Addr⦄ ⦃oc1 oc2 : Obj⦄ ⦃p1 p2 : Array Value⦄ ⦃x y : Int⦄ ⦃t1 t2 : Tok⦄
   (B : Below A₀ base outer h₀) (F : Fr h₀ L s.heap m) (X : (hd.heap_1 w.params).In h₀) (T : Top topProg loose mean mg mb h₀) (hk : cs.kind = .function) (N : News h₀ L s.heap ((66, tabObj p1) :: (73, tabObj p2) :: (c1, oc1) :: (c2, oc2) :: rest)) (C : CodeHd base 70 66) (C2 : CodeHd base 77 73) (hP : ∀ q ∈ rest, q.1 ∉ [66, 73, c1, c2]) (hc1 : @LT.lt Nat _ 160 c1) (hc2 : @LT.lt Nat _ 160 c2) (S : TabSt 85 4 "_int2digits.<locals>.inner" p1 [(c1, oc1)]) (S2 : TabSt 100 4 "_digits2int.<locals>.inner" p2 [(c2, oc2)]) (hx0 : 0 ≤ x) (hx : x < 64) (hy0 : 2 ≤ y) (hy : y ≤ 10) (hd : dp + 10 < recursionLimit) (hu : un + 100 < cLine) (ret : ∀ (h' : Heap) (tk' : Nat) (D : Addr) (ta tb : Tok) (c1' c2' : Addr) (oc1' oc2' : Obj) (p1' p2' : Array Value), Fr h₀ L h' m → TabSt 85 4 "_int2digits.<locals>.inner" p1' [(c1', oc1')] → TabSt 100 4 "_digits2int.<locals>.inner" p2' [(c2', oc2')] → (∃ vs, oc1'.data = .fields vs) → (∃ vs, oc2'.data = .fields vs) → @LT.lt Nat _ 160 c1' → @LT.lt Nat _ 160 c2' → News h₀ L h' ((D, { cls := .type "tuple", data := .seq #[.int (x.fdiv y) ta, .int (x.fmod y) tb] }) :: (66, tabObj p1') :: (73, tabObj p2') :: (c1', oc1') :: (c2', oc2') :: rest) → Q (.ref D) { s with heap := h', toks := tk' }),
   wpAny (model PySem.Challenge.rw_ta0052_01.row.prog w) (ktrTop dp un gd cn cs L a ccd cl outer) (call (.ref 92) [.int x t1, .int y t2]) Q E s
theorem IdpSpec.use {w : World} {mean : ExcName → Option Value} {mg mb : Str → Option Value} {loose : List Str} (spc : IdpSpec w mean mg mb loose) : IdpSpec w mean mg mb loose := spc
noncomputable def IdnSpec (w : World) (mean : ExcName → Option Value) (mg mb : Str → Option Value) (loose : List Str) : Prop :=
  ∀ ⦃dp un : Nat⦄ ⦃gd : Option (List Code)⦄ ⦃cn : Str⦄ ⦃cs : Scope⦄ ⦃a : Addr⦄ ⦃ccd : Value⦄ ⦃cl : List (Str × Addr)⦄ ⦃outer : List Env⦄ ⦃A₀ : Around⦄ ⦃base h₀ : Heap⦄ ⦃L : Addr⦄ ⦃m : Str → Option Value⦄ ⦃s : Shared⦄ ⦃Q E : Value → Shared → Prop⦄
   ⦃rest : List (Addr × Obj)⦄ ⦃c1 c2 : Addr⦄ ⦃oc1 oc2 : Obj⦄ ⦃p1 p2 : Array Value⦄ ⦃x y : Int⦄ ⦃t1 t2 : Tok⦄
   (B : Below A₀ base outer h₀) (F : Fr h₀ L s.heap m) (X : (hd.heap_1 w.params).In h₀) (T : Top topProg loose mean mg mb h₀) (hk : cs.kind = .function) (N : News h₀ L s.heap ((66, tabObj p1) :: (73, tabObj p2) :: (c1, oc1) :: (c2, oc2) :: rest)) (C : CodeHd base 70 66) (C2 : CodeHd base 77 73) (hP : ∀ q ∈ rest, q.1 ∉ [66, 73, c1, c2]) (hc1 : @LT.lt Nat _ 160 c1) (hc2 : @LT.lt Nat _ 160 c2) (S : TabSt 85 4 "_int2digits.<locals>.inner" p1 [(c1, oc1)]) (S2 : TabSt 100 4 "_digits2int.<locals>.inner" p2 [(c2, oc2)]) (hx0 : -64 ≤ x) (hx : x < 0) (hy0 : 2 ≤ y) (hy : y ≤ 10) (hd : dp + 12 < recursionLimit) (hu : un + 120 < cLine) (ret : ∀ (h' : Heap) (tk' : Nat) (D : Addr) (ta tb : Tok) (c1' c2' : Addr) (oc1' oc2' : Obj) (p1' p2' : Array Value), Fr h₀ L h' m → TabSt 85 4 "_int2digits.<locals>.inner" p1' [(c1', oc1')] → TabSt 100 4 "_digits2int.<locals>.inner" p2' [(c2', oc2')] → (∃ vs, oc1'.data = .fields vs) → (∃ vs, oc2'.data = .fields vs) → @LT.lt Nat _ 160 c1' → @LT.lt Nat _ 160 c2' → News h₀ L h' ((D, { cls := .type "tuple", data := .seq #[.int (x.fdiv y) ta, .int (x.fmod y) tb] }) :: (66, tabObj p1') :: (73, tabObj p2') :: (c1', oc1') :: (c2', oc2') :: rest) → Q (.ref D) { s with heap := h', toks := tk' }),
   wpAny (model PySem.Challenge.rw_ta0052_01.row.prog w) (ktrTop dp un gd cn cs L a ccd cl outer) (call (.ref 92) [.int x t1, .int y t2]) Q E s
theorem IdnSpec.use {w : World} {mean : ExcName → Option Value} {mg mb : Str → Option Value} {loose : List Str} (spc : IdnSpec w mean mg mb loose) : IdnSpec w mean mg mb loose := spc
noncomputable def IdmSpec (w : World) (mean : ExcName → Option Value) (mg mb : Str → Option Value) (loose : List Str) : Prop :=
  ∀ ⦃dp un : Nat⦄ ⦃gd : Option (List Code)⦄ ⦃cn : Str⦄ ⦃cs : Scope⦄ ⦃a : Addr⦄ ⦃ccd : Value⦄ ⦃cl : List (Str × Addr)⦄ ⦃outer : List Env⦄ ⦃A₀ : Around⦄ ⦃base h₀ : Heap⦄ ⦃L : Addr⦄ ⦃m : Str → Option Value⦄ ⦃s : Shared⦄ ⦃Q E : Value → Shared → Prop⦄
   ⦃rest : List (Addr × Obj)⦄ ⦃c1 c2 : Addr⦄ ⦃oc1 oc2 : Obj⦄ ⦃p1 p2 : Array Value⦄ ⦃x y : Int⦄ ⦃t1 t2 : Tok⦄
   (B : Below A₀ base outer h₀) (F : Fr h₀ L s.heap m) (X : (hd.heap_1 w.params).In h₀) (T : Top topProg loose mean mg mb h₀) (hk : cs.kind = .function) (N : News h₀ L s.heap ((66, tabObj p1) :: (73, tabObj p2) :: (c1, oc1) :: (c2, oc2) :: rest)) (C : CodeHd base 70 66) (C2 : CodeHd base 77 73) (hP : ∀ q ∈ rest, q.1 ∉ [66, 73, c1, c2]) (hc1 : @LT.lt Nat _ 160 c1) (hc2 : @LT.lt Nat _ 160 c2) (S : TabSt 85 4 "_int2digits.<locals>.inner" p1 [(c1, oc1)]) (S2 : TabSt 100 4 "_digits2int.<locals>.inner" p2 [(c2, oc2)]) (hx0 : -64 ≤ x) (hx : x < 64) (hy0 : 2 ≤ y) (hy : y ≤ 10) (hd : dp + 12 < recursionLimit) (hu : un + 120 < cLine) (ret : ∀ (h' : Heap) (tk' : Nat) (D : Addr) (ta tb : Tok) (c1' c2' : Addr) (oc1' oc2' : Obj) (p1' p2' : Array Value), Fr h₀ L h' m → TabSt 85 4 "_int2digits.<locals>.inner" p1' [(c1', oc1')] → TabSt 100 4 "_digits2int.<locals>.inner" p2' [(c2', oc2')] → (∃ vs, oc1'.data = .fields vs) → (∃ vs, oc2'.data = .fields vs) → @LT.lt Nat _ 160 c1' → @LT.lt Nat _ 160 c2' → News h₀ L h' ((D, { cls := .type "tuple", data := .seq #[.int (x.fdiv y) ta, .int (x.fmod y) tb] }) :: (66, tabObj p1') :: (73, tabObj p2') :: (c1', oc1') :: (c2', oc2') :: rest) → Q (.ref D) { s with heap := h', toks := tk' }),
   wpAny (model PySem.Challenge.rw_ta0052_01.row.prog w) (ktrTop dp un gd cn cs L a ccd cl outer) (call (.ref 92) [.int x t1, .int y t2]) Q E s
theorem IdmSpec.use {w : World} {mean : ExcName → Option Value} {mg mb : Str → Option Value} {loose : List Str} (spc : IdmSpec w mean mg mb loose) : IdmSpec w mean mg mb loose := spc
local macro_rules | `(tactic| walk_at "my p") => `(tactic| repeat' (first | exact List.forall_mem_nil _ | apply niC | k_ne))
section
local macro_rules | `(tactic| walk_at "call ref") => rowC `DmpSpec.use 19
theorem idpS (w : World) (mean) (mg mb) (loose) : IdpSpec w mean mg mb loose := by
  unfold IdpSpec
  intro dp un gd cn cs a ccd cl outer A₀ base h₀ L m s Q E rest c1 c2 oc1 oc2 p1 p2 x y t1 t2 B F X T hk N C C2 hP hc1 hc2 S S2 hx0 hx hy0 hy hd hu ret
  have i1 := dmpS w mean mg mb loose
  revert X T; k_fill; intro X T
  refine wpAny_call ?_
  refine' code_defR (small := [(66, tabObj p1), (73, tabObj p2), (c1, oc1), (c2, oc2)]) (binds := [(Str.ofString "a", .int x t1), (Str.ofString "b", .int y t2)]) B F X N (fun q hq => by simpa using hP q hq) T rfl rfl hk ?k6 ?k7 ?k8 ?k9 ?kB ?_ ?c2 ?c3 ?c4 ?c5
  case k6 => k_is
  case k7 => k_is
  case k9 => exact BindsTo.of_eq rfl
  case kB => exact locs rfl
  case c5 => decide
  case c2 => exact rfl
  case c3 => exact rfl
  case c4 => exact rfl
  case k8 => (show dp < recursionLimit; omega)
  intro g' L' h' FG' F' N' B' X' T' l0 RI
  simp only [AllLt, and_true] at l0
  clear N F B
  have F2 : Fr g' L' h' (fun y_1 => List.lookup y_1 [(Str.ofString "b", .int y t2), (Str.ofString "a", .int x t1)]) := F'
  clear F'
  dsimp only
  k_unmd
  k_fold
  change wpAny _ _ (execs (_ :: _) _) _ _ _
  k_unmd
  k_steps
  all_goals (try dsimp only)
  all_goals k_steps
  · exact ret _ _ _ _ _ _ _ _ _ _ _ (by assumption) (by assumption) (by assumption) (by assumption) (by assumption) (by assumption) (by assumption) (RI.back (l := [_, _, _, _, _]) (by assumption) (cb_drop (by assumption) (by kcj_all)))
end
theorem fresh_9 : True := by (w_top off); first | (walk1; done) | trivial
section
local macro_rules | `(tactic| walk_at "call ref") => rowC `IdpSpec.use 19
theorem idnS (w : World) (mean) (mg mb) (loose) : IdnSpec w mean mg mb loose := by
  unfold IdnSpec
  intro dp un gd cn cs a ccd cl outer A₀ base h₀ L m s Q E rest c1 c2 oc1 oc2 p1 p2 x y t1 t2 B F X T hk N C C2 hP hc1 hc2 S S2 hx0 hx hy0 hy hd hu ret
  have i1 := idpS w mean mg mb loose
  revert X T; k_fill; intro X T
  refine wpAny_call ?_
  refine' code_defR (small := [(66, tabObj p1), (73, tabObj p2), (c1, oc1), (c2, oc2)]) (binds := [(Str.ofString "a", .int x t1), (Str.ofString "b", .int y t2)]) B F X N (fun q hq => by simpa using hP q hq) T rfl rfl hk ?k6 ?k7 ?k8 ?k9 ?kB ?_ ?c2 ?c3 ?c4 ?c5
  case k6 => k_is
  case k7 => k_is
  case k9 => exact BindsTo.of_eq rfl
  case kB => exact locs rfl
  case c5 => decide
  case c2 => exact rfl
  case c3 => exact rfl
  case c4 => exact rfl
  case k8 => (show dp < recursionLimit; omega)
  intro g' L' h' FG' F' N' B' X' T' l0 RI
  simp only [AllLt, and_true] at l0
  clear N F B
  have F2 : Fr g' L' h' (fun y_1 => List.lookup y_1 [(Str.ofString "b", .int y t2), (Str.ofString "a", .int x t1)]) := F'
  clear F'
  dsimp only
  k_unmd
  k_fold
  change wpAny _ _ (execs (_ :: _) _) _ _ _
  k_unmd
  have hbn := bitNot_eq x
  k_steps
  all_goals (try dsimp only)
  all_goals k_steps
  · k_steps
    all_goals (try dsimp only)
    all_goals k_steps
    obtain ⟨e1, e2⟩ := neg_div x (show 2 ≤ y from hy0)
    exact ret _ _ _ _ _ _ _ _ _ _ _ (by assumption) (by assumption) (by assumption) (by assumption) (by assumption) (by assumption) (by assumption) (RI.back (l := [_, _, _, _, _]) (by assumption) (cb_drop (by assumption) (List.forall_mem_cons.mpr ⟨by rw [← e1, ← e2]; k_mem, by kcj_all⟩)))
end
theorem idmS (w : World) (mean) (mg mb) (loose) : IdmSpec w mean mg mb loose := by
  unfold IdmSpec
  intro dp un gd cn cs a ccd cl outer A₀ base h₀ L m s Q E rest c1 c2 oc1 oc2 p1 p2 x y t1 t2 B F X T hk N C C2 hP hc1 hc2 S S2 hx0 hx hy0 hy hd hu ret
  by_cases hneg : x < 0
  · exact IdnSpec.use (idnS w mean mg mb loose) B F X T hk N C C2 hP hc1 hc2 S S2 hx0 hneg hy0 hy hd hu ret
  · exact IdpSpec.use (idpS w mean mg mb loose) B F X T hk N C C2 hP hc1 hc2 S S2 (by omega) hx hy0 hy (by omega) (by omega) ret
end
section
open _root_.PySem _root_.PySem.W _root_.PyProof.Rows
theorem fresh_10 : True := by (w_top off); exact trivial
noncomputable def KeyOk (w : World) (mean : ExcName → Option Value) (mg mb : Str → Option Value) (loose : List Str) (codes : List (Addr × Obj)) (kf : Addr) (news : List (Addr × Obj)) (items : List Value) (g : Nat → Int) : Prop :=
  ∀ ⦃dp un : Nat⦄ ⦃gd : Option (List Code)⦄ ⦃cn : Str⦄ ⦃cs : Scope⦄ ⦃a : Addr⦄ ⦃ccd : Value⦄ ⦃cl : List (Str × Addr)⦄ ⦃outer : List Env⦄ ⦃A₀ : Around⦄ ⦃base h₀ : Heap⦄ ⦃L : Addr⦄ ⦃m : Str → Option Value⦄ ⦃s : Shared⦄ ⦃Q E : Value → Shared → Prop⦄
   ⦃i : Nat⦄ ⦃v : Value⦄ (B : Below A₀ base outer h₀) (F : Fr h₀ L s.heap m) (X : (hd.heap_1 w.params).In h₀) (T : Top topProg loose mean mg mb h₀) (hk : cs.kind = .function) (CB : ∀ q ∈ codes, h₀.get? q.1 = some q.2) (N : News h₀ L s.heap news) (hi : items[i]? = some v) (hd : dp + 4 < recursionLimit) (hu : un + 40 < cLine)
   (ret : ∀ (h' : Heap) (tk' : Nat) (t : Tok), Fr h₀ L h' m → News h₀ L h' news → Q (.int (g i) t) { s with heap := h', toks := tk' }),
   wpAny (model PySem.Challenge.rw_ta0052_01.row.prog w) (ktrTop dp un gd cn cs L a ccd cl outer) (call (.ref kf) [v]) Q E s
theorem KeyOk.use {w : World} {mean : ExcName → Option Value} {mg mb : Str → Option Value} {loose : List Str} {codes : List (Addr × Obj)} {kf : Addr} {news : List (Addr × Obj)} {items : List Value} {g : Nat → Int} (spc : KeyOk w mean mg mb loose codes kf news items g) : KeyOk w mean mg mb loose codes kf news items g := spc
noncomputable def bis (p : Nat → Bool) : Nat → Int → Int → Int
  | 0, lo, _ => lo
  | k + 1, lo, hi => if lo < hi then (if p ((lo + hi).fdiv 2).toNat then bis p k ((lo + hi).fdiv 2 + 1) hi else bis p k lo ((lo + hi).fdiv 2)) else lo
theorem bis_fuel (p : Nat → Bool) : ∀ (k k' : Nat) (lo hi : Int), (hi - lo).toNat ≤ k → (hi - lo).toNat ≤ k' → bis p k lo hi = bis p k' lo hi
  | 0, 0, _, _, _, _ => rfl
  | 0, k' + 1, lo, hi, h, _ => by
    show lo = if lo < hi then _ else lo
    rw [if_neg (by omega)]
  | k + 1, 0, lo, hi, _, h => by
    show (if lo < hi then _ else lo) = lo
    rw [if_neg (by omega)]
  | k + 1, k' + 1, lo, hi, h, h' => by
    show (if lo < hi then _ else lo) = if lo < hi then _ else lo
    by_cases hl : lo < hi
    · have e9 : (lo + hi).fdiv 2 = (lo + hi) / 2 := Int.fdiv_eq_ediv_of_nonneg _ (by decide)
      rw [if_pos hl, if_pos hl, bis_fuel p k k' ((lo + hi).fdiv 2 + 1) hi (by omega) (by omega), bis_fuel p k k' lo ((lo + hi).fdiv 2) (by omega) (by omega)]
    · rw [if_neg hl, if_neg hl]
theorem bis_up {p : Nat → Bool} {lo hi : Int} (hl : lo < hi) (hp : p ((lo + hi).fdiv 2).toNat = true) : bis p (hi - ((lo + hi).fdiv 2 + 1)).toNat ((lo + hi).fdiv 2 + 1) hi = bis p (hi - lo).toNat lo hi := by
  have e9 : (lo + hi).fdiv 2 = (lo + hi) / 2 := Int.fdiv_eq_ediv_of_nonneg _ (by decide)
  refine cutG fun Pc kc => ?_
  obtain ⟨k, hk⟩ : ∃ k, (hi - lo).toNat = k + 1 := ⟨(hi - lo).toNat - 1, by omega⟩
  refine kc ?_
  clear kc Pc
  rw [hk]
  show _ = if lo < hi then (if p _ then _ else _) else lo
  rw [if_pos hl, hp, if_pos rfl]
  exact bis_fuel p _ _ _ _ (Nat.le_refl _) (by omega)
theorem bis_dn {p : Nat → Bool} {lo hi : Int} (hl : lo < hi) (hp : p ((lo + hi).fdiv 2).toNat = false) : bis p ((lo + hi).fdiv 2 - lo).toNat lo ((lo + hi).fdiv 2) = bis p (hi - lo).toNat lo hi := by
  have e9 : (lo + hi).fdiv 2 = (lo + hi) / 2 := Int.fdiv_eq_ediv_of_nonneg _ (by decide)
  refine cutG fun Pc kc => ?_
  obtain ⟨k, hk⟩ : ∃ k, (hi - lo).toNat = k + 1 := ⟨(hi - lo).toNat - 1, by omega⟩
  refine kc ?_
  clear kc Pc
  rw [hk]
  show _ = if lo < hi then (if p _ then _ else _) else lo
  rw [if_pos hl, hp, if_neg (by decide)]
  exact bis_fuel p _ _ _ _ (Nat.le_refl _) (by omega)
theorem bis_end {p : Nat → Bool} {lo hi : Int} (hl : ¬ lo < hi) : bis p (hi - lo).toNat lo hi = lo := by
  rw [show (hi - lo).toNat = 0 by omega]; rfl
noncomputable def mB (a : Addr) (x lo hi : Int) (t1 t2 t3 : Tok) (kf : Addr) (o : Option Value) : Str → Option Value := fun y =>
  if y = Str.ofString "mid" then o else List.lookup y [(Str.ofString "key", .ref kf), (Str.ofString "hi", .int hi t3), (Str.ofString "lo", .int lo t2), (Str.ofString "x", .int x t1), (Str.ofString "a", .ref a)]
theorem mB_start (a : Addr) (x lo hi : Int) (t1 t2 t3 : Tok) (kf : Addr) (y : Str) : mB a x lo hi t1 t2 t3 kf none y = List.lookup y [(Str.ofString "a", .ref a), (Str.ofString "x", .int x t1), (Str.ofString "lo", .int lo t2), (Str.ofString "hi", .int hi t3), (Str.ofString "key", .ref kf)].reverse := by
  unfold mB
  by_cases h : y = Str.ofString "mid"
  · subst h; rfl
  · rw [if_neg h]; rfl
theorem mB_lo (a : Addr) (x lo hi lo' : Int) (t1 t2 t3 t2' : Tok) (kf : Addr) (o o' : Option Value) (y : Str) : mB a x lo' hi t1 t2' t3 kf o' y = if y = Str.ofString "lo" then some (.int lo' t2') else if y = Str.ofString "mid" then o' else mB a x lo hi t1 t2 t3 kf o y := by
  unfold mB
  by_cases h : y = Str.ofString "mid"
  · subst h; rfl
  · by_cases h2 : y = Str.ofString "lo"
    · subst h2; rfl
    · have e : (y == Str.ofString "lo") = false := beq_eq_false_iff_ne.mpr h2
      simp only [if_neg h, if_neg h2, List.lookup_cons, e]
theorem mB_hi (a : Addr) (x lo hi hi' : Int) (t1 t2 t3 t3' : Tok) (kf : Addr) (o o' : Option Value) (y : Str) : mB a x lo hi' t1 t2 t3' kf o' y = if y = Str.ofString "hi" then some (.int hi' t3') else if y = Str.ofString "mid" then o' else mB a x lo hi t1 t2 t3 kf o y := by
  unfold mB
  by_cases h : y = Str.ofString "mid"
  · subst h; rfl
  · by_cases h2 : y = Str.ofString "hi"
    · subst h2; rfl
    · have e : (y == Str.ofString "hi") = false := beq_eq_false_iff_ne.mpr h2
      simp only [if_neg h, if_neg h2, List.lookup_cons, e]
noncomputable def BisI (g : Heap) (L : Addr) (news : List (Addr × Obj)) (a : Addr) (x : Int) (t1 : Tok) (kf : Addr) (p : Nat → Bool) (len : Nat) (s₀ : Shared) (r : Int) (n : Nat) (s : Shared) : Prop :=
  ∃ h tk lo hi t2 t3 o, s = { s₀ with heap := h, toks := tk } ∧ Fr g L h (mB a x lo hi t1 t2 t3 kf o) ∧ News g L h news ∧ 0 ≤ lo ∧ lo ≤ hi ∧ hi ≤ (len : Int) ∧ n = (hi - lo).toNat ∧ bis p (hi - lo).toNat lo hi = r
theorem item_gen {prog : Program} {w : World} {A : Around} {E : Value → Shared → Prop} {s : Shared} {h₀ : Heap} {L l : Addr} {news : List (Addr × Obj)} {vs : List Value} {k : Nat} {i : Int} {u : Tok} {value slice : PySem.Expr} {Q : Value → Shared → Prop}
    (N : News h₀ L s.heap news) (hm : (l, listOf vs.toArray k) ∈ news) (h0 : 0 ≤ i) (h1 : i < vs.length) (hz : vs.length ≤ 1000) (h : ∀ v, vs[i.toNat]? = some v → Q v s)
    (hs : subscripted slice false (.ref l) (.int i u) = operate [.ref l, .int i u] (getItem (.ref l) (.int i u))) (hg : ∀ r, letTemporaryGo value (.ref l) r = pure ()) :
    wpAny (model prog w) A (subscriptTail value slice (.ref l) (.int i u)) Q E s := by
  have hlt : i.toNat < vs.length := by omega
  have e : vs[i.toNat]? = some vs[i.toNat] := List.getElem?_eq_getElem hlt
  exact item_list (PySem.IsL.isList (n := k) (N _ hm).1) h0 (by omega) (by rw [List.getElem?_toArray]; exact e) (h _ e) hs hg
theorem fr_eq {h₀ h : Heap} {L : Addr} {m m' : Str → Option Value} (F : Fr h₀ L h m) (e : ∀ y, m' y = m y) : Fr h₀ L h m' := by
  have : m' = m := funext e
  rw [this]; exact F
noncomputable def mN (a : Addr) (x : Int) (t1 t2 : Tok) (kf : Addr) : Str → Option Value := fun y => List.lookup y [(Str.ofString "key", .ref kf), (Str.ofString "hi", .none), (Str.ofString "lo", .int 0 t2), (Str.ofString "x", .int x t1), (Str.ofString "a", .ref a)]
theorem mB_len (a : Addr) (x hi : Int) (t1 t2 t3 : Tok) (kf : Addr) (y : Str) : mB a x 0 hi t1 t2 t3 kf none y = if y = Str.ofString "hi" then some (.int hi t3) else mN a x t1 t2 kf y := by
  unfold mB mN
  by_cases h : y = Str.ofString "mid"
  · subst h; rfl
  · by_cases h2 : y = Str.ofString "hi"
    · subst h2; rfl
    · have e : (y == Str.ofString "hi") = false := beq_eq_false_iff_ne.mpr h2
      simp only [if_neg h, if_neg h2, List.lookup_cons, e]
theorem len_gen {prog : Program} {w : World} {A : Around} {E : Value → Shared → Prop} {s : Shared} {h₀ : Heap} {L l : Addr} {news : List (Addr × Obj)} {vs : List Value} {k : Nat} {Q : Value → Shared → Prop}
    (N : News h₀ L s.heap news) (hm : (l, listOf vs.toArray k) ∈ news) (hz : vs.length < 2 ^ 62)
    (h : Q (.int (vs.length : Nat) (s.toks + 1)) { s with toks := s.toks + 1 + 1 }) : wpAny (model prog w) A (call (.builtin "len") [.ref l]) Q E s :=
  KM.len_K N hm (by rw [List.size_toArray]) hz h
noncomputable def BisL4 (w : World) (mean : ExcName → Option Value) (mg mb : Str → Option Value) (loose : List Str) : Prop :=
  ∀ ⦃dp un : Nat⦄ ⦃gd : Option (List Code)⦄ ⦃cn : Str⦄ ⦃cs : Scope⦄ ⦃a : Addr⦄ ⦃ccd : Value⦄ ⦃cl : List (Str × Addr)⦄ ⦃outer : List Env⦄ ⦃A₀ : Around⦄ ⦃base h₀ : Heap⦄ ⦃L : Addr⦄ ⦃m : Str → Option Value⦄ ⦃s : Shared⦄ ⦃Q E : Value → Shared → Prop⦄
   ⦃codes news : List (Addr × Obj)⦄ ⦃ls kf : Addr⦄ ⦃fo : Obj⦄ ⦃kk : Nat⦄ ⦃items : List Value⦄ ⦃g : Nat → Int⦄ ⦃x lo hi : Int⦄ ⦃t1 t2 t3 : Tok⦄
   (B : Below A₀ base outer h₀) (F : Fr h₀ L s.heap m) (X : (hd.heap_1 w.params).In h₀) (T : Top topProg loose mean mg mb h₀) (hk : cs.kind = .function) (N : News h₀ L s.heap news) (C : CodeHd base 154 152) (CB : ∀ q ∈ codes, h₀.get? q.1 = some q.2) (ha : (ls, listOf items.toArray kk) ∈ news) (hkf : (kf, fo) ∈ news) (hfn : ∃ oc od fd sl, fo = ⟨oc, od, .func fd, sl⟩) (hK : KeyOk w mean mg mb loose codes kf news items g) (hlen : items.length ≤ 100) (hl0 : 0 ≤ lo) (hlh : lo ≤ hi) (hh : hi ≤ items.length) (hd : dp + 8 < recursionLimit) (hu : un + 80 < cLine) (ret : ∀ (h' : Heap) (tk' : Nat) (t : Tok), Fr h₀ L h' m → News h₀ L h' news → Q (.int (bis (fun i => decide (g i < x)) (hi - lo).toNat lo hi) t) { s with heap := h', toks := tk' }),
   wpAny (model PySem.Challenge.rw_ta0052_01.row.prog w) (ktrTop dp un gd cn cs L a ccd cl outer) (call (.ref 50) [.ref ls, .int x t1, .int lo t2, .int hi t3] [(Str.ofString "key", .ref kf)]) Q E s
theorem BisL4.use {w : World} {mean : ExcName → Option Value} {mg mb : Str → Option Value} {loose : List Str} (spc : BisL4 w mean mg mb loose) : BisL4 w mean mg mb loose := spc
noncomputable def BisR4 (w : World) (mean : ExcName → Option Value) (mg mb : Str → Option Value) (loose : List Str) : Prop :=
  ∀ ⦃dp un : Nat⦄ ⦃gd : Option (List Code)⦄ ⦃cn : Str⦄ ⦃cs : Scope⦄ ⦃a : Addr⦄ ⦃ccd : Value⦄ ⦃cl : List (Str × Addr)⦄ ⦃outer : List Env⦄ ⦃A₀ : Around⦄ ⦃base h₀ : Heap⦄ ⦃L : Addr⦄ ⦃m : Str → Option Value⦄ ⦃s : Shared⦄ ⦃Q E : Value → Shared → Prop⦄
   ⦃codes news : List (Addr × Obj)⦄ ⦃ls kf : Addr⦄ ⦃fo : Obj⦄ ⦃kk : Nat⦄ ⦃items : List Value⦄ ⦃g : Nat → Int⦄ ⦃x lo hi : Int⦄ ⦃t1 t2 t3 : Tok⦄
   (B : Below A₀ base outer h₀) (F : Fr h₀ L s.heap m) (X : (hd.heap_1 w.params).In h₀) (T : Top topProg loose mean mg mb h₀) (hk : cs.kind = .function) (N : News h₀ L s.heap news) (C : CodeHd base 154 152) (CB : ∀ q ∈ codes, h₀.get? q.1 = some q.2) (ha : (ls, listOf items.toArray kk) ∈ news) (hkf : (kf, fo) ∈ news) (hfn : ∃ oc od fd sl, fo = ⟨oc, od, .func fd, sl⟩) (hK : KeyOk w mean mg mb loose codes kf news items g) (hlen : items.length ≤ 100) (hl0 : 0 ≤ lo) (hlh : lo ≤ hi) (hh : hi ≤ items.length) (hd : dp + 8 < recursionLimit) (hu : un + 80 < cLine) (ret : ∀ (h' : Heap) (tk' : Nat) (t : Tok), Fr h₀ L h' m → News h₀ L h' news → Q (.int (bis (fun i => !decide (x < g i)) (hi - lo).toNat lo hi) t) { s with heap := h', toks := tk' }),
   wpAny (model PySem.Challenge.rw_ta0052_01.row.prog w) (ktrTop dp un gd cn cs L a ccd cl outer) (call (.ref 32) [.ref ls, .int x t1, .int lo t2, .int hi t3] [(Str.ofString "key", .ref kf)]) Q E s
theorem BisR4.use {w : World} {mean : ExcName → Option Value} {mg mb : Str → Option Value} {loose : List Str} (spc : BisR4 w mean mg mb loose) : BisR4 w mean mg mb loose := spc
noncomputable def BisL2 (w : World) (mean : ExcName → Option Value) (mg mb : Str → Option Value) (loose : List Str) : Prop :=
  ∀ ⦃dp un : Nat⦄ ⦃gd : Option (List Code)⦄ ⦃cn : Str⦄ ⦃cs : Scope⦄ ⦃a : Addr⦄ ⦃ccd : Value⦄ ⦃cl : List (Str × Addr)⦄ ⦃outer : List Env⦄ ⦃A₀ : Around⦄ ⦃base h₀ : Heap⦄ ⦃L : Addr⦄ ⦃m : Str → Option Value⦄ ⦃s : Shared⦄ ⦃Q E : Value → Shared → Prop⦄
   ⦃codes news : List (Addr × Obj)⦄ ⦃ls kf : Addr⦄ ⦃fo : Obj⦄ ⦃kk : Nat⦄ ⦃items : List Value⦄ ⦃g : Nat → Int⦄ ⦃x : Int⦄ ⦃t1 : Tok⦄
   (B : Below A₀ base outer h₀) (F : Fr h₀ L s.heap m) (X : (hd.heap_1 w.params).In h₀) (T : Top topProg loose mean mg mb h₀) (hk : cs.kind = .function) (N : News h₀ L s.heap news) (C : CodeHd base 154 152) (CB : ∀ q ∈ codes, h₀.get? q.1 = some q.2) (ha : (ls, listOf items.toArray kk) ∈ news) (hkf : (kf, fo) ∈ news) (hfn : ∃ oc od fd sl, fo = ⟨oc, od, .func fd, sl⟩) (hK : KeyOk w mean mg mb loose codes kf news items g) (hlen : items.length ≤ 100) (hd : dp + 8 < recursionLimit) (hu : un + 80 < cLine) (ret : ∀ (h' : Heap) (tk' : Nat) (t : Tok), Fr h₀ L h' m → News h₀ L h' news → Q (.int (bis (fun i => decide (g i < x)) items.length 0 items.length) t) { s with heap := h', toks := tk' }),
   wpAny (model PySem.Challenge.rw_ta0052_01.row.prog w) (ktrTop dp un gd cn cs L a ccd cl outer) (call (.ref 50) [.ref ls, .int x t1] [(Str.ofString "key", .ref kf)]) Q E s
theorem BisL2.use {w : World} {mean : ExcName → Option Value} {mg mb : Str → Option Value} {loose : List Str} (spc : BisL2 w mean mg mb loose) : BisL2 w mean mg mb loose := spc
noncomputable def BisR2 (w : World) (mean : ExcName → Option Value) (mg mb : Str → Option Value) (loose : List Str) : Prop :=
  ∀ ⦃dp un : Nat⦄ ⦃gd : Option (List Code)⦄ ⦃cn : Str⦄ ⦃cs : Scope⦄ ⦃a : Addr⦄ ⦃ccd : Value⦄ ⦃cl : List (Str × Addr)⦄ ⦃outer : List Env⦄ ⦃A₀ : Around⦄ ⦃base h₀ : Heap⦄ ⦃L : Addr⦄ ⦃m : Str → Option Value⦄ ⦃s : Shared⦄ ⦃Q E : Value → Shared → Prop⦄
   ⦃codes news : List (Addr × Obj)⦄ ⦃ls kf : Addr⦄ ⦃fo : Obj⦄ ⦃kk : Nat⦄ ⦃items : List Value⦄ ⦃g : Nat → Int⦄ ⦃x : Int⦄ ⦃t1 : Tok⦄
   (B : Below A₀ base outer h₀) (F : Fr h₀ L s.heap m) (X : (hd.heap_1 w.params).In h₀) (T : Top topProg loose mean mg mb h₀) (hk : cs.kind = .function) (N : News h₀ L s.heap news) (C : CodeHd base 154 152) (CB : ∀ q ∈ codes, h₀.get? q.1 = some q.2) (ha : (ls, listOf items.toArray kk) ∈ news) (hkf : (kf, fo) ∈ news) (hfn : ∃ oc od fd sl, fo = ⟨oc, od, .func fd, sl⟩) (hK : KeyOk w mean mg mb loose codes kf news items g) (hlen : items.length ≤ 100) (hd : dp + 8 < recursionLimit) (hu : un + 80 < cLine) (ret : ∀ (h' : Heap) (tk' : Nat) (t : Tok), Fr h₀ L h' m → News h₀ L h' news → Q (.int (bis (fun i => !decide (x < g i)) items.length 0 items.length) t) { s with heap := h', toks := tk' }),
   wpAny (model PySem.Challenge.rw_ta0052_01.row.prog w) (ktrTop dp un gd cn cs L a ccd cl outer) (call (.ref 32) [.ref ls, .int x t1] [(Str.ofString "key", .ref kf)]) Q E s
theorem BisR2.use {w : World} {mean : ExcName → Option Value} {mg mb : Str → Option Value} {loose : List Str} (spc : BisR2 w mean mg mb loose) : BisR2 w mean mg mb loose := spc
section
local macro_rules | `(tactic| walk_at "exec While Compare cons nil") => `(tactic| refine stop_here ?_)
local macro_rules | `(tactic| walk_at "subscriptTail") => rowR `item_gen "amooo>uvwI"
local macro_rules | `(tactic| walk_at "call ref") => rowC `KeyOk.use 10
local macro_rules | `(tactic| walk_at "call builtin:len") => rowR `len_gen "amo"
theorem BisL4S (w : World) (mean) (mg mb) (loose) : BisL4 w mean mg mb loose := by
  unfold BisL4
  intro dp un gd cn cs a ccd cl outer A₀ base h₀ L m s Q E codes news ls kf fo kk items g x lo hi t1 t2 t3 B F X T hk N C CB ha hkf hfn hK hlen hl0 hlh hh hd hu ret
  refine cutG fun Pc kc => ?_
  obtain ⟨foc, fod, ffd, fsl, rfl⟩ := hfn
  refine kc ?_
  clear kc Pc
  revert X T; k_fill; intro X T
  refine wpAny_call ?_
  refine' code_def (binds := [(Str.ofString "a", .ref ls), (Str.ofString "x", .int x t1), (Str.ofString "lo", .int lo t2), (Str.ofString "hi", .int hi t3), (Str.ofString "key", .ref kf)]) B F X N T rfl rfl hk ?k6 ?k7 ?k8 ?k9 ?kB ?_ ?c2 ?c3 ?c4 ?c5
  case k6 => k_is
  case k7 => k_is
  case k9 => exact binds_K (K := Mine.hd.heap_1 w.params) (X.keeps F.keep) rfl (by k_is) rfl rfl rfl
  case kB => exact locs rfl
  case c5 => decide
  case c2 => exact rfl
  case c3 => exact rfl
  case c4 => exact rfl
  case k8 => (show dp < recursionLimit; omega)
  intro g' L' h' FG' F' N' B' X' T'
  have CB' : ∀ q ∈ codes, g'.get? q.1 = some q.2 := fun q hq => FG'.keep _ _ (CB q hq)
  clear N F B
  have F2 : Fr g' L' h' (mB ls x lo hi t1 t2 t3 kf none) := fr_eq F' (mB_start _ _ _ _ _ _ _ _)
  clear F'
  dsimp only
  k_unmd
  k_fold
  change wpAny _ _ (execs (_ :: _) _) _ _ _
  k_unmd
  k_steps
  unfold Stop
  refine wpAny_While (codeAny_whileLoop (BisI g' L' news ls x t1 kf (fun i => decide (g i < x)) items.length s (bis (fun i => decide (g i < x)) (hi - lo).toNat lo hi)) ?_ (hi - lo).toNat ?_)
  · intro n s9 hI
    refine cutG fun Pc kc => ?_
    obtain ⟨h9, tk9, lo, hi, t2, t3, o, rfl, F9, N9, l9, lh9, hh9, rfl, hr9⟩ := hI
    refine kc ?_
    clear kc Pc
    have e9 : (lo + hi).fdiv 2 = (lo + hi) / 2 := Int.fdiv_eq_ediv_of_nonneg _ (by decide)
    k_steps
    rotate_left 2
    · exact (hi - ((lo + hi).fdiv 2 + 1)).toNat
    rotate_left 2
    · exact ((lo + hi).fdiv 2 - lo).toNat
    · have e := hr9.symm.trans (bis_end (by assumption))
      rw [← e]
      exact ret _ _ _ (by assumption) (by assumption)
    · omega
    · exact ⟨_, _, (lo + hi).fdiv 2 + 1, hi, _, t3, _, rfl, fr_eq (by assumption) (mB_lo _ _ _ _ _ _ _ _ _ _ _ _), by assumption, by omega, by omega, by omega, rfl, (bis_up (by assumption) (decide_eq_true (by assumption))).trans hr9⟩
    · omega
    · exact ⟨_, _, lo, (lo + hi).fdiv 2, t2, _, _, rfl, fr_eq (by assumption) (mB_hi _ _ _ _ _ _ _ _ _ _ _ _), by assumption, by omega, by omega, by omega, rfl, (bis_dn (by assumption) (decide_eq_false (by assumption))).trans hr9⟩
  · exact ⟨_, _, lo, hi, t2, t3, none, rfl, by assumption, by assumption, hl0, hlh, hh, rfl, rfl⟩
theorem BisR4S (w : World) (mean) (mg mb) (loose) : BisR4 w mean mg mb loose := by
  unfold BisR4
  intro dp un gd cn cs a ccd cl outer A₀ base h₀ L m s Q E codes news ls kf fo kk items g x lo hi t1 t2 t3 B F X T hk N C CB ha hkf hfn hK hlen hl0 hlh hh hd hu ret
  refine cutG fun Pc kc => ?_
  obtain ⟨foc, fod, ffd, fsl, rfl⟩ := hfn
  refine kc ?_
  clear kc Pc
  revert X T; k_fill; intro X T
  refine wpAny_call ?_
  refine' code_def (binds := [(Str.ofString "a", .ref ls), (Str.ofString "x", .int x t1), (Str.ofString "lo", .int lo t2), (Str.ofString "hi", .int hi t3), (Str.ofString "key", .ref kf)]) B F X N T rfl rfl hk ?k6 ?k7 ?k8 ?k9 ?kB ?_ ?c2 ?c3 ?c4 ?c5
  case k6 => k_is
  case k7 => k_is
  case k9 => exact binds_K (K := Mine.hd.heap_1 w.params) (X.keeps F.keep) rfl (by k_is) rfl rfl rfl
  case kB => exact locs rfl
  case c5 => decide
  case c2 => exact rfl
  case c3 => exact rfl
  case c4 => exact rfl
  case k8 => (show dp < recursionLimit; omega)
  intro g' L' h' FG' F' N' B' X' T'
  have CB' : ∀ q ∈ codes, g'.get? q.1 = some q.2 := fun q hq => FG'.keep _ _ (CB q hq)
  clear N F B
  have F2 : Fr g' L' h' (mB ls x lo hi t1 t2 t3 kf none) := fr_eq F' (mB_start _ _ _ _ _ _ _ _)
  clear F'
  dsimp only
  k_unmd
  k_fold
  change wpAny _ _ (execs (_ :: _) _) _ _ _
  k_unmd
  k_steps
  unfold Stop
  refine wpAny_While (codeAny_whileLoop (BisI g' L' news ls x t1 kf (fun i => !decide (x < g i)) items.length s (bis (fun i => !decide (x < g i)) (hi - lo).toNat lo hi)) ?_ (hi - lo).toNat ?_)
  · intro n s9 hI
    refine cutG fun Pc kc => ?_
    obtain ⟨h9, tk9, lo, hi, t2, t3, o, rfl, F9, N9, l9, lh9, hh9, rfl, hr9⟩ := hI
    refine kc ?_
    clear kc Pc
    have e9 : (lo + hi).fdiv 2 = (lo + hi) / 2 := Int.fdiv_eq_ediv_of_nonneg _ (by decide)
    k_steps
    rotate_left 2
    · exact ((lo + hi).fdiv 2 - lo).toNat
    rotate_left 2
    · exact (hi - ((lo + hi).fdiv 2 + 1)).toNat
    · have e := hr9.symm.trans (bis_end (by assumption))
      rw [← e]
      exact ret _ _ _ (by assumption) (by assumption)
    · omega
    · exact ⟨_, _, lo, (lo + hi).fdiv 2, t2, _, _, rfl, fr_eq (by assumption) (mB_hi _ _ _ _ _ _ _ _ _ _ _ _), by assumption, by omega, by omega, by omega, rfl, (bis_dn (by assumption) (congrArg not (decide_eq_true (by assumption)))).trans hr9⟩
    · omega
    · exact ⟨_, _, (lo + hi).fdiv 2 + 1, hi, _, t3, _, rfl, fr_eq (by assumption) (mB_lo _ _ _ _ _ _ _ _ _ _ _ _), by assumption, by omega, by omega, by omega, rfl, (bis_up (by assumption) (congrArg not (decide_eq_false (by assumption)))).trans hr9⟩
  · exact ⟨_, _, lo, hi, t2, t3, none, rfl, by assumption, by assumption, hl0, hlh, hh, rfl, rfl⟩
theorem BisL2S (w : World) (mean) (mg mb) (loose) : BisL2 w mean mg mb loose := by
  unfold BisL2
  intro dp un gd cn cs a ccd cl outer A₀ base h₀ L m s Q E codes news ls kf fo kk items g x t1 B F X T hk N C CB ha hkf hfn hK hlen hd hu ret
  refine cutG fun Pc kc => ?_
  obtain ⟨foc, fod, ffd, fsl, rfl⟩ := hfn
  refine kc ?_
  clear kc Pc
  revert X T; k_fill; intro X T
  refine wpAny_call ?_
  refine' code_def (binds := [(Str.ofString "a", .ref ls), (Str.ofString "x", .int x t1), (Str.ofString "lo", .int 0 229), (Str.ofString "hi", .none), (Str.ofString "key", .ref kf)]) B F X N T rfl rfl hk ?k6 ?k7 ?k8 ?k9 ?kB ?_ ?c2 ?c3 ?c4 ?c5
  case k6 => k_is
  case k7 => k_is
  case k9 => exact binds_K (K := Mine.hd.heap_1 w.params) (X.keeps F.keep) rfl (by k_is) rfl rfl rfl
  case kB => exact locs rfl
  case c5 => decide
  case c2 => exact rfl
  case c3 => exact rfl
  case c4 => exact rfl
  case k8 => (show dp < recursionLimit; omega)
  intro g' L' h' FG' F' N' B' X' T'
  have CB' : ∀ q ∈ codes, g'.get? q.1 = some q.2 := fun q hq => FG'.keep _ _ (CB q hq)
  clear N F B
  have F2 : Fr g' L' h' (mN ls x t1 229 kf) := F'
  clear F'
  dsimp only
  k_unmd
  k_fold
  change wpAny _ _ (execs (_ :: _) _) _ _ _
  k_unmd
  k_steps
  unfold Stop
  refine wpAny_While (codeAny_whileLoop (BisI g' L' news ls x t1 kf (fun i => decide (g i < x)) items.length s (bis (fun i => decide (g i < x)) items.length 0 items.length)) ?_ ((items.length : Int) - 0).toNat ?_)
  · intro n s9 hI
    refine cutG fun Pc kc => ?_
    obtain ⟨h9, tk9, lo, hi, t2, t3, o, rfl, F9, N9, l9, lh9, hh9, rfl, hr9⟩ := hI
    refine kc ?_
    clear kc Pc
    have e9 : (lo + hi).fdiv 2 = (lo + hi) / 2 := Int.fdiv_eq_ediv_of_nonneg _ (by decide)
    k_steps
    rotate_left 2
    · exact (hi - ((lo + hi).fdiv 2 + 1)).toNat
    rotate_left 2
    · exact ((lo + hi).fdiv 2 - lo).toNat
    · have e := hr9.symm.trans (bis_end (by assumption))
      rw [← e]
      exact ret _ _ _ (by assumption) (by assumption)
    · omega
    · exact ⟨_, _, (lo + hi).fdiv 2 + 1, hi, _, t3, _, rfl, fr_eq (by assumption) (mB_lo _ _ _ _ _ _ _ _ _ _ _ _), by assumption, by omega, by omega, by omega, rfl, (bis_up (by assumption) (decide_eq_true (by assumption))).trans hr9⟩
    · omega
    · exact ⟨_, _, lo, (lo + hi).fdiv 2, t2, _, _, rfl, fr_eq (by assumption) (mB_hi _ _ _ _ _ _ _ _ _ _ _ _), by assumption, by omega, by omega, by omega, rfl, (bis_dn (by assumption) (decide_eq_false (by assumption))).trans hr9⟩
  · exact ⟨_, _, 0, items.length, _, _, none, rfl, fr_eq (by assumption) (mB_len _ _ _ _ _ _ _), by assumption, by omega, by omega, by omega, rfl, bis_fuel _ _ _ _ _ (Nat.le_refl _) (by omega)⟩
theorem BisR2S (w : World) (mean) (mg mb) (loose) : BisR2 w mean mg mb loose := by
  unfold BisR2
  intro dp un gd cn cs a ccd cl outer A₀ base h₀ L m s Q E codes news ls kf fo kk items g x t1 B F X T hk N C CB ha hkf hfn hK hlen hd hu ret
  refine cutG fun Pc kc => ?_
  obtain ⟨foc, fod, ffd, fsl, rfl⟩ := hfn
  refine kc ?_
  clear kc Pc
  revert X T; k_fill; intro X T
  refine wpAny_call ?_
  refine' code_def (binds := [(Str.ofString "a", .ref ls), (Str.ofString "x", .int x t1), (Str.ofString "lo", .int 0 202), (Str.ofString "hi", .none), (Str.ofString "key", .ref kf)]) B F X N T rfl rfl hk ?k6 ?k7 ?k8 ?k9 ?kB ?_ ?c2 ?c3 ?c4 ?c5
  case k6 => k_is
  case k7 => k_is
  case k9 => exact binds_K (K := Mine.hd.heap_1 w.params) (X.keeps F.keep) rfl (by k_is) rfl rfl rfl
  case kB => exact locs rfl
  case c5 => decide
  case c2 => exact rfl
  case c3 => exact rfl
  case c4 => exact rfl
  case k8 => (show dp < recursionLimit; omega)
  intro g' L' h' FG' F' N' B' X' T'
  have CB' : ∀ q ∈ codes, g'.get? q.1 = some q.2 := fun q hq => FG'.keep _ _ (CB q hq)
  clear N F B
  have F2 : Fr g' L' h' (mN ls x t1 202 kf) := F'
  clear F'
  dsimp only
  k_unmd
  k_fold
  change wpAny _ _ (execs (_ :: _) _) _ _ _
  k_unmd
  k_steps
  unfold Stop
  refine wpAny_While (codeAny_whileLoop (BisI g' L' news ls x t1 kf (fun i => !decide (x < g i)) items.length s (bis (fun i => !decide (x < g i)) items.length 0 items.length)) ?_ ((items.length : Int) - 0).toNat ?_)
  · intro n s9 hI
    refine cutG fun Pc kc => ?_
    obtain ⟨h9, tk9, lo, hi, t2, t3, o, rfl, F9, N9, l9, lh9, hh9, rfl, hr9⟩ := hI
    refine kc ?_
    clear kc Pc
    have e9 : (lo + hi).fdiv 2 = (lo + hi) / 2 := Int.fdiv_eq_ediv_of_nonneg _ (by decide)
    k_steps
    rotate_left 2
    · exact ((lo + hi).fdiv 2 - lo).toNat
    rotate_left 2
    · exact (hi - ((lo + hi).fdiv 2 + 1)).toNat
    · have e := hr9.symm.trans (bis_end (by assumption))
      rw [← e]
      exact ret _ _ _ (by assumption) (by assumption)
    · omega
    · exact ⟨_, _, lo, (lo + hi).fdiv 2, t2, _, _, rfl, fr_eq (by assumption) (mB_hi _ _ _ _ _ _ _ _ _ _ _ _), by assumption, by omega, by omega, by omega, rfl, (bis_dn (by assumption) (congrArg not (decide_eq_true (by assumption)))).trans hr9⟩
    · omega
    · exact ⟨_, _, (lo + hi).fdiv 2 + 1, hi, _, t3, _, rfl, fr_eq (by assumption) (mB_lo _ _ _ _ _ _ _ _ _ _ _ _), by assumption, by omega, by omega, by omega, rfl, (bis_up (by assumption) (congrArg not (decide_eq_false (by assumption)))).trans hr9⟩
  · exact ⟨_, _, 0, items.length, _, _, none, rfl, fr_eq (by assumption) (mB_len _ _ _ _ _ _ _), by assumption, by omega, by omega, by omega, rfl, bis_fuel _ _ _ _ _ (Nat.le_refl _) (by omega)⟩
end
end
section
open _root_.PySem _root_.PySem.W _root_.PyProof.Rows
theorem fresh_11 : True := by (w_top off); exact trivial
theorem KeyOk.pre {w : World} {mean : ExcName → Option Value} {mg mb : Str → Option Value} {loose : List Str} {codes : List (Addr × Obj)} {kf : Addr} {news : List (Addr × Obj)} {items : List Value} {xv : Value} {g : Nat → Int} (spc : KeyOk w mean mg mb loose codes kf news (items ++ [xv]) g) : KeyOk w mean mg mb loose codes kf news items g := by
  intro dp un gd cn cs a ccd cl outer A₀ base h₀ L m s Q E i v B F X T hk CB N hi hd hu ret
  exact spc B F X T hk CB N ((List.getElem?_append_left (List.getElem?_eq_some_iff.mp hi).1).trans hi) hd hu ret
theorem ins_gen {prog : Program} {w : World} {A : Around} {E : Value → Shared → Prop} {s : Shared} {h₀ : Heap} {L D : Addr} {m : Str → Option Value} {rest : List (Addr × Obj)} {vs : List Value} {n : Nat} {x : Int} {u : Tok} {y : Value} {Q : Value → Shared → Prop}
    (F : Fr h₀ L s.heap m) (N : News h₀ L s.heap ((D, listOf vs.toArray n) :: rest)) (h0 : 0 ≤ x) (hx : x ≤ vs.length) (hz : vs.length ≤ 60) (hP : ∀ q ∈ rest, q.1 ≠ D)
    (h : ∀ h', Fr h₀ L h' m → News h₀ L h' ((D, listOf (kl_ins vs x y).toArray (n + 1)) :: rest) → Q .none { s with heap := h' }) :
    wpAny (model prog w) A (call (.builtin "list.insert") [.ref D, .int x u, y]) Q E s :=
  kl_insert F N (by unfold Builtin.List.listFitsIndex; simp; omega) rfl (.head hP) (by show vs.length ≤ sizeLine; rw [sizeLine_eq]; omega) h
theorem bis_in (p : Nat → Bool) : ∀ (k : Nat) (lo hi : Int), lo ≤ hi → lo ≤ bis p k lo hi ∧ bis p k lo hi ≤ hi
  | 0, lo, hi, h => ⟨Int.le_refl _, h⟩
  | k + 1, lo, hi, h => by
    show lo ≤ (if lo < hi then _ else lo) ∧ (if lo < hi then _ else lo) ≤ hi
    by_cases hl : lo < hi
    · have e9 : (lo + hi).fdiv 2 = (lo + hi) / 2 := Int.fdiv_eq_ediv_of_nonneg _ (by decide)
      rw [if_pos hl]
      cases p ((lo + hi).fdiv 2).toNat
      · have := bis_in p k lo ((lo + hi).fdiv 2) (by omega)
        rw [if_neg (by decide)]; omega
      · have := bis_in p k ((lo + hi).fdiv 2 + 1) hi (by omega)
        rw [if_pos rfl]; omega
    · rw [if_neg hl]; omega
noncomputable def InsL (w : World) (mean : ExcName → Option Value) (mg mb : Str → Option Value) (loose : List Str) : Prop :=
  ∀ ⦃dp un : Nat⦄ ⦃gd : Option (List Code)⦄ ⦃cn : Str⦄ ⦃cs : Scope⦄ ⦃a : Addr⦄ ⦃ccd : Value⦄ ⦃cl : List (Str × Addr)⦄ ⦃outer : List Env⦄ ⦃A₀ : Around⦄ ⦃base h₀ : Heap⦄ ⦃L : Addr⦄ ⦃m : Str → Option Value⦄ ⦃s : Shared⦄ ⦃Q E : Value → Shared → Prop⦄
   ⦃codes rest : List (Addr × Obj)⦄ ⦃ls kf : Addr⦄ ⦃fo : Obj⦄ ⦃kk : Nat⦄ ⦃items : List Value⦄ ⦃xv : Value⦄ ⦃g : Nat → Int⦄ ⦃lo hi : Int⦄ ⦃t2 t3 : Tok⦄
   (B : Below A₀ base outer h₀) (F : Fr h₀ L s.heap m) (X : (hd.heap_1 w.params).In h₀) (T : Top topProg loose mean mg mb h₀) (hk : cs.kind = .function) (N : News h₀ L s.heap ((ls, listOf items.toArray kk) :: rest)) (C : CodeHd base 154 152) (CB : ∀ q ∈ codes, h₀.get? q.1 = some q.2) (hP : ∀ q ∈ rest, q.1 ≠ ls) (hkf : (kf, fo) ∈ rest) (hfn : ∃ oc od fd sl, fo = ⟨oc, od, .func fd, sl⟩) (hK : KeyOk w mean mg mb loose codes kf ((ls, listOf items.toArray kk) :: rest) (items ++ [xv]) g) (hlen : items.length ≤ 60) (hl0 : 0 ≤ lo) (hlh : lo ≤ hi) (hh : hi ≤ items.length) (hd : dp + 10 < recursionLimit) (hu : un + 100 < cLine) (ret : ∀ (h' : Heap) (tk' : Nat), Fr h₀ L h' m → News h₀ L h' ((ls, listOf (kl_ins items (bis (fun i => decide (g i < g items.length)) (hi - lo).toNat lo hi) xv).toArray (kk + 1)) :: rest) → Q .none { s with heap := h', toks := tk' }),
   wpAny (model PySem.Challenge.rw_ta0052_01.row.prog w) (ktrTop dp un gd cn cs L a ccd cl outer) (call (.ref 41) [.ref ls, xv, .int lo t2, .int hi t3] [(Str.ofString "key", .ref kf)]) Q E s
theorem InsL.use {w : World} {mean : ExcName → Option Value} {mg mb : Str → Option Value} {loose : List Str} (spc : InsL w mean mg mb loose) : InsL w mean mg mb loose := spc
noncomputable def InsR (w : World) (mean : ExcName → Option Value) (mg mb : Str → Option Value) (loose : List Str) : Prop :=
  ∀ ⦃dp un : Nat⦄ ⦃gd : Option (List Code)⦄ ⦃cn : Str⦄ ⦃cs : Scope⦄ ⦃a : Addr⦄ ⦃ccd : Value⦄ ⦃cl : List (Str × Addr)⦄ ⦃outer : List Env⦄ ⦃A₀ : Around⦄ ⦃base h₀ : Heap⦄ ⦃L : Addr⦄ ⦃m : Str → Option Value⦄ ⦃s : Shared⦄ ⦃Q E : Value → Shared → Prop⦄
   ⦃codes rest : List (Addr × Obj)⦄ ⦃ls kf : Addr⦄ ⦃fo : Obj⦄ ⦃kk : Nat⦄ ⦃items : List Value⦄ ⦃xv : Value⦄ ⦃g : Nat → Int⦄ ⦃lo hi : Int⦄ ⦃t2 t3 : Tok⦄
   (B : Below A₀ base outer h₀) (F : Fr h₀ L s.heap m) (X : (hd.heap_1 w.params).In h₀) (T : Top topProg loose mean mg mb h₀) (hk : cs.kind = .function) (N : News h₀ L s.heap ((ls, listOf items.toArray kk) :: rest)) (C : CodeHd base 154 152) (CB : ∀ q ∈ codes, h₀.get? q.1 = some q.2) (hP : ∀ q ∈ rest, q.1 ≠ ls) (hkf : (kf, fo) ∈ rest) (hfn : ∃ oc od fd sl, fo = ⟨oc, od, .func fd, sl⟩) (hK : KeyOk w mean mg mb loose codes kf ((ls, listOf items.toArray kk) :: rest) (items ++ [xv]) g) (hlen : items.length ≤ 60) (hl0 : 0 ≤ lo) (hlh : lo ≤ hi) (hh : hi ≤ items.length) (hd : dp + 10 < recursionLimit) (hu : un + 100 < cLine) (ret : ∀ (h' : Heap) (tk' : Nat), Fr h₀ L h' m → News h₀ L h' ((ls, listOf (kl_ins items (bis (fun i => !decide (g items.length < g i)) (hi - lo).toNat lo hi) xv).toArray (kk + 1)) :: rest) → Q .none { s with heap := h', toks := tk' }),
   wpAny (model PySem.Challenge.rw_ta0052_01.row.prog w) (ktrTop dp un gd cn cs L a ccd cl outer) (call (.ref 23) [.ref ls, xv, .int lo t2, .int hi t3] [(Str.ofString "key", .ref kf)]) Q E s
theorem InsR.use {w : World} {mean : ExcName → Option Value} {mg mb : Str → Option Value} {loose : List Str} (spc : InsR w mean mg mb loose) : InsR w mean mg mb loose := spc
local macro_rules | `(tactic| walk_at "my p") => do anyK [`KeyOk.pre] (← `(tactic| first | exact List.getElem?_concat_length | exact exFn))
theorem fresh_12 : True := by (w_top off); first | (walk1; done) | trivial
section
local macro_rules | `(tactic| walk_at "call builtin:list.insert") => rowR `ins_gen "aaooosI"
local macro_rules | `(tactic| walk_at "call ref") => rowC `KeyOk.use 10
local macro_rules | `(tactic| walk_at "call ref") => rowC `BisL4.use 18
theorem InsLS (w : World) (mean) (mg mb) (loose) : InsL w mean mg mb loose := by
  unfold InsL
  intro dp un gd cn cs a ccd cl outer A₀ base h₀ L m s Q E codes rest ls kf fo kk items xv g lo hi t2 t3 B F X T hk N C CB hP hkf hfn hK hlen hl0 hlh hh hd hu ret
  have i1 := BisL4S w mean mg mb loose
  refine cutG fun Pc kc => ?_
  obtain ⟨foc, fod, ffd, fsl, rfl⟩ := hfn
  refine kc ?_
  clear kc Pc
  w_top on
  revert X T; k_fill; intro X T
  refine wpAny_call ?_
  refine' code_def (binds := [(Str.ofString "a", .ref ls), (Str.ofString "x", xv), (Str.ofString "lo", .int lo t2), (Str.ofString "hi", .int hi t3), (Str.ofString "key", .ref kf)]) B F X N T rfl rfl hk ?k6 ?k7 ?k8 ?k9 ?kB ?_ ?c2 ?c3 ?c4 ?c5
  case k6 => k_is
  case k7 => k_is
  case k9 => exact binds_K (K := Mine.hd.heap_1 w.params) (X.keeps F.keep) rfl (by k_is) rfl rfl rfl
  case kB => exact locs rfl
  case c5 => decide
  case c2 => exact rfl
  case c3 => exact rfl
  case c4 => exact rfl
  case k8 => (show dp < recursionLimit; omega)
  intro g' L' h' FG' F' N' B' X' T'
  have CB' : ∀ q ∈ codes, g'.get? q.1 = some q.2 := fun q hq => FG'.keep _ _ (CB q hq)
  clear N F B
  have F2 : Fr g' L' h' (fun y => List.lookup y [(Str.ofString "key", .ref kf), (Str.ofString "hi", .int hi t3), (Str.ofString "lo", .int lo t2), (Str.ofString "x", xv), (Str.ofString "a", .ref ls)]) := F'
  clear F'
  dsimp only
  k_unmd
  k_fold
  change wpAny _ _ (execs (_ :: _) _) _ _ _
  k_unmd
  have hb9 := bis_in (fun i => decide (g i < g items.length)) (hi - lo).toNat lo hi hlh
  k_steps
  exact ret _ _ (by assumption) (by assumption)
end
theorem fresh_13 : True := by (w_top off); first | (walk1; done) | trivial
section
local macro_rules | `(tactic| walk_at "call builtin:list.insert") => rowR `ins_gen "aaooosI"
local macro_rules | `(tactic| walk_at "call ref") => rowC `KeyOk.use 10
local macro_rules | `(tactic| walk_at "call ref") => rowC `BisR4.use 18
theorem InsRS (w : World) (mean) (mg mb) (loose) : InsR w mean mg mb loose := by
  unfold InsR
  intro dp un gd cn cs a ccd cl outer A₀ base h₀ L m s Q E codes rest ls kf fo kk items xv g lo hi t2 t3 B F X T hk N C CB hP hkf hfn hK hlen hl0 hlh hh hd hu ret
  have i1 := BisR4S w mean mg mb loose
  refine cutG fun Pc kc => ?_
  obtain ⟨foc, fod, ffd, fsl, rfl⟩ := hfn
  refine kc ?_
  clear kc Pc
  w_top on
  revert X T; k_fill; intro X T
  refine wpAny_call ?_
  refine' code_def (binds := [(Str.ofString "a", .ref ls), (Str.ofString "x", xv), (Str.ofString "lo", .int lo t2), (Str.ofString "hi", .int hi t3), (Str.ofString "key", .ref kf)]) B F X N T rfl rfl hk ?k6 ?k7 ?k8 ?k9 ?kB ?_ ?c2 ?c3 ?c4 ?c5
  case k6 => k_is
  case k7 => k_is
  case k9 => exact binds_K (K := Mine.hd.heap_1 w.params) (X.keeps F.keep) rfl (by k_is) rfl rfl rfl
  case kB => exact locs rfl
  case c5 => decide
  case c2 => exact rfl
  case c3 => exact rfl
  case c4 => exact rfl
  case k8 => (show dp < recursionLimit; omega)
  intro g' L' h' FG' F' N' B' X' T'
  have CB' : ∀ q ∈ codes, g'.get? q.1 = some q.2 := fun q hq => FG'.keep _ _ (CB q hq)
  clear N F B
  have F2 : Fr g' L' h' (fun y => List.lookup y [(Str.ofString "key", .ref kf), (Str.ofString "hi", .int hi t3), (Str.ofString "lo", .int lo t2), (Str.ofString "x", xv), (Str.ofString "a", .ref ls)]) := F'
  clear F'
  dsimp only
  k_unmd
  k_fold
  change wpAny _ _ (execs (_ :: _) _) _ _ _
  k_unmd
  have hb9 := bis_in (fun i => !decide (g items.length < g i)) (hi - lo).toNat lo hi hlh
  k_steps
  exact ret _ _ (by assumption) (by assumption)
end
end
end
end
section
open _root_.PySem _root_.PySem.W _root_.PyProof.Rows
theorem wpAny_stop {α : Type} {M : Model} {A : Around} {t : Sem α} {Q : α → Shared → Prop} {E : Value → Shared → Prop} {s : Shared} (h : wpAny M A t (fun a s' => Stop (Q a s')) E s) : wpAny M A t Q E s := h
section
variable {prog : Program} {w : World} {A : Around} {E : Value → Shared → Prop} {s : Shared} {h₀ : Heap} {L : Addr} {m : Str → Option Value} {env : Env} {news : List (Addr × Obj)}
/-- a comprehension over range(a, a + n) whose elements are ints -/
theorem compI {elt iter : PySem.Expr} {x : Str} {px : Pos} {ifs : List PySem.Expr} {scope : Scope} {cl : List (Str × Addr)} {pos : Pos} {Q : Value → Shared → Prop} (F₀ : Fr h₀ L s.heap m) (N₀ : News h₀ L s.heap news) (a₀ : Int) (n : Nat) (pz : Int → Bool) (d : Int → Int)
    (hh : A.handled = none) (hclos : closureFor scope env = pure cl) (hcell : ∀ y ∈ scope.names, y.2 ≠ .cell) (hkind : scope.kind = .function)
    (hnames : ∀ y ∈ scope.names, y.2 = .local → scope.names.lookup y.1 = some .local) (hx : scope.names.lookup x = some .local) (hn : n ≤ 1000) (h0 : 0 ≤ a₀) (h1 : a₀ ≤ 1000)
    (hit : wpAny (model prog w) A (eval iter env) (fun xv s₁ => Stop (∃ r b t u v h' tk, xv = .ref r ∧ IsRange h' r a₀ b 1 t u v ∧ b = a₀ + (n : Int) ∧ Fr h₀ L h' m ∧ News h₀ L h' news ∧ s₁ = { s with heap := h', toks := tk })) E s)
    (htest : ∀ (s₁ : Shared) C i t s₂ m₂ E', Fr h₀ L s₁.heap m → News h₀ L s₁.heap news → a₀ ≤ i → i < a₀ + (n : Int) → s₂.heap.Ns (compEnvC scope cl C env).locals m₂ → m₂ x = some (.int i t) → (∀ b o, s₁.heap.get? b = some o → s₂.heap.get? b = some o) →
        wpAny (model prog w) A (forIn ifs true fun c r => if r = true then do let ok ← isTrue c (compEnvC scope cl C env) (eval c (compEnvC scope cl C env)); pure (ForInStep.yield ok) else pure (ForInStep.yield r))
          (fun ok s₃ => ok = pz i ∧ Keeps s₂ s₃) E' s₂)
    (helt : ∀ (s₁ : Shared) C i t s₂ m₂ E', Fr h₀ L s₁.heap m → News h₀ L s₁.heap news → a₀ ≤ i → i < a₀ + (n : Int) → pz i = true → s₂.heap.Ns (compEnvC scope cl C env).locals m₂ → m₂ x = some (.int i t) → (∀ b o, s₁.heap.get? b = some o → s₂.heap.get? b = some o) →
        wpAny (model prog w) A (eval elt (compEnvC scope cl C env)) (fun y s₃ => (∃ t, y = .int (d i) t) ∧ Keeps s₂ s₃) E' s₂)
    (hQ : ∀ D ys k h' tk, Fr h₀ L h' m → News h₀ L h' ((D, listOf ys.toArray k) :: news) → IntsAre ys (((rangeInts a₀ 1 n).filter pz).map d) → Q (.ref D) { s with heap := h', toks := tk })
    (hs : ∀ x, foldedSetIterable iter env x = pure x) :
    wpAny (model prog w) A (eval (.ListComp elt [⟨.Name x px, iter, ifs, 0⟩] scope pos) env) Q E s := by
  refine ListComp_DCr (h₀ := h₀) (L := L) (m := m) (pz := pz) (d := fun i => .int (d i)) hh hclos hcell hkind hnames hx (wpAny_mono hit (fun xv s₁ h₁ => ?_) fun _ _ e => e) hs
  refine cutG fun Pc kc => ?_
  obtain ⟨r, b, t, u, v, h', tk, rfl, hr, rfl, F, N, rfl⟩ := h₁
  refine kc ?_
  clear kc Pc
  refine ⟨news, r, a₀, _, 1, t, u, v, n, rfl, hr, small_one (a := a₀) (b := a₀ + (n : Int)) (by omega) (by omega) (by omega) (by omega), by rw [rangeSize_nat]; omega, by rw [sizeLine_eq]; omega, F, N, ?_, ?_, ?_⟩
  · intro C i v s₂ m₂ E' hC hi ⟨t, e⟩ hm hx₂ hk
    subst e
    have := mem_rangeInts hi
    exact htest _ C i t s₂ m₂ E' F N this.1 this.2 hm hx₂ hk
  · intro C i v s₂ m₂ E' hC hi ⟨t, e⟩ hp hm hx₂ hk
    subst e
    have := mem_rangeInts hi
    refine wpAny_mono (helt _ C i t s₂ m₂ E' F N this.1 this.2 hp hm hx₂ hk) (fun y s₃ h => ?_) fun _ _ e => e
    refine cutG fun Pc kc => ?_
    obtain ⟨⟨t', rfl⟩, hk'⟩ := h
    refine kc ?_
    clear kc Pc
    exact ⟨.int _ _, hk'⟩
  · intro D ys h'' tk' F' N' hD hl hp hc
    refine cutG fun Pc kc => ?_
    obtain ⟨⟨k, e⟩, hne⟩ := id hp
    refine kc ?_
    clear kc Pc
    refine hQ D ys k h'' tk' F' (fun q hq => ?_) (CarriedAll.intsOf hc)
    rcases List.mem_cons.mp hq with rfl | hq
    · exact ⟨e, hp.ne_locals F', hD⟩
    · exact N' q hq
/-- what a row of fresh lists of ints lies as -/
noncomputable def RowsAre (ts : List (Addr × Obj)) (ds : List (List Int)) : Prop := Paired (fun (p : Addr × Obj) d => p.2.cls = .type "list" ∧ ∃ its n, p.2.data = .seq its n ∧ IntsAre its.toList d) ts ds
theorem rows_of {h₁ h : Heap} {d : Int → List Int} : ∀ {vs : List Value} {is : List Int}, AreOf ItemKind.int vs is → ∀ {ys : List Value},
    Paired (LstIs h₁ (fun v ws => ∃ i, ItemKind.int.is i v ∧ IntsAre ws.toList (d i)) h) (vs.filter (ItemKind.int.lift fun _ => true)) ys →
    ∃ ts : List (Addr × Obj), ys = ts.map (fun p => .ref p.1) ∧ (∀ p ∈ ts, h₁.get? p.1 = none ∧ h.get? p.1 = some p.2 ∧ ∃ its n, p.2.data = .seq its n) ∧ RowsAre ts (is.map d) := by
  intro vs is hi
  induction hi with
  | nil => intro ys hp; cases hp; exact ⟨[], rfl, (fun _ h => nomatch h), .nil⟩
  | cons hi hr ih =>
    intro ys hp
    rw [List.filter_cons_of_pos (by rw [ItemKind.lift_is hi])] at hp
    cases hp with
    | cons hF ht =>
      refine cutG fun Pc kc => ?_
      obtain ⟨T, ws, rfl, hT, ⟨o, ho, hc, n, hd⟩, i', hi', hca⟩ := hF
      refine kc ?_
      clear kc Pc
      obtain ⟨t1, e1⟩ := hi
      obtain ⟨t2, e2⟩ := hi'
      rw [e1] at e2
      cases e2
      refine cutG fun Pc kc => ?_
      obtain ⟨ts, rfl, h2, h3⟩ := ih ht
      refine kc ?_
      clear kc Pc
      refine ⟨(T, o) :: ts, rfl, ?_, .cons ⟨hc, ws, n, hd, hca⟩ h3⟩
      intro p hp
      rcases List.mem_cons.mp hp with rfl | hp
      · exact ⟨hT, ho, ws, n, hd⟩
      · exact h2 p hp
/-- the block of such a comprehension whose list goes to a local name at once -/
theorem assign_block {elt iter : PySem.Expr} {x y : Str} {px py : Pos} {scope : Scope} {cl : List (Str × Addr)} {pos spos : Pos} {Q : Flow → Shared → Prop} (p : Value → Bool) (G : Value → Array Value → Prop)
    (hsw : swapsWith (.ListComp elt [⟨.Name x px, iter, [], 0⟩] scope pos) (some (.Name y py)) spos.line env = pure true)
    (hclos : closureFor scope env = pure cl) (hcell : ∀ z ∈ scope.names, z.2 ≠ .cell) (hkind : scope.kind = .function)
    (hnames : ∀ z ∈ scope.names, z.2 = .local → scope.names.lookup z.1 = some .local) (hx : scope.names.lookup x = some .local)
    (hy : env.kindOf y = some .local) (hp : (env.scope.kind == .class || (env.scope.kind == .module && env.locals != env.globals)) = false)
    (h : wpAny (model prog w) A (eval iter env) (fun xv s₁ => wpAny (model prog w) A (pyIter xv) (fun it s₂ => ∃ I fp wr n P St m', it = .ref I ∧ Walks prog w A I fp wr n P St ∧ n ≤ sizeLine ∧ (∀ i h, St i h → ∀ b ∈ wr, ∃ o, h.get? b = some o) ∧ St 0 s₂.heap ∧ (∀ b ∈ fp, b < s₂.heap.objs.size) ∧
      env.locals ∉ wr ∧ s₂.heap.Ns env.locals m' ∧ QuietOnCO prog w A env scope cl x [] elt wr P p G s₂ ∧
      (∀ D h' tk ys (vs : List Value), s₂.heap.get? D = none → h'.PlainList D ys → vs.length = n → (∀ j v, vs[j]? = some v → P j v) → Paired (LstIs s₂.heap G h') (vs.filter p) ys.toList → (∀ z ∈ ys.toList, z ≠ .ref D) →
        h'.Ns env.locals (fun z => if z = y then some (.ref D) else m' z) → (∀ b o, b ≠ env.locals → b ∉ wr → s₂.heap.get? b = some o → h'.get? b = some o) → Q .next { s₂ with heap := h', toks := tk })) E s₁) E s)
    (hs : ∀ x, foldedSetIterable iter env x = pure x) :
    wpAny (model prog w) A (exec (.Assign [.Name y py] (.ListComp elt [⟨.Name x px, iter, [], 0⟩] scope pos) spos) env) Q E s := by
  rw [exec_Assign_Name_used _ _ _ _ hsw]
  refine wpAny_bind (wpAny_standAt (wpAny_bind ?_))
  show wpAny _ A (do let _ ← comprehension (.ListComp elt [⟨.Name x px, iter, [], 0⟩] scope pos) scope env _ (newList []) false (eval iter env) (some (assign (.Name y py) env))) _ _ s
  refine wpAny_bind (wpAny_mono (wpAny_comprehension_free (use := some (assign (.Name y py) env)) (Q := fun _ s' => Q .next s') rfl hs hclos hkind hnames
    (wpAny_mono h (fun xv s₁ h₁ => wpAny_mono h₁ (fun it s₂ h₂ => ?_) fun _ _ e => e) fun _ _ e => e)) (fun _ s' hq => wpAny_pure (wpAny_pure hq)) fun _ _ e => e)
  refine cutG fun Pc kc => ?_
  obtain ⟨I, fp, wr, n, P, St, m', rfl, W, hsz, hlive, hst, hfp, hLf, hn, hq, hQ⟩ := h₂
  refine kc ?_
  clear kc Pc
  refine comp_block_walkCO (RR := fun acc C => compPost (model prog w) A E (some (assign (.Name y py) env)) (fun _ s' => Q .next s') acc C) W hsz p G hlive hcell hkind hx hst hfp hq ?_
  intro D C h' tk m₂ ys vs hD hC hDC hnC hlD hplD hlen hP hF hnd hk
  have hLo : ∃ o, s₂.heap.get? env.locals = some o := by obtain ⟨o, _, _, ho, _⟩ := hn; exact ⟨o, ho⟩
  obtain ⟨oL, eL⟩ := hLo
  have hLC : env.locals ≠ C := by intro e; rw [e, hC] at eL; cases eL
  have hLD : env.locals ≠ D := by intro e; rw [e, hD] at eL; cases eL
  show wpAny _ A (assign (.Name y py) env (.ref D)) _ _ _
  refine wpAny_assign_Name (wpAny_storeName_local hy (hn.at' fun o e => hk _ o hLf e) (fun h₂ hn₂ hs₂ => ?_) hp)
  refine ⟨m₂, hnC.sameBut hs₂ (Ne.symm hLC), fun h₃ hs₃ => ?_⟩
  refine hQ D h₃ _ ys vs hD ((hplD.extBut hs₂.extBut (Ne.symm hLD)).extBut hs₃.extBut hDC) hlen hP (hF.mono fun v z hz => ?_) (fun z hz e => ?_) (hn₂.sameBut hs₃ hLC) fun b o hbL hbf e =>
    hs₃.extBut b o (fun q => by rw [q, hC] at e; cases e) (hs₂.extBut b o hbL (hk b o hbf e))
  · refine cutG fun Pc kc => ?_
    obtain ⟨T, its, rfl, h1, hTC, hTw, hTD, hl, hG⟩ := hz
    refine kc ?_
    clear kc Pc
    refine ⟨T, its, rfl, h1, (hl.extBut hs₂.extBut fun q => ?_).extBut hs₃.extBut hTC, hG⟩
    rw [q, eL] at h1; cases h1
  · refine cutG fun Pc kc => ?_
    obtain ⟨_, T, _, e', _, _, _, hTD, _, _⟩ := Paired.right hF z hz
    refine kc ?_
    clear kc Pc
    rw [e] at e'; cases e'; exact hTD rfl
/-- the same, assigned to a local name -/
theorem compOA {elt iter : PySem.Expr} {x y : Str} {px py : Pos} {scope : Scope} {cl : List (Str × Addr)} {pos spos : Pos} {Q : Flow → Shared → Prop} (F₀ : Fr h₀ L s.heap m) (N₀ : News h₀ L s.heap news) (a₀ : Int) (n : Nat) (d : Int → List Int)
    (hsw : swapsWith (.ListComp elt [⟨.Name x px, iter, [], 0⟩] scope pos) (some (.Name y py)) spos.line env = pure true) (hL : env.locals = L) (hy : env.kindOf y = some .local) (hp : (env.scope.kind == .class || (env.scope.kind == .module && env.locals != env.globals)) = false)
    (hh : A.handled = none) (hclos : closureFor scope env = pure cl) (hcell : ∀ y ∈ scope.names, y.2 ≠ .cell) (hkind : scope.kind = .function)
    (hnames : ∀ y ∈ scope.names, y.2 = .local → scope.names.lookup y.1 = some .local) (hx : scope.names.lookup x = some .local) (hn : n ≤ 1000) (h0 : 0 ≤ a₀) (h1 : a₀ ≤ 1000)
    (hit : wpAny (model prog w) A (eval iter env) (fun xv s₁ => Stop (∃ r b t u v h' tk, xv = .ref r ∧ IsRange h' r a₀ b 1 t u v ∧ b = a₀ + (n : Int) ∧ Fr h₀ L h' m ∧ News h₀ L h' news ∧ s₁ = { s with heap := h', toks := tk })) E s)
    (helt : ∀ (s₁ : Shared) C i t s₂ m₂ E', Fr h₀ L s₁.heap m → News h₀ L s₁.heap news → a₀ ≤ i → i < a₀ + (n : Int) → s₂.heap.Ns (compEnvC scope cl C env).locals m₂ → m₂ x = some (.int i t) → (∀ b o, s₁.heap.get? b = some o → s₂.heap.get? b = some o) →
        wpAny (model prog w) A (eval elt (compEnvC scope cl C env)) (fun y s₃ => (∃ T its, y = .ref T ∧ s₂.heap.get? T = none ∧ s₃.heap.IsList T its ∧ IntsAre its.toList (d i)) ∧ Keeps s₂ s₃) E' s₂)
    (hQ : ∀ D ts k h' tk, Fr h₀ L h' (fun z => if z = y then some (.ref D) else m z) → News h₀ L h' ((D, listOf (ts.map fun p => Value.ref p.1).toArray k) :: (news ++ ts)) → RowsAre ts ((rangeInts a₀ 1 n).map d) → (∀ q ∈ news ++ ts, q.1 ≠ D) → (∀ p ∈ ts, ∀ q ∈ news, p.1 ≠ q.1) → Q .next { s with heap := h', toks := tk })
    (hs : ∀ x, foldedSetIterable iter env x = pure x) :
    wpAny (model prog w) A (exec (.Assign [.Name y py] (.ListComp elt [⟨.Name x px, iter, [], 0⟩] scope pos) spos) env) Q E s := by
  subst hL
  refine assign_block (ItemKind.int.lift fun _ => true) (fun v ws => ∃ i, ItemKind.int.is i v ∧ IntsAre ws.toList (d i)) hsw hclos hcell hkind hnames hx hy hp (wpAny_mono hit (fun xv s₁ h₁ => ?_) fun _ _ e => e) hs
  refine cutG fun Pc kc => ?_
  obtain ⟨r, b, t, u, v, h', tk, rfl, hr, rfl, F, N, rfl⟩ := h₁
  refine kc ?_
  clear kc Pc
  have hn' : Builtin.Range.rangeSize a₀ (a₀ + (n : Int)) 1 = (n : Int) := by rw [rangeSize_nat]; omega
  have up : ∀ (ito : Obj) (s₃ : Shared), (∀ b o, b ∉ [h'.objs.size] → (h'.push ito).get? b = some o → s₃.heap.get? b = some o) → ∀ b o, h'.get? b = some o → s₃.heap.get? b = some o :=
    fun ito s₃ hk b o e => hk b o (fun hm => by rcases List.mem_cons.mp hm with rfl | hm; exact Nat.lt_irrefl _ (Heap.lt_size e); cases hm) (Heap.get?_push_of_some _ e)
  refine wpAny_pyIter_range hr (small_one (a := a₀) (b := a₀ + (n : Int)) (by omega) (by omega) (by omega) (by omega)) ⟨h'.objs.size, [h'.objs.size], [h'.objs.size], n, _, _, m, rfl, (Walks.range hh _ a₀ 1 n).bound, by rw [sizeLine_eq]; omega, ?_, by show IsRangeIter _ _ _ _ _; rw [hn']; simpa using Heap.get?_push_size _ rfl, ?_, ?_, F.ns.push _, ⟨?_, ?_⟩, ?_⟩
  · intro i h st b hb
    rw [List.mem_singleton.mp hb]
    exact ⟨_, st⟩
  · intro b hb
    show b < (h'.push _).objs.size
    rw [Heap.size_push, List.mem_singleton.mp hb]
    exact Nat.lt_succ_self _
  · intro hm
    rw [List.mem_singleton] at hm
    exact Nat.lt_irrefl _ (hm ▸ F.ns.lt)
  · intro C i v s₃ m₃ E' hC hP hn' hm hk _
    refine cutG fun Pc kc => ?_
    obtain ⟨hi, t', e⟩ := hP
    refine kc ?_
    clear kc Pc
    rw [ItemKind.lift_is (K := .int) (a := a₀ + (i : Nat) * 1) ⟨t', e⟩]
    exact wpAny_tests_nil ⟨rfl, ⟨_, _, rfl, fun _ _ e => e⟩⟩
  · intro C i v s₃ m₃ E' hC hP _ hn' hm hk _
    refine cutG fun Pc kc => ?_
    obtain ⟨hi, t', rfl⟩ := hP
    refine kc ?_
    clear kc Pc
    refine wpAny_mono (helt { s with heap := h', toks := tk } C _ t' s₃ m₃ E' F N (by omega) (by omega) hn' hm (up _ s₃ hk)) (fun y s₄ h₄ => ⟨?_, h₄.2⟩) fun _ _ e => e
    refine cutG fun Pc kc => ?_
    obtain ⟨T, its, e, h1, h2, h3⟩ := h₄.1
    refine kc ?_
    clear kc Pc
    exact ⟨T, its, e, h1, h2, _, ⟨_, rfl⟩, h3⟩
  · intro D h'' tk' ys vs' hnew hplD hlen hP hF hyD hns hk
    have hi : AreOf .int vs' (rangeInts a₀ 1 n) := AreOf.of_get (hlen.trans (rangeInts_length _ _ _).symm) fun j v hv => ⟨_, rangeInts_get (hP j v hv).1, (hP j v hv).2⟩
    have keep : ∀ b o, b ≠ env.locals → h'.get? b = some o → h''.get? b = some o := fun b o hb e => hk b o hb (fun hm => by rcases List.mem_cons.mp hm with rfl | hm; exact Nat.lt_irrefl _ (Heap.lt_size e); cases hm) (Heap.get?_push_of_some _ e)
    have fresh : ∀ T, (h'.push { cls := .type "range_iterator", data := .fields #[rawInt a₀, rawInt (Builtin.Range.rangeSize a₀ (a₀ + (n : Int)) 1), rawInt 1] }).get? T = none → h'.get? T = none := fun T hT => by
      cases e : h'.get? T with
      | none => rfl
      | some o' => rw [Heap.get?_push_of_some _ e] at hT; cases hT
    have fresh0 : ∀ T, h'.get? T = none → h₀.get? T = none := fun T hT => by
      cases e : h₀.get? T with
      | none => rfl
      | some o' => rw [F.keep _ _ e] at hT; cases hT
    refine cutG fun Pc kc => ?_
    obtain ⟨ts, ey, h2, h3⟩ := rows_of hi hF
    refine kc ?_
    clear kc Pc
    obtain ⟨k, ek⟩ := hplD
    have F' : Fr h₀ env.locals h'' (fun z => if z = y then some (.ref D) else m z) := ⟨hns, fun b o e => keep b o (Nat.ne_of_lt (Nat.lt_of_lt_of_le (Heap.lt_size e) F.above)) (F.keep b o e), F.above⟩
    have hDn : ∀ q ∈ news ++ ts, q.1 ≠ D := by
      intro q hq e
      rcases List.mem_append.mp hq with hq | hq
      · have := (N q hq).1
        rw [e, fresh D hnew] at this; cases this
      · exact hyD (.ref q.1) (by rw [ey]; exact List.mem_map.mpr ⟨q, hq, rfl⟩) (by rw [e])
    refine hQ D ts k h'' tk' F' ?_ h3 hDn ?_
    · intro q hq
      rcases List.mem_cons.mp hq with rfl | hq
      · refine ⟨?_, ?_, fresh0 _ (fresh _ hnew)⟩
        · show h''.get? D = _
          rw [ek, ← ey]
        · intro e
          refine cutG fun Pc kc => ?_
          obtain ⟨oL, es, ep, hL, hdL, _⟩ := F'.ns
          refine kc ?_
          clear kc Pc
          have e' : D = env.locals := e
          rw [← e', ek] at hL
          cases hL; cases hdL
      · rcases List.mem_append.mp hq with hq | hq
        · exact ⟨keep _ _ (N q hq).2.1 (N q hq).1, (N q hq).2⟩
        · refine cutG fun Pc kc => ?_
          obtain ⟨z1, z2, its, n', z3⟩ := h2 q hq
          refine kc ?_
          clear kc Pc
          refine ⟨z2, ?_, fresh0 _ (fresh _ z1)⟩
          intro e
          refine cutG fun Pc kc => ?_
          obtain ⟨oL, es, ep, hL, hdL, _⟩ := F'.ns
          refine kc ?_
          clear kc Pc
          rw [← e, z2] at hL
          cases hL
          rw [z3] at hdL; cases hdL
    · intro p hp q hq e
      have := (N q hq).1
      rw [← e, fresh _ (h2 p hp).1] at this; cases this
end
end
section
open _root_.PySem _root_.PySem.W _root_.PyProof.Rows
theorem triples_app {a b c : Value} (ha : ∃ i t, a = .int i t) (hb : ∃ i t, b = .int i t) (l : List Value) (h : TriplesOk l) : TriplesOk (l ++ [a, b, c]) := by
  refine cutG fun Pc kc => ?_
  obtain ⟨i, t, rfl⟩ := ha
  refine kc ?_
  clear kc Pc
  refine cutG fun Pc kc => ?_
  obtain ⟨j, u, rfl⟩ := hb
  refine kc ?_
  clear kc Pc
  fun_induction TriplesOk l with
  | case1 => exact trivial
  | case2 a t b u x rest ih => exact ih h
  | case3 => exact h.elim
theorem among_app {pos : Pos} {i j : Int} {t u : Tok} {c cv : Value} (l : List Value) (h : TriplesOk l) (hf : codeAmong pos (l ++ [.int i t, .int j u, c]) = some cv) : codeAmong pos l = some cv ∨ cv = c := by
  fun_induction TriplesOk l with
  | case1 =>
    simp only [List.nil_append, codeAmong] at hf
    split at hf
    · exact .inr (Option.some.inj hf).symm
    · cases hf
  | case2 a t b u x rest ih =>
    simp only [List.cons_append, codeAmong] at hf ⊢
    split
    · rename_i hc; rw [if_pos hc] at hf; exact .inl hf
    · rename_i hc; rw [if_neg hc] at hf; exact ih h hf
  | case3 => exact h.elim
/-- a code table whose rows all lead to code of one name, laid in lg -/
noncomputable def LamTab (qual : Str) (ps : Array Value) (lg : List (Addr × Obj)) : Prop :=
  TriplesOk ps.toList ∧ ∀ pos cv, codeAmong pos ps.toList = some cv → ∃ c' oc vs t, cv = .ref c' ∧ (c', oc) ∈ lg ∧ oc.data = .fields vs ∧ vs[1]? = some (.str qual t)
theorem LamTab.mono {qual : Str} {ps : Array Value} {lg lg' : List (Addr × Obj)} (h : LamTab qual ps lg) (hs : ∀ p ∈ lg, p ∈ lg') : LamTab qual ps lg' :=
  ⟨h.1, fun pos cv e => let ⟨c', oc, vs, t, e1, m, r⟩ := h.2 pos cv e; ⟨c', oc, vs, t, e1, hs _ m, r⟩⟩
section
variable {M : Model} {A : Around} {E : Value → Shared → Prop} {s : Shared} {h₀ : Heap} {L a c P : Addr} {m mg mb : Str → Option Value} {cn : Str} {cs : Scope} {ccd : Value} {cl : List (Str × Addr)} {news : List (Addr × Obj)} {g : Obj → List (Addr × Obj)}
  {p : Program} {loose : List Str} {mean : ExcName → Option Value} {name qual : Str} {params : Arguments} {body : PySem.Expr} {scope : Scope} {ps : Array Value} {pos : Pos} {firstLine : Nat} {clos : List (Str × Addr)}
theorem lam_any {Q : Value → Shared → Prop} {lg : List (Addr × Obj)} (F : Fr h₀ L s.heap m) (N : News h₀ L s.heap news) (T : Top p loose mean mg mb h₀) (C : CodeHd h₀ c P) (hcd : ccd = .ref c) (U : UpdF P (tabObj ps) news g) (LT : LamTab qual ps lg)
    (hcl : closureFor scope (envX cn cs L a ccd cl) = pure clos)
    (h : ∀ f cx cd oc ps' ctv h' tk, Fr h₀ L h' m → News h₀ L h' ((f, kla_obj name qual params body scope clos ((mg "__name__").getD .none) cx ctv) :: (cd, oc) :: g (tabObj ps')) →
      LamTab qual ps' ((cd, oc) :: lg) → (∃ oc' vs t, (cx, oc') ∈ (cd, oc) :: lg ∧ oc'.data = .fields vs ∧ vs[1]? = some (.str qual t)) → (∀ q ∈ news, q.1 < f) → (∀ q ∈ news, q.1 < cd) → Q (.ref f) { s with heap := h', toks := tk }) :
    wpAny M A (makeFunction name qual params (.expr body) scope (envX cn cs L a ccd cl) [] [] [] pos firstLine) Q E s := by
  cases hf : codeAmong pos ps.toList with
  | none =>
    refine kla_nest F N T C hcd U LT.1 hf hcl fun f c' oc vs t ctv h' tk F' N' hd hv l1 l2 => ?_
    refine h f c' c' oc _ ctv h' tk F' N' ⟨?_, fun pos' cv e => ?_⟩ ⟨oc, vs, t, .head _, hd, hv⟩ (fun q hq => Nat.lt_trans (l1 q hq) l2) l1
    · rw [Array.toList_append]
      exact triples_app ⟨_, _, rfl⟩ ⟨_, _, rfl⟩ _ LT.1
    · rw [Array.toList_append] at e
      rcases among_app _ LT.1 e with e | e
      · refine cutG fun Pc kc => ?_
        obtain ⟨c'', oc'', vs'', t'', e1, m1, r1⟩ := LT.2 _ _ e
        refine kc ?_
        clear kc Pc
        exact ⟨c'', oc'', vs'', t'', e1, .tail _ m1, r1⟩
      · exact ⟨c', oc, vs, t, e, .head _, hd, hv⟩
  | some cv =>
    refine cutG fun Pc kc => ?_
    obtain ⟨c', oc, vs, t, rfl, m1, hd, hv⟩ := LT.2 _ _ hf
    refine kc ?_
    clear kc Pc
    refine cutG fun Pc kc => ?_
    obtain ⟨own, rest, rfl, hgr, h1, h2⟩ := U.split
    refine kc ?_
    clear kc Pc
    refine kla_hit F N T C hcd (List.mem_append_right _ (.head _)) LT.1 hf hcl fun f ctv h' tk F' N' l1 => ?_
    refine h f c' f (kla_obj name qual params body scope clos ((mg "__name__").getD .none) c' ctv) ps ctv h' tk F' (fun q hq => ?_) (LT.mono fun _ m => .tail _ m) ⟨oc, vs, t, .tail _ m1, hd, hv⟩ l1 l1
    rw [hgr] at hq
    rcases List.mem_cons.mp hq with rfl | hq
    · exact N' _ (.head _)
    · exact N' q hq
end
theorem codeRec_in {h₀ h : Heap} {L : Addr} {news codes : List (Addr × Obj)} {m : Str → Option Value} {cx : Addr} {qual : Str} (F : Fr h₀ L h m) (N : News h₀ L h news) (CB : ∀ q ∈ codes, h₀.get? q.1 = some q.2)
    (hx : ∃ oc' vs t, (cx, oc') ∈ news ++ codes ∧ oc'.data = .fields vs ∧ vs[1]? = some (.str qual t)) : h.CodeRec (.ref cx) qual := by
  refine cutG fun Pc kc => ?_
  obtain ⟨oc, vs, t, hm, hd, hv⟩ := hx
  refine kc ?_
  clear kc Pc
  rcases List.mem_append.mp hm with hm | hm
  · exact ⟨cx, oc, vs, t, rfl, (N _ hm).1, hd, hv⟩
  · exact ⟨cx, oc, vs, t, rfl, F.keep _ _ (CB _ hm), hd, hv⟩
noncomputable def lamQ : Str := Str.ofString "_law_mend" ++ ".<locals>." ++ "<lambda>"
theorem ints_get : ∀ {vs : List Value} {ns : List Int}, IntsAre vs ns → ∀ {i : Nat} {v : Value}, vs[i]? = some v → ∃ t, v = .int (ns.getD i 0) t ∧ i < ns.length
  | _, _, .nil, _, _, h => nomatch h
  | _, _, .cons n t r, 0, v, h => ⟨t, (Option.some.inj h).symm, Nat.succ_pos _⟩
  | _, _, .cons n t r, i + 1, v, h => let ⟨t', e, hl⟩ := ints_get r (i := i) h; ⟨t', e, Nat.succ_lt_succ hl⟩
theorem ks_get {vs : List Value} {n : Nat} (h : IntsAre vs (rangeKs 0 n)) {i : Nat} {v : Value} (e : vs[i]? = some v) : ∃ t, v = .int (i : Int) t := by
  refine cutG fun Pc kc => ?_
  obtain ⟨t, rfl, hl⟩ := ints_get h e
  refine kc ?_
  clear kc Pc
  rw [rangeKs_length] at hl
  refine ⟨t, ?_⟩
  rw [rangeKs, List.getD_eq_getElem?_getD, List.getElem?_map, List.getElem?_range hl]
  simp
theorem hx_mono {cx : Addr} {qual : Str} {lg lg' : List (Addr × Obj)} (h : ∃ oc' vs t, (cx, oc') ∈ lg ∧ oc'.data = .fields vs ∧ vs[1]? = some (.str qual t)) (hs : ∀ p ∈ lg, p ∈ lg') :
    ∃ oc' vs t, (cx, oc') ∈ lg' ∧ oc'.data = .fields vs ∧ vs[1]? = some (.str qual t) := let ⟨oc', vs, t, hm, r⟩ := h; ⟨oc', vs, t, hs _ hm, r⟩
noncomputable def cutL (st : List Int) (way ah : Int) (n : Nat) : Int := bis (fun i => decide ((((st.take i).count (1 - way) : Nat) : Int) < ah)) n 0 n
noncomputable def cutR (st : List Int) (way ah : Int) (n : Nat) : Int := bis (fun i => !decide (ah < (((st.take i).count (1 - way) : Nat) : Int))) n 0 n
theorem bis_le {p q : Nat → Bool} (h : ∀ i, p i = true → q i = true) : ∀ (k : Nat) (lo hi : Int), lo ≤ hi → bis p k lo hi ≤ bis q k lo hi
  | 0, lo, hi, _ => Int.le_refl _
  | k + 1, lo, hi, hl => by
    show (if lo < hi then _ else lo) ≤ (if lo < hi then _ else lo)
    by_cases hlt : lo < hi
    · have e9 : (lo + hi).fdiv 2 = (lo + hi) / 2 := Int.fdiv_eq_ediv_of_nonneg _ (by decide)
      rw [if_pos hlt, if_pos hlt]
      cases hp : p ((lo + hi).fdiv 2).toNat with
      | true => rw [h _ hp, if_pos rfl, if_pos rfl]; exact bis_le h k _ _ (by omega)
      | false =>
        rw [if_neg (by decide)]
        cases q ((lo + hi).fdiv 2).toNat with
        | true =>
          rw [if_pos rfl]
          have h1 := bis_in p k lo ((lo + hi).fdiv 2) (by omega)
          have h2 := bis_in q k ((lo + hi).fdiv 2 + 1) hi (by omega)
          omega
        | false => rw [if_neg (by decide)]; exact bis_le h k _ _ (by omega)
    · rw [if_neg hlt, if_neg hlt]; exact Int.le_refl _
theorem cut_in (st : List Int) (way ah : Int) (n : Nat) : 0 ≤ cutL st way ah n ∧ cutL st way ah n ≤ cutR st way ah n ∧ cutR st way ah n ≤ n := by
  refine ⟨(bis_in _ n 0 n (by omega)).1, bis_le (fun i h => ?_) n 0 n (by omega), (bis_in _ n 0 n (by omega)).2⟩
  have h' := of_decide_eq_true h
  exact congrArg not (decide_eq_false (by omega))
end
section
open _root_.PySem _root_.PySem.W _root_.PyProof.Rows
noncomputable def RA (h : Heap) (vs : List Value) (ds : List PyData) : Prop := ∃ as, ReadsAll h vs ds as
theorem RA.nil {h : Heap} : RA h [] [] := ⟨_, .nil⟩
theorem RA.cons {h : Heap} {v : Value} {d : PyData} {vs : List Value} {ds : List PyData} (h1 : ∃ as, Reads h v d as) (h2 : RA h vs ds) : RA h (v :: vs) (d :: ds) :=
  let ⟨_, a⟩ := h1; let ⟨_, b⟩ := h2; ⟨_, .cons a b⟩
theorem RA.inv {h : Heap} {vs : List Value} {ds : List PyData} (x : RA h vs ds) : (vs = [] ∧ ds = []) ∨ ∃ v d vs' ds', vs = v :: vs' ∧ ds = d :: ds' ∧ (∃ as, Reads h v d as) ∧ RA h vs' ds' := by
  obtain ⟨as, r⟩ := x
  cases r with
  | nil => exact .inl ⟨rfl, rfl⟩
  | cons a b => exact .inr ⟨_, _, _, _, rfl, rfl, ⟨_, a⟩, ⟨_, b⟩⟩
theorem RA.append {h : Heap} {ws : List Value} {es : List PyData} (y : RA h ws es) : ∀ {vs : List Value} {ds : List PyData}, RA h vs ds → RA h (vs ++ ws) (ds ++ es) := by
  intro vs
  induction vs with
  | nil =>
    intro ds x
    rcases x.inv with ⟨_, rfl⟩ | ⟨_, _, _, _, e, _⟩
    · exact y
    · cases e
  | cons v vs ih =>
    intro ds x
    rcases x.inv with ⟨e, _⟩ | ⟨_, _, _, _, e, rfl, a, b⟩
    · cases e
    · cases e; exact .cons a (ih b)
theorem RA.len {h : Heap} : ∀ {vs : List Value} {ds : List PyData}, RA h vs ds → vs.length = ds.length := by
  intro vs
  induction vs with
  | nil =>
    intro ds x
    rcases x.inv with ⟨_, rfl⟩ | ⟨_, _, _, _, e, _⟩
    · rfl
    · cases e
  | cons v vs ih =>
    intro ds x
    rcases x.inv with ⟨e, _⟩ | ⟨_, _, _, _, e, rfl, a, b⟩
    · cases e
    · cases e; exact congrArg Nat.succ (ih b)
theorem RA.take {h : Heap} : ∀ {vs : List Value} {ds : List PyData}, RA h vs ds → ∀ k, RA h (vs.take k) (ds.take k) := by
  intro vs
  induction vs with
  | nil =>
    intro ds x k
    rcases x.inv with ⟨_, rfl⟩ | ⟨_, _, _, _, e, _⟩
    · simpa using x
    · cases e
  | cons v vs ih =>
    intro ds x k
    rcases x.inv with ⟨e, _⟩ | ⟨_, _, _, _, e, rfl, a, b⟩
    · cases e
    · cases e
      cases k with
      | zero => exact .nil
      | succ k => exact .cons a (ih b k)
theorem RA.drop {h : Heap} : ∀ {vs : List Value} {ds : List PyData}, RA h vs ds → ∀ k, RA h (vs.drop k) (ds.drop k) := by
  intro vs
  induction vs with
  | nil =>
    intro ds x k
    rcases x.inv with ⟨_, rfl⟩ | ⟨_, _, _, _, e, _⟩
    · simpa using x
    · cases e
  | cons v vs ih =>
    intro ds x k
    rcases x.inv with ⟨e, _⟩ | ⟨_, _, _, _, e, rfl, a, b⟩
    · cases e
    · cases e
      cases k with
      | zero => exact .cons a b
      | succ k => exact ih b k
noncomputable def insP {α : Type} (l : List α) (x : Int) (y : α) : List α := l.take (min x.toNat l.length) ++ y :: l.drop (min x.toNat l.length)
theorem RA.ins {h : Heap} {vs : List Value} {ds : List PyData} {v : Value} {d : PyData} (x : RA h vs ds) (y : ∃ as, Reads h v d as) {k : Int} (hk : 0 ≤ k) : RA h (kl_ins vs k v) (insP ds k d) := by
  unfold kl_ins insP
  rw [if_neg (by omega), x.len]
  exact RA.append (.cons y (x.drop _)) (x.take _)
theorem RA.ints {h : Heap} {vs : List Value} {ns : List Int} (x : IntsAre vs ns) : RA h vs (ns.map .int) := ⟨_, readsAll_of_ints x⟩
theorem RA.list {g h : Heap} {L a : Addr} {l : List (Addr × Obj)} {vs : List Value} {ds : List PyData} {k : Nat} (N : News g L h l) (hm : (a, listOf vs.toArray k) ∈ l) (x : RA h vs ds) : ∃ as, Reads h (.ref a) (.list ds) as :=
  let ⟨_, r⟩ := x
  ⟨_, .list (N _ hm).1 rfl rfl r⟩
theorem RA.rows {h : Heap} : ∀ {ts : List (Addr × Obj)} {ds : List (List Int)}, RowsAre ts ds → (∀ p ∈ ts, h.get? p.1 = some p.2) → RA h (ts.map fun p => Value.ref p.1) (ds.map fun d => .list (d.map .int))
  | _, _, .nil, _ => .nil
  | _, _, .cons (a := p) ⟨hc, its, n, hd, hi⟩ r, hp => by
    obtain ⟨as, ra⟩ := RA.ints (h := h) hi
    exact .cons ⟨_, .list (hp p (.head _)) hc hd ra⟩ (RA.rows r fun q hq => hp q (.tail _ hq))
noncomputable def keyP (way lo : Int) (ns : List Int) (i : Nat) : Int := if way = 1 then (ns ++ [lo]).getD i 0 else -(ns ++ [lo]).getD i 0
noncomputable def posL (way lo : Int) (ns : List Int) (bl bh : Int) : Int := bis (fun i => decide (keyP way lo ns i < keyP way lo ns ns.length)) (bh - bl).toNat bl bh
noncomputable def posR (way lo : Int) (ns : List Int) (bl bh : Int) : Int := bis (fun i => !decide (keyP way lo ns ns.length < keyP way lo ns i)) (bh - bl).toNat bl bh
noncomputable def pairsP (ns : List Int) : List PyData := (rangeInts 0 1 ns.length).map fun i => .list [.int (ns.getD i.toNat 0), .int i]
noncomputable def mendT (tn lp lo way bl bh : Int) (ns : List Int) : PyData :=
  .list [.int (-tn), .int (-lp), .list (insP (pairsP ns) (posL way lo ns bl bh) (.list [.int lo, .int (-1)])), .list (insP (pairsP ns) (posR way lo ns bl bh) (.list [.int lo, .int (-1)])), .list [.none, .none]]
theorem RA.pairs {h : Heap} {ts : List (Addr × Obj)} {ns : List Int} (x : RowsAre ts ((rangeInts 0 1 ns.length).map fun i => [ns.getD i.toNat 0, i])) (hp : ∀ p ∈ ts, h.get? p.1 = some p.2) : RA h (ts.map fun p => Value.ref p.1) (pairsP ns) := by
  have := RA.rows x hp
  rw [List.map_map] at this
  exact this
theorem RA.two {h : Heap} {a b : Int} {t u : Tok} : RA h [.int a t, .int b u] [.int a, .int b] := .cons ⟨_, .int _ _⟩ (.cons ⟨_, .int _ _⟩ .nil)
theorem RA.nones {h : Heap} : RA h [.none, .none] [.none, .none] := .cons ⟨_, .none⟩ (.cons ⟨_, .none⟩ .nil)
theorem pos_in {way lo : Int} {ns : List Int} {bl bh : Int} (h0 : 0 ≤ bl) (h : bl ≤ bh) : 0 ≤ posL way lo ns bl bh ∧ 0 ≤ posR way lo ns bl bh := by
  have h1 := bis_in (fun i => decide (keyP way lo ns i < keyP way lo ns ns.length)) (bh - bl).toNat bl bh h
  have h2 := bis_in (fun i => !decide (keyP way lo ns ns.length < keyP way lo ns i)) (bh - bl).toNat bl bh h
  unfold posL posR
  omega
end
section
open _root_.PySem _root_.PySem.W _root_.PyProof.Rows
noncomputable def stp (ns : List Int) : List Int := (rangeInts 0 1 (ns.length - 1)).map fun k => if decide (ns.getD k.toNat 0 ≤ ns.getD (k + 1).toNat 0) = true then 1 else 0
noncomputable def climbP (ns : List Int) : Int := (((rangeInts 0 1 (ns.length - 1)).filter fun k => (stp ns).getD k.toNat 0 == 1).map fun k => k + 1).sum
noncomputable def lackP (cb : Int) (ns : List Int) : Int := (cb - climbP ns).fmod (ns.length + 1)
noncomputable def wayP (cb : Int) (ns : List Int) : Int := if lackP cb ns ≤ (stp ns).sum then 0 else 1
noncomputable def aheadP (cb : Int) (ns : List Int) : Int := if lackP cb ns ≤ (stp ns).sum then (stp ns).sum - (cb - climbP ns).fmod (ns.length + 1) else (cb - climbP ns).fmod (ns.length + 1) - (stp ns).sum - 1
noncomputable def mendR (tn lo cb : Int) (ns : List Int) : PyData := mendT tn ((cb - climbP ns).fdiv (ns.length + 1)) lo (wayP cb ns) (cutL (stp ns) (wayP cb ns) (aheadP cb ns) ns.length) (cutR (stp ns) (wayP cb ns) (aheadP cb ns) ns.length) ns
noncomputable def MendQ (w : World) (mean : ExcName → Option Value) (mg mb : Str → Option Value) (loose : List Str) (dp un : Nat) (gd : Option (List Code)) (cn : Str) (cs : Scope) (L a : Addr) (ccd : Value) (cl : List (Str × Addr)) (outer : List Env) (base g : Heap) (K' : Addr) : Prop :=
  ∀ (s : Shared) (qk : Flow → Shared → Prop) (ek : Value → Shared → Prop)
   (codes : List (Addr × Obj)) (c1 c2 ra : Addr) (oc1 oc2 o1 o2 o3 : Obj) (p1 p2 p5 : Array Value) (vs : List Value) (ns : List Int) (kk : Nat) (port kinds cb tot tn lo : Int) (t1 t2 t3 t4 t5 t6 t7 : Tok)
    (B : Below (ktrTop dp un gd cn cs L a ccd cl outer) base (envX cn cs L a ccd cl :: outer) g) (X : (hd.heap_1 w.params).In g) (T : Top topProg loose mean mg mb g) (C : CodeHd base 70 66) (C2 : CodeHd base 77 73) (C3 : CodeHd base 154 152) (hd9 : dp + 16 < recursionLimit) (hu9 : un + 200 < cLine) (F : Fr g K' s.heap (fun y => if y = Str.ofString "lost" then some (.int lo t6) else if y = Str.ofString "turns" then some (.int tn t5) else if y = Str.ofString "total" then some (.int tot t4) else if y = Str.ofString "climbs" then some (.int cb t3) else if y = Str.ofString "size" then some (.int (ns.length + 1) t7) else if y = Str.ofString "kinds" then some (.int kinds t2) else if y = Str.ofString "port" then some (.int port t1) else none)) (N : News g K' s.heap [(66, tabObj p1), (73, tabObj p2), (c1, oc1), (c2, oc2), (K' + 1 + 1 + 1, o1), (K' + 1 + 1, o2), (K' + 1, o3), (152, tabObj p5), (ra, listOf vs.toArray kk)]) (e1 : o1.data = .cell none) (e2 : o2.data = .cell none) (e3 : o3.data = .cell (some (.ref ra))) (LTB : LamTab lamQ p5 codes) (CB : ∀ q ∈ codes, g.get? q.1 = some q.2) (S : TabSt 85 4 "_int2digits.<locals>.inner" p1 [(c1, oc1)]) (S2 : TabSt 100 4 "_digits2int.<locals>.inner" p2 [(c2, oc2)]) (d1 : ∃ vs, oc1.data = .fields vs) (d2 : ∃ vs, oc2.data = .fields vs) (hc1 : @LT.lt Nat _ 160 c1) (hc2 : @LT.lt Nat _ 160 c2) (hra : @LT.lt Nat _ 160 ra) (l0 : @LT.lt Nat _ ra K') (l1 : @LT.lt Nat _ 160 K') (hints : IntsAre vs ns) (hk2 : 2 ≤ kinds) (hk6 : kinds ≤ 6) (hlen4 : 4 ≤ ns.length) (hlen9 : ns.length ≤ 9) (hrow : ∀ i ∈ ns, 0 ≤ i ∧ i < kinds) (hcb0 : 0 ≤ cb) (hcb : cb ≤ 30) (hlo0 : 0 ≤ lo) (hlo : lo < kinds) (ret : ∀ (h' : Heap) (tk' : Nat) (R0 : Addr) (mm : Str → Option Value) (lg : List (Addr × Obj)) (ps' : Array Value) (fp : List Addr) (c1' c2' : Addr) (oc1' oc2' : Obj) (p1' p2' : Array Value), Fr g K' h' mm → News g K' h' ([(66, tabObj p1'), (73, tabObj p2'), (c1', oc1'), (c2', oc2'), (152, tabObj ps'), (ra, listOf vs.toArray kk)] ++ lg) → (∀ q ∈ lg, q.1 ∉ [66, 73, c1', c2', 152]) → LamTab lamQ ps' (lg ++ codes) → Reads h' (.ref R0) (mendR tn lo cb ns) fp → TabSt 85 4 "_int2digits.<locals>.inner" p1' [(c1', oc1')] → TabSt 100 4 "_digits2int.<locals>.inner" p2' [(c2', oc2')] → @LT.lt Nat _ 160 c1' → @LT.lt Nat _ 160 c2' → qk (.ret (.ref R0)) { s with heap := h', toks := tk' }),
   wpAny (model PySem.Challenge.rw_ta0052_01.row.prog w) ((ktrTop dp un gd cn cs L a ccd cl outer).deeper (envOfC (Str.ofString "_law_mend") (scopeOf (topStmt 21)) K' 155 (.ref 154))) (execs ((bodyOf (topStmt 21)).drop 3) (envOfC (Str.ofString "_law_mend") (scopeOf (topStmt 21)) K' 155 (.ref 154))) qk ek s
abbrev MCtx : Type := World × (ExcName → Option Value) × (Str → Option Value) × (Str → Option Value) × (List Str) × Nat × Nat × (Option (List Code)) × Str × Scope × Addr × Addr × Value × (List (Str × Addr)) × (List Env) × Heap × Heap × Addr
theorem mctx : Nonempty MCtx := ⟨⟨⟨fun _ _ => 0, { strHash := fun _ => 0, shareClass := fun _ => 0, mergeTok := fun _ => 0, idOf := fun _ => 0, idOfShared := fun _ _ => 0, followText := fun _ => false, idOfImm := fun _ => 0 }⟩, fun _ => none, fun _ => none, fun _ => none, [], 0, 0, none, Str.ofString "", default, 0, 0, .none, [], [], {}, {}, 0⟩⟩
noncomputable def LM.c : MCtx := @Classical.epsilon MCtx mctx fun c => ¬ MendQ c.1 c.2.1 c.2.2.1 c.2.2.2.1 c.2.2.2.2.1 c.2.2.2.2.2.1 c.2.2.2.2.2.2.1 c.2.2.2.2.2.2.2.1 c.2.2.2.2.2.2.2.2.1 c.2.2.2.2.2.2.2.2.2.1 c.2.2.2.2.2.2.2.2.2.2.1 c.2.2.2.2.2.2.2.2.2.2.2.1 c.2.2.2.2.2.2.2.2.2.2.2.2.1 c.2.2.2.2.2.2.2.2.2.2.2.2.2.1 c.2.2.2.2.2.2.2.2.2.2.2.2.2.2.1 c.2.2.2.2.2.2.2.2.2.2.2.2.2.2.2.1 c.2.2.2.2.2.2.2.2.2.2.2.2.2.2.2.2.1 c.2.2.2.2.2.2.2.2.2.2.2.2.2.2.2.2.2
@[irreducible] noncomputable def LM.w : World := LM.c.1
@[irreducible] noncomputable def LM.mean : ExcName → Option Value := LM.c.2.1
@[irreducible] noncomputable def LM.mg : Str → Option Value := LM.c.2.2.1
@[irreducible] noncomputable def LM.mb : Str → Option Value := LM.c.2.2.2.1
@[irreducible] noncomputable def LM.loose : List Str := LM.c.2.2.2.2.1
@[irreducible] noncomputable def LM.dp : Nat := LM.c.2.2.2.2.2.1
@[irreducible] noncomputable def LM.un : Nat := LM.c.2.2.2.2.2.2.1
@[irreducible] noncomputable def LM.gd : Option (List Code) := LM.c.2.2.2.2.2.2.2.1
@[irreducible] noncomputable def LM.cn : Str := LM.c.2.2.2.2.2.2.2.2.1
@[irreducible] noncomputable def LM.cs : Scope := LM.c.2.2.2.2.2.2.2.2.2.1
@[irreducible] noncomputable def LM.L : Addr := LM.c.2.2.2.2.2.2.2.2.2.2.1
@[irreducible] noncomputable def LM.a : Addr := LM.c.2.2.2.2.2.2.2.2.2.2.2.1
@[irreducible] noncomputable def LM.ccd : Value := LM.c.2.2.2.2.2.2.2.2.2.2.2.2.1
@[irreducible] noncomputable def LM.cl : List (Str × Addr) := LM.c.2.2.2.2.2.2.2.2.2.2.2.2.2.1
@[irreducible] noncomputable def LM.outer : List Env := LM.c.2.2.2.2.2.2.2.2.2.2.2.2.2.2.1
@[irreducible] noncomputable def LM.base : Heap := LM.c.2.2.2.2.2.2.2.2.2.2.2.2.2.2.2.1
@[irreducible] noncomputable def LM.g : Heap := LM.c.2.2.2.2.2.2.2.2.2.2.2.2.2.2.2.2.1
@[irreducible] noncomputable def LM.K' : Addr := LM.c.2.2.2.2.2.2.2.2.2.2.2.2.2.2.2.2.2
theorem LM.all (h : MendQ LM.w LM.mean LM.mg LM.mb LM.loose LM.dp LM.un LM.gd LM.cn LM.cs LM.L LM.a LM.ccd LM.cl LM.outer LM.base LM.g LM.K') (w : World) (mean : ExcName → Option Value) (mg mb : Str → Option Value) (loose : List Str) (dp un : Nat) (gd : Option (List Code)) (cn : Str) (cs : Scope) (L a : Addr) (ccd : Value) (cl : List (Str × Addr)) (outer : List Env) (base g : Heap) (K' : Addr) : MendQ w mean mg mb loose dp un gd cn cs L a ccd cl outer base g K' := by
  apply Classical.byContradiction
  intro hn
  have e : ¬ MendQ LM.c.1 LM.c.2.1 LM.c.2.2.1 LM.c.2.2.2.1 LM.c.2.2.2.2.1 LM.c.2.2.2.2.2.1 LM.c.2.2.2.2.2.2.1 LM.c.2.2.2.2.2.2.2.1 LM.c.2.2.2.2.2.2.2.2.1 LM.c.2.2.2.2.2.2.2.2.2.1 LM.c.2.2.2.2.2.2.2.2.2.2.1 LM.c.2.2.2.2.2.2.2.2.2.2.2.1 LM.c.2.2.2.2.2.2.2.2.2.2.2.2.1 LM.c.2.2.2.2.2.2.2.2.2.2.2.2.2.1 LM.c.2.2.2.2.2.2.2.2.2.2.2.2.2.2.1 LM.c.2.2.2.2.2.2.2.2.2.2.2.2.2.2.2.1 LM.c.2.2.2.2.2.2.2.2.2.2.2.2.2.2.2.2.1 LM.c.2.2.2.2.2.2.2.2.2.2.2.2.2.2.2.2.2 := Classical.epsilon_spec (p := fun c : MCtx => ¬ MendQ c.1 c.2.1 c.2.2.1 c.2.2.2.1 c.2.2.2.2.1 c.2.2.2.2.2.1 c.2.2.2.2.2.2.1 c.2.2.2.2.2.2.2.1 c.2.2.2.2.2.2.2.2.1 c.2.2.2.2.2.2.2.2.2.1 c.2.2.2.2.2.2.2.2.2.2.1 c.2.2.2.2.2.2.2.2.2.2.2.1 c.2.2.2.2.2.2.2.2.2.2.2.2.1 c.2.2.2.2.2.2.2.2.2.2.2.2.2.1 c.2.2.2.2.2.2.2.2.2.2.2.2.2.2.1 c.2.2.2.2.2.2.2.2.2.2.2.2.2.2.2.1 c.2.2.2.2.2.2.2.2.2.2.2.2.2.2.2.2.1 c.2.2.2.2.2.2.2.2.2.2.2.2.2.2.2.2.2) ⟨(w, mean, mg, mb, loose, dp, un, gd, cn, cs, L, a, ccd, cl, outer, base, g, K'), hn⟩
  unfold LM.w LM.mean LM.mg LM.mb LM.loose LM.dp LM.un LM.gd LM.cn LM.cs LM.L LM.a LM.ccd LM.cl LM.outer LM.base LM.g LM.K' at h
  exact e h
end
section
open _root_.PySem _root_.PySem.W _root_.PyProof.Rows
local macro_rules | `(tactic| k_mem) => `(tactic| assumption)
local macro_rules | `(tactic| k_all) => `(tactic| assumption)
local macro_rules | `(tactic| walk_at "my c") => `(tactic| solve | k_asm | exact rfl | k_mem | k_all | omega | ((try simp only [depth_deeper, units_deeper]); (try dsimp only); omega) | walk_at "my p")
section
open _root_.PySem _root_.PySem.W _root_.PyProof.Rows
local macro_rules | `(tactic| walk_at "truthy ref") => rowR `truthy_ints "amsoH"
local macro_rules | `(tactic| walk_at "call builtin:len") => rowR `len_ints "amso"
section
open _root_.PySem _root_.PySem.W _root_.PyProof.Rows
theorem fresh_14 : True := by (w_top off); exact trivial
open LM
local macro_rules | `(tactic| k_lt $h) => `(tactic| (replace $h := allLt_of $h; simp only [AllLt, and_true] at $h:ident))
local macro_rules | `(tactic| k_ne) => `(tactic| (refine neN ?_; (try dsimp only); omega))
theorem rows_len {ts : List (Addr × Obj)} {n : Nat} {d : Int → List Int} (h : RowsAre ts ((rangeInts 0 1 n).map d)) : ts.length = n := by
  have := h.length
  rwa [List.length_map, rangeInts_length] at this
theorem news_alter {g h : Heap} {L a : Addr} {o o' : Obj} {l : List (Addr × Obj)} (N : News g L h ((a, o) :: l)) (e : o = o') : News g L h ((a, o') :: l) := e ▸ N
theorem notin5 {x a b c d e : Addr} (h1 : x ≠ a) (h2 : x ≠ b) (h3 : x ≠ c) (h4 : x ≠ d) (h5 : x ≠ e) : x ∉ [a, b, c, d, e] := by simp [h1, h2, h3, h4, h5]
theorem news_drop2 {g h : Heap} {L : Addr} {a b : Addr × Obj} {l : List (Addr × Obj)} (N : News g L h (a :: b :: l)) : News g L h (a :: l) := fun p hp => N p (by rcases List.mem_cons.mp hp with e | hp; exact e ▸ .head _; exact .tail _ (.tail _ hp))
theorem paired_get {α β : Type} {F : α → β → Prop} : ∀ {l₁ : List α} {l₂ : List β}, Paired F l₁ l₂ → ∀ {i : Nat} {a : α}, l₁[i]? = some a → ∃ b, l₂[i]? = some b ∧ F a b
  | _, _, .nil, _, _, h => nomatch h
  | _, _, .cons h t, 0, a, e => ⟨_, rfl, by cases e; exact h⟩
  | _, _, .cons h t, i + 1, a, e => paired_get t (i := i) e
theorem pair_get {ts news : List (Addr × Obj)} {ns : List Int} {lo : Int} {P : Addr} {oP : Obj} {itP : Array Value} {nP : Nat} {uP : Tok} {gg hh : Heap} {LL : Addr} (N : News gg LL hh news) (hr : RowsAre ts ((rangeInts 0 1 ns.length).map fun i => [ns.getD i.toNat 0, i]))
    (hP : (P, oP) ∈ news) (h1 : oP.cls = .type "list") (h2 : oP.data = .seq itP nP) (h3 : itP[0]? = some (.int lo uP)) (hts : ∀ q ∈ ts, q ∈ news) {i : Nat} {v : Value} (h : (ts.map (fun p => Value.ref p.1) ++ [.ref P])[i]? = some v) :
    ∃ T o its n u, v = .ref T ∧ (T, o) ∈ news ∧ o.cls = .type "list" ∧ o.data = .seq its n ∧ its[0]? = some (.int ((ns ++ [lo]).getD i 0) u) := by
  have hl : ts.length = ns.length := rows_len hr
  by_cases hi : i < ns.length
  · rw [List.getElem?_append_left (by rw [List.length_map]; omega), List.getElem?_map] at h
    refine cutG fun Pc kc => ?_
    obtain ⟨p, hp⟩ : ∃ p, ts[i]? = some p := ⟨_, List.getElem?_eq_getElem (by omega)⟩
    refine kc ?_
    clear kc Pc
    rw [hp] at h
    refine cutG fun Pc kc => ?_
    obtain ⟨d, hd, hc, its, n, hda, hia⟩ := paired_get hr hp
    refine kc ?_
    clear kc Pc
    rw [List.getElem?_map, rangeInts_get hi] at hd
    have hd' : [ns.getD i 0, (i : Int)] = d := by simpa using hd
    subst hd'
    refine ⟨p.1, p.2, its, n, ?_⟩
    generalize hx : its.toList = l at hia
    cases hia with
    | cons x t r =>
      refine ⟨t, (Option.some.inj h).symm, hts _ (List.mem_of_getElem? hp), hc, hda, ?_⟩
      rw [← Array.getElem?_toList, hx, List.getD_eq_getElem?_getD, List.getD_eq_getElem?_getD, List.getElem?_append_left hi]
      rfl
  · have hi' : i = ns.length := by
      have := (List.getElem?_eq_some_iff.mp h).1
      rw [List.length_append, List.length_map] at this
      simp at this; omega
    subst hi'
    rw [List.getElem?_append_right (by rw [List.length_map]; omega), List.length_map, hl, Nat.sub_self] at h
    refine ⟨P, oP, itP, nP, uP, (Option.some.inj h).symm, hP, h1, h2, ?_⟩
    rw [h3, List.getD_eq_getElem?_getD, List.getElem?_append_right (Nat.le_refl _), Nat.sub_self]
    rfl
section
local macro_rules | `(tactic| walk_at "eval Lambda") => rowW `kla_eval "r" `lam_any "aaa>r<CUsrw.........N..LL"
local macro_rules | `(tactic| walk_at "subscriptTail") => rowR `PyProof.Rows.item_list "sdds>uvw"
local macro_rules | `(tactic| k_all) => `(tactic| (repeat' first | (with_reducible exact ne0) | assumption | (refine tbn_neAll ?_; tbn_find) | (refine neC (by k_ne) ?_)))
noncomputable def mendd.R (s : Shared) (qk : Flow → Shared → Prop) (ek : Value → Shared → Prop) (codes R ts1 ts2 : List (Addr × Obj)) (c1 c2 ra Df Dr m1 m2 : Addr) (oc1 oc2 o1 o2 o3 om1 om2 : Obj) (p1 p2 p5 : Array Value) (vs : List Value) (ns : List Int) (kk k1 k2 : Nat) (lo way bl bh tn lp : Int) (x1 x2 x3 x5 x6 x7 x8 x9 xs : Value) (t1 t2 t3 t4 t5 t6 t7 : Tok) : Prop :=
  ∀ (B : Below (ktrTop dp un gd cn cs L a ccd cl outer) base (envX cn cs L a ccd cl :: outer) g) (X : (hd.heap_1 w.params).In g) (T : Top topProg loose mean mg mb g) (C : CodeHd base 70 66) (C2 : CodeHd base 77 73) (C3 : CodeHd base 154 152) (hd9 : dp + 16 < recursionLimit) (hu9 : un + 200 < cLine) (F : Fr g K' s.heap (fun y => if y = Str.ofString "rear" then some (.ref Dr) else if y = Str.ofString "front" then some (.ref Df) else if y = Str.ofString "behind" then some (.int bh t5) else if y = Str.ofString "begin" then some (.int bl t6) else if y = Str.ofString "spots" then some (xs) else if y = Str.ofString "ahead" then some (x9) else if y = Str.ofString "lack" then some (x1) else if y = Str.ofString "laps" then some (.int lp t1) else if y = Str.ofString "ups" then some (x3) else if y = Str.ofString "lost" then some (.int lo t2) else if y = Str.ofString "turns" then some (.int tn t7) else if y = Str.ofString "total" then some (x5) else if y = Str.ofString "climbs" then some (x6) else if y = Str.ofString "size" then some (.int (ns.length + 1) t3) else if y = Str.ofString "kinds" then some (x7) else if y = Str.ofString "port" then some (x8) else none)) (N : News g K' s.heap ((Dr, listOf (ts2.map fun p => Value.ref p.1).toArray k2) :: (Df, listOf (ts1.map fun p => Value.ref p.1).toArray k1) :: (m2, om2) :: (m1, om1) :: (66, tabObj p1) :: (73, tabObj p2) :: (c1, oc1) :: (c2, oc2) :: (K' + 1 + 1 + 1, o1) :: (K' + 1 + 1, o2) :: (K' + 1, o3) :: (152, tabObj p5) :: (ra, listOf vs.toArray kk) :: R)) (e1 : o1.data = .cell (some (.int way t4))) (LTB : LamTab lamQ p5 ((m2, om2) :: (m1, om1) :: codes)) (CB : ∀ q ∈ codes, g.get? q.1 = some q.2) (hc1 : @LT.lt Nat _ 160 c1) (hc2 : @LT.lt Nat _ 160 c2) (hra : @LT.lt Nat _ 160 ra) (hm1 : @LT.lt Nat _ 160 m1) (hm2 : @LT.lt Nat _ 160 m2) (hmc : (@LT.lt Nat _ c1 m1 ∧ @LT.lt Nat _ c2 m1) ∧ @LT.lt Nat _ c1 m2 ∧ @LT.lt Nat _ c2 m2) (l1 : @LT.lt Nat _ 160 K') (hnF : ∀ x ∈ ([m2, m1, 66, 73, c1, c2, K' + 1 + 1 + 1, K' + 1 + 1, K' + 1, 152, ra] : List Addr), x ≠ Df) (hnR : ∀ x ∈ ([Df, m2, m1, 66, 73, c1, c2, K' + 1 + 1 + 1, K' + 1 + 1, K' + 1, 152, ra] : List Addr), x ≠ Dr) (hnF9 : @Ne Nat Df 152) (hnR9 : @Ne Nat Dr 152) (hR1 : ∀ q ∈ R, q.1 ≠ Df) (hR2 : ∀ q ∈ R, q.1 ≠ Dr) (hR3 : ∀ q ∈ R, q.1 ≠ 152) (ht1 : ∀ q ∈ ts1, q ∈ R) (ht2 : ∀ q ∈ ts2, q ∈ R) (hr1 : RowsAre ts1 ((rangeInts 0 1 ns.length).map fun i => [ns.getD i.toNat 0, i])) (hr2 : RowsAre ts2 ((rangeInts 0 1 ns.length).map fun i => [ns.getD i.toNat 0, i])) (hlen4 : 4 ≤ ns.length) (hlen9 : ns.length ≤ 9) (hway : way = 0 ∨ way = 1) (hb0 : 0 ≤ bl) (hbb : bl ≤ bh) (hbh : bh ≤ ns.length) (ret : ∀ (h' : Heap) (tk' : Nat) (R0 : Addr) (mm : Str → Option Value) (lg : List (Addr × Obj)) (ps' : Array Value) (fp : List Addr), Fr g K' h' mm → News g K' h' ([(66, tabObj p1), (73, tabObj p2), (c1, oc1), (c2, oc2), (152, tabObj ps'), (ra, listOf vs.toArray kk)] ++ lg) → (∀ q ∈ lg, q.1 ∉ [66, 73, c1, c2, 152]) → LamTab lamQ ps' (lg ++ codes) → Reads h' (.ref R0) (mendT tn lp lo way bl bh ns) fp → qk (.ret (.ref R0)) { s with heap := h', toks := tk' }),
   wpAny (model PySem.Challenge.rw_ta0052_01.row.prog w) ((ktrTop dp un gd cn cs L a ccd cl outer).deeper (envOfC (Str.ofString "_law_mend") (scopeOf (topStmt 21)) K' 155 (.ref 154))) (execs ((bodyOf (topStmt 21)).drop 12) (envOfC (Str.ofString "_law_mend") (scopeOf (topStmt 21)) K' 155 (.ref 154))) qk ek s
abbrev mendd.T : Type := Shared × (Flow → Shared → Prop) × (Value → Shared → Prop) × (List (Addr × Obj)) × (List (Addr × Obj)) × (List (Addr × Obj)) × (List (Addr × Obj)) × Addr × Addr × Addr × Addr × Addr × Addr × Addr × Obj × Obj × Obj × Obj × Obj × Obj × Obj × (Array Value) × (Array Value) × (Array Value) × (List Value) × (List Int) × Nat × Nat × Nat × Int × Int × Int × Int × Int × Value × Value × Value × Value × Value × Value × Value × Value × Value × Tok × Tok × Tok × Tok × Tok × Tok × Tok
theorem mendd.ne : Nonempty mendd.T := ⟨({}, fun _ _ => True, fun _ _ => True, [], [], [], [], 0, 0, 0, 0, 0, 0, 0, default, default, default, default, default, default, default, #[], #[], #[], [], [], 0, 0, 0, 0, 0, 0, 0, 0, .none, .none, .none, .none, .none, .none, .none, .none, .none, 0, 0, 0, 0, 0, 0, 0)⟩
noncomputable def mendd.Q (c : mendd.T) : Prop := ∀ (way : Int), mendd.R c.1 c.2.1 c.2.2.1 c.2.2.2.1 c.2.2.2.2.1 c.2.2.2.2.2.1 c.2.2.2.2.2.2.1 c.2.2.2.2.2.2.2.1 c.2.2.2.2.2.2.2.2.1 c.2.2.2.2.2.2.2.2.2.1 c.2.2.2.2.2.2.2.2.2.2.1 c.2.2.2.2.2.2.2.2.2.2.2.1 c.2.2.2.2.2.2.2.2.2.2.2.2.1 c.2.2.2.2.2.2.2.2.2.2.2.2.2.1 c.2.2.2.2.2.2.2.2.2.2.2.2.2.2.1 c.2.2.2.2.2.2.2.2.2.2.2.2.2.2.2.1 c.2.2.2.2.2.2.2.2.2.2.2.2.2.2.2.2.1 c.2.2.2.2.2.2.2.2.2.2.2.2.2.2.2.2.2.1 c.2.2.2.2.2.2.2.2.2.2.2.2.2.2.2.2.2.2.1 c.2.2.2.2.2.2.2.2.2.2.2.2.2.2.2.2.2.2.2.1 c.2.2.2.2.2.2.2.2.2.2.2.2.2.2.2.2.2.2.2.2.1 c.2.2.2.2.2.2.2.2.2.2.2.2.2.2.2.2.2.2.2.2.2.1 c.2.2.2.2.2.2.2.2.2.2.2.2.2.2.2.2.2.2.2.2.2.2.1 c.2.2.2.2.2.2.2.2.2.2.2.2.2.2.2.2.2.2.2.2.2.2.2.1 c.2.2.2.2.2.2.2.2.2.2.2.2.2.2.2.2.2.2.2.2.2.2.2.2.1 c.2.2.2.2.2.2.2.2.2.2.2.2.2.2.2.2.2.2.2.2.2.2.2.2.2.1 c.2.2.2.2.2.2.2.2.2.2.2.2.2.2.2.2.2.2.2.2.2.2.2.2.2.2.1 c.2.2.2.2.2.2.2.2.2.2.2.2.2.2.2.2.2.2.2.2.2.2.2.2.2.2.2.1 c.2.2.2.2.2.2.2.2.2.2.2.2.2.2.2.2.2.2.2.2.2.2.2.2.2.2.2.2.1 c.2.2.2.2.2.2.2.2.2.2.2.2.2.2.2.2.2.2.2.2.2.2.2.2.2.2.2.2.2.1 way c.2.2.2.2.2.2.2.2.2.2.2.2.2.2.2.2.2.2.2.2.2.2.2.2.2.2.2.2.2.2.1 c.2.2.2.2.2.2.2.2.2.2.2.2.2.2.2.2.2.2.2.2.2.2.2.2.2.2.2.2.2.2.2.1 c.2.2.2.2.2.2.2.2.2.2.2.2.2.2.2.2.2.2.2.2.2.2.2.2.2.2.2.2.2.2.2.2.1 c.2.2.2.2.2.2.2.2.2.2.2.2.2.2.2.2.2.2.2.2.2.2.2.2.2.2.2.2.2.2.2.2.2.1 c.2.2.2.2.2.2.2.2.2.2.2.2.2.2.2.2.2.2.2.2.2.2.2.2.2.2.2.2.2.2.2.2.2.2.1 c.2.2.2.2.2.2.2.2.2.2.2.2.2.2.2.2.2.2.2.2.2.2.2.2.2.2.2.2.2.2.2.2.2.2.2.1 c.2.2.2.2.2.2.2.2.2.2.2.2.2.2.2.2.2.2.2.2.2.2.2.2.2.2.2.2.2.2.2.2.2.2.2.2.1 c.2.2.2.2.2.2.2.2.2.2.2.2.2.2.2.2.2.2.2.2.2.2.2.2.2.2.2.2.2.2.2.2.2.2.2.2.2.1 c.2.2.2.2.2.2.2.2.2.2.2.2.2.2.2.2.2.2.2.2.2.2.2.2.2.2.2.2.2.2.2.2.2.2.2.2.2.2.1 c.2.2.2.2.2.2.2.2.2.2.2.2.2.2.2.2.2.2.2.2.2.2.2.2.2.2.2.2.2.2.2.2.2.2.2.2.2.2.2.1 c.2.2.2.2.2.2.2.2.2.2.2.2.2.2.2.2.2.2.2.2.2.2.2.2.2.2.2.2.2.2.2.2.2.2.2.2.2.2.2.2.1 c.2.2.2.2.2.2.2.2.2.2.2.2.2.2.2.2.2.2.2.2.2.2.2.2.2.2.2.2.2.2.2.2.2.2.2.2.2.2.2.2.2.1 c.2.2.2.2.2.2.2.2.2.2.2.2.2.2.2.2.2.2.2.2.2.2.2.2.2.2.2.2.2.2.2.2.2.2.2.2.2.2.2.2.2.2.1 c.2.2.2.2.2.2.2.2.2.2.2.2.2.2.2.2.2.2.2.2.2.2.2.2.2.2.2.2.2.2.2.2.2.2.2.2.2.2.2.2.2.2.2.1 c.2.2.2.2.2.2.2.2.2.2.2.2.2.2.2.2.2.2.2.2.2.2.2.2.2.2.2.2.2.2.2.2.2.2.2.2.2.2.2.2.2.2.2.2.1 c.2.2.2.2.2.2.2.2.2.2.2.2.2.2.2.2.2.2.2.2.2.2.2.2.2.2.2.2.2.2.2.2.2.2.2.2.2.2.2.2.2.2.2.2.2.1 c.2.2.2.2.2.2.2.2.2.2.2.2.2.2.2.2.2.2.2.2.2.2.2.2.2.2.2.2.2.2.2.2.2.2.2.2.2.2.2.2.2.2.2.2.2.2.1 c.2.2.2.2.2.2.2.2.2.2.2.2.2.2.2.2.2.2.2.2.2.2.2.2.2.2.2.2.2.2.2.2.2.2.2.2.2.2.2.2.2.2.2.2.2.2.2.1 c.2.2.2.2.2.2.2.2.2.2.2.2.2.2.2.2.2.2.2.2.2.2.2.2.2.2.2.2.2.2.2.2.2.2.2.2.2.2.2.2.2.2.2.2.2.2.2.2.1 c.2.2.2.2.2.2.2.2.2.2.2.2.2.2.2.2.2.2.2.2.2.2.2.2.2.2.2.2.2.2.2.2.2.2.2.2.2.2.2.2.2.2.2.2.2.2.2.2.2
noncomputable def mendd.c : mendd.T := Classical.epsilon (h := mendd.ne) fun c => ¬ mendd.Q c
namespace menddK
@[irreducible] noncomputable def s := mendd.c.1
@[irreducible] noncomputable def qk := mendd.c.2.1
@[irreducible] noncomputable def ek := mendd.c.2.2.1
@[irreducible] noncomputable def codes := mendd.c.2.2.2.1
@[irreducible] noncomputable def R := mendd.c.2.2.2.2.1
@[irreducible] noncomputable def ts1 := mendd.c.2.2.2.2.2.1
@[irreducible] noncomputable def ts2 := mendd.c.2.2.2.2.2.2.1
@[irreducible] noncomputable def c1 := mendd.c.2.2.2.2.2.2.2.1
@[irreducible] noncomputable def c2 := mendd.c.2.2.2.2.2.2.2.2.1
@[irreducible] noncomputable def ra := mendd.c.2.2.2.2.2.2.2.2.2.1
@[irreducible] noncomputable def Df := mendd.c.2.2.2.2.2.2.2.2.2.2.1
@[irreducible] noncomputable def Dr := mendd.c.2.2.2.2.2.2.2.2.2.2.2.1
@[irreducible] noncomputable def m1 := mendd.c.2.2.2.2.2.2.2.2.2.2.2.2.1
@[irreducible] noncomputable def m2 := mendd.c.2.2.2.2.2.2.2.2.2.2.2.2.2.1
@[irreducible] noncomputable def oc1 := mendd.c.2.2.2.2.2.2.2.2.2.2.2.2.2.2.1
@[irreducible] noncomputable def oc2 := mendd.c.2.2.2.2.2.2.2.2.2.2.2.2.2.2.2.1
@[irreducible] noncomputable def o1 := mendd.c.2.2.2.2.2.2.2.2.2.2.2.2.2.2.2.2.1
@[irreducible] noncomputable def o2 := mendd.c.2.2.2.2.2.2.2.2.2.2.2.2.2.2.2.2.2.1
@[irreducible] noncomputable def o3 := mendd.c.2.2.2.2.2.2.2.2.2.2.2.2.2.2.2.2.2.2.1
@[irreducible] noncomputable def om1 := mendd.c.2.2.2.2.2.2.2.2.2.2.2.2.2.2.2.2.2.2.2.1
@[irreducible] noncomputable def om2 := mendd.c.2.2.2.2.2.2.2.2.2.2.2.2.2.2.2.2.2.2.2.2.1
@[irreducible] noncomputable def p1 := mendd.c.2.2.2.2.2.2.2.2.2.2.2.2.2.2.2.2.2.2.2.2.2.1
@[irreducible] noncomputable def p2 := mendd.c.2.2.2.2.2.2.2.2.2.2.2.2.2.2.2.2.2.2.2.2.2.2.1
@[irreducible] noncomputable def p5 := mendd.c.2.2.2.2.2.2.2.2.2.2.2.2.2.2.2.2.2.2.2.2.2.2.2.1
@[irreducible] noncomputable def vs := mendd.c.2.2.2.2.2.2.2.2.2.2.2.2.2.2.2.2.2.2.2.2.2.2.2.2.1
@[irreducible] noncomputable def ns := mendd.c.2.2.2.2.2.2.2.2.2.2.2.2.2.2.2.2.2.2.2.2.2.2.2.2.2.1
@[irreducible] noncomputable def kk := mendd.c.2.2.2.2.2.2.2.2.2.2.2.2.2.2.2.2.2.2.2.2.2.2.2.2.2.2.1
@[irreducible] noncomputable def k1 := mendd.c.2.2.2.2.2.2.2.2.2.2.2.2.2.2.2.2.2.2.2.2.2.2.2.2.2.2.2.1
@[irreducible] noncomputable def k2 := mendd.c.2.2.2.2.2.2.2.2.2.2.2.2.2.2.2.2.2.2.2.2.2.2.2.2.2.2.2.2.1
@[irreducible] noncomputable def lo := mendd.c.2.2.2.2.2.2.2.2.2.2.2.2.2.2.2.2.2.2.2.2.2.2.2.2.2.2.2.2.2.1
@[irreducible] noncomputable def bl := mendd.c.2.2.2.2.2.2.2.2.2.2.2.2.2.2.2.2.2.2.2.2.2.2.2.2.2.2.2.2.2.2.1
@[irreducible] noncomputable def bh := mendd.c.2.2.2.2.2.2.2.2.2.2.2.2.2.2.2.2.2.2.2.2.2.2.2.2.2.2.2.2.2.2.2.1
@[irreducible] noncomputable def tn := mendd.c.2.2.2.2.2.2.2.2.2.2.2.2.2.2.2.2.2.2.2.2.2.2.2.2.2.2.2.2.2.2.2.2.1
@[irreducible] noncomputable def lp := mendd.c.2.2.2.2.2.2.2.2.2.2.2.2.2.2.2.2.2.2.2.2.2.2.2.2.2.2.2.2.2.2.2.2.2.1
@[irreducible] noncomputable def x1 := mendd.c.2.2.2.2.2.2.2.2.2.2.2.2.2.2.2.2.2.2.2.2.2.2.2.2.2.2.2.2.2.2.2.2.2.2.1
@[irreducible] noncomputable def x2 := mendd.c.2.2.2.2.2.2.2.2.2.2.2.2.2.2.2.2.2.2.2.2.2.2.2.2.2.2.2.2.2.2.2.2.2.2.2.1
@[irreducible] noncomputable def x3 := mendd.c.2.2.2.2.2.2.2.2.2.2.2.2.2.2.2.2.2.2.2.2.2.2.2.2.2.2.2.2.2.2.2.2.2.2.2.2.1
@[irreducible] noncomputable def x5 := mendd.c.2.2.2.2.2.2.2.2.2.2.2.2.2.2.2.2.2.2.2.2.2.2.2.2.2.2.2.2.2.2.2.2.2.2.2.2.2.1
@[irreducible] noncomputable def x6 := mendd.c.2.2.2.2.2.2.2.2.2.2.2.2.2.2.2.2.2.2.2.2.2.2.2.2.2.2.2.2.2.2.2.2.2.2.2.2.2.2.1
@[irreducible] noncomputable def x7 := mendd.c.2.2.2.2.2.2.2.2.2.2.2.2.2.2.2.2.2.2.2.2.2.2.2.2.2.2.2.2.2.2.2.2.2.2.2.2.2.2.2.1
@[irreducible] noncomputable def x8 := mendd.c.2.2.2.2.2.2.2.2.2.2.2.2.2.2.2.2.2.2.2.2.2.2.2.2.2.2.2.2.2.2.2.2.2.2.2.2.2.2.2.2.1
@[irreducible] noncomputable def x9 := mendd.c.2.2.2.2.2.2.2.2.2.2.2.2.2.2.2.2.2.2.2.2.2.2.2.2.2.2.2.2.2.2.2.2.2.2.2.2.2.2.2.2.2.1
@[irreducible] noncomputable def xs := mendd.c.2.2.2.2.2.2.2.2.2.2.2.2.2.2.2.2.2.2.2.2.2.2.2.2.2.2.2.2.2.2.2.2.2.2.2.2.2.2.2.2.2.2.1
@[irreducible] noncomputable def t1 := mendd.c.2.2.2.2.2.2.2.2.2.2.2.2.2.2.2.2.2.2.2.2.2.2.2.2.2.2.2.2.2.2.2.2.2.2.2.2.2.2.2.2.2.2.2.1
@[irreducible] noncomputable def t2 := mendd.c.2.2.2.2.2.2.2.2.2.2.2.2.2.2.2.2.2.2.2.2.2.2.2.2.2.2.2.2.2.2.2.2.2.2.2.2.2.2.2.2.2.2.2.2.1
@[irreducible] noncomputable def t3 := mendd.c.2.2.2.2.2.2.2.2.2.2.2.2.2.2.2.2.2.2.2.2.2.2.2.2.2.2.2.2.2.2.2.2.2.2.2.2.2.2.2.2.2.2.2.2.2.1
@[irreducible] noncomputable def t4 := mendd.c.2.2.2.2.2.2.2.2.2.2.2.2.2.2.2.2.2.2.2.2.2.2.2.2.2.2.2.2.2.2.2.2.2.2.2.2.2.2.2.2.2.2.2.2.2.2.1
@[irreducible] noncomputable def t5 := mendd.c.2.2.2.2.2.2.2.2.2.2.2.2.2.2.2.2.2.2.2.2.2.2.2.2.2.2.2.2.2.2.2.2.2.2.2.2.2.2.2.2.2.2.2.2.2.2.2.1
@[irreducible] noncomputable def t6 := mendd.c.2.2.2.2.2.2.2.2.2.2.2.2.2.2.2.2.2.2.2.2.2.2.2.2.2.2.2.2.2.2.2.2.2.2.2.2.2.2.2.2.2.2.2.2.2.2.2.2.1
@[irreducible] noncomputable def t7 := mendd.c.2.2.2.2.2.2.2.2.2.2.2.2.2.2.2.2.2.2.2.2.2.2.2.2.2.2.2.2.2.2.2.2.2.2.2.2.2.2.2.2.2.2.2.2.2.2.2.2.2
theorem main (way : Int) : mendd.R s qk ek codes R ts1 ts2 c1 c2 ra Df Dr m1 m2 oc1 oc2 o1 o2 o3 om1 om2 p1 p2 p5 vs ns kk k1 k2 lo way bl bh tn lp x1 x2 x3 x5 x6 x7 x8 x9 xs t1 t2 t3 t4 t5 t6 t7 := by
  intro B X T C C2 C3 hd9 hu9 F N e1 LTB CB hc1 hc2 hra hm1 hm2 hmc l1 hnF hnR hnF9 hnR9 hR1 hR2 hR3 ht1 ht2 hr1 hr2 hlen4 hlen9 hway hb0 hbb hbh ret
  refine cutG fun Pc kc => ?_
  obtain ⟨sc, hsc⟩ : ∃ sc, sc = scopeOf (topStmt 21) := ⟨_, rfl⟩
  refine kc ?_
  clear kc Pc
  rw [← hsc]
  conv at hsc => rhs; whnf
  subst hsc
  revert X T; k_fill; intro X T
  change wpAny _ _ (execs (_ :: _) _) _ _ _
  k_unmd
  have hl1 : ts1.length = ns.length := rows_len hr1
  have hl2 : ts2.length = ns.length := rows_len hr2
  k_steps
  rename_i f5 cx5 cd5 oc5 ps5 ct5 h5 tk5 F1 N1 LT1 hx1 l15 l25
  have b1 := InsLS w mean mg mb loose
  refine' InsL.use (codes := codes) (g := fun i => if way = 1 then (ns ++ [lo]).getD i 0 else -(ns ++ [lo]).getD i 0) b1 ?bB ?bF ?bX ?bT ?bhk ?bN ?bC ?bCB ?bhP ?bhkf ?bhfn ?bhK ?blen ?bl0 ?blh ?bhh ?bhd ?bhu ?bret
  case bB => k_asm
  case bF => k_asm
  case bX => k_asm
  case bT => k_asm
  case bhk => exact rfl
  case bN => exact news_5th (by assumption)
  case bC => k_asm
  case bCB => assumption
  case bhP => (repeat' first | exact List.forall_mem_nil _ | assumption | (refine List.forall_mem_cons.mpr ⟨?_, ?_⟩) | (refine hnF _ ?_; (repeat (first | exact List.Mem.head _ | apply List.Mem.tail)); done) | (refine hnR _ ?_; (repeat (first | exact List.Mem.head _ | apply List.Mem.tail)); done) | (refine Ne.symm (hnR _ ?_); (repeat (first | exact List.Mem.head _ | apply List.Mem.tail)); done) | k_ne)
  case bhkf => exact .head _
  case bhfn => exact ⟨_, _, _, _, rfl⟩
  case blen => rw [List.length_map]; omega
  case bl0 => omega
  case blh => omega
  case bhh => rw [List.length_map, hl1]; omega
  case bhd => (try simp only [depth_deeper]); (try dsimp only); omega
  case bhu => (try simp only [units_deeper]); (try dsimp only); omega
  case bhK =>
    unfold KeyOk
    intro dpk unk gdk cnk csk ak ccdk clk outerk A0k basek hk Lk mk sk Qk Ek i v Bk Fk Xk Tk hkk CBk Nk hik hdk huk retk
    obtain ⟨T9, ob9, its9, n9, u9, hv9, hm9, hc9, hd9, hi9⟩ := pair_get Nk hr1 (.tail _ (.tail _ (.tail _ (.head _)))) rfl rfl rfl (fun q hq => by simp only [List.mem_cons]; simp [ht1 q hq]) hik
    subst hv9
    revert Xk Tk; k_fill; intro Xk Tk
    refine wpAny_call ?_
    refine' kla_code (binds := [(Str.ofString "one", _)]) Bk Fk Xk Nk Tk rfl rfl hkk (.tail _ (.head _)) (codeRec_in Fk Nk CBk (hx_mono hx1 (by walk_at "my s"))) ?room ?bind (locs rfl) ?main rfl rfl rfl ?cell
    case room => (show dpk < recursionLimit; omega)
    case bind => exact rfl
    case cell => decide
    case main =>
    intro gk Lk' hk' FGk Fk' Nk' Bk' Xk' Tk'
    clear Nk Fk Bk
    have hl9 : hk'.IsList T9 its9 := ⟨ob9, (Nk' _ hm9).1, hc9, n9, hd9⟩
    dsimp only
    k_unmd
    k_fold
    rcases hway with rfl | rfl
    · k_steps
      exact retk _ _ _ (by assumption) (by assumption)
    · k_steps
      exact retk _ _ _ (by assumption) (by assumption)
  case bret =>
  intro h2 tk2 F2 N2
  rw [show (ts1.map fun p => Value.ref p.1).length = ns.length by rw [List.length_map]; exact hl1] at N2
  replace N2 := news_alter (a := Df) (o' := listOf (kl_ins (ts1.map fun p => Value.ref p.1) (posL way lo ns bl bh) _).toArray (k1 + 1)) N2 rfl
  replace N2 := news_drop2 N2
  clear F1 N1 hx1 b1
  k_steps
  rename_i f6 cx6 cd6 oc6 ps6 ct6 h6 tk6 F1 N1 LT1 hx1 l16 l26
  have b1 := InsRS w mean mg mb loose
  refine' InsR.use (codes := codes) (g := fun i => if way = 1 then (ns ++ [lo]).getD i 0 else -(ns ++ [lo]).getD i 0) b1 ?bB ?bF ?bX ?bT ?bhk ?bN ?bC ?bCB ?bhP ?bhkf ?bhfn ?bhK ?blen ?bl0 ?blh ?bhh ?bhd ?bhu ?bret
  case bB => k_asm
  case bF => k_asm
  case bX => k_asm
  case bT => k_asm
  case bhk => exact rfl
  case bN => exact news_8th (by assumption)
  case bC => k_asm
  case bCB => assumption
  case bhP => (repeat' first | exact List.forall_mem_nil _ | assumption | (refine List.forall_mem_cons.mpr ⟨?_, ?_⟩) | (refine hnF _ ?_; (repeat (first | exact List.Mem.head _ | apply List.Mem.tail)); done) | (refine hnR _ ?_; (repeat (first | exact List.Mem.head _ | apply List.Mem.tail)); done) | (refine Ne.symm (hnR _ ?_); (repeat (first | exact List.Mem.head _ | apply List.Mem.tail)); done) | k_ne)
  case bhkf => exact .head _
  case bhfn => exact ⟨_, _, _, _, rfl⟩
  case blen => rw [List.length_map]; omega
  case bl0 => omega
  case blh => omega
  case bhh => rw [List.length_map, hl2]; omega
  case bhd => (try simp only [depth_deeper]); (try dsimp only); omega
  case bhu => (try simp only [units_deeper]); (try dsimp only); omega
  case bhK =>
    unfold KeyOk
    intro dpk unk gdk cnk csk ak ccdk clk outerk A0k basek hk Lk mk sk Qk Ek i v Bk Fk Xk Tk hkk CBk Nk hik hdk huk retk
    obtain ⟨T9, ob9, its9, n9, u9, hv9, hm9, hc9, hd9, hi9⟩ := pair_get Nk hr2 (.tail _ (.tail _ (.tail _ (.head _)))) rfl rfl rfl (fun q hq => by simp only [List.mem_cons]; simp [ht2 q hq]) hik
    subst hv9
    revert Xk Tk; k_fill; intro Xk Tk
    refine wpAny_call ?_
    refine' kla_code (binds := [(Str.ofString "one", _)]) Bk Fk Xk Nk Tk rfl rfl hkk (.tail _ (.head _)) (codeRec_in Fk Nk CBk (hx_mono hx1 (by walk_at "my s"))) ?room ?bind (locs rfl) ?main rfl rfl rfl ?cell
    case room => (show dpk < recursionLimit; omega)
    case bind => exact rfl
    case cell => decide
    case main =>
    intro gk Lk' hk' FGk Fk' Nk' Bk' Xk' Tk'
    clear Nk Fk Bk
    have hl9 : hk'.IsList T9 its9 := ⟨ob9, (Nk' _ hm9).1, hc9, n9, hd9⟩
    dsimp only
    k_unmd
    k_fold
    rcases hway with rfl | rfl
    · k_steps
      exact retk _ _ _ (by assumption) (by assumption)
    · k_steps
      exact retk _ _ _ (by assumption) (by assumption)
  case bret =>
  intro h3 tk3 F3 N3
  rw [show (ts2.map fun p => Value.ref p.1).length = ns.length by rw [List.length_map]; exact hl2] at N3
  replace N3 := news_alter (a := Dr) (o' := listOf (kl_ins (ts2.map fun p => Value.ref p.1) (posR way lo ns bl bh) _).toArray (k2 + 1)) N3 rfl
  replace N3 := news_drop2 N3
  clear F1 N1 hx1 b1
  k_steps
  rename News _ _ _ _ => N9
  rename Fr _ _ _ _ => F9
  have hp9 := pos_in (way := way) (lo := lo) (ns := ns) hb0 hbb
  have hT1 : ∀ p ∈ ts1, Heap.get? _ p.1 = some p.2 := fun p hp => (N9 p (by simp only [List.mem_cons]; simp [ht1 p hp])).1
  have hT2 : ∀ p ∈ ts2, Heap.get? _ p.1 = some p.2 := fun p hp => (N9 p (by simp only [List.mem_cons]; simp [ht2 p hp])).1
  obtain ⟨fp9, r9⟩ := RA.list N9 (.head _) (.cons ⟨_, .int _ _⟩ (.cons ⟨_, .int _ _⟩ (.cons (RA.list N9 (by repeat (first | exact List.Mem.head _ | apply List.Mem.tail)) (RA.ins (RA.pairs hr1 hT1) (RA.list N9 (by repeat (first | exact List.Mem.head _ | apply List.Mem.tail)) RA.two) hp9.1)) (.cons (RA.list N9 (by repeat (first | exact List.Mem.head _ | apply List.Mem.tail)) (RA.ins (RA.pairs hr2 hT2) (RA.list N9 (by repeat (first | exact List.Mem.head _ | apply List.Mem.tail)) RA.two) hp9.2)) (.cons (RA.list N9 (by repeat (first | exact List.Mem.head _ | apply List.Mem.tail)) RA.nones) .nil)))))
  refine ret _ _ _ _ [(cd6, oc6), (cd5, oc5), (m2, om2), (m1, om1)] _ _ F9 (newsS N9 (by walk_at "my s")) ?_ LT1 r9
  · (repeat' first | exact List.forall_mem_nil _ | (refine List.forall_mem_cons.mpr ⟨notin5 (by k_ne) (by k_ne) (by k_ne) (by k_ne) (by k_ne), ?_⟩))
end menddK
theorem mendd (s : Shared) (qk : Flow → Shared → Prop) (ek : Value → Shared → Prop) (codes R ts1 ts2 : List (Addr × Obj)) (c1 c2 ra Df Dr m1 m2 : Addr) (oc1 oc2 o1 o2 o3 om1 om2 : Obj) (p1 p2 p5 : Array Value) (vs : List Value) (ns : List Int) (kk k1 k2 : Nat) (lo way bl bh tn lp : Int) (x1 x2 x3 x5 x6 x7 x8 x9 xs : Value) (t1 t2 t3 t4 t5 t6 t7 : Tok) : mendd.R s qk ek codes R ts1 ts2 c1 c2 ra Df Dr m1 m2 oc1 oc2 o1 o2 o3 om1 om2 p1 p2 p5 vs ns kk k1 k2 lo way bl bh tn lp x1 x2 x3 x5 x6 x7 x8 x9 xs t1 t2 t3 t4 t5 t6 t7 := shut mendd.ne (Q := mendd.Q) (by with_unfolding_all exact menddK.main) (s, qk, ek, codes, R, ts1, ts2, c1, c2, ra, Df, Dr, m1, m2, oc1, oc2, o1, o2, o3, om1, om2, p1, p2, p5, vs, ns, kk, k1, k2, lo, bl, bh, tn, lp, x1, x2, x3, x5, x6, x7, x8, x9, xs, t1, t2, t3, t4, t5, t6, t7) way
end
end
section
open _root_.PySem _root_.PySem.W _root_.PyProof.Rows
theorem fresh_15 : True := by (w_top off); exact trivial
open LM
theorem addr_of {l : List (Addr × Obj)} {D : Addr} (h : ∀ q ∈ l, q.1 ≠ D) : ∀ x ∈ l.map (·.1), x ≠ D := fun x hx => by
  refine cutG fun Pc kc => ?_
  obtain ⟨q, hq, rfl⟩ := List.mem_map.mp hx
  refine kc ?_
  clear kc Pc
  exact h q hq
section
local macro_rules | `(tactic| walk_at "exec Assign cons ListComp") => `(tactic| refine stop_here ?_)
local macro_rules | `(tactic| walk_at "eval ListComp") => `(tactic| refine stop_here ?_)
local macro_rules | `(tactic| walk_at "execs cons") => `(tactic| with_reducible refine stop3 ?_)
local macro_rules | `(tactic| walk_at "newList") => `(tactic| refine stop_here ?_)
noncomputable def mende.R (s : Shared) (qk : Flow → Shared → Prop) (ek : Value → Shared → Prop) (codes : List (Addr × Obj)) (c1 c2 ra m1 m2 : Addr) (oc1 oc2 o1 o2 o3 om1 om2 : Obj) (p1 p2 p5 : Array Value) (vs : List Value) (ns : List Int) (kk : Nat) (lo way bl bh tn lp : Int) (x1 x2 x3 x5 x6 x7 x8 x9 xs : Value) (t1 t2 t3 t4 t5 t6 t7 : Tok) : Prop :=
  ∀ (B : Below (ktrTop dp un gd cn cs L a ccd cl outer) base (envX cn cs L a ccd cl :: outer) g) (X : (hd.heap_1 w.params).In g) (T : Top topProg loose mean mg mb g) (C : CodeHd base 70 66) (C2 : CodeHd base 77 73) (C3 : CodeHd base 154 152) (hd9 : dp + 16 < recursionLimit) (hu9 : un + 200 < cLine) (F : Fr g K' s.heap (fun y => if y = Str.ofString "behind" then some (.int bh t5) else if y = Str.ofString "begin" then some (.int bl t6) else if y = Str.ofString "spots" then some (xs) else if y = Str.ofString "ahead" then some (x9) else if y = Str.ofString "lack" then some (x1) else if y = Str.ofString "laps" then some (.int lp t1) else if y = Str.ofString "ups" then some (x3) else if y = Str.ofString "lost" then some (.int lo t2) else if y = Str.ofString "turns" then some (.int tn t7) else if y = Str.ofString "total" then some (x5) else if y = Str.ofString "climbs" then some (x6) else if y = Str.ofString "size" then some (.int (ns.length + 1) t3) else if y = Str.ofString "kinds" then some (x7) else if y = Str.ofString "port" then some (x8) else none)) (N : News g K' s.heap [(m2, om2), (m1, om1), (66, tabObj p1), (73, tabObj p2), (c1, oc1), (c2, oc2), (K' + 1 + 1 + 1, o1), (K' + 1 + 1, o2), (K' + 1, o3), (152, tabObj p5), (ra, listOf vs.toArray kk)]) (e1 : o1.data = .cell (some (.int way t4))) (LTB : LamTab lamQ p5 ((m2, om2) :: (m1, om1) :: codes)) (CB : ∀ q ∈ codes, g.get? q.1 = some q.2) (hc1 : @LT.lt Nat _ 160 c1) (hc2 : @LT.lt Nat _ 160 c2) (hra : @LT.lt Nat _ 160 ra) (hm1 : @LT.lt Nat _ 160 m1) (hm2 : @LT.lt Nat _ 160 m2) (hmc : (@LT.lt Nat _ c1 m1 ∧ @LT.lt Nat _ c2 m1) ∧ @LT.lt Nat _ c1 m2 ∧ @LT.lt Nat _ c2 m2) (l1 : @LT.lt Nat _ 160 K') (hlen4 : 4 ≤ ns.length) (hlen9 : ns.length ≤ 9) (hway : way = 0 ∨ way = 1) (hb0 : 0 ≤ bl) (hbb : bl ≤ bh) (hbh : bh ≤ ns.length) (e3 : o3.data = .cell (some (.ref ra))) (hints : IntsAre vs ns) (lm : (@LT.lt Nat _ K' m1 ∧ @LT.lt Nat _ K' m2)) (ret : ∀ (h' : Heap) (tk' : Nat) (R0 : Addr) (mm : Str → Option Value) (lg : List (Addr × Obj)) (ps' : Array Value) (fp : List Addr), Fr g K' h' mm → News g K' h' ([(66, tabObj p1), (73, tabObj p2), (c1, oc1), (c2, oc2), (152, tabObj ps'), (ra, listOf vs.toArray kk)] ++ lg) → (∀ q ∈ lg, q.1 ∉ [66, 73, c1, c2, 152]) → LamTab lamQ ps' (lg ++ codes) → Reads h' (.ref R0) (mendT tn lp lo way bl bh ns) fp → qk (.ret (.ref R0)) { s with heap := h', toks := tk' }),
   wpAny (model PySem.Challenge.rw_ta0052_01.row.prog w) ((ktrTop dp un gd cn cs L a ccd cl outer).deeper (envOfC (Str.ofString "_law_mend") (scopeOf (topStmt 21)) K' 155 (.ref 154))) (execs ((bodyOf (topStmt 21)).drop 10) (envOfC (Str.ofString "_law_mend") (scopeOf (topStmt 21)) K' 155 (.ref 154))) qk ek s
abbrev mende.T : Type := Shared × (Flow → Shared → Prop) × (Value → Shared → Prop) × (List (Addr × Obj)) × Addr × Addr × Addr × Addr × Addr × Obj × Obj × Obj × Obj × Obj × Obj × Obj × (Array Value) × (Array Value) × (Array Value) × (List Value) × (List Int) × Nat × Int × Int × Int × Int × Int × Int × Value × Value × Value × Value × Value × Value × Value × Value × Value × Tok × Tok × Tok × Tok × Tok × Tok × Tok
theorem mende.ne : Nonempty mende.T := ⟨({}, fun _ _ => True, fun _ _ => True, [], 0, 0, 0, 0, 0, default, default, default, default, default, default, default, #[], #[], #[], [], [], 0, 0, 0, 0, 0, 0, 0, .none, .none, .none, .none, .none, .none, .none, .none, .none, 0, 0, 0, 0, 0, 0, 0)⟩
noncomputable def mende.Q (c : mende.T) : Prop := mende.R c.1 c.2.1 c.2.2.1 c.2.2.2.1 c.2.2.2.2.1 c.2.2.2.2.2.1 c.2.2.2.2.2.2.1 c.2.2.2.2.2.2.2.1 c.2.2.2.2.2.2.2.2.1 c.2.2.2.2.2.2.2.2.2.1 c.2.2.2.2.2.2.2.2.2.2.1 c.2.2.2.2.2.2.2.2.2.2.2.1 c.2.2.2.2.2.2.2.2.2.2.2.2.1 c.2.2.2.2.2.2.2.2.2.2.2.2.2.1 c.2.2.2.2.2.2.2.2.2.2.2.2.2.2.1 c.2.2.2.2.2.2.2.2.2.2.2.2.2.2.2.1 c.2.2.2.2.2.2.2.2.2.2.2.2.2.2.2.2.1 c.2.2.2.2.2.2.2.2.2.2.2.2.2.2.2.2.2.1 c.2.2.2.2.2.2.2.2.2.2.2.2.2.2.2.2.2.2.1 c.2.2.2.2.2.2.2.2.2.2.2.2.2.2.2.2.2.2.2.1 c.2.2.2.2.2.2.2.2.2.2.2.2.2.2.2.2.2.2.2.2.1 c.2.2.2.2.2.2.2.2.2.2.2.2.2.2.2.2.2.2.2.2.2.1 c.2.2.2.2.2.2.2.2.2.2.2.2.2.2.2.2.2.2.2.2.2.2.1 c.2.2.2.2.2.2.2.2.2.2.2.2.2.2.2.2.2.2.2.2.2.2.2.1 c.2.2.2.2.2.2.2.2.2.2.2.2.2.2.2.2.2.2.2.2.2.2.2.2.1 c.2.2.2.2.2.2.2.2.2.2.2.2.2.2.2.2.2.2.2.2.2.2.2.2.2.1 c.2.2.2.2.2.2.2.2.2.2.2.2.2.2.2.2.2.2.2.2.2.2.2.2.2.2.1 c.2.2.2.2.2.2.2.2.2.2.2.2.2.2.2.2.2.2.2.2.2.2.2.2.2.2.2.1 c.2.2.2.2.2.2.2.2.2.2.2.2.2.2.2.2.2.2.2.2.2.2.2.2.2.2.2.2.1 c.2.2.2.2.2.2.2.2.2.2.2.2.2.2.2.2.2.2.2.2.2.2.2.2.2.2.2.2.2.1 c.2.2.2.2.2.2.2.2.2.2.2.2.2.2.2.2.2.2.2.2.2.2.2.2.2.2.2.2.2.2.1 c.2.2.2.2.2.2.2.2.2.2.2.2.2.2.2.2.2.2.2.2.2.2.2.2.2.2.2.2.2.2.2.1 c.2.2.2.2.2.2.2.2.2.2.2.2.2.2.2.2.2.2.2.2.2.2.2.2.2.2.2.2.2.2.2.2.1 c.2.2.2.2.2.2.2.2.2.2.2.2.2.2.2.2.2.2.2.2.2.2.2.2.2.2.2.2.2.2.2.2.2.1 c.2.2.2.2.2.2.2.2.2.2.2.2.2.2.2.2.2.2.2.2.2.2.2.2.2.2.2.2.2.2.2.2.2.2.1 c.2.2.2.2.2.2.2.2.2.2.2.2.2.2.2.2.2.2.2.2.2.2.2.2.2.2.2.2.2.2.2.2.2.2.2.1 c.2.2.2.2.2.2.2.2.2.2.2.2.2.2.2.2.2.2.2.2.2.2.2.2.2.2.2.2.2.2.2.2.2.2.2.2.1 c.2.2.2.2.2.2.2.2.2.2.2.2.2.2.2.2.2.2.2.2.2.2.2.2.2.2.2.2.2.2.2.2.2.2.2.2.2.1 c.2.2.2.2.2.2.2.2.2.2.2.2.2.2.2.2.2.2.2.2.2.2.2.2.2.2.2.2.2.2.2.2.2.2.2.2.2.2.1 c.2.2.2.2.2.2.2.2.2.2.2.2.2.2.2.2.2.2.2.2.2.2.2.2.2.2.2.2.2.2.2.2.2.2.2.2.2.2.2.1 c.2.2.2.2.2.2.2.2.2.2.2.2.2.2.2.2.2.2.2.2.2.2.2.2.2.2.2.2.2.2.2.2.2.2.2.2.2.2.2.2.1 c.2.2.2.2.2.2.2.2.2.2.2.2.2.2.2.2.2.2.2.2.2.2.2.2.2.2.2.2.2.2.2.2.2.2.2.2.2.2.2.2.2.1 c.2.2.2.2.2.2.2.2.2.2.2.2.2.2.2.2.2.2.2.2.2.2.2.2.2.2.2.2.2.2.2.2.2.2.2.2.2.2.2.2.2.2.1 c.2.2.2.2.2.2.2.2.2.2.2.2.2.2.2.2.2.2.2.2.2.2.2.2.2.2.2.2.2.2.2.2.2.2.2.2.2.2.2.2.2.2.2
noncomputable def mende.c : mende.T := Classical.epsilon (h := mende.ne) fun c => ¬ mende.Q c
namespace mendeK
@[irreducible] noncomputable def s := mende.c.1
@[irreducible] noncomputable def qk := mende.c.2.1
@[irreducible] noncomputable def ek := mende.c.2.2.1
@[irreducible] noncomputable def codes := mende.c.2.2.2.1
@[irreducible] noncomputable def c1 := mende.c.2.2.2.2.1
@[irreducible] noncomputable def c2 := mende.c.2.2.2.2.2.1
@[irreducible] noncomputable def ra := mende.c.2.2.2.2.2.2.1
@[irreducible] noncomputable def m1 := mende.c.2.2.2.2.2.2.2.1
@[irreducible] noncomputable def m2 := mende.c.2.2.2.2.2.2.2.2.1
@[irreducible] noncomputable def oc1 := mende.c.2.2.2.2.2.2.2.2.2.1
@[irreducible] noncomputable def oc2 := mende.c.2.2.2.2.2.2.2.2.2.2.1
@[irreducible] noncomputable def o1 := mende.c.2.2.2.2.2.2.2.2.2.2.2.1
@[irreducible] noncomputable def o2 := mende.c.2.2.2.2.2.2.2.2.2.2.2.2.1
@[irreducible] noncomputable def o3 := mende.c.2.2.2.2.2.2.2.2.2.2.2.2.2.1
@[irreducible] noncomputable def om1 := mende.c.2.2.2.2.2.2.2.2.2.2.2.2.2.2.1
@[irreducible] noncomputable def om2 := mende.c.2.2.2.2.2.2.2.2.2.2.2.2.2.2.2.1
@[irreducible] noncomputable def p1 := mende.c.2.2.2.2.2.2.2.2.2.2.2.2.2.2.2.2.1
@[irreducible] noncomputable def p2 := mende.c.2.2.2.2.2.2.2.2.2.2.2.2.2.2.2.2.2.1
@[irreducible] noncomputable def p5 := mende.c.2.2.2.2.2.2.2.2.2.2.2.2.2.2.2.2.2.2.1
@[irreducible] noncomputable def vs := mende.c.2.2.2.2.2.2.2.2.2.2.2.2.2.2.2.2.2.2.2.1
@[irreducible] noncomputable def ns := mende.c.2.2.2.2.2.2.2.2.2.2.2.2.2.2.2.2.2.2.2.2.1
@[irreducible] noncomputable def kk := mende.c.2.2.2.2.2.2.2.2.2.2.2.2.2.2.2.2.2.2.2.2.2.1
@[irreducible] noncomputable def lo := mende.c.2.2.2.2.2.2.2.2.2.2.2.2.2.2.2.2.2.2.2.2.2.2.1
@[irreducible] noncomputable def way := mende.c.2.2.2.2.2.2.2.2.2.2.2.2.2.2.2.2.2.2.2.2.2.2.2.1
@[irreducible] noncomputable def bl := mende.c.2.2.2.2.2.2.2.2.2.2.2.2.2.2.2.2.2.2.2.2.2.2.2.2.1
@[irreducible] noncomputable def bh := mende.c.2.2.2.2.2.2.2.2.2.2.2.2.2.2.2.2.2.2.2.2.2.2.2.2.2.1
@[irreducible] noncomputable def tn := mende.c.2.2.2.2.2.2.2.2.2.2.2.2.2.2.2.2.2.2.2.2.2.2.2.2.2.2.1
@[irreducible] noncomputable def lp := mende.c.2.2.2.2.2.2.2.2.2.2.2.2.2.2.2.2.2.2.2.2.2.2.2.2.2.2.2.1
@[irreducible] noncomputable def x1 := mende.c.2.2.2.2.2.2.2.2.2.2.2.2.2.2.2.2.2.2.2.2.2.2.2.2.2.2.2.2.1
@[irreducible] noncomputable def x2 := mende.c.2.2.2.2.2.2.2.2.2.2.2.2.2.2.2.2.2.2.2.2.2.2.2.2.2.2.2.2.2.1
@[irreducible] noncomputable def x3 := mende.c.2.2.2.2.2.2.2.2.2.2.2.2.2.2.2.2.2.2.2.2.2.2.2.2.2.2.2.2.2.2.1
@[irreducible] noncomputable def x5 := mende.c.2.2.2.2.2.2.2.2.2.2.2.2.2.2.2.2.2.2.2.2.2.2.2.2.2.2.2.2.2.2.2.1
@[irreducible] noncomputable def x6 := mende.c.2.2.2.2.2.2.2.2.2.2.2.2.2.2.2.2.2.2.2.2.2.2.2.2.2.2.2.2.2.2.2.2.1
@[irreducible] noncomputable def x7 := mende.c.2.2.2.2.2.2.2.2.2.2.2.2.2.2.2.2.2.2.2.2.2.2.2.2.2.2.2.2.2.2.2.2.2.1
@[irreducible] noncomputable def x8 := mende.c.2.2.2.2.2.2.2.2.2.2.2.2.2.2.2.2.2.2.2.2.2.2.2.2.2.2.2.2.2.2.2.2.2.2.1
@[irreducible] noncomputable def x9 := mende.c.2.2.2.2.2.2.2.2.2.2.2.2.2.2.2.2.2.2.2.2.2.2.2.2.2.2.2.2.2.2.2.2.2.2.2.1
@[irreducible] noncomputable def xs := mende.c.2.2.2.2.2.2.2.2.2.2.2.2.2.2.2.2.2.2.2.2.2.2.2.2.2.2.2.2.2.2.2.2.2.2.2.2.1
@[irreducible] noncomputable def t1 := mende.c.2.2.2.2.2.2.2.2.2.2.2.2.2.2.2.2.2.2.2.2.2.2.2.2.2.2.2.2.2.2.2.2.2.2.2.2.2.1
@[irreducible] noncomputable def t2 := mende.c.2.2.2.2.2.2.2.2.2.2.2.2.2.2.2.2.2.2.2.2.2.2.2.2.2.2.2.2.2.2.2.2.2.2.2.2.2.2.1
@[irreducible] noncomputable def t3 := mende.c.2.2.2.2.2.2.2.2.2.2.2.2.2.2.2.2.2.2.2.2.2.2.2.2.2.2.2.2.2.2.2.2.2.2.2.2.2.2.2.1
@[irreducible] noncomputable def t4 := mende.c.2.2.2.2.2.2.2.2.2.2.2.2.2.2.2.2.2.2.2.2.2.2.2.2.2.2.2.2.2.2.2.2.2.2.2.2.2.2.2.2.1
@[irreducible] noncomputable def t5 := mende.c.2.2.2.2.2.2.2.2.2.2.2.2.2.2.2.2.2.2.2.2.2.2.2.2.2.2.2.2.2.2.2.2.2.2.2.2.2.2.2.2.2.1
@[irreducible] noncomputable def t6 := mende.c.2.2.2.2.2.2.2.2.2.2.2.2.2.2.2.2.2.2.2.2.2.2.2.2.2.2.2.2.2.2.2.2.2.2.2.2.2.2.2.2.2.2.1
@[irreducible] noncomputable def t7 := mende.c.2.2.2.2.2.2.2.2.2.2.2.2.2.2.2.2.2.2.2.2.2.2.2.2.2.2.2.2.2.2.2.2.2.2.2.2.2.2.2.2.2.2.2
theorem main : mende.R s qk ek codes c1 c2 ra m1 m2 oc1 oc2 o1 o2 o3 om1 om2 p1 p2 p5 vs ns kk lo way bl bh tn lp x1 x2 x3 x5 x6 x7 x8 x9 xs t1 t2 t3 t4 t5 t6 t7 := by
  intro B X T C C2 C3 hd9 hu9 F N e1 LTB CB hc1 hc2 hra hm1 hm2 hmc l1 hlen4 hlen9 hway hb0 hbb hbh e3 hints lm ret
  refine cutG fun Pc kc => ?_
  obtain ⟨sc, hsc⟩ : ∃ sc, sc = scopeOf (topStmt 21) := ⟨_, rfl⟩
  refine kc ?_
  clear kc Pc
  rw [← hsc]
  conv at hsc => rhs; whnf
  subst hsc
  revert X T; k_fill; intro X T
  change wpAny _ _ (execs (_ :: _) _) _ _ _
  k_unmd
  k_steps
  unfold Stop
  refine' compOA F N 0 ns.length (fun i => [ns.getD i.toNat 0, i]) ?hsw ?hL ?hy ?hp ?hh ?hclos ?hcell ?hkind ?hnames ?hx ?hn ?h0 ?h1 ?hit ?helt ?hQ ?hs
  case hsw => with_unfolding_all rfl
  case hL => rfl
  case hy => with_unfolding_all rfl
  case hp => with_unfolding_all rfl
  case hh => with_unfolding_all rfl
  case hclos => with_unfolding_all rfl
  case hcell => decide
  case hkind => with_unfolding_all rfl
  case hnames => decide
  case hx => with_unfolding_all rfl
  case hs => intro _; with_unfolding_all rfl
  case hn => omega
  case h0 => omega
  case h1 => omega
  case hit =>
    refine wpAny_stop ?_
    k_steps
    try unfold Stop
    exact ⟨_, _, _, _, _, _, _, rfl, by assumption, by omega, by assumption, by assumption, rfl⟩
  case helt =>
    intro s9 C9 i9 t9 s8 m9 E9 F9 N9 hi0 hi1 hn9 hm9 hk9
    have F8 := Fr.keeps F9 hk9
    have N8 := News.grown N9 hk9
    clear F9 N9 F N
    refine wpAny_stop ?_
    k_steps
    try unfold Stop
    try unfold Stop
    refine' wpAny_newObj_type ?nlh ?nld
    case nld => size_fits
    exact ⟨⟨_, _, rfl, Heap.get?_none_of_le (Nat.le_refl _), ⟨_, Heap.get?_push_size _ rfl, rfl, _, rfl⟩, .cons _ _ (.cons _ _ .nil)⟩, ⟨_, _, rfl, fun b o e => Heap.get?_push_of_some _ e⟩⟩
  case hQ =>
  intro Df ts1 k1 h5 tk5 F5 N5 hr1 hd1 ha1
  simp only [List.cons_append, List.nil_append] at N5
  clear F N
  k_steps
  rename Fr _ _ _ _ => F6
  rename News _ _ _ _ => N6
  unfold Stop
  refine' compOA F6 N6 0 ns.length (fun i => [ns.getD i.toNat 0, i]) ?hsw ?hL ?hy ?hp ?hh ?hclos ?hcell ?hkind ?hnames ?hx ?hn ?h0 ?h1 ?hit ?helt ?hQ ?hs
  case hsw => with_unfolding_all rfl
  case hL => rfl
  case hy => with_unfolding_all rfl
  case hp => with_unfolding_all rfl
  case hh => with_unfolding_all rfl
  case hclos => with_unfolding_all rfl
  case hcell => decide
  case hkind => with_unfolding_all rfl
  case hnames => decide
  case hx => with_unfolding_all rfl
  case hs => intro _; with_unfolding_all rfl
  case hn => omega
  case h0 => omega
  case h1 => omega
  case hit =>
    refine wpAny_stop ?_
    k_steps
    try unfold Stop
    exact ⟨_, _, _, _, _, _, _, rfl, by assumption, by omega, by assumption, by assumption, rfl⟩
  case helt =>
    intro s9 C9 i9 t9 s8 m9 E9 F9 N9 hi0 hi1 hn9 hm9 hk9
    have F8 := Fr.keeps F9 hk9
    have N8 := News.grown N9 hk9
    clear F9 N9 F6 N6
    refine wpAny_stop ?_
    k_steps
    try unfold Stop
    try unfold Stop
    refine' wpAny_newObj_type ?nnh ?nnd
    case nnd => size_fits
    exact ⟨⟨_, _, rfl, Heap.get?_none_of_le (Nat.le_refl _), ⟨_, Heap.get?_push_size _ rfl, rfl, _, rfl⟩, .cons _ _ (.cons _ _ .nil)⟩, ⟨_, _, rfl, fun b o e => Heap.get?_push_of_some _ e⟩⟩
  case hQ =>
  intro Dr ts2 k2 h7 tk7 F7 N7 hr2 hd2 ha2
  simp only [List.cons_append, List.nil_append] at N7
  clear F6 N6
  k_steps
  rename Fr _ _ _ _ => F8
  rename News _ _ _ _ => N8
  unfold Stop
  have hnF : ∀ x ∈ ([m2, m1, 66, 73, c1, c2, K' + 1 + 1 + 1, K' + 1 + 1, K' + 1, 152, ra] : List Addr), x ≠ Df := addr_of (fun q hq => hd1 q (List.mem_append_left _ hq))
  have hd3 : ∀ q ∈ ([(Df, listOf (ts1.map fun p => Value.ref p.1).toArray k1), (m2, om2), (m1, om1), (66, tabObj p1), (73, tabObj p2), (c1, oc1), (c2, oc2), (K' + 1 + 1 + 1, o1), (K' + 1 + 1, o2), (K' + 1, o3), (152, tabObj p5), (ra, listOf vs.toArray kk)] ++ ts1) ++ ts2, q.1 ≠ Dr := hd2
  have hnR : ∀ x ∈ ([Df, m2, m1, 66, 73, c1, c2, K' + 1 + 1 + 1, K' + 1 + 1, K' + 1, 152, ra] : List Addr), x ≠ Dr := addr_of (l := [(Df, listOf (ts1.map fun p => Value.ref p.1).toArray k1), (m2, om2), (m1, om1), (66, tabObj p1), (73, tabObj p2), (c1, oc1), (c2, oc2), (K' + 1 + 1 + 1, o1), (K' + 1 + 1, o2), (K' + 1, o3), (152, tabObj p5), (ra, listOf vs.toArray kk)]) (fun q hq => hd3 q (List.mem_append_left _ (List.mem_append_left _ hq)))
  have hR1 : ∀ q ∈ ts1 ++ ts2, q.1 ≠ Df := fun q hq => by
    rcases List.mem_append.mp hq with h | h
    · exact hd1 q (List.mem_append_right _ h)
    · exact ha2 q h (Df, _) (.head _)
  have hR2 : ∀ q ∈ ts1 ++ ts2, q.1 ≠ Dr := fun q hq => hd3 q (by
    rcases List.mem_append.mp hq with h | h
    · exact List.mem_append_left _ (List.mem_append_right _ h)
    · exact List.mem_append_right _ h)
  have hR3 : ∀ q ∈ ts1 ++ ts2, q.1 ≠ 152 := fun q hq => by
    rcases List.mem_append.mp hq with h | h
    · exact ha1 q h (152, tabObj p5) (by simp)
    · exact ha2 q h (152, tabObj p5) (by simp)
  refine' mendd _ _ _ codes (ts1 ++ ts2) ts1 ts2 _ _ _ _ _ _ _ _ _ _ _ _ _ _ _ _ _ _ _ _ _ _ _ _ _ _ _ _ _ _ _ _ _ _ _ _ _ _ _ _ _ _ _ _ B X T C C2 C3 hd9 hu9 F8 N8 e1 LTB CB hc1 hc2 hra hm1 hm2 hmc l1 hnF hnR ?x1 ?x2 hR1 hR2 hR3 (fun q hq => List.mem_append_left _ hq) (fun q hq => List.mem_append_right _ hq) hr1 hr2 hlen4 hlen9 hway hb0 hbb hbh ?xr
  case x1 => exact Ne.symm (hnF 152 (by simp))
  case x2 => exact Ne.symm (hnR 152 (by simp))
  case xr => exact ret
  all_goals exact Value.none
end mendeK
theorem mende (s : Shared) (qk : Flow → Shared → Prop) (ek : Value → Shared → Prop) (codes : List (Addr × Obj)) (c1 c2 ra m1 m2 : Addr) (oc1 oc2 o1 o2 o3 om1 om2 : Obj) (p1 p2 p5 : Array Value) (vs : List Value) (ns : List Int) (kk : Nat) (lo way bl bh tn lp : Int) (x1 x2 x3 x5 x6 x7 x8 x9 xs : Value) (t1 t2 t3 t4 t5 t6 t7 : Tok) : mende.R s qk ek codes c1 c2 ra m1 m2 oc1 oc2 o1 o2 o3 om1 om2 p1 p2 p5 vs ns kk lo way bl bh tn lp x1 x2 x3 x5 x6 x7 x8 x9 xs t1 t2 t3 t4 t5 t6 t7 := shut mende.ne (Q := mende.Q) (by with_unfolding_all exact mendeK.main) (s, qk, ek, codes, c1, c2, ra, m1, m2, oc1, oc2, o1, o2, o3, om1, om2, p1, p2, p5, vs, ns, kk, lo, way, bl, bh, tn, lp, x1, x2, x3, x5, x6, x7, x8, x9, xs, t1, t2, t3, t4, t5, t6, t7)
end
end
section
open _root_.PySem _root_.PySem.W _root_.PyProof.Rows
theorem fresh_16 : True := by (w_top off); exact trivial
open LM
theorem fresh_17 : True := by (w_top off); first | (walk1; done) | trivial
section
local macro_rules | `(tactic| walk_at "exec Assign cons ListComp") => `(tactic| refine stop_here ?_)
local macro_rules | `(tactic| walk_at "eval ListComp") => `(tactic| refine stop_here ?_)
local macro_rules | `(tactic| walk_at "execs cons") => `(tactic| with_reducible refine stop5 ?_)
local macro_rules | `(tactic| walk_at "eval Lambda") => rowW `kla_eval "r" `lam_any "aaa>r<CUsrw.........N..LL"
noncomputable def mendc.R (s : Shared) (qk : Flow → Shared → Prop) (ek : Value → Shared → Prop) (codes : List (Addr × Obj)) (c1 c2 ra Ds : Addr) (oc1 oc2 o1 o2 o3 : Obj) (p1 p2 p5 : Array Value) (vs ys : List Value) (ns st : List Int) (kk ks : Nat) (lo way ah tn lp : Int) (x1 x2 x3 x4 x5 x6 x7 x8 : Value) (t1 t2 t3 t4 t5 t6 : Tok) : Prop :=
  ∀ (B : Below (ktrTop dp un gd cn cs L a ccd cl outer) base (envX cn cs L a ccd cl :: outer) g) (X : (hd.heap_1 w.params).In g) (T : Top topProg loose mean mg mb g) (C : CodeHd base 70 66) (C2 : CodeHd base 77 73) (C3 : CodeHd base 154 152) (hd9 : dp + 16 < recursionLimit) (hu9 : un + 200 < cLine) (F : Fr g K' s.heap (fun y => if y = Str.ofString "ahead" then some (.int ah t1) else if y = Str.ofString "lack" then some (x1) else if y = Str.ofString "laps" then some (.int lp t5) else if y = Str.ofString "ups" then some (x3) else if y = Str.ofString "lost" then some (.int lo t2) else if y = Str.ofString "turns" then some (.int tn t6) else if y = Str.ofString "total" then some (x5) else if y = Str.ofString "climbs" then some (x6) else if y = Str.ofString "size" then some (.int (ns.length + 1) t3) else if y = Str.ofString "kinds" then some (x7) else if y = Str.ofString "port" then some (x8) else none)) (N : News g K' s.heap [(66, tabObj p1), (73, tabObj p2), (c1, oc1), (c2, oc2), (Ds, listOf ys.toArray ks), (K' + 1 + 1 + 1, o1), (K' + 1 + 1, o2), (K' + 1, o3), (152, tabObj p5), (ra, listOf vs.toArray kk)]) (e1 : o1.data = .cell (some (.int way t4))) (e2 : o2.data = .cell (some (.ref Ds))) (e3 : o3.data = .cell (some (.ref ra))) (LTB : LamTab lamQ p5 codes) (CB : ∀ q ∈ codes, g.get? q.1 = some q.2) (hc1 : @LT.lt Nat _ 160 c1) (hc2 : @LT.lt Nat _ 160 c2) (hra : @LT.lt Nat _ 160 ra) (hDs : @Ne Nat Ds 152) (l1 : @LT.lt Nat _ 160 K') (hints : IntsAre vs ns) (hst : IntsAre ys st) (hsl : st.length = ns.length - 1) (hlen4 : 4 ≤ ns.length) (hlen9 : ns.length ≤ 9) (hway : way = 0 ∨ way = 1) (hah0 : 0 ≤ ah) (hah : ah ≤ 10) (ret : ∀ (h' : Heap) (tk' : Nat) (R0 : Addr) (mm : Str → Option Value) (lg : List (Addr × Obj)) (ps' : Array Value) (fp : List Addr), Fr g K' h' mm → News g K' h' ([(66, tabObj p1), (73, tabObj p2), (c1, oc1), (c2, oc2), (152, tabObj ps'), (ra, listOf vs.toArray kk)] ++ lg) → (∀ q ∈ lg, q.1 ∉ [66, 73, c1, c2, 152]) → LamTab lamQ ps' (lg ++ codes) → Reads h' (.ref R0) (mendT tn lp lo way (cutL st way ah ns.length) (cutR st way ah ns.length) ns) fp → qk (.ret (.ref R0)) { s with heap := h', toks := tk' }),
   wpAny (model PySem.Challenge.rw_ta0052_01.row.prog w) ((ktrTop dp un gd cn cs L a ccd cl outer).deeper (envOfC (Str.ofString "_law_mend") (scopeOf (topStmt 21)) K' 155 (.ref 154))) (execs ((bodyOf (topStmt 21)).drop 7) (envOfC (Str.ofString "_law_mend") (scopeOf (topStmt 21)) K' 155 (.ref 154))) qk ek s
abbrev mendc.T : Type := Shared × (Flow → Shared → Prop) × (Value → Shared → Prop) × (List (Addr × Obj)) × Addr × Addr × Addr × Addr × Obj × Obj × Obj × Obj × Obj × (Array Value) × (Array Value) × (Array Value) × (List Value) × (List Value) × (List Int) × Nat × Nat × Int × Int × Int × Int × Int × Value × Value × Value × Value × Value × Value × Value × Value × Tok × Tok × Tok × Tok × Tok × Tok
theorem mendc.ne : Nonempty mendc.T := ⟨({}, fun _ _ => True, fun _ _ => True, [], 0, 0, 0, 0, default, default, default, default, default, #[], #[], #[], [], [], [], 0, 0, 0, 0, 0, 0, 0, .none, .none, .none, .none, .none, .none, .none, .none, 0, 0, 0, 0, 0, 0)⟩
noncomputable def mendc.Q (c : mendc.T) : Prop := ∀ (ns : List Int), mendc.R c.1 c.2.1 c.2.2.1 c.2.2.2.1 c.2.2.2.2.1 c.2.2.2.2.2.1 c.2.2.2.2.2.2.1 c.2.2.2.2.2.2.2.1 c.2.2.2.2.2.2.2.2.1 c.2.2.2.2.2.2.2.2.2.1 c.2.2.2.2.2.2.2.2.2.2.1 c.2.2.2.2.2.2.2.2.2.2.2.1 c.2.2.2.2.2.2.2.2.2.2.2.2.1 c.2.2.2.2.2.2.2.2.2.2.2.2.2.1 c.2.2.2.2.2.2.2.2.2.2.2.2.2.2.1 c.2.2.2.2.2.2.2.2.2.2.2.2.2.2.2.1 c.2.2.2.2.2.2.2.2.2.2.2.2.2.2.2.2.1 c.2.2.2.2.2.2.2.2.2.2.2.2.2.2.2.2.2.1 ns c.2.2.2.2.2.2.2.2.2.2.2.2.2.2.2.2.2.2.1 c.2.2.2.2.2.2.2.2.2.2.2.2.2.2.2.2.2.2.2.1 c.2.2.2.2.2.2.2.2.2.2.2.2.2.2.2.2.2.2.2.2.1 c.2.2.2.2.2.2.2.2.2.2.2.2.2.2.2.2.2.2.2.2.2.1 c.2.2.2.2.2.2.2.2.2.2.2.2.2.2.2.2.2.2.2.2.2.2.1 c.2.2.2.2.2.2.2.2.2.2.2.2.2.2.2.2.2.2.2.2.2.2.2.1 c.2.2.2.2.2.2.2.2.2.2.2.2.2.2.2.2.2.2.2.2.2.2.2.2.1 c.2.2.2.2.2.2.2.2.2.2.2.2.2.2.2.2.2.2.2.2.2.2.2.2.2.1 c.2.2.2.2.2.2.2.2.2.2.2.2.2.2.2.2.2.2.2.2.2.2.2.2.2.2.1 c.2.2.2.2.2.2.2.2.2.2.2.2.2.2.2.2.2.2.2.2.2.2.2.2.2.2.2.1 c.2.2.2.2.2.2.2.2.2.2.2.2.2.2.2.2.2.2.2.2.2.2.2.2.2.2.2.2.1 c.2.2.2.2.2.2.2.2.2.2.2.2.2.2.2.2.2.2.2.2.2.2.2.2.2.2.2.2.2.1 c.2.2.2.2.2.2.2.2.2.2.2.2.2.2.2.2.2.2.2.2.2.2.2.2.2.2.2.2.2.2.1 c.2.2.2.2.2.2.2.2.2.2.2.2.2.2.2.2.2.2.2.2.2.2.2.2.2.2.2.2.2.2.2.1 c.2.2.2.2.2.2.2.2.2.2.2.2.2.2.2.2.2.2.2.2.2.2.2.2.2.2.2.2.2.2.2.2.1 c.2.2.2.2.2.2.2.2.2.2.2.2.2.2.2.2.2.2.2.2.2.2.2.2.2.2.2.2.2.2.2.2.2.1 c.2.2.2.2.2.2.2.2.2.2.2.2.2.2.2.2.2.2.2.2.2.2.2.2.2.2.2.2.2.2.2.2.2.2.1 c.2.2.2.2.2.2.2.2.2.2.2.2.2.2.2.2.2.2.2.2.2.2.2.2.2.2.2.2.2.2.2.2.2.2.2.1 c.2.2.2.2.2.2.2.2.2.2.2.2.2.2.2.2.2.2.2.2.2.2.2.2.2.2.2.2.2.2.2.2.2.2.2.2.1 c.2.2.2.2.2.2.2.2.2.2.2.2.2.2.2.2.2.2.2.2.2.2.2.2.2.2.2.2.2.2.2.2.2.2.2.2.2.1 c.2.2.2.2.2.2.2.2.2.2.2.2.2.2.2.2.2.2.2.2.2.2.2.2.2.2.2.2.2.2.2.2.2.2.2.2.2.2.1 c.2.2.2.2.2.2.2.2.2.2.2.2.2.2.2.2.2.2.2.2.2.2.2.2.2.2.2.2.2.2.2.2.2.2.2.2.2.2.2
noncomputable def mendc.c : mendc.T := Classical.epsilon (h := mendc.ne) fun c => ¬ mendc.Q c
namespace mendcK
@[irreducible] noncomputable def s := mendc.c.1
@[irreducible] noncomputable def qk := mendc.c.2.1
@[irreducible] noncomputable def ek := mendc.c.2.2.1
@[irreducible] noncomputable def codes := mendc.c.2.2.2.1
@[irreducible] noncomputable def c1 := mendc.c.2.2.2.2.1
@[irreducible] noncomputable def c2 := mendc.c.2.2.2.2.2.1
@[irreducible] noncomputable def ra := mendc.c.2.2.2.2.2.2.1
@[irreducible] noncomputable def Ds := mendc.c.2.2.2.2.2.2.2.1
@[irreducible] noncomputable def oc1 := mendc.c.2.2.2.2.2.2.2.2.1
@[irreducible] noncomputable def oc2 := mendc.c.2.2.2.2.2.2.2.2.2.1
@[irreducible] noncomputable def o1 := mendc.c.2.2.2.2.2.2.2.2.2.2.1
@[irreducible] noncomputable def o2 := mendc.c.2.2.2.2.2.2.2.2.2.2.2.1
@[irreducible] noncomputable def o3 := mendc.c.2.2.2.2.2.2.2.2.2.2.2.2.1
@[irreducible] noncomputable def p1 := mendc.c.2.2.2.2.2.2.2.2.2.2.2.2.2.1
@[irreducible] noncomputable def p2 := mendc.c.2.2.2.2.2.2.2.2.2.2.2.2.2.2.1
@[irreducible] noncomputable def p5 := mendc.c.2.2.2.2.2.2.2.2.2.2.2.2.2.2.2.1
@[irreducible] noncomputable def vs := mendc.c.2.2.2.2.2.2.2.2.2.2.2.2.2.2.2.2.1
@[irreducible] noncomputable def ys := mendc.c.2.2.2.2.2.2.2.2.2.2.2.2.2.2.2.2.2.1
@[irreducible] noncomputable def st := mendc.c.2.2.2.2.2.2.2.2.2.2.2.2.2.2.2.2.2.2.1
@[irreducible] noncomputable def kk := mendc.c.2.2.2.2.2.2.2.2.2.2.2.2.2.2.2.2.2.2.2.1
@[irreducible] noncomputable def ks := mendc.c.2.2.2.2.2.2.2.2.2.2.2.2.2.2.2.2.2.2.2.2.1
@[irreducible] noncomputable def lo := mendc.c.2.2.2.2.2.2.2.2.2.2.2.2.2.2.2.2.2.2.2.2.2.1
@[irreducible] noncomputable def way := mendc.c.2.2.2.2.2.2.2.2.2.2.2.2.2.2.2.2.2.2.2.2.2.2.1
@[irreducible] noncomputable def ah := mendc.c.2.2.2.2.2.2.2.2.2.2.2.2.2.2.2.2.2.2.2.2.2.2.2.1
@[irreducible] noncomputable def tn := mendc.c.2.2.2.2.2.2.2.2.2.2.2.2.2.2.2.2.2.2.2.2.2.2.2.2.1
@[irreducible] noncomputable def lp := mendc.c.2.2.2.2.2.2.2.2.2.2.2.2.2.2.2.2.2.2.2.2.2.2.2.2.2.1
@[irreducible] noncomputable def x1 := mendc.c.2.2.2.2.2.2.2.2.2.2.2.2.2.2.2.2.2.2.2.2.2.2.2.2.2.2.1
@[irreducible] noncomputable def x2 := mendc.c.2.2.2.2.2.2.2.2.2.2.2.2.2.2.2.2.2.2.2.2.2.2.2.2.2.2.2.1
@[irreducible] noncomputable def x3 := mendc.c.2.2.2.2.2.2.2.2.2.2.2.2.2.2.2.2.2.2.2.2.2.2.2.2.2.2.2.2.1
@[irreducible] noncomputable def x4 := mendc.c.2.2.2.2.2.2.2.2.2.2.2.2.2.2.2.2.2.2.2.2.2.2.2.2.2.2.2.2.2.1
@[irreducible] noncomputable def x5 := mendc.c.2.2.2.2.2.2.2.2.2.2.2.2.2.2.2.2.2.2.2.2.2.2.2.2.2.2.2.2.2.2.1
@[irreducible] noncomputable def x6 := mendc.c.2.2.2.2.2.2.2.2.2.2.2.2.2.2.2.2.2.2.2.2.2.2.2.2.2.2.2.2.2.2.2.1
@[irreducible] noncomputable def x7 := mendc.c.2.2.2.2.2.2.2.2.2.2.2.2.2.2.2.2.2.2.2.2.2.2.2.2.2.2.2.2.2.2.2.2.1
@[irreducible] noncomputable def x8 := mendc.c.2.2.2.2.2.2.2.2.2.2.2.2.2.2.2.2.2.2.2.2.2.2.2.2.2.2.2.2.2.2.2.2.2.1
@[irreducible] noncomputable def t1 := mendc.c.2.2.2.2.2.2.2.2.2.2.2.2.2.2.2.2.2.2.2.2.2.2.2.2.2.2.2.2.2.2.2.2.2.2.1
@[irreducible] noncomputable def t2 := mendc.c.2.2.2.2.2.2.2.2.2.2.2.2.2.2.2.2.2.2.2.2.2.2.2.2.2.2.2.2.2.2.2.2.2.2.2.1
@[irreducible] noncomputable def t3 := mendc.c.2.2.2.2.2.2.2.2.2.2.2.2.2.2.2.2.2.2.2.2.2.2.2.2.2.2.2.2.2.2.2.2.2.2.2.2.1
@[irreducible] noncomputable def t4 := mendc.c.2.2.2.2.2.2.2.2.2.2.2.2.2.2.2.2.2.2.2.2.2.2.2.2.2.2.2.2.2.2.2.2.2.2.2.2.2.1
@[irreducible] noncomputable def t5 := mendc.c.2.2.2.2.2.2.2.2.2.2.2.2.2.2.2.2.2.2.2.2.2.2.2.2.2.2.2.2.2.2.2.2.2.2.2.2.2.2.1
@[irreducible] noncomputable def t6 := mendc.c.2.2.2.2.2.2.2.2.2.2.2.2.2.2.2.2.2.2.2.2.2.2.2.2.2.2.2.2.2.2.2.2.2.2.2.2.2.2.2
theorem main (ns : List Int) : mendc.R s qk ek codes c1 c2 ra Ds oc1 oc2 o1 o2 o3 p1 p2 p5 vs ys ns st kk ks lo way ah tn lp x1 x2 x3 x4 x5 x6 x7 x8 t1 t2 t3 t4 t5 t6 := by
  intro B X T C C2 C3 hd9 hu9 F N e1 e2 e3 LTB CB hc1 hc2 hra hDs l1 hints hst hsl hlen4 hlen9 hway hah0 hah ret
  refine cutG fun Pc kc => ?_
  obtain ⟨sc, hsc⟩ : ∃ sc, sc = scopeOf (topStmt 21) := ⟨_, rfl⟩
  refine kc ?_
  clear kc Pc
  rw [← hsc]
  conv at hsc => rhs; whnf
  subst hsc
  revert X T; k_fill; intro X T
  change wpAny _ _ (execs (_ :: _) _) _ _ _
  k_unmd
  k_steps
  rename News _ _ _ _ => N1
  rename Fr _ _ _ _ => F1
  rename LamTab _ _ _ => LT1
  rename ∃ oc' vs t, _ => hx1
  rename IntsAre _ (rangeKs _ _) => hR1
  have hlv := hR1.length
  rw [rangeKs_length, show (↑ns.length + 1 - 1 - 0 : Int).toNat = ns.length by omega] at hlv
  have b1 := BisL2S w mean mg mb loose
  refine' BisL2.use (codes := codes) (g := fun i => (((st.take i).count (1 - way) : Nat) : Int)) b1 ?bB ?bF ?bX ?bT ?bhk ?bN ?bC ?bCB ?bha ?bhkf ?bhfn ?bhK ?blen ?bhd ?bhu ?bret
  case bB => k_asm
  case bF => k_asm
  case bX => k_asm
  case bT => k_asm
  case bhk => exact rfl
  case bN => k_asm
  case bC => k_asm
  case bCB => assumption
  case bha => exact .tail _ (.tail _ (.head _))
  case bhkf => exact .head _
  case bhfn => exact ⟨_, _, _, _, rfl⟩
  case blen => rw [hR1.length, rangeKs_length]; omega
  case bhd => (try simp only [depth_deeper]); (try dsimp only); omega
  case bhu => (try simp only [units_deeper]); (try dsimp only); omega
  case bhK =>
    unfold KeyOk
    intro dpk unk gdk cnk csk ak ccdk clk outerk A0k basek hk Lk mk sk Qk Ek i v Bk Fk Xk Tk hkk CBk Nk hik hdk huk retk
    obtain ⟨tk9, hv9⟩ := ks_get hR1 hik
    subst hv9
    revert Xk Tk; k_fill; intro Xk Tk
    refine wpAny_call ?_
    refine' kla_code (binds := [(Str.ofString "k", _)]) Bk Fk Xk Nk Tk rfl rfl hkk (List.mem_cons_self) (codeRec_in Fk Nk CBk (hx_mono hx1 (by walk_at "my s"))) ?room ?bind (locs rfl) ?main rfl rfl rfl ?cell
    case room => (show dpk < recursionLimit; omega)
    case bind => exact rfl
    case cell => decide
    case main =>
    intro gk Lk' hk' FGk Fk' Nk' Bk' Xk' Tk'
    clear Nk Fk Bk
    dsimp only
    k_unmd
    k_fold
    k_steps
    exact retk _ _ _ (by assumption) (news_tail (by assumption))
  case bret =>
  intro h2 tk2 u2 F2 N2
  rw [hlv]
  replace N2 := news_tail N2
  clear F1 N1 b1 hx1
  k_steps
  rename News _ _ _ _ => N1
  rename Fr _ _ _ _ => F1
  rename LamTab _ _ _ => LT1
  rename ∃ oc' vs t, _ => hx1
  have b2 := BisR2S w mean mg mb loose
  refine' BisR2.use (codes := codes) (g := fun i => (((st.take i).count (1 - way) : Nat) : Int)) b2 ?bB ?bF ?bX ?bT ?bhk ?bN ?bC ?bCB ?bha ?bhkf ?bhfn ?bhK ?blen ?bhd ?bhu ?bret
  case bB => k_asm
  case bF => k_asm
  case bX => k_asm
  case bT => k_asm
  case bhk => exact rfl
  case bN => k_asm
  case bC => k_asm
  case bCB => assumption
  case bha => exact .tail _ (.tail _ (.tail _ (.head _)))
  case bhkf => exact .head _
  case bhfn => exact ⟨_, _, _, _, rfl⟩
  case blen => rw [hR1.length, rangeKs_length]; omega
  case bhd => (try simp only [depth_deeper]); (try dsimp only); omega
  case bhu => (try simp only [units_deeper]); (try dsimp only); omega
  case bhK =>
    unfold KeyOk
    intro dpk unk gdk cnk csk ak ccdk clk outerk A0k basek hk Lk mk sk Qk Ek i v Bk Fk Xk Tk hkk CBk Nk hik hdk huk retk
    obtain ⟨tk9, hv9⟩ := ks_get hR1 hik
    subst hv9
    revert Xk Tk; k_fill; intro Xk Tk
    refine wpAny_call ?_
    refine' kla_code (binds := [(Str.ofString "k", _)]) Bk Fk Xk Nk Tk rfl rfl hkk (List.mem_cons_self) (codeRec_in Fk Nk CBk (hx_mono hx1 (by walk_at "my s"))) ?room ?bind (locs rfl) ?main rfl rfl rfl ?cell
    case room => (show dpk < recursionLimit; omega)
    case bind => exact rfl
    case cell => decide
    case main =>
    intro gk Lk' hk' FGk Fk' Nk' Bk' Xk' Tk'
    clear Nk Fk Bk
    dsimp only
    k_unmd
    k_fold
    k_steps
    exact retk _ _ _ (by assumption) (news_tail (by assumption))
  case bret =>
  intro h3 tk3 u3 F3 N3
  rw [hlv]
  replace N3 := news_tail N3
  clear F1 N1 b2 hx1
  k_steps
  unfold Stop
  rename News _ _ _ _ => N9
  rename Fr _ _ _ _ => F9
  have hci := cut_in st way ah ns.length
  refine' mende _ _ _ codes c1 c2 ra _ _ oc1 oc2 o1 o2 o3 _ _ p1 p2 _ vs ns kk lo way _ _ tn lp _ _ _ _ _ _ _ _ _ _ _ _ _ _ _ _ B X T C C2 C3 hd9 hu9 F9 ?xN e1 LT1 CB hc1 hc2 hra ?xm1 ?xm2 ?xmc l1 hlen4 hlen9 hway hci.1 hci.2.1 hci.2.2 e3 hints ?xlm ?xr
  case xN => exact newsS N9 (by walk_at "my s")
  case xm1 => simp only [AllLt, and_true] at *; exact ltN (by omega)
  case xm2 => simp only [AllLt, and_true] at *; exact ltN (by omega)
  case xmc => simp only [AllLt, and_true] at *; exact ⟨⟨ltN (by omega), ltN (by omega)⟩, ltN (by omega), ltN (by omega)⟩
  case xlm => simp only [AllLt, and_true] at *; exact ⟨ltN (by omega), ltN (by omega)⟩
  case xr => exact ret
  all_goals exact Value.none
end mendcK
theorem mendc (s : Shared) (qk : Flow → Shared → Prop) (ek : Value → Shared → Prop) (codes : List (Addr × Obj)) (c1 c2 ra Ds : Addr) (oc1 oc2 o1 o2 o3 : Obj) (p1 p2 p5 : Array Value) (vs ys : List Value) (ns st : List Int) (kk ks : Nat) (lo way ah tn lp : Int) (x1 x2 x3 x4 x5 x6 x7 x8 : Value) (t1 t2 t3 t4 t5 t6 : Tok) : mendc.R s qk ek codes c1 c2 ra Ds oc1 oc2 o1 o2 o3 p1 p2 p5 vs ys ns st kk ks lo way ah tn lp x1 x2 x3 x4 x5 x6 x7 x8 t1 t2 t3 t4 t5 t6 := shut mendc.ne (Q := mendc.Q) (by with_unfolding_all exact mendcK.main) (s, qk, ek, codes, c1, c2, ra, Ds, oc1, oc2, o1, o2, o3, p1, p2, p5, vs, ys, st, kk, ks, lo, way, ah, tn, lp, x1, x2, x3, x4, x5, x6, x7, x8, t1, t2, t3, t4, t5, t6) ns
end
end
section
open _root_.PySem _root_.PySem.W _root_.PyProof.Rows
theorem fresh_18 : True := by (w_top off); exact trivial
open LM
theorem stp_len (ns : List Int) : (stp ns).length = ns.length - 1 := by rw [stp, List.length_map, rangeInts_length]
theorem climbP_bd (ns : List Int) (h : ns.length ≤ 9) : 0 ≤ climbP ns ∧ climbP ns ≤ 64 := by
  unfold climbP
  have hb : ∀ i ∈ ((rangeInts 0 1 (ns.length - 1)).filter fun k => (stp ns).getD k.toNat 0 == 1).map (fun k => k + 1), 0 ≤ i ∧ i ≤ 8 := by
    intro i hi
    refine cutG fun Pc kc => ?_
    obtain ⟨k, hk, rfl⟩ := List.mem_map.mp hi
    refine kc ?_
    clear kc Pc
    have := mem_rangeInts (List.mem_filter.mp hk).1
    omega
  refine ⟨sum_nonneg' fun i hi => (hb i hi).1, ?_⟩
  have h1 := sum_le_of (b := 8) (fun i hi => (hb i hi).2)
  have h2 : (((rangeInts 0 1 (ns.length - 1)).filter fun k => (stp ns).getD k.toNat 0 == 1).map fun k => k + 1).length ≤ 8 := by
    rw [List.length_map]
    refine Nat.le_trans (List.length_filter_le _ _) ?_
    rw [rangeInts_length]; omega
  omega
theorem stp_sum (ns : List Int) (h : ns.length ≤ 9) : 0 ≤ (stp ns).sum ∧ (stp ns).sum ≤ 8 := by
  have hb : ∀ i ∈ stp ns, 0 ≤ i ∧ i ≤ 1 := by
    intro i hi
    refine cutG fun Pc kc => ?_
    obtain ⟨k, hk, rfl⟩ := List.mem_map.mp hi
    refine kc ?_
    clear kc Pc
    split <;> omega
  refine ⟨sum_nonneg' fun i hi => (hb i hi).1, ?_⟩
  have h1 := sum_le_of (b := 1) (fun i hi => (hb i hi).2)
  rw [stp_len] at h1
  omega
section
local macro_rules | `(tactic| walk_at "exec Assign cons ListComp") => `(tactic| refine stop_here ?_)
local macro_rules | `(tactic| walk_at "eval ListComp") => `(tactic| refine stop_here ?_)
local macro_rules | `(tactic| walk_at "execs cons") => `(tactic| with_reducible refine stop8 ?_)
noncomputable def mendB.R (s : Shared) (qk : Flow → Shared → Prop) (ek : Value → Shared → Prop) (codes : List (Addr × Obj)) (c1 c2 ra : Addr) (oc1 oc2 o1 o2 o3 : Obj) (p1 p2 p5 : Array Value) (vs : List Value) (ns : List Int) (kk : Nat) (port kinds cb tot tn lo : Int) (t1 t2 t3 t4 t5 t6 t7 : Tok) : Prop :=
  ∀ (B : Below (ktrTop dp un gd cn cs L a ccd cl outer) base (envX cn cs L a ccd cl :: outer) g) (X : (hd.heap_1 w.params).In g) (T : Top topProg loose mean mg mb g) (C : CodeHd base 70 66) (C2 : CodeHd base 77 73) (C3 : CodeHd base 154 152) (hd9 : dp + 16 < recursionLimit) (hu9 : un + 200 < cLine) (F : Fr g K' s.heap (fun y => if y = Str.ofString "lost" then some (.int lo t6) else if y = Str.ofString "turns" then some (.int tn t5) else if y = Str.ofString "total" then some (.int tot t4) else if y = Str.ofString "climbs" then some (.int cb t3) else if y = Str.ofString "size" then some (.int (ns.length + 1) t7) else if y = Str.ofString "kinds" then some (.int kinds t2) else if y = Str.ofString "port" then some (.int port t1) else none)) (N : News g K' s.heap [(66, tabObj p1), (73, tabObj p2), (c1, oc1), (c2, oc2), (K' + 1 + 1 + 1, o1), (K' + 1 + 1, o2), (K' + 1, o3), (152, tabObj p5), (ra, listOf vs.toArray kk)]) (e1 : o1.data = .cell none) (e2 : o2.data = .cell none) (e3 : o3.data = .cell (some (.ref ra))) (LTB : LamTab lamQ p5 codes) (CB : ∀ q ∈ codes, g.get? q.1 = some q.2) (S : TabSt 85 4 "_int2digits.<locals>.inner" p1 [(c1, oc1)]) (S2 : TabSt 100 4 "_digits2int.<locals>.inner" p2 [(c2, oc2)]) (d1 : ∃ vs, oc1.data = .fields vs) (d2 : ∃ vs, oc2.data = .fields vs) (hc1 : @LT.lt Nat _ 160 c1) (hc2 : @LT.lt Nat _ 160 c2) (hra : @LT.lt Nat _ 160 ra) (l0 : @LT.lt Nat _ ra K') (l1 : @LT.lt Nat _ 160 K') (hints : IntsAre vs ns) (hk2 : 2 ≤ kinds) (hk6 : kinds ≤ 6) (hlen4 : 4 ≤ ns.length) (hlen9 : ns.length ≤ 9) (hrow : ∀ i ∈ ns, 0 ≤ i ∧ i < kinds) (hcb0 : 0 ≤ cb) (hcb : cb ≤ 30) (hlo0 : 0 ≤ lo) (hlo : lo < kinds) (ret : ∀ (h' : Heap) (tk' : Nat) (R0 : Addr) (mm : Str → Option Value) (lg : List (Addr × Obj)) (ps' : Array Value) (fp : List Addr) (c1' c2' : Addr) (oc1' oc2' : Obj) (p1' p2' : Array Value), Fr g K' h' mm → News g K' h' ([(66, tabObj p1'), (73, tabObj p2'), (c1', oc1'), (c2', oc2'), (152, tabObj ps'), (ra, listOf vs.toArray kk)] ++ lg) → (∀ q ∈ lg, q.1 ∉ [66, 73, c1', c2', 152]) → LamTab lamQ ps' (lg ++ codes) → Reads h' (.ref R0) (mendR tn lo cb ns) fp → TabSt 85 4 "_int2digits.<locals>.inner" p1' [(c1', oc1')] → TabSt 100 4 "_digits2int.<locals>.inner" p2' [(c2', oc2')] → @LT.lt Nat _ 160 c1' → @LT.lt Nat _ 160 c2' → qk (.ret (.ref R0)) { s with heap := h', toks := tk' }),
   wpAny (model PySem.Challenge.rw_ta0052_01.row.prog w) ((ktrTop dp un gd cn cs L a ccd cl outer).deeper (envOfC (Str.ofString "_law_mend") (scopeOf (topStmt 21)) K' 155 (.ref 154))) (execs ((bodyOf (topStmt 21)).drop 3) (envOfC (Str.ofString "_law_mend") (scopeOf (topStmt 21)) K' 155 (.ref 154))) qk ek s
abbrev mendB.T : Type := Shared × (Flow → Shared → Prop) × (Value → Shared → Prop) × (List (Addr × Obj)) × Addr × Addr × Addr × Obj × Obj × Obj × Obj × Obj × (Array Value) × (Array Value) × (Array Value) × (List Value) × (List Int) × Nat × Int × Int × Int × Int × Int × Int × Tok × Tok × Tok × Tok × Tok × Tok × Tok
theorem mendB.ne : Nonempty mendB.T := ⟨({}, fun _ _ => True, fun _ _ => True, [], 0, 0, 0, default, default, default, default, default, #[], #[], #[], [], [], 0, 0, 0, 0, 0, 0, 0, 0, 0, 0, 0, 0, 0, 0)⟩
noncomputable def mendB.Q (c : mendB.T) : Prop := mendB.R c.1 c.2.1 c.2.2.1 c.2.2.2.1 c.2.2.2.2.1 c.2.2.2.2.2.1 c.2.2.2.2.2.2.1 c.2.2.2.2.2.2.2.1 c.2.2.2.2.2.2.2.2.1 c.2.2.2.2.2.2.2.2.2.1 c.2.2.2.2.2.2.2.2.2.2.1 c.2.2.2.2.2.2.2.2.2.2.2.1 c.2.2.2.2.2.2.2.2.2.2.2.2.1 c.2.2.2.2.2.2.2.2.2.2.2.2.2.1 c.2.2.2.2.2.2.2.2.2.2.2.2.2.2.1 c.2.2.2.2.2.2.2.2.2.2.2.2.2.2.2.1 c.2.2.2.2.2.2.2.2.2.2.2.2.2.2.2.2.1 c.2.2.2.2.2.2.2.2.2.2.2.2.2.2.2.2.2.1 c.2.2.2.2.2.2.2.2.2.2.2.2.2.2.2.2.2.2.1 c.2.2.2.2.2.2.2.2.2.2.2.2.2.2.2.2.2.2.2.1 c.2.2.2.2.2.2.2.2.2.2.2.2.2.2.2.2.2.2.2.2.1 c.2.2.2.2.2.2.2.2.2.2.2.2.2.2.2.2.2.2.2.2.2.1 c.2.2.2.2.2.2.2.2.2.2.2.2.2.2.2.2.2.2.2.2.2.2.1 c.2.2.2.2.2.2.2.2.2.2.2.2.2.2.2.2.2.2.2.2.2.2.2.1 c.2.2.2.2.2.2.2.2.2.2.2.2.2.2.2.2.2.2.2.2.2.2.2.2.1 c.2.2.2.2.2.2.2.2.2.2.2.2.2.2.2.2.2.2.2.2.2.2.2.2.2.1 c.2.2.2.2.2.2.2.2.2.2.2.2.2.2.2.2.2.2.2.2.2.2.2.2.2.2.1 c.2.2.2.2.2.2.2.2.2.2.2.2.2.2.2.2.2.2.2.2.2.2.2.2.2.2.2.1 c.2.2.2.2.2.2.2.2.2.2.2.2.2.2.2.2.2.2.2.2.2.2.2.2.2.2.2.2.1 c.2.2.2.2.2.2.2.2.2.2.2.2.2.2.2.2.2.2.2.2.2.2.2.2.2.2.2.2.2.1 c.2.2.2.2.2.2.2.2.2.2.2.2.2.2.2.2.2.2.2.2.2.2.2.2.2.2.2.2.2.2
noncomputable def mendB.c : mendB.T := Classical.epsilon (h := mendB.ne) fun c => ¬ mendB.Q c
namespace mendBK
@[irreducible] noncomputable def s := mendB.c.1
@[irreducible] noncomputable def qk := mendB.c.2.1
@[irreducible] noncomputable def ek := mendB.c.2.2.1
@[irreducible] noncomputable def codes := mendB.c.2.2.2.1
@[irreducible] noncomputable def c1 := mendB.c.2.2.2.2.1
@[irreducible] noncomputable def c2 := mendB.c.2.2.2.2.2.1
@[irreducible] noncomputable def ra := mendB.c.2.2.2.2.2.2.1
@[irreducible] noncomputable def oc1 := mendB.c.2.2.2.2.2.2.2.1
@[irreducible] noncomputable def oc2 := mendB.c.2.2.2.2.2.2.2.2.1
@[irreducible] noncomputable def o1 := mendB.c.2.2.2.2.2.2.2.2.2.1
@[irreducible] noncomputable def o2 := mendB.c.2.2.2.2.2.2.2.2.2.2.1
@[irreducible] noncomputable def o3 := mendB.c.2.2.2.2.2.2.2.2.2.2.2.1
@[irreducible] noncomputable def p1 := mendB.c.2.2.2.2.2.2.2.2.2.2.2.2.1
@[irreducible] noncomputable def p2 := mendB.c.2.2.2.2.2.2.2.2.2.2.2.2.2.1
@[irreducible] noncomputable def p5 := mendB.c.2.2.2.2.2.2.2.2.2.2.2.2.2.2.1
@[irreducible] noncomputable def vs := mendB.c.2.2.2.2.2.2.2.2.2.2.2.2.2.2.2.1
@[irreducible] noncomputable def ns := mendB.c.2.2.2.2.2.2.2.2.2.2.2.2.2.2.2.2.1
@[irreducible] noncomputable def kk := mendB.c.2.2.2.2.2.2.2.2.2.2.2.2.2.2.2.2.2.1
@[irreducible] noncomputable def port := mendB.c.2.2.2.2.2.2.2.2.2.2.2.2.2.2.2.2.2.2.1
@[irreducible] noncomputable def kinds := mendB.c.2.2.2.2.2.2.2.2.2.2.2.2.2.2.2.2.2.2.2.1
@[irreducible] noncomputable def cb := mendB.c.2.2.2.2.2.2.2.2.2.2.2.2.2.2.2.2.2.2.2.2.1
@[irreducible] noncomputable def tot := mendB.c.2.2.2.2.2.2.2.2.2.2.2.2.2.2.2.2.2.2.2.2.2.1
@[irreducible] noncomputable def tn := mendB.c.2.2.2.2.2.2.2.2.2.2.2.2.2.2.2.2.2.2.2.2.2.2.1
@[irreducible] noncomputable def lo := mendB.c.2.2.2.2.2.2.2.2.2.2.2.2.2.2.2.2.2.2.2.2.2.2.2.1
@[irreducible] noncomputable def t1 := mendB.c.2.2.2.2.2.2.2.2.2.2.2.2.2.2.2.2.2.2.2.2.2.2.2.2.1
@[irreducible] noncomputable def t2 := mendB.c.2.2.2.2.2.2.2.2.2.2.2.2.2.2.2.2.2.2.2.2.2.2.2.2.2.1
@[irreducible] noncomputable def t3 := mendB.c.2.2.2.2.2.2.2.2.2.2.2.2.2.2.2.2.2.2.2.2.2.2.2.2.2.2.1
@[irreducible] noncomputable def t4 := mendB.c.2.2.2.2.2.2.2.2.2.2.2.2.2.2.2.2.2.2.2.2.2.2.2.2.2.2.2.1
@[irreducible] noncomputable def t5 := mendB.c.2.2.2.2.2.2.2.2.2.2.2.2.2.2.2.2.2.2.2.2.2.2.2.2.2.2.2.2.1
@[irreducible] noncomputable def t6 := mendB.c.2.2.2.2.2.2.2.2.2.2.2.2.2.2.2.2.2.2.2.2.2.2.2.2.2.2.2.2.2.1
@[irreducible] noncomputable def t7 := mendB.c.2.2.2.2.2.2.2.2.2.2.2.2.2.2.2.2.2.2.2.2.2.2.2.2.2.2.2.2.2.2
theorem main : mendB.R s qk ek codes c1 c2 ra oc1 oc2 o1 o2 o3 p1 p2 p5 vs ns kk port kinds cb tot tn lo t1 t2 t3 t4 t5 t6 t7 := by
  intro B X T C C2 C3 hd9 hu9 F N e1 e2 e3 LTB CB S S2 d1 d2 hc1 hc2 hra l0 l1 hints hk2 hk6 hlen4 hlen9 hrow hcb0 hcb hlo0 hlo ret
  refine cutG fun Pc kc => ?_
  obtain ⟨sc, hsc⟩ : ∃ sc, sc = scopeOf (topStmt 21) := ⟨_, rfl⟩
  refine kc ?_
  clear kc Pc
  rw [← hsc]
  conv at hsc => rhs; whnf
  subst hsc
  revert X T; k_fill; intro X T
  change wpAny _ _ (execs (_ :: _) _) _ _ _
  k_unmd
  obtain ⟨ff1, dd1⟩ := d1
  obtain ⟨ff2, dd2⟩ := d2
  have qrac1 : @Ne Nat (ra) c1 := ne_dd (o := listOf vs.toArray kk) (o' := oc1) N (by walk_at "my m") (by walk_at "my m") rfl dd1 rfl
  have qrac2 : @Ne Nat (ra) c2 := ne_dd (o := listOf vs.toArray kk) (o' := oc2) N (by walk_at "my m") (by walk_at "my m") rfl dd2 rfl
  have qL1c1 : @Ne Nat (K' + 1) c1 := ne_dd (o := o3) (o' := oc1) N (by walk_at "my m") (by walk_at "my m") e3 dd1 rfl
  have qL1c2 : @Ne Nat (K' + 1) c2 := ne_dd (o := o3) (o' := oc2) N (by walk_at "my m") (by walk_at "my m") e3 dd2 rfl
  have qL2c1 : @Ne Nat (K' + 1 + 1) c1 := ne_dd (o := o2) (o' := oc1) N (by walk_at "my m") (by walk_at "my m") e2 dd1 rfl
  have qL2c2 : @Ne Nat (K' + 1 + 1) c2 := ne_dd (o := o2) (o' := oc2) N (by walk_at "my m") (by walk_at "my m") e2 dd2 rfl
  have qL3c1 : @Ne Nat (K' + 1 + 1 + 1) c1 := ne_dd (o := o1) (o' := oc1) N (by walk_at "my m") (by walk_at "my m") e1 dd1 rfl
  have qL3c2 : @Ne Nat (K' + 1 + 1 + 1) c2 := ne_dd (o := o1) (o' := oc2) N (by walk_at "my m") (by walk_at "my m") e1 dd2 rfl
  k_steps
  unfold Stop
  refine wpAny_Assign_Name ?_ (by with_unfolding_all rfl)
  refine' compI F N 0 (ns.length - 1) (fun _ => true) (fun k => if decide (ns.getD k.toNat 0 ≤ ns.getD (k + 1).toNat 0) = true then 1 else 0) ?hh ?hclos ?hcell ?hkind ?hnames ?hx ?hn ?h0 ?h1 ?hit ?htest ?helt ?hQ ?hs
  case hh => with_unfolding_all rfl
  case hclos => with_unfolding_all rfl
  case hcell => decide
  case hkind => with_unfolding_all rfl
  case hnames => decide
  case hx => with_unfolding_all rfl
  case hs => intro _; with_unfolding_all rfl
  case hn => omega
  case h0 => omega
  case h1 => omega
  case hit =>
    refine wpAny_stop ?_
    k_steps
    try unfold Stop
    exact ⟨_, _, _, _, _, _, _, rfl, by assumption, by omega, by assumption, by assumption, rfl⟩
  case htest =>
    intros
    exact wpAny_tests_nil ⟨rfl, ⟨_, _, rfl, fun _ _ e => e⟩⟩
  case helt =>
    intro s9 C9 i9 t9 s8 m9 E9 F9 N9 hi0 hi1 hp9 hn9 hm9 hk9
    have F8 := Fr.keeps F9 hk9
    have N8 := News.grown N9 hk9
    clear F9 N9 F N
    refine wpAny_stop ?_
    k_steps
    try unfold Stop
    exact ⟨⟨_, rfl⟩, ⟨_, _, rfl, fun _ _ e => e⟩⟩
  case hQ =>
  intro Ds ys ks h5 tk5 F' N' I'
  rw [filter_tt] at I'
  change IntsAre ys (stp ns) at I'
  have lst := stp_len ns
  clear F N
  have qL1Ds : @Ne Nat (K' + 1) Ds := ne_dd (o := o3) (o' := listOf ys.toArray ks) N' (by walk_at "my m") (by walk_at "my m") e3 rfl rfl
  have qL2Ds : @Ne Nat (K' + 1 + 1) Ds := ne_dd (o := o2) (o' := listOf ys.toArray ks) N' (by walk_at "my m") (by walk_at "my m") e2 rfl rfl
  have qL3Ds : @Ne Nat (K' + 1 + 1 + 1) Ds := ne_dd (o := o1) (o' := listOf ys.toArray ks) N' (by walk_at "my m") (by walk_at "my m") e1 rfl rfl
  k_steps
  rename Fr _ _ _ _ => F
  rename News _ _ _ _ => N
  try dsimp only at F
  rename _ = Data.cell (some (Value.ref Ds)) => e2s
  rename Obj => o2s
  unfold Stop
  refine' compI F N 0 (ns.length - 1) (fun k => (stp ns).getD k.toNat 0 == 1) (fun k => k + 1) ?hh ?hclos ?hcell ?hkind ?hnames ?hx ?hn ?h0 ?h1 ?hit ?htest ?helt ?hQ ?hs
  case hh => with_unfolding_all rfl
  case hclos => with_unfolding_all rfl
  case hcell => decide
  case hkind => with_unfolding_all rfl
  case hnames => decide
  case hx => with_unfolding_all rfl
  case hs => intro _; with_unfolding_all rfl
  case hn => omega
  case h0 => omega
  case h1 => omega
  case hit =>
    refine wpAny_stop ?_
    k_steps
    try unfold Stop
    exact ⟨_, _, _, _, _, _, _, rfl, by assumption, by omega, by assumption, by assumption, rfl⟩
  case htest =>
    intro s9 C9 i9 t9 s8 m9 E9 F9 N9 hi0 hi1 hn9 hm9 hk9
    have F8 := Fr.keeps F9 hk9
    have N8 := News.grown N9 hk9
    clear F9 N9 F N
    refine wpAny_stop ?_
    k_steps
    try unfold Stop
    exact ⟨rfl, ⟨_, _, rfl, fun _ _ e => e⟩⟩
  case helt =>
    intro s9 C9 i9 t9 s8 m9 E9 F9 N9 hi0 hi1 hp9 hn9 hm9 hk9
    have F8 := Fr.keeps F9 hk9
    have N8 := News.grown N9 hk9
    clear F9 N9 F N
    refine wpAny_stop ?_
    k_steps
    try unfold Stop
    exact ⟨⟨_, rfl⟩, ⟨_, _, rfl, fun _ _ e => e⟩⟩
  case hQ =>
  intro Dt yt kt h6 tk6 F' N' I2'
  change IntsAre yt _ at I2'
  clear F N
  k_steps
  rename News _ _ _ _ => N'
  have hcp := climbP_bd ns hlen9
  have hs0 := stp_sum ns hlen9
  change wpAny _ _ (call _ [Value.int (cb - climbP ns) _, _]) _ _ _
  have i1 := idmS w mean mg mb loose
  have qL1Dt : @Ne Nat (K' + 1) Dt := ne_dd (o := o3) (o' := listOf yt.toArray kt) N' (by walk_at "my m") (by walk_at "my m") e3 rfl rfl
  have qL2Dt : @Ne Nat (K' + 1 + 1) Dt := ne_dd (o := o2s) (o' := listOf yt.toArray kt) N' (by walk_at "my m") (by walk_at "my m") e2s rfl rfl
  have qL3Dt : @Ne Nat (K' + 1 + 1 + 1) Dt := ne_dd (o := o1) (o' := listOf yt.toArray kt) N' (by walk_at "my m") (by walk_at "my m") e1 rfl rfl
  have qt66Dt : @Ne Nat (66) Dt := ne_dd (o := tabObj p1) (o' := listOf yt.toArray kt) N' (by walk_at "my m") (by walk_at "my m") rfl rfl rfl
  have qt73Dt : @Ne Nat (73) Dt := ne_dd (o := tabObj p2) (o' := listOf yt.toArray kt) N' (by walk_at "my m") (by walk_at "my m") rfl rfl rfl
  have qt66Ds : @Ne Nat (66) Ds := ne_dd (o := tabObj p1) (o' := listOf ys.toArray ks) N' (by walk_at "my m") (by walk_at "my m") rfl rfl rfl
  have qt73Ds : @Ne Nat (73) Ds := ne_dd (o := tabObj p2) (o' := listOf ys.toArray ks) N' (by walk_at "my m") (by walk_at "my m") rfl rfl rfl
  have qDsc1 : @Ne Nat (Ds) c1 := ne_dd (o := listOf ys.toArray ks) (o' := oc1) N' (by walk_at "my m") (by walk_at "my m") rfl dd1 rfl
  have qDsc2 : @Ne Nat (Ds) c2 := ne_dd (o := listOf ys.toArray ks) (o' := oc2) N' (by walk_at "my m") (by walk_at "my m") rfl dd2 rfl
  have qDtc1 : @Ne Nat (Dt) c1 := ne_dd (o := listOf yt.toArray kt) (o' := oc1) N' (by walk_at "my m") (by walk_at "my m") rfl dd1 rfl
  have qDtc2 : @Ne Nat (Dt) c2 := ne_dd (o := listOf yt.toArray kt) (o' := oc2) N' (by walk_at "my m") (by walk_at "my m") rfl dd2 rfl
  refine' IdmSpec.use i1 ?IdmSpecB ?IdmSpecF ?IdmSpecX ?IdmSpecT ?IdmSpechk ?IdmSpecN ?IdmSpecC ?IdmSpecC2 ?IdmSpechP ?IdmSpechc1 ?IdmSpechc2 ?IdmSpecS ?IdmSpecS2 ?IdmSpechx0 ?IdmSpechx ?IdmSpechy0 ?IdmSpechy ?IdmSpechd ?IdmSpechu ?_; (case IdmSpecB => k_asm); (case IdmSpecF => k_asm); (case IdmSpecX => k_asm); (case IdmSpecT => k_asm); (case IdmSpechk => first | exact rfl | assumption); (case IdmSpecN => first | k_asm | exact news_b2 (by assumption) | exact news_b3 (by assumption)); (case IdmSpecC => k_asm); (case IdmSpecC2 => k_asm); (case IdmSpechP => first | assumption | (repeat' first | exact List.forall_mem_nil _ | (refine List.forall_mem_cons.mpr ⟨notin4 (by k_ne) (by k_ne) (by k_ne) (by k_ne), ?_⟩))); (case IdmSpechc1 => omega); (case IdmSpechc2 => omega); (case IdmSpecS => assumption); (case IdmSpecS2 => assumption); (case IdmSpechx0 => omega); (case IdmSpechx => omega); (case IdmSpechy0 => omega); (case IdmSpechy => omega); (case IdmSpechd => ((try simp only [depth_deeper]); (try dsimp only); omega)); (case IdmSpechu => ((try simp only [units_deeper]); (try dsimp only); omega))
  intro h3 tk3 D3 ta3 tb3 c13 c23 oc13 oc23 p13 p23 F3 S13 S23 d13 d23 b13 b23 N3
  clear qrac1 qrac2 qL1c1 qL1c2 qL2c1 qL2c2 qL3c1 qL3c2 qL1Ds qL2Ds qL1Dt qL2Dt qt66Dt qt73Dt qt66Ds qt73Ds qDsc1 qDsc2 qDtc1 qDtc2
  obtain ⟨ff1, dd1⟩ := d13
  obtain ⟨ff2, dd2⟩ := d23
  have qL3c13 : @Ne Nat (K' + 1 + 1 + 1) c13 := ne_dd (o := o1) (o' := oc13) N3 (by walk_at "my m") (by walk_at "my m") e1 dd1 rfl
  have qL3c23 : @Ne Nat (K' + 1 + 1 + 1) c23 := ne_dd (o := o1) (o' := oc23) N3 (by walk_at "my m") (by walk_at "my m") e1 dd2 rfl
  have qL3D3 : @Ne Nat (K' + 1 + 1 + 1) D3 := ne_dd (o := o1) (o' := { cls := .type "tuple", data := .seq #[.int ((cb - climbP ns).fdiv (ns.length + 1)) ta3, .int ((cb - climbP ns).fmod (ns.length + 1)) tb3] }) N3 (by walk_at "my m") (by walk_at "my m") e1 rfl rfl
  have hq152 : @Ne Nat Ds 152 := ne_dd (o := listOf ys.toArray ks) (o' := tabObj p5) N3 (by walk_at "my m") (by walk_at "my m") rfl rfl rfl
  have hl0 : 0 ≤ (cb - climbP ns).fmod (ns.length + 1) := Int.fmod_nonneg_of_pos _ (by omega)
  have hl1 : (cb - climbP ns).fmod (ns.length + 1) < ns.length + 1 := Int.fmod_lt_of_pos _ (by omega)
  try dsimp only
  k_steps
  · unfold Stop
    rename News _ _ _ _ => N9
    rename Fr _ _ _ _ => F9
    rename _ = Data.cell (some (Value.int _ _)) => e19
    rename Obj => o19
    have hcs : lackP cb ns ≤ (stp ns).sum := by unfold lackP; omega
    have hw : wayP cb ns = 0 := if_pos hcs
    have ha : aheadP cb ns = (stp ns).sum - (cb - climbP ns).fmod (ns.length + 1) := if_pos hcs
    refine' mendc _ _ _ codes c13 c23 ra Ds oc13 oc23 o19 o2s o3 p13 p23 p5 vs ys ns (stp ns) kk ks lo _ _ tn _ _ _ _ _ _ _ _ _ _ _ _ _ _ _ B X T C C2 C3 hd9 hu9 F9 ?xNp e19 e2s e3 LTB CB b13 b23 hra hq152 l1 hints I' lst hlen4 hlen9 ?xwp ?xa0p ?xap ?xrp
    case xNp => exact newsS N9 (by walk_at "my s")
    case xwp => omega
    case xa0p => omega
    case xap => omega
    case xrp =>
      intro h' tk' R0 mm lg ps' fp Fz Nz hz1 hz2 hz3
      refine ret h' tk' R0 mm lg ps' fp c13 c23 oc13 oc23 p13 p23 Fz Nz hz1 hz2 ?_ S13 S23 b13 b23
      unfold mendR
      rw [hw, ha]
      exact hz3
    all_goals exact Value.none
  · unfold Stop
    rename News _ _ _ _ => N9
    rename Fr _ _ _ _ => F9
    rename _ = Data.cell (some (Value.int _ _)) => e19
    rename Obj => o19
    have hcs : ¬ lackP cb ns ≤ (stp ns).sum := by unfold lackP; omega
    have hw : wayP cb ns = 1 := if_neg hcs
    have ha : aheadP cb ns = (cb - climbP ns).fmod (ns.length + 1) - (stp ns).sum - 1 := if_neg hcs
    refine' mendc _ _ _ codes c13 c23 ra Ds oc13 oc23 o19 o2s o3 p13 p23 p5 vs ys ns (stp ns) kk ks lo _ _ tn _ _ _ _ _ _ _ _ _ _ _ _ _ _ _ B X T C C2 C3 hd9 hu9 F9 ?xNn e19 e2s e3 LTB CB b13 b23 hra hq152 l1 hints I' lst hlen4 hlen9 ?xwn ?xa0n ?xan ?xrn
    case xNn => exact newsS N9 (by walk_at "my s")
    case xwn => omega
    case xa0n => omega
    case xan => omega
    case xrn =>
      intro h' tk' R0 mm lg ps' fp Fz Nz hz1 hz2 hz3
      refine ret h' tk' R0 mm lg ps' fp c13 c23 oc13 oc23 p13 p23 Fz Nz hz1 hz2 ?_ S13 S23 b13 b23
      unfold mendR
      rw [hw, ha]
      exact hz3
    all_goals exact Value.none
end mendBK
theorem mendB (s : Shared) (qk : Flow → Shared → Prop) (ek : Value → Shared → Prop) (codes : List (Addr × Obj)) (c1 c2 ra : Addr) (oc1 oc2 o1 o2 o3 : Obj) (p1 p2 p5 : Array Value) (vs : List Value) (ns : List Int) (kk : Nat) (port kinds cb tot tn lo : Int) (t1 t2 t3 t4 t5 t6 t7 : Tok) : mendB.R s qk ek codes c1 c2 ra oc1 oc2 o1 o2 o3 p1 p2 p5 vs ns kk port kinds cb tot tn lo t1 t2 t3 t4 t5 t6 t7 := shut mendB.ne (Q := mendB.Q) (by with_unfolding_all exact mendBK.main) (s, qk, ek, codes, c1, c2, ra, oc1, oc2, o1, o2, o3, p1, p2, p5, vs, ns, kk, port, kinds, cb, tot, tn, lo, t1, t2, t3, t4, t5, t6, t7)
end
theorem mendBA : ∀ (w : World) (mean : ExcName → Option Value) (mg mb : Str → Option Value) (loose : List Str) (dp un : Nat) (gd : Option (List Code)) (cn : Str) (cs : Scope) (L a : Addr) (ccd : Value) (cl : List (Str × Addr)) (outer : List Env) (base g : Heap) (K' : Addr), MendQ w mean mg mb loose dp un gd cn cs L a ccd cl outer base g K' := LM.all mendB
end
section
open _root_.PySem _root_.PySem.W _root_.PyProof.Rows
theorem fresh_19 : True := by (w_top off); exact trivial
noncomputable def MendX (w : World) (mean : ExcName → Option Value) (mg mb : Str → Option Value) (loose : List Str) : Prop :=
  ∀ ⦃dp un : Nat⦄ ⦃gd : Option (List Code)⦄ ⦃cn : Str⦄ ⦃cs : Scope⦄ ⦃a : Addr⦄ ⦃ccd : Value⦄ ⦃cl : List (Str × Addr)⦄ ⦃outer : List Env⦄ ⦃A₀ : Around⦄ ⦃base h₀ : Heap⦄ ⦃L : Addr⦄ ⦃m : Str → Option Value⦄ ⦃s : Shared⦄ ⦃Q E : Value → Shared → Prop⦄
   ⦃codes rest : List (Addr × Obj)⦄ ⦃c1 c2 ra : Addr⦄ ⦃oc1 oc2 : Obj⦄ ⦃p1 p2 p5 : Array Value⦄ ⦃vs : List Value⦄ ⦃ns : List Int⦄ ⦃kk : Nat⦄ ⦃port kinds : Int⦄ ⦃t1 t2 : Tok⦄
   (B : Below A₀ base outer h₀) (F : Fr h₀ L s.heap m) (X : (hd.heap_1 w.params).In h₀) (T : Top topProg loose mean mg mb h₀) (hk : cs.kind = .function) (N : News h₀ L s.heap ([(66, tabObj p1), (73, tabObj p2), (c1, oc1), (c2, oc2), (152, tabObj p5), (ra, listOf vs.toArray kk)] ++ rest)) (C : CodeHd base 70 66) (C2 : CodeHd base 77 73) (C3 : CodeHd base 154 152) (hP : ∀ q ∈ rest, q.1 ∉ [66, 73, c1, c2, 152, ra]) (hc1 : @LT.lt Nat _ 160 c1) (hc2 : @LT.lt Nat _ 160 c2) (hra : @LT.lt Nat _ 160 ra) (hn1 : @Ne Nat ra c1) (hn2 : @Ne Nat ra c2) (S : TabSt 85 4 "_int2digits.<locals>.inner" p1 [(c1, oc1)]) (S2 : TabSt 100 4 "_digits2int.<locals>.inner" p2 [(c2, oc2)]) (CO : ∀ q ∈ codes, q ∈ rest) (LTB : LamTab lamQ p5 codes) (hints : IntsAre vs ns) (hk2 : 2 ≤ kinds) (hk6 : kinds ≤ 6) (hlen4 : 4 ≤ ns.length) (hlen9 : ns.length ≤ 9) (hrow : ∀ i ∈ ns, 0 ≤ i ∧ i < kinds) (hp0 : 0 ≤ port) (hp : port < 60) (hd : dp + 16 < recursionLimit) (hu : un + 200 < cLine) (ret : ∀ (h' : Heap) (tk' : Nat) (R0 : Addr) (lg : List (Addr × Obj)) (ps' : Array Value) (fp : List Addr) (c1' c2' : Addr) (oc1' oc2' : Obj) (p1' p2' : Array Value), Fr h₀ L h' m → News h₀ L h' ([(66, tabObj p1'), (73, tabObj p2'), (c1', oc1'), (c2', oc2'), (152, tabObj ps'), (ra, listOf vs.toArray kk)] ++ lg ++ rest) → (∀ q ∈ lg ++ rest, q.1 ∉ [66, 73, c1', c2', 152]) → (∀ q ∈ lg, ∀ r ∈ rest, @Ne Nat q.1 r.1) → LamTab lamQ ps' (lg ++ codes) → Reads h' (.ref R0) (mendR ((port.fmod kinds - ns.sum).fdiv kinds) ((port.fmod kinds - ns.sum).fmod kinds) (port.fdiv kinds) ns) fp → TabSt 85 4 "_int2digits.<locals>.inner" p1' [(c1', oc1')] → TabSt 100 4 "_digits2int.<locals>.inner" p2' [(c2', oc2')] → @LT.lt Nat _ 160 c1' → @LT.lt Nat _ 160 c2' → Q (.ref R0) { s with heap := h', toks := tk' }),
   wpAny (model PySem.Challenge.rw_ta0052_01.row.prog w) (ktrTop dp un gd cn cs L a ccd cl outer) (call (.ref 155) [.ref ra, .int port t1, .int kinds t2]) Q E s
theorem MendX.use {w : World} {mean : ExcName → Option Value} {mg mb : Str → Option Value} {loose : List Str} (spc : MendX w mean mg mb loose) : MendX w mean mg mb loose := spc
section
local macro_rules | `(tactic| walk_at "execs cons") => `(tactic| with_reducible refine stop12 ?_)
theorem div_le30 {p k : Int} (h0 : 0 ≤ p) (h : p < 60) (hk : 2 ≤ k) : p / k ≤ 30 := by
  have h1 : p / k * k ≤ p := Int.ediv_mul_le _ (by omega)
  have h2 : 0 ≤ p / k := Int.ediv_nonneg h0 (by omega)
  have h3 : p / k * 2 ≤ p / k * k := Int.mul_le_mul_of_nonneg_left hk h2
  omega
theorem mendS (w : World) (mean) (mg mb) (loose) : MendX w mean mg mb loose := by
  unfold MendX
  intro dp un gd cn cs a ccd cl outer A₀ base h₀ L m s Q E codes rest c1 c2 ra oc1 oc2 p1 p2 p5 vs ns kk port kinds t1 t2 B F X T hk N C C2 C3 hP hc1 hc2 hra hn1 hn2 S S2 CO LTB hints hk2 hk6 hlen4 hlen9 hrow hp0 hp hd hu ret
  have i1 := idmS w mean mg mb loose
  revert X T; k_fill; intro X T
  refine wpAny_call ?_
  refine' code_defCR (small := [(66, tabObj p1), (73, tabObj p2), (c1, oc1), (c2, oc2), (152, tabObj p5), (ra, listOf vs.toArray kk)]) (binds := [(Str.ofString "row", .ref ra), (Str.ofString "port", .int port t1), (Str.ofString "kinds", .int kinds t2)]) B F X N (fun q hq => by simpa using hP q hq) T rfl rfl hk ?k6 ?k7 ?k8 ?k9 ?kB ?kD ?_ ?c2 ?c3 ?c4
  case k6 => k_is
  case k7 => k_is
  case k9 => exact BindsTo.of_eq rfl
  case kB => exact rfl
  case kD => decide +kernel
  case c2 => exact rfl
  case c3 => exact rfl
  case c4 => exact rfl
  case k8 => (show dp < recursionLimit; omega)
  intro g' L' h' tk' cells' FG' F' N' Y' B' X' T' l0 RI
  simp only [AllLt, and_true] at l0
  refine cutG fun Pc kc => ?_
  obtain ⟨o1, o2, o3, hE, d1, d2, d3⟩ := CellsAre.three Y'
  refine kc ?_
  clear kc Pc
  subst hE
  clear Y'
  simp only [List.cons_append, List.nil_append] at N'
  have h160 := above160 X' F'
  clear N F B
  have F2 : Fr g' L' h' (fun y => if y = Str.ofString "kinds" then some (.int kinds t2) else if y = Str.ofString "port" then some (.int port t1) else none) := F'
  clear F'
  have e1 : o1.data = .cell none := d1
  have e2 : o2.data = .cell none := d2
  have e3 : o3.data = .cell (some (.ref ra)) := d3
  clear d1 d2 d3
  dsimp only
  k_unmd
  k_fold
  change wpAny _ _ (execs (_ :: _) _) _ _ _
  k_unmd
  k_steps
  have hs0 : 0 ≤ ns.sum := sum_nonneg' fun i hi => (hrow i hi).1
  have hs1 : ns.sum ≤ 45 := by
    have := sum_le_of (b := 5) (l := ns) (fun i hi => by have := (hrow i hi).2; omega)
    omega
  have hf0 : 0 ≤ port.fmod kinds := Int.fmod_nonneg_of_pos _ (by omega)
  have hf1 : port.fmod kinds < kinds := Int.fmod_lt_of_pos _ (by omega)
  refine' IdmSpec.use i1 ?IdmSpecB ?IdmSpecF ?IdmSpecX ?IdmSpecT ?IdmSpechk ?IdmSpecN ?IdmSpecC ?IdmSpecC2 ?IdmSpechP ?IdmSpechc1 ?IdmSpechc2 ?IdmSpecS ?IdmSpecS2 ?IdmSpechx0 ?IdmSpechx ?IdmSpechy0 ?IdmSpechy ?IdmSpechd ?IdmSpechu ?_; (case IdmSpecB => k_asm); (case IdmSpecF => k_asm); (case IdmSpecX => k_asm); (case IdmSpecT => k_asm); (case IdmSpechk => first | exact rfl | assumption); (case IdmSpecN => first | k_asm | exact news_b2 (by assumption) | exact news_b3 (by assumption)); (case IdmSpecC => k_asm); (case IdmSpecC2 => k_asm); (case IdmSpechP => first | assumption | (repeat' first | exact List.forall_mem_nil _ | (refine List.forall_mem_cons.mpr ⟨notin4 (by k_ne) (by k_ne) (by k_ne) (by k_ne), ?_⟩))); (case IdmSpechc1 => omega); (case IdmSpechc2 => omega); (case IdmSpecS => assumption); (case IdmSpecS2 => assumption); (case IdmSpechx0 => omega); (case IdmSpechx => omega); (case IdmSpechy0 => omega); (case IdmSpechy => omega); (case IdmSpechd => ((try simp only [depth_deeper]); (try dsimp only); omega)); (case IdmSpechu => ((try simp only [units_deeper]); (try dsimp only); omega))
  intro h1 tk1 D1 ta1 tb1 c11 c21 oc11 oc21 p11 p21 F1 S11 S21 d11 d21 b11 b21 N1
  try dsimp only
  k_steps
  rename Fr _ _ _ _ => F9
  dsimp only at F9
  rename News _ _ _ _ => N1
  replace N1 := news_tail N1
  obtain ⟨fd11, d11⟩ := d11
  obtain ⟨fd21, d21⟩ := d21
  have qra11 : @Ne Nat (ra) c11 := ne_dd (o := listOf vs.toArray kk) (o' := oc11) N1 (by walk_at "my m") (by walk_at "my m") rfl d11 rfl
  have qra21 : @Ne Nat (ra) c21 := ne_dd (o := listOf vs.toArray kk) (o' := oc21) N1 (by walk_at "my m") (by walk_at "my m") rfl d21 rfl
  have qL211 : @Ne Nat (L' + 1 + 1) c11 := ne_dd (o := o2) (o' := oc11) N1 (by walk_at "my m") (by walk_at "my m") e2 d11 rfl
  have qL221 : @Ne Nat (L' + 1 + 1) c21 := ne_dd (o := o2) (o' := oc21) N1 (by walk_at "my m") (by walk_at "my m") e2 d21 rfl
  have qL311 : @Ne Nat (L' + 1 + 1 + 1) c11 := ne_dd (o := o1) (o' := oc11) N1 (by walk_at "my m") (by walk_at "my m") e1 d11 rfl
  have qL321 : @Ne Nat (L' + 1 + 1 + 1) c21 := ne_dd (o := o1) (o' := oc21) N1 (by walk_at "my m") (by walk_at "my m") e1 d21 rfl
  have qL111 : @Ne Nat (L' + 1) c11 := ne_dd (o := o3) (o' := oc11) N1 (by walk_at "my m") (by walk_at "my m") e3 d11 rfl
  have qL121 : @Ne Nat (L' + 1) c21 := ne_dd (o := o3) (o' := oc21) N1 (by walk_at "my m") (by walk_at "my m") e3 d21 rfl
  refine' IdmSpec.use i1 ?IdmSpecB ?IdmSpecF ?IdmSpecX ?IdmSpecT ?IdmSpechk ?IdmSpecN ?IdmSpecC ?IdmSpecC2 ?IdmSpechP ?IdmSpechc1 ?IdmSpechc2 ?IdmSpecS ?IdmSpecS2 ?IdmSpechx0 ?IdmSpechx ?IdmSpechy0 ?IdmSpechy ?IdmSpechd ?IdmSpechu ?_; (case IdmSpecB => k_asm); (case IdmSpecF => k_asm); (case IdmSpecX => k_asm); (case IdmSpecT => k_asm); (case IdmSpechk => first | exact rfl | assumption); (case IdmSpecN => first | k_asm | exact news_b2 (by assumption) | exact news_b3 (by assumption)); (case IdmSpecC => k_asm); (case IdmSpecC2 => k_asm); (case IdmSpechP => first | assumption | (repeat' first | exact List.forall_mem_nil _ | (refine List.forall_mem_cons.mpr ⟨notin4 (by k_ne) (by k_ne) (by k_ne) (by k_ne), ?_⟩))); (case IdmSpechc1 => omega); (case IdmSpechc2 => omega); (case IdmSpecS => assumption); (case IdmSpecS2 => assumption); (case IdmSpechx0 => omega); (case IdmSpechx => omega); (case IdmSpechy0 => omega); (case IdmSpechy => omega); (case IdmSpechd => ((try simp only [depth_deeper]); (try dsimp only); omega)); (case IdmSpechu => ((try simp only [units_deeper]); (try dsimp only); omega))
  intro h2 tk2 D2 ta2 tb2 c12 c22 oc12 oc22 p12 p22 F2 S12 S22 d12 d22 b12 b22 N2
  try dsimp only
  k_steps
  unfold Stop
  rename Fr _ _ _ _ => F9
  rename News _ _ _ _ => N9
  replace N9 := news_tail N9
  refine' mendBA _ _ _ _ _ _ _ _ _ _ _ _ _ _ _ _ _ _ _ _ _ codes c12 c22 ra oc12 oc22 o1 o2 o3 p12 p22 p5 vs ns kk port kinds (port.fdiv kinds) (port.fmod kinds) ((port.fmod kinds - ns.sum).fdiv kinds) ((port.fmod kinds - ns.sum).fmod kinds) _ _ _ _ _ _ _ B' X' T' C C2 C3 hd hu F9 N9 e1 e2 e3 LTB (fun q hq => RI.get q (CO q hq)) S12 S22 d12 d22 b12 b22 hra ?xl0 h160 hints hk2 hk6 hlen4 hlen9 hrow ?xc0 ?xc ?xlo0 ?xlo ?xr
  case xl0 => exact ltN (by omega)
  case xc0 => exact Int.fdiv_nonneg hp0 (by omega)
  case xc =>
    rw [Int.fdiv_eq_ediv_of_nonneg _ (by omega)]
    have := div_le30 hp0 hp hk2
    exact this
  case xlo0 => exact Int.fmod_nonneg_of_pos _ (by omega)
  case xlo => exact Int.fmod_lt_of_pos _ (by omega)
  case xr =>
    intro h9 tk9 R0 mm lg ps' fp c1' c2' oc1' oc2' p1' p2' Fz Nz hz1 hz2 hz3 hz4 hz5 hz6 hz7
    refine leaveK_ Fz Nz fun F N => ?_
    refine ret h9 tk9 R0 lg ps' fp c1' c2' oc1' oc2' p1' p2' F (RI.back Fz N) ?_ (fun q hq r hr e => by have a := (Nz q (by simp [hq])).2.2; have b := RI.get r hr; rw [e, b] at a; cases a) hz2 hz3 hz4 hz5 hz6 hz7
    intro q hq
    rcases List.mem_append.mp hq with hq | hq
    · exact hz1 q hq
    · have h1 := hP q hq
      have e1' := (Nz (c1', oc1') (by simp)).2.2
      have e2' := (Nz (c2', oc2') (by simp)).2.2
      have e3' := RI.get q hq
      have n1 : q.1 ≠ c1' := fun e => by rw [e] at e3'; exact absurd (e1'.symm.trans e3') (by simp)
      have n2 : q.1 ≠ c2' := fun e => by rw [e] at e3'; exact absurd (e2'.symm.trans e3') (by simp)
      simp only [List.mem_cons, List.not_mem_nil, or_false, not_or] at h1 ⊢
      exact ⟨h1.1, h1.2.1, n1, n2, h1.2.2.2.2.1⟩
end
end
end
end
section
open _root_.PySem _root_.PySem.W _root_.PyProof.Rows _root_.PySem.Calls _root_.PySem.Spec
section
variable {prog : Program} {w : World} {A : Around} {E : Value → Shared → Prop} {s : Shared} {h₀ : Heap} {L : Addr} {m : Str → Option Value} {env : Env}
theorem off1_mem {D : Addr} : ∀ {l : List (Addr × Obj)}, LCg.Off1 D l → ∀ q ∈ l, q.1 ≠ D
  | [], _ => fun q hq => nomatch hq
  | p :: r, x => fun q hq => by
    rcases List.mem_cons.mp hq with rfl | hq
    · exact x.1
    · exact off1_mem x.2 q hq
/-- one turn of a comprehension: what it hands on -/
noncomputable def TurnK (prog : Program) (w : World) (A : Around) (h₀ : Heap) (L : Addr) (m : Str → Option Value) (env : Env) (elt : PySem.Expr) (x : Str) (scope : Scope) (cl : List (Str × Addr)) (s : Shared) (nd R : List (Addr × Obj)) (n : Nat) (P : Nat → Value → Prop) (J : Nat → List Value → List (Addr × Obj) → Prop) : Prop :=
  ∀ i ys ex v I oI C oC D m₂ h tk (E' : Value → Shared → Prop), i < n → J i ys ex → P i v → LCg.NsObj oC m₂ → m₂ x = some v → Fr h₀ L h m → News h₀ L h ((I, oI) :: (C, oC) :: (D, LCg.lst ys) :: (nd ++ (ex ++ R))) →
    wpAny (model prog w) A (eval elt (compEnvC scope cl C env)) (fun y s' => ∃ h' tk' ex', s' = { s with heap := h', toks := tk' } ∧ Fr h₀ L h' m ∧ News h₀ L h' ((I, oI) :: (C, oC) :: (D, LCg.lst ys) :: (nd ++ ((ex' ++ ex) ++ R))) ∧
      (∀ q ∈ ex', q.1 ≠ I ∧ q.1 ≠ C ∧ q.1 ≠ D) ∧ J (i + 1) (ys ++ [y]) (ex' ++ ex)) E' { s with heap := h, toks := tk }
theorem rest_J {elt : PySem.Expr} {x : Str} {scope : Scope} {cl : List (Str × Addr)} {nd R : List (Addr × Obj)} {n : Nat} {P : Nat → Value → Prop} {J : Nat → List Value → List (Addr × Obj) → Prop} {S : List (Addr × Obj) → Prop} {Fin : List Value → List (Addr × Obj) → Prop}
    (hS : ∀ l, S (nd ++ l)) (T : TurnK prog w A h₀ L m env elt x scope cl s nd R n P J) (hF : ∀ ys ex, J n ys ex → Fin ys (nd ++ (ex ++ R))) :
    ∀ k i ys ex, k + i = n → J i ys ex → LCg.CompRest prog w A h₀ L m env elt x scope cl s S P Fin k i ys (nd ++ (ex ++ R))
  | 0, i, ys, ex, hk, hJ => LCg.CompRest.zero (hF _ _ ((show i = n by omega) ▸ hJ))
  | k + 1, i, ys, ex, hk, hJ => LCg.CompRest.succ fun v I oI C oC D m₂ h tk E' hP hC hx F N off ne => by
    refine wpAny_mono (T i ys ex v I oI C oC D m₂ h tk E' (by omega) hJ hP hC hx F N) (fun y s' hy => ?_) fun _ _ e => e
    refine cutG fun Pc kc => ?_
    obtain ⟨h', tk', ex', rfl, F', N', off', hJ'⟩ := hy
    refine kc ?_
    clear kc Pc
    refine ⟨h', tk', _, rfl, F', N', LCg.Off3.of fun q hq => ?_, hS _, rest_J hS T hF k (i + 1) (ys ++ [y]) (ex' ++ ex) (by omega) hJ'⟩
    have o3 := LCg.Off3.mem off
    rcases List.mem_append.mp hq with hq | hq
    · exact o3 q (List.mem_append_left _ hq)
    · rcases List.mem_append.mp hq with hq | hq
      · rcases List.mem_append.mp hq with hq | hq
        · exact off' q hq
        · exact o3 q (List.mem_append_right _ (List.mem_append_left _ hq))
      · exact o3 q (List.mem_append_right _ (List.mem_append_right _ hq))
/-- a comprehension over range(a₀, a₀ + n) -/
theorem compKR {elt iter : PySem.Expr} {x : Str} {px : Pos} {scope : Scope} {cl : List (Str × Addr)} {pos : Pos} {Q : Value → Shared → Prop} (nd R : List (Addr × Obj)) (a₀ : Int) (n : Nat) (J : Nat → List Value → List (Addr × Obj) → Prop) (F₀ : Fr h₀ L s.heap m)
    (hh : A.handled = none) (hclos : closureFor scope env = pure cl) (hcell : ∀ y ∈ scope.names, y.2 ≠ .cell) (hkind : scope.kind = .function)
    (hnames : ∀ y ∈ scope.names, y.2 = .local → scope.names.lookup y.1 = some .local) (hx : scope.names.lookup x = some .local) (hn : n ≤ 1000) (h0 : 0 ≤ a₀) (h1 : a₀ ≤ 1000)
    (hit : wpAny (model prog w) A (eval iter env) (fun xv s₁ => Stop (∃ r b t u v h' tk, xv = .ref r ∧ IsRange h' r a₀ b 1 t u v ∧ b = a₀ + (n : Int) ∧ Fr h₀ L h' m ∧ News h₀ L h' (nd ++ R) ∧ s₁ = { s with heap := h', toks := tk })) E s)
    (J0 : J 0 [] []) (T : TurnK prog w A h₀ L m env elt x scope cl s nd R n (fun i v => ∃ t, v = .int (a₀ + (i : Int)) t) J)
    (hQ : ∀ D ys ex h tk, J n ys ex → Fr h₀ L h m → News h₀ L h ((D, listOf ys.toArray ys.length) :: (nd ++ (ex ++ R))) → (∀ q ∈ nd ++ (ex ++ R), q.1 ≠ D) → Q (.ref D) { s with heap := h, toks := tk })
    (hs : ∀ x, foldedSetIterable iter env x = pure x) :
    wpAny (model prog w) A (eval (.ListComp elt [⟨.Name x px, iter, [], 0⟩] scope pos) env) Q E s := by
  refine LCg.ListComp_U F₀ hclos hcell hkind hnames hx (wpAny_mono hit (fun xv s₁ h₁ => ?_) fun _ _ e => e) hs
  refine cutG fun Pc kc => ?_
  obtain ⟨r, b, t, u, v, h', tk, rfl, hr, rfl, F, N, rfl⟩ := h₁
  refine kc ?_
  clear kc Pc
  refine LCg.CompSrc.range (n := n) hh F N hr (small_one (a := a₀) (b := a₀ + (n : Int)) (by omega) (by omega) (by omega) (by omega)) (by rw [rangeSize_nat]; omega) (by rw [sizeLine_eq]; omega) fun g => ?_
  exact rest_J (s := { s with heap := g, toks := tk }) (fun _ => trivial) T (fun ys ex hJ D h tk F N o => hQ D ys ex h tk hJ F N (off1_mem o)) n 0 [] [] rfl J0
/-- a comprehension over a list of the ledger -/
theorem compKL {elt iter : PySem.Expr} {x : Str} {px : Pos} {scope : Scope} {cl : List (Str × Addr)} {pos : Pos} {Q : Value → Shared → Prop} (nd R : List (Addr × Obj)) (its : List Value) (J : Nat → List Value → List (Addr × Obj) → Prop) (F₀ : Fr h₀ L s.heap m)
    (hh : A.handled = none) (hclos : closureFor scope env = pure cl) (hcell : ∀ y ∈ scope.names, y.2 ≠ .cell) (hkind : scope.kind = .function)
    (hnames : ∀ y ∈ scope.names, y.2 = .local → scope.names.lookup y.1 = some .local) (hx : scope.names.lookup x = some .local) (hn : its.length ≤ 1000)
    (hit : wpAny (model prog w) A (eval iter env) (fun xv s₁ => Stop (∃ ax k h' tk, xv = .ref ax ∧ (ax, listOf its.toArray k) ∈ nd ∧ Fr h₀ L h' m ∧ News h₀ L h' (nd ++ R) ∧ s₁ = { s with heap := h', toks := tk })) E s)
    (J0 : J 0 [] []) (T : TurnK prog w A h₀ L m env elt x scope cl s nd R its.length (fun i v => its[i]? = some v) J)
    (hQ : ∀ D ys ex h tk, J its.length ys ex → Fr h₀ L h m → News h₀ L h ((D, listOf ys.toArray ys.length) :: (nd ++ (ex ++ R))) → (∀ q ∈ nd ++ (ex ++ R), q.1 ≠ D) → Q (.ref D) { s with heap := h, toks := tk })
    (hs : ∀ x, foldedSetIterable iter env x = pure x) :
    wpAny (model prog w) A (eval (.ListComp elt [⟨.Name x px, iter, [], 0⟩] scope pos) env) Q E s := by
  refine LCg.ListComp_U F₀ hclos hcell hkind hnames hx (wpAny_mono hit (fun xv s₁ h₁ => ?_) fun _ _ e => e) hs
  refine cutG fun Pc kc => ?_
  obtain ⟨ax, k, h', tk, rfl, hm, F, N, rfl⟩ := h₁
  refine kc ?_
  clear kc Pc
  have T' : TurnK prog w A h₀ L m env elt x scope cl s nd R its.toArray.size (fun i v => its.toArray[i]? = some v) J := by
    rw [List.size_toArray]
    simpa using T
  refine LCg.CompSrc.ledger hh F N (List.mem_append_left _ hm) (by rw [List.size_toArray, sizeLine_eq]; omega) fun g => ?_
  exact rest_J (s := { s with heap := g, toks := tk }) (fun l => .inr ⟨_, List.mem_append_left _ hm, rfl, _, rfl⟩) T' (fun ys ex hJ D h tk F N o => hQ D ys ex h tk (by rw [List.size_toArray] at hJ; exact hJ) F N (off1_mem o)) its.toArray.size 0 [] [] rfl J0
end
end
section
open _root_.PySem _root_.PySem.W _root_.PyProof.Rows _root_.PySem.Calls _root_.PySem.Spec
section
variable {prog : Program} {w : World} {A : Around} {E : Value → Shared → Prop} {s : Shared} {h₀ : Heap} {env : Env}
/-- a for over range(a₀, a₀ + n) that is never left, by an invariant over the turn's number, the frame's map and the ledger -/
theorem forK {x : Str} {px : Pos} {iter : PySem.Expr} {body : List Stmt} {pos : Pos} {Q : Flow → Shared → Prop} (news : List (Addr × Obj)) (m : Str → Option Value) (a₀ : Int) (n : Nat) (J : Nat → (Str → Option Value) → List (Addr × Obj) → Prop)
    (hh : A.handled = none) (hn : n ≤ 1000) (h0 : 0 ≤ a₀) (h1 : a₀ ≤ 1000)
    (hit : wpAny (model prog w) A (eval iter env) (fun xv s₁ => Stop (∃ r b t u v h' tk, xv = .ref r ∧ IsRange h' r a₀ b 1 t u v ∧ b = a₀ + (n : Int) ∧ Fr h₀ env.locals h' m ∧ News h₀ env.locals h' news ∧ s₁ = { s with heap := h', toks := tk })) E s)
    (J0 : J 0 m news)
    (turn : ∀ i m₁ news₁ h tk I oI t (E' : Value → Shared → Prop), i < n → J i m₁ news₁ → Fr h₀ env.locals h m₁ → News h₀ env.locals h ((I, oI) :: news₁) → (∀ q ∈ news₁, q.1 ≠ I) →
      wpAny (model prog w) A (assign (.Name x px) env (.int (a₀ + (i : Int)) t)) (fun _ s₂ => wpAny (model prog w) A (execs body env) (fun f s₃ => f = .next ∧ ∃ h' tk' m' news', s₃ = { s with heap := h', toks := tk' } ∧ Fr h₀ env.locals h' m' ∧ News h₀ env.locals h' ((I, oI) :: news') ∧ J (i + 1) m' news' ∧ (∀ q ∈ news', q.1 ≠ I)) E' s₂) E' { s with heap := h, toks := tk })
    (done : ∀ m₁ news₁ h tk, J n m₁ news₁ → Fr h₀ env.locals h m₁ → News h₀ env.locals h news₁ → Q .next { s with heap := h, toks := tk })
    (hs : ∀ x, foldedSetIterable iter env x = pure x) :
    wpAny (model prog w) A (exec (.For (.Name x px) iter body [] pos) env) Q E s := by
  refine wpAny_For (wpAny_mono hit (fun xv s₁ h₁ => ?_) fun _ _ e => e) hs
  refine cutG fun Pc kc => ?_
  obtain ⟨r, b, t, u, v, h', tk, rfl, hr, rfl, F, N, rfl⟩ := h₁
  refine kc ?_
  clear kc Pc
  have hn' : Builtin.Range.rangeSize a₀ (a₀ + (n : Int)) 1 = (n : Int) := by rw [rangeSize_nat]; omega
  refine wpAny_pyIter_range hr (small_one (a := a₀) (b := a₀ + (n : Int)) (by omega) (by omega) (by omega) (by omega)) ?_
  have W := LCg.range_walks (prog := prog) (w := w) (I := h'.objs.size) hh a₀ n
  have offI : ∀ q ∈ news, q.1 ≠ h'.objs.size := fun q hq => Nat.ne_of_lt (Heap.lt_size (N q hq).1)
  have hI0 : h₀.get? h'.objs.size = none := next_is_new F
  have hIL : h'.objs.size ≠ env.locals := Nat.ne_of_gt F.ns.lt
  refine codeAny_forLoop (fun k s' => ∃ h tk m₁ news₁ i, s' = { s with heap := h, toks := tk } ∧ IsRangeIter h h'.objs.size (a₀ + (i : Nat) * 1) ((n : Int) - (i : Nat)) 1 ∧ Fr h₀ env.locals h m₁ ∧ News h₀ env.locals h news₁ ∧ J i m₁ news₁ ∧ i ≤ n ∧ k = n + 1 - i ∧ (∀ q ∈ news₁, q.1 ≠ h'.objs.size)) ?_ (n + 1)
    ⟨_, tk, m, news, 0, rfl, by show IsRangeIter _ _ _ _ _; rw [hn']; simpa using Heap.get?_push_size _ rfl, F.push _, N.grown fun _ _ e => Heap.get?_push_of_some _ e, J0, Nat.zero_le _, rfl, offI⟩ (fun _ => rfl)
  rintro k s' ⟨h, tk', m₁, news₁, i, rfl, st, F₁, N₁, hJ, hi, rfl, hoff⟩
  by_cases hlt : i < n
  · refine W.item i _ _ _ hlt st fun v h₁ tk₁ hP st₁ hk₁ => ?_
    obtain ⟨t1, rfl⟩ := hP
    have F₂ : Fr h₀ env.locals h₁ m₁ := LCg.fr_but F₁ hk₁ (Ne.symm hIL) hI0
    have N₂ : News h₀ env.locals h₁ news₁ := LCg.news_but N₁ hk₁ hoff
    have st₁' : h₁.get? h'.objs.size = some _ := st₁
    have N₃ : News h₀ env.locals h₁ ((h'.objs.size, _) :: news₁) := fun p hp => by
      rcases List.mem_cons.mp hp with rfl | hp
      · exact ⟨st₁', hIL, hI0⟩
      · exact N₂ p hp
    refine wpAny_mono (turn i m₁ news₁ h₁ tk₁ _ _ t1 _ hlt hJ F₂ N₃ hoff) (fun _ s₂ h₂ => wpAny_mono h₂ (fun f s₃ h₃ => ?_) fun _ _ e => e) fun _ _ e => e
    refine cutG fun Pc kc => ?_
    obtain ⟨rfl, h₄, tk₄, m₂, news₂, rfl, F₄, N₄, hJ₄, hoff₄⟩ := h₃
    refine kc ?_
    clear kc Pc
    refine ⟨n + 1 - (i + 1), by omega, h₄, tk₄, m₂, news₂, i + 1, rfl, (N₄ _ (.head _)).1, F₄, fun p hp => N₄ p (.tail _ hp), hJ₄, hlt, rfl, hoff₄⟩
  · have hin : i = n := by omega
    subst hin
    refine W.done _ _ _ st fun h₁ tk₁ hk₁ => wpAny_execs_nil ?_
    exact done m₁ news₁ h₁ tk₁ hJ (LCg.fr_but F₁ hk₁ (Ne.symm hIL) hI0) (LCg.news_but N₁ hk₁ hoff)
end
end
section
open _root_.PySem _root_.PySem.W _root_.PyProof.Rows _root_.PySem.Calls _root_.PySem.Spec
section
variable {prog : Program} {w : World} {A : Around} {E : Value → Shared → Prop} {s : Shared} {h₀ : Heap} {L : Addr} {m : Str → Option Value} {env : Env}
noncomputable abbrev testsOf (ifs : List PySem.Expr) (env : Env) : Sem Bool := forIn ifs true fun c r => if r = true then do let ok ← isTrue c env (eval c env); pure (ForInStep.yield ok) else pure (ForInStep.yield r)
/-- what the element of one turn hands on -/
noncomputable def EltB (prog : Program) (w : World) (A : Around) (h₀ : Heap) (L : Addr) (m : Str → Option Value) (elt : PySem.Expr) (cenv : Env) (s : Shared) (I : Addr) (oI : Obj) (C : Addr) (oC : Obj) (D : Addr) (ys : List Value) (nd ex R : List (Addr × Obj)) (J : List Value → List (Addr × Obj) → Prop) (E' : Value → Shared → Prop) (s₃ : Shared) : Prop :=
  wpAny (model prog w) A (eval elt cenv) (fun y s' => ∃ h' tk' ex', s' = { s with heap := h', toks := tk' } ∧ Fr h₀ L h' m ∧ News h₀ L h' ((I, oI) :: (C, oC) :: (D, LCg.lst ys) :: (nd ++ ((ex' ++ ex) ++ R))) ∧
      (∀ q ∈ ex', q.1 ≠ I ∧ q.1 ≠ C ∧ q.1 ≠ D) ∧ J (ys ++ [y]) (ex' ++ ex)) E' s₃
noncomputable def TurnB (prog : Program) (w : World) (A : Around) (h₀ : Heap) (L : Addr) (m : Str → Option Value) (env : Env) (elt : PySem.Expr) (ifs : List PySem.Expr) (x : Str) (scope : Scope) (cl : List (Str × Addr)) (s : Shared) (nd R : List (Addr × Obj)) (n : Nat) (P : Nat → Value → Prop) (J : Nat → List Value → List (Addr × Obj) → Prop) : Prop :=
  ∀ i ys ex v I oI C oC D m₂ h tk (E' : Value → Shared → Prop), i < n → J i ys ex → P i v → LCg.NsObj oC m₂ → m₂ x = some v → Fr h₀ L h m → News h₀ L h ((I, oI) :: (C, oC) :: (D, LCg.lst ys) :: (nd ++ (ex ++ R))) →
    wpAny (model prog w) A (testsOf ifs (compEnvC scope cl C env)) (fun ok s₃ => (∃ h₃ tk₃, s₃ = { s with heap := h₃, toks := tk₃ } ∧ Fr h₀ L h₃ m ∧ News h₀ L h₃ ((I, oI) :: (C, oC) :: (D, LCg.lst ys) :: (nd ++ (ex ++ R)))) ∧
      (ok = true → EltB prog w A h₀ L m elt (compEnvC scope cl C env) s I oI C oC D ys nd ex R (J (i + 1)) E' s₃) ∧ (ok = false → J (i + 1) ys ex)) E' { s with heap := h, toks := tk }
theorem block_T {elt iter : PySem.Expr} {ifs : List PySem.Expr} {x : Str} {px : Pos} {scope : Scope} {cl : List (Str × Addr)} {pos : Pos} {s₂ : Shared} {I : Addr} {fp : List Addr} {n : Nat} {P : Nat → Value → Prop} {St : Nat → Heap → Prop} {nd R : List (Addr × Obj)} {J : Nat → List Value → List (Addr × Obj) → Prop} {RR : Value → Addr → Result → Shared → Prop}
    (W : Walks prog w A I fp [I] n P St) (hsz : n ≤ sizeLine) (hIo : ∀ i h, St i h → ∃ o, h.get? I = some o)
    (hSt : ∀ i h h' o nw, St i h → h.get? I = some o → h'.get? I = some o → (∀ b o, h₀.get? b = some o → h'.get? b = some o) → News h₀ L h' (nd ++ nw) → St i h')
    (hcell : ∀ y ∈ scope.names, y.2 ≠ .cell) (hkind : scope.kind = .function) (hx : scope.names.lookup x = some .local) (hst : St 0 s₂.heap) (hfp : ∀ b ∈ fp, b < s₂.heap.objs.size)
    (F : Fr h₀ L s₂.heap m) (N : News h₀ L s₂.heap (nd ++ R)) (hIL : L ≠ I) (hI₀ : h₀.get? I = none) (off : ∀ p ∈ nd ++ R, p.1 ≠ I)
    (J0 : J 0 [] []) (T : TurnB prog w A h₀ L m env elt ifs x scope cl s₂ nd R n P J)
    (hRR : ∀ D C h tk m' ys ex, Fr h₀ L h m → News h₀ L h ((D, LCg.lst ys) :: (nd ++ (ex ++ R))) → (∀ q ∈ nd ++ (ex ++ R), q.1 ≠ D) → h.Ns C m' → h₀.get? C = none → h₀.get? D = none → C ≠ L → @LT.lt Nat _ L D → C ≠ D → (∀ p ∈ nd ++ (ex ++ R), p.1 ≠ C) → J n ys ex → RR (.ref D) C (.ok .next) { s₂ with heap := h, toks := tk }) :
    wpAny (model prog w) A (newList []) (fun acc s₃ => wpAny (model prog w) A (newFunctionEnv scope env.globals cl [] env.qual none .none (some env)) (fun cenv s₄ =>
      codeAny (model prog w) A (.compStart (.ListComp elt [⟨.Name x px, iter, ifs, 0⟩] scope pos) 0 (.ref I) acc { cenv with scope := relabel scope env }) (RR acc cenv.locals) s₄) E s₃) E s₂ := by
  refine wpAny_newObj_type (wpAny_newFunctionEnv hcell (by intro y hy; simp at hy) (fun h₁ hns₁ hsb₁ => ?_) hkind)
  dsimp only at hns₁ hsb₁ ⊢
  generalize hH2 : s₂.heap.push { cls := .type "list", dict := none, data := .seq ([] : List Value).toArray } = H2 at hns₁ hsb₁ ⊢
  have zC : H2.objs.size = s₂.heap.objs.size + 1 := by rw [← hH2, Heap.size_push]
  have nDC : s₂.heap.objs.size ≠ H2.objs.size := by rw [zC]; exact Nat.ne_of_lt (Nat.lt_succ_self _)
  have low : ∀ b, b < s₂.heap.objs.size → b ≠ H2.objs.size ∧ b ≠ s₂.heap.objs.size := fun b hb => ⟨by rw [zC]; exact Nat.ne_of_lt (Nat.lt_succ_of_lt hb), Nat.ne_of_lt hb⟩
  have dF : s₂.heap.objs.size ∉ fp := fun hm => Nat.lt_irrefl _ (hfp _ hm)
  have cF : H2.objs.size ∉ fp := fun hm => by have := hfp _ hm; rw [zC] at this; exact Nat.lt_irrefl _ (Nat.lt_of_succ_lt this)
  have iLt : I < s₂.heap.objs.size := hfp I (W.sub I (List.mem_singleton.mpr rfl))
  have old : ∀ b o, s₂.heap.get? b = some o → h₁.get? b = some o := fun b o e => hsb₁.extBut b o (low b (Heap.lt_size e)).1 (Heap.get?_push_of_some _ (hH2 ▸ Heap.get?_push_of_some _ e))
  have acc0 : h₁.get? s₂.heap.objs.size = some (LCg.lst []) := hsb₁.extBut _ _ nDC (Heap.get?_push_of_some _ (hH2 ▸ Heap.get?_push_size _ rfl))
  have st₁ : St 0 h₁ := W.frame _ _ _ hst fun b _ o e => old b o e
  have none₀ : ∀ a, s₂.heap.objs.size ≤ a → h₀.get? a = none := fun a ha => by
    cases e : h₀.get? a with
    | none => rfl
    | some o' => exact absurd (Heap.lt_size (F.keep a o' e)) (Nat.not_lt.mpr ha)
  have d₀ : h₀.get? s₂.heap.objs.size = none := none₀ _ (Nat.le_refl _)
  have c₀ : h₀.get? H2.objs.size = none := none₀ _ (by rw [zC]; exact Nat.le_succ _)
  have lLt : L < s₂.heap.objs.size := F.ns.lt
  have nDL : s₂.heap.objs.size ≠ L := Ne.symm (low L lLt).2
  have nCL : H2.objs.size ≠ L := Ne.symm (low L lLt).1
  have nIC : I ≠ H2.objs.size := (low I iLt).1
  have nID : I ≠ s₂.heap.objs.size := (low I iLt).2
  let Off : List (Addr × Obj) → Prop := fun l => ∀ q ∈ l, q.1 ≠ I ∧ q.1 ≠ H2.objs.size ∧ q.1 ≠ s₂.heap.objs.size
  have off₀ : Off (nd ++ R) := fun q hq => ⟨off q hq, (low _ (Heap.lt_size (N q hq).1)).1, (low _ (Heap.lt_size (N q hq).1)).2⟩
  have loop : ∀ s₃ : Shared, s₃ = { s₂ with heap := h₁, toks := s₂.toks + ([] : List (Str × Value)).length } →
      codeAny (model prog w) A (.compLoop (.ListComp elt [⟨.Name x px, iter, ifs, 0⟩] scope pos) 0 (.ref I) (.ref s₂.heap.objs.size) (compEnvC scope cl H2.objs.size env)) (RR (.ref s₂.heap.objs.size) H2.objs.size) s₃ := by
    rintro s₃ rfl
    refine codeAny_compLoop_tests
      (fun k s' => ∃ h' tk i ys m' ex, s' = { s₂ with heap := h', toks := tk } ∧ i ≤ n ∧ k = n + 1 - i ∧ ys.length ≤ i ∧ St i h' ∧ Fr h₀ L h' m ∧ h'.Ns H2.objs.size m' ∧ News h₀ L h' ((s₂.heap.objs.size, LCg.lst ys) :: (nd ++ (ex ++ R))) ∧ Off (nd ++ (ex ++ R)) ∧ J i ys ex) ?_ (n + 1)
      ⟨h₁, _, 0, [], _, [], rfl, Nat.zero_le _, rfl, Nat.le_refl _, st₁, F.keeps old, hns₁, fun p hp => ?_, off₀, J0⟩
    · rintro k s' ⟨h', tk, i, ys, m', ex, rfl, hi, rfl, hyl, st', F', hn', N', off', hJ⟩
      by_cases hlt : i < n
      · refine W.item i _ _ _ hlt st' fun v h₂ tk₂ hPv st₂ hk₂ => ?_
        refine wpAny_assign_Name (wpAny_storeName_local (lookup_relabel_local hx) (hn'.at' fun o e => hk₂ _ o (by simpa using Ne.symm nIC) e) (fun h₃ hn₃ hs₃ => ?_) (by simp [compEnvC, relabel, hkind]))
        have st₃ : St (i + 1) h₃ := W.frame _ _ _ st₂ fun b hb o e => hs₃.extBut b o (fun q => cF (by have q' : b = H2.objs.size := q; rw [← q']; exact hb)) e
        obtain ⟨oI, heI⟩ := hIo _ _ st₃
        refine cutG fun Pc kc => ?_
        obtain ⟨oC, heC, hoC⟩ := LCg.ns_obj hn₃
        refine kc ?_
        clear kc Pc
        have F₃ : Fr h₀ L h₃ m := (LCg.fr_but F' hk₂ hIL hI₀).change hs₃ nCL c₀
        have N₂ : News h₀ L h₂ ((s₂.heap.objs.size, LCg.lst ys) :: (nd ++ (ex ++ R))) := LCg.news_but N' hk₂ fun p hp => by
          rcases List.mem_cons.mp hp with rfl | hp
          · exact Ne.symm nID
          · exact (off' p hp).1
        have N₃ : News h₀ L h₃ ((I, oI) :: (H2.objs.size, oC) :: (s₂.heap.objs.size, LCg.lst ys) :: (nd ++ (ex ++ R))) := fun p hp => by
          rcases List.mem_cons.mp hp with rfl | hp
          · exact ⟨heI, Ne.symm hIL, hI₀⟩
          · rcases List.mem_cons.mp hp with rfl | hp
            · exact ⟨heC, nCL, c₀⟩
            · have z := N₂ p hp
              refine ⟨hs₃.extBut _ _ ?_ z.1, z.2⟩
              rcases List.mem_cons.mp hp with rfl | hp
              · exact nDC
              · exact (off' p hp).2.1
        refine wpAny_mono (T i ys ex v I oI H2.objs.size oC s₂.heap.objs.size _ h₃ _ _ hlt hJ hPv hoC (by simp) F₃ N₃) (fun ok s₄ h₄ => ?_) fun _ _ e => e
        refine cutG fun Pc kc => ?_
        obtain ⟨⟨h₄, tk₄, rfl, F₄, N₄⟩, hT, hF⟩ := h₄
        refine kc ?_
        clear kc Pc
        cases ok with
        | false =>
          rw [if_neg (by decide)]
          have zI := (N₄ (I, oI) List.mem_cons_self).1
          have zC' := (N₄ (H2.objs.size, oC) (List.mem_cons_of_mem _ List.mem_cons_self)).1
          have N₅ : News h₀ L h₄ ((s₂.heap.objs.size, LCg.lst ys) :: (nd ++ (ex ++ R))) := fun p hp => N₄ p (List.mem_cons_of_mem _ (List.mem_cons_of_mem _ hp))
          exact ⟨n + 1 - (i + 1), by omega, h₄, tk₄, i + 1, ys, _, ex, rfl, hlt, rfl, by omega, hSt _ _ _ _ (ex ++ R) st₃ heI zI F₄.keep fun p hp => N₅ p (.tail _ hp), F₄, hoC.ns zC', N₅, off', hF rfl⟩
        | true =>
          rw [if_pos rfl]
          refine wpAny_mono (hT rfl) (fun y s₅ h₅ => ?_) fun _ _ e => e
          refine cutG fun Pc kc => ?_
          obtain ⟨h₅, tk₅, ex', rfl, F₅, N₅, offx, hJ₅⟩ := h₅
          refine kc ?_
          clear kc Pc
          have zI := (N₅ (I, oI) List.mem_cons_self).1
          have zC' := (N₅ (H2.objs.size, oC) (List.mem_cons_of_mem _ List.mem_cons_self)).1
          have zD := (N₅ (s₂.heap.objs.size, LCg.lst ys) (List.mem_cons_of_mem _ (List.mem_cons_of_mem _ List.mem_cons_self))).1
          have N₆ : News h₀ L h₅ (nd ++ ((ex' ++ ex) ++ R)) := fun p hp => N₅ p (List.mem_cons_of_mem _ (List.mem_cons_of_mem _ (List.mem_cons_of_mem _ hp)))
          have st₅ : St (i + 1) h₅ := hSt _ _ _ _ ((ex' ++ ex) ++ R) st₃ heI zI F₅.keep N₆
          have off₅ : Off (nd ++ ((ex' ++ ex) ++ R)) := fun q hq => by
            rcases List.mem_append.mp hq with hq | hq
            · exact off' q (List.mem_append_left _ hq)
            · rcases List.mem_append.mp hq with hq | hq
              · rcases List.mem_append.mp hq with hq | hq
                · exact offx q hq
                · exact off' q (List.mem_append_right _ (List.mem_append_left _ hq))
              · exact off' q (List.mem_append_right _ (List.mem_append_right _ hq))
          refine append_at (hsz := by show ys.toArray.size ≤ sizeLine; rw [List.size_toArray]; omega) zD fun h₆ hs₆ hD₆ => ?_
          refine ⟨n + 1 - (i + 1), by omega, h₆, tk₅, i + 1, ys ++ [y], _, ex' ++ ex, rfl, hlt, rfl, by rw [List.length_append, List.length_singleton]; omega, W.frame _ _ _ st₅ fun b hb o e => hs₆.extBut b o (fun q => dF (q ▸ hb)) e, F₅.change hs₆ nDL d₀,
            (hoC.ns zC').sameBut hs₆ (Ne.symm nDC), fun p hp => ?_, off₅, hJ₅⟩
          rcases List.mem_cons.mp hp with rfl | hp
          · exact ⟨hD₆.trans (congrArg some (LCg.lst_snoc ys y)), nDL, d₀⟩
          · exact ⟨hs₆.extBut _ _ (off₅ p hp).2.2 (N₆ p hp).1, (N₆ p hp).2⟩
      · obtain rfl : i = n := Nat.le_antisymm hi (Nat.not_lt.mp hlt)
        refine W.done _ _ _ st' fun h₂ tk₂ hk₂ => ?_
        exact hRR _ _ h₂ tk₂ _ ys ex (LCg.fr_but F' hk₂ hIL hI₀) (LCg.news_but N' hk₂ fun p hp => by
          rcases List.mem_cons.mp hp with rfl | hp
          · exact Ne.symm nID
          · exact (off' p hp).1) (fun q hq => (off' q hq).2.2) (hn'.at' fun o e => hk₂ _ o (by simpa using Ne.symm nIC) e) c₀ d₀ nCL lLt (Ne.symm nDC) (fun p hp => (off' p hp).2.1) hJ
    · rcases List.mem_cons.mp hp with rfl | hp
      · exact ⟨acc0, nDL, d₀⟩
      · exact ⟨old _ _ (N p hp).1, (N p hp).2⟩
  exact codeAny_compStart_list (loop _ rfl) (W.self 0 _ _ _ st₁ (loop _ rfl))
end
end
section
open _root_.PySem _root_.PySem.W _root_.PyProof.Rows _root_.PySem.Calls _root_.PySem.Spec
section
variable {prog : Program} {w : World} {A : Around} {E : Value → Shared → Prop} {s : Shared} {h₀ : Heap} {L : Addr} {m : Str → Option Value} {env : Env}
theorem turnB_state {elt : PySem.Expr} {ifs : List PySem.Expr} {x : Str} {scope : Scope} {cl : List (Str × Addr)} {nd R : List (Addr × Obj)} {n : Nat} {P : Nat → Value → Prop} {J : Nat → List Value → List (Addr × Obj) → Prop} {g : Heap} {tk : Nat} (T : TurnB prog w A h₀ L m env elt ifs x scope cl s nd R n P J) : TurnB prog w A h₀ L m env elt ifs x scope cl { s with heap := g, toks := tk } nd R n P J := T
/-- a comprehension over range(a₀, a₀ + n) with tests -/
theorem compTR {elt iter : PySem.Expr} {ifs : List PySem.Expr} {x : Str} {px : Pos} {scope : Scope} {cl : List (Str × Addr)} {pos : Pos} {Q : Value → Shared → Prop} (nd R : List (Addr × Obj)) (a₀ : Int) (n : Nat) (J : Nat → List Value → List (Addr × Obj) → Prop) (F₀ : Fr h₀ L s.heap m)
    (hh : A.handled = none) (hclos : closureFor scope env = pure cl) (hcell : ∀ y ∈ scope.names, y.2 ≠ .cell) (hkind : scope.kind = .function)
    (hnames : ∀ y ∈ scope.names, y.2 = .local → scope.names.lookup y.1 = some .local) (hx : scope.names.lookup x = some .local) (hn : n ≤ 1000) (h0 : 0 ≤ a₀) (h1 : a₀ ≤ 1000)
    (hit : wpAny (model prog w) A (eval iter env) (fun xv s₁ => Stop (∃ r b t u v h' tk, xv = .ref r ∧ IsRange h' r a₀ b 1 t u v ∧ b = a₀ + (n : Int) ∧ Fr h₀ L h' m ∧ News h₀ L h' (nd ++ R) ∧ s₁ = { s with heap := h', toks := tk })) E s)
    (J0 : J 0 [] []) (T : TurnB prog w A h₀ L m env elt ifs x scope cl s nd R n (fun i v => ∃ t, v = .int (a₀ + (i : Int)) t) J)
    (hQ : ∀ D ys ex h tk, J n ys ex → Fr h₀ L h m → News h₀ L h ((D, listOf ys.toArray ys.length) :: (nd ++ (ex ++ R))) → (∀ q ∈ nd ++ (ex ++ R), q.1 ≠ D) → Q (.ref D) { s with heap := h, toks := tk })
    (hs : ∀ x, foldedSetIterable iter env x = pure x) :
    wpAny (model prog w) A (eval (.ListComp elt [⟨.Name x px, iter, ifs, 0⟩] scope pos) env) Q E s := by
  rw [eval_ListComp]
  refine wpAny_comprehension_free (use := none) rfl hs hclos hkind hnames (wpAny_mono hit (fun xv s₁ h₁ => ?_) fun _ _ e => e)
  refine cutG fun Pc kc => ?_
  obtain ⟨r, b, t, u, v, h', tk, rfl, hr, rfl, F, N, rfl⟩ := h₁
  refine kc ?_
  clear kc Pc
  have hn' : Builtin.Range.rangeSize a₀ (a₀ + (n : Int)) 1 = (n : Int) := by rw [rangeSize_nat]; omega
  refine wpAny_pyIter_range hr (small_one (a := a₀) (b := a₀ + (n : Int)) (by omega) (by omega) (by omega) (by omega)) ?_
  refine block_T (LCg.range_walks hh a₀ n) (by rw [sizeLine_eq]; omega) (fun i h st => ⟨_, st⟩) (fun i h h' o nw st e e' k N2 => LCg.range_st i h h' o _ st e e' k N2 trivial) hcell hkind hx (by show IsRangeIter _ _ _ _ _; rw [hn']; simpa using Heap.get?_push_size _ rfl) (fun b hb => ?_)
    (F.keeps fun _ _ e => Heap.get?_push_of_some _ e) (N.grown fun _ _ e => Heap.get?_push_of_some _ e) (Nat.ne_of_lt F.ns.lt) (next_is_new F) (fun p hp => Nat.ne_of_lt (Heap.lt_size (N p hp).1)) J0 (turnB_state T) ?_
  · rw [List.mem_singleton.mp hb]
    show h'.objs.size < (h'.push _).objs.size
    rw [Heap.size_push]; exact Nat.lt_succ_self _
  · intro D C h tk m' ys ex F' N' o1 hn hC₀ hD₀ hCL hDL hCD offC hJ
    refine ⟨m', hn, fun h'' hs'' => hQ D ys ex h'' tk hJ (F'.change hs'' hCL hC₀) (fun p hp => ?_) o1⟩
    refine ⟨hs''.extBut _ _ ?_ (N' p hp).1, (N' p hp).2⟩
    rcases List.mem_cons.mp hp with rfl | hp
    · exact Ne.symm hCD
    · exact offC p hp
/-- a comprehension over the signs of a text -/
theorem compTS {elt iter : PySem.Expr} {ifs : List PySem.Expr} {x : Str} {px : Pos} {scope : Scope} {cl : List (Str × Addr)} {pos : Pos} {Q : Value → Shared → Prop} (nd R : List (Addr × Obj)) (txt : Str) (J : Nat → List Value → List (Addr × Obj) → Prop) (F₀ : Fr h₀ L s.heap m)
    (hh : A.handled = none) (hclos : closureFor scope env = pure cl) (hcell : ∀ y ∈ scope.names, y.2 ≠ .cell) (hkind : scope.kind = .function)
    (hnames : ∀ y ∈ scope.names, y.2 = .local → scope.names.lookup y.1 = some .local) (hx : scope.names.lookup x = some .local) (hn : txt.length ≤ 1000)
    (hit : wpAny (model prog w) A (eval iter env) (fun xv s₁ => Stop (∃ t h' tk, xv = .str txt t ∧ Fr h₀ L h' m ∧ News h₀ L h' (nd ++ R) ∧ s₁ = { s with heap := h', toks := tk })) E s)
    (J0 : J 0 [] []) (T : TurnB prog w A h₀ L m env elt ifs x scope cl s nd R txt.length (SignAt txt) J)
    (hQ : ∀ D ys ex h tk, J txt.length ys ex → Fr h₀ L h m → News h₀ L h ((D, listOf ys.toArray ys.length) :: (nd ++ (ex ++ R))) → (∀ q ∈ nd ++ (ex ++ R), q.1 ≠ D) → @LT.lt Nat _ L D → Q (.ref D) { s with heap := h, toks := tk })
    (hs : ∀ x, foldedSetIterable iter env x = pure x) :
    wpAny (model prog w) A (eval (.ListComp elt [⟨.Name x px, iter, ifs, 0⟩] scope pos) env) Q E s := by
  rw [eval_ListComp]
  refine wpAny_comprehension_free (use := none) rfl hs hclos hkind hnames (wpAny_mono hit (fun xv s₁ h₁ => ?_) fun _ _ e => e)
  refine cutG fun Pc kc => ?_
  obtain ⟨t, h', tk, rfl, F, N, rfl⟩ := h₁
  refine kc ?_
  clear kc Pc
  have key : ∀ (o : Obj) (St : Nat → Heap → Prop), Walks prog w A h'.objs.size [h'.objs.size] [h'.objs.size] txt.cps.size (SignAt txt) St → St 0 (h'.push o) →
      (∀ i h, St i h → ∃ o, h.get? h'.objs.size = some o) →
      wpAny (model prog w) A (newList []) (fun acc s₃ => wpAny (model prog w) A (newFunctionEnv scope env.globals cl [] env.qual none .none (some env)) (fun cenv s₄ =>
        codeAny (model prog w) A (.compStart (.ListComp elt [⟨.Name x px, iter, ifs, 0⟩] scope pos) 0 (.ref h'.objs.size) acc { cenv with scope := relabel scope env }) (compPost (model prog w) A E none Q acc cenv.locals) s₄) E s₃) E { s with heap := h'.push o, toks := tk } := by
    intro o St W st hIo
    refine block_T W (by show txt.length ≤ _; rw [sizeLine_eq]; omega) hIo (fun i h h2 o' nw st e e' k _ => W.frame i h h2 st fun b hb o9 e9 => ?_) hcell hkind hx st (fun b hb => ?_)
      (F.keeps fun _ _ e => Heap.get?_push_of_some _ e) (N.grown fun _ _ e => Heap.get?_push_of_some _ e) (Nat.ne_of_lt F.ns.lt) (next_is_new F) (fun p hp => Nat.ne_of_lt (Heap.lt_size (N p hp).1)) J0 (turnB_state T) ?_
    · rw [List.mem_singleton.mp hb] at e9 ⊢
      rw [e] at e9
      rw [e', ← e9]
    · rw [List.mem_singleton.mp hb]
      show h'.objs.size < (h'.push _).objs.size
      rw [Heap.size_push]; exact Nat.lt_succ_self _
    · intro D C h tk m' ys ex F' N' o1 hn hC₀ hD₀ hCL hDL hCD offC hJ
      refine ⟨m', hn, fun h'' hs'' => hQ D ys ex h'' tk hJ (F'.change hs'' hCL hC₀) (fun p hp => ?_) o1 hDL⟩
      refine ⟨hs''.extBut _ _ ?_ (N' p hp).1, (N' p hp).2⟩
      rcases List.mem_cons.mp hp with rfl | hp
      · exact Ne.symm hCD
      · exact offC p hp
  cases ha : txt.cps.all (· < 128)
  · exact wpAny_pyIter_wide ha (key _ _ (Walks.strWide hh _ txt t) ⟨_, Heap.get?_push_size _ rfl, rfl, rfl⟩ fun i h st => let ⟨o, e, _⟩ := st; ⟨o, e⟩)
  · exact wpAny_pyIter_ascii ha (key _ _ (Walks.strAscii hh _ txt t) ⟨_, Heap.get?_push_size _ rfl, rfl, rfl⟩ fun i h st => let ⟨o, e, _⟩ := st; ⟨o, e⟩)
/-- a comprehension over a tuple of the ledger, its list assigned to a local name -/
theorem compTA {elt iter : PySem.Expr} {ifs : List PySem.Expr} {x y : Str} {px py : Pos} {scope : Scope} {cl : List (Str × Addr)} {pos spos : Pos} {Q : Flow → Shared → Prop} (nd R : List (Addr × Obj)) (its : Array Value) (J : Nat → List Value → List (Addr × Obj) → Prop) (F₀ : Fr h₀ L s.heap m) (hLe : env.locals = L)
    (hsw : swapsWith (.ListComp elt [⟨.Name x px, iter, ifs, 0⟩] scope pos) (some (.Name y py)) spos.line env = pure true)
    (hh : A.handled = none) (hclos : closureFor scope env = pure cl) (hcell : ∀ y ∈ scope.names, y.2 ≠ .cell) (hkind : scope.kind = .function)
    (hnames : ∀ y ∈ scope.names, y.2 = .local → scope.names.lookup y.1 = some .local) (hx : scope.names.lookup x = some .local)
    (hy : env.kindOf y = some .local) (hp : (env.scope.kind == .class || (env.scope.kind == .module && env.locals != env.globals)) = false) (hn : its.size ≤ 1000)
    (hit : wpAny (model prog w) A (eval iter env) (fun xv s₁ => Stop (∃ ax h' tk n, xv = .ref ax ∧ Fr h₀ L h' m ∧ News h₀ L h' ((ax, { cls := .type "tuple", data := .seq its n }) :: (nd ++ R)) ∧ s₁ = { s with heap := h', toks := tk })) E s)
    (J0 : J 0 [] []) (T : ∀ tp, TurnB prog w A h₀ L m env elt ifs x scope cl s (tp :: nd) R its.size (fun i v => its[i]? = some v) J)
    (hQ : ∀ D ys ex h tk, J its.size ys ex → Fr h₀ L h (fun z => if z = y then some (.ref D) else m z) → News h₀ L h ((D, listOf ys.toArray ys.length) :: (nd ++ (ex ++ R))) → (∀ q ∈ nd ++ (ex ++ R), q.1 ≠ D) → Q .next { s with heap := h, toks := tk })
    (hs : ∀ x, foldedSetIterable iter env x = pure x) :
    wpAny (model prog w) A (exec (.Assign [.Name y py] (.ListComp elt [⟨.Name x px, iter, ifs, 0⟩] scope pos) spos) env) Q E s := by
  subst hLe
  rw [exec_Assign_Name_used _ _ _ _ hsw]
  refine wpAny_bind (wpAny_standAt (wpAny_bind ?_))
  show wpAny _ A (do let _ ← comprehension (.ListComp elt [⟨.Name x px, iter, ifs, 0⟩] scope pos) scope env _ (newList []) false (eval iter env) (some (assign (.Name y py) env))) _ _ s
  refine wpAny_bind (wpAny_mono (wpAny_comprehension_free (use := some (assign (.Name y py) env)) (Q := fun _ s' => Q .next s') rfl hs hclos hkind hnames
    (wpAny_mono hit (fun xv s₁ h₁ => ?_) fun _ _ e => e)) (fun _ s' hq => wpAny_pure (wpAny_pure hq)) fun _ _ e => e)
  refine cutG fun Pc kc => ?_
  obtain ⟨ax, h', tk, n, rfl, F, N, rfl⟩ := h₁
  refine kc ?_
  clear kc Pc
  have hl : h'.IsTuple ax its := ⟨_, (N _ (.head _)).1, rfl, n, rfl⟩
  have hlt : ax < h'.objs.size := Heap.lt_size (N _ (.head _)).1
  refine wpAny_pyIter_tuple hl ?_
  refine block_T (nd := (ax, { cls := .type "tuple", data := .seq its n }) :: nd) (Walks.tuple hh h'.objs.size ax (Nat.ne_of_lt hlt) its) (by rw [sizeLine_eq]; omega) (fun i h st => by obtain ⟨o, e, _⟩ := st.1; exact ⟨o, e⟩)
    (fun i h h2 o' nw st e e' k N2 => ⟨by obtain ⟨o9, q, r⟩ := st.1; rw [e] at q; cases q; exact ⟨o', e', r⟩, ⟨_, (N2 _ (.head _)).1, rfl, n, rfl⟩⟩) hcell hkind hx ⟨⟨_, Heap.get?_push_size _ rfl, rfl, rfl⟩, ⟨_, Heap.get?_push_of_some _ (N _ (.head _)).1, rfl, n, rfl⟩⟩ (fun b hb => ?_)
    (F.keeps fun _ _ e => Heap.get?_push_of_some _ e) (N.grown fun _ _ e => Heap.get?_push_of_some _ e) (Nat.ne_of_lt F.ns.lt) (next_is_new F) (fun p hp => Nat.ne_of_lt (Heap.lt_size (N p hp).1)) J0 (turnB_state (T _)) ?_
  · show b < (h'.push _).objs.size
    rw [Heap.size_push]
    rcases List.mem_cons.mp hb with rfl | hb
    · exact Nat.lt_succ_self _
    · rw [List.mem_singleton.mp hb]; exact Nat.lt_succ_of_lt hlt
  · intro D C h tk m' ys ex F' N' o1 hn hC₀ hD₀ hCL hDL hCD offC hJ
    show wpAny _ A (assign (.Name y py) env (.ref D)) _ _ _
    refine wpAny_assign_Name (wpAny_storeName_local hy F'.ns (fun h₂ hn₂ hs₂ => ?_) hp)
    have hL₀ : h₀.get? env.locals = none := Heap.get?_none_of_le F'.above
    have F₂ : Fr h₀ env.locals h₂ (fun z => if z = y then some (.ref D) else m z) := ⟨hn₂, fun b o e => hs₂.extBut b o (fun q => by rw [q, hL₀] at e; cases e) (F'.keep b o e), F'.above⟩
    refine ⟨m', hn.sameBut hs₂ hCL, fun h'' hs'' => hQ D ys ex h'' _ hJ (F₂.change hs'' hCL hC₀) (fun p hp => ?_) fun q hq => o1 q (List.mem_cons_of_mem _ hq)⟩
    have hp' : p ∈ (D, LCg.lst ys) :: ((ax, ({ cls := .type "tuple", data := .seq its n } : Obj)) :: nd ++ (ex ++ R)) := by
      rcases List.mem_cons.mp hp with rfl | hp
      · exact .head _
      · exact .tail _ (.tail _ hp)
    have z : h₂.get? p.1 = some p.2 := hs₂.extBut _ _ (N' p hp').2.1 (N' p hp').1
    refine ⟨hs''.extBut _ _ ?_ z, (N' p hp').2⟩
    rcases List.mem_cons.mp hp with rfl | hp
    · exact Ne.symm hCD
    · exact offC p (.tail _ hp)
end
end
section
open _root_.PySem _root_.PySem.W _root_.PyProof.Rows _root_.PySem.Calls _root_.PySem.Spec
section
variable {prog : Program} {w : World} {A₀ A : Around} {s : Shared} {base h₀ : Heap} {L : Addr} {m : Str → Option Value} {env : Env} {news : List (Addr × Obj)} {K : Frag} {p : Program} {loose : List Str} {mean : ExcName → Option Value} {mg mb : Str → Option Value}
  {R : Result → Shared → Prop} {name qual : Str} {params : Arguments} {body : List Stmt} {scope : Scope} {dV kV doc pm cdv ct oc : Value} {an od : Option Addr} {osl : Array (Option Value)} {f : Addr} {args : Args} {binds : List (Str × Value)}
/-- the way into a function that may catch, from a single frame that may hold cells -/
theorem code_defX0 (B : Below A₀ base [] h₀) (F : Fr h₀ L s.heap m) (X₀ : K.In h₀) (N : News h₀ L s.heap news) (T : Top p loose mean mg mb h₀) (hA : A.frames = some [env]) (hf : env.frame = some L) (hke : env.scope.kind = .function)
    (ho : K.lookup f = some ⟨oc, od, .func (fnOf name qual params body scope dV kV doc pm an cdv ct), osl⟩) (hcd : codeIn K cdv qual = true) (hroom : A.depth < recursionLimit)
    (hbind : BindsTo s (fnOf name qual params body scope dV kV doc pm an cdv ct) args binds) (hloc : ∀ y ∈ binds, scope.names.lookup y.1 = some .local)
    (h : ∀ g L' h₁, Fr h₀ L g m → Fr g L' h₁ (fun y => binds.reverse.lookup y) → News g L' h₁ news → Below A base [env] g → K.In g → Top p loose mean mg mb g → KtsDicts ([env].filterMap (·.frame)) g →
      wpAny (model prog w) (A.deeper (envOf qual scope L' f cdv)) (execs body (envOf qual scope L' f cdv))
        (fun fl s' => LeaveS0 ([env].filterMap (·.frame)) h₀ L m g R (match fl with | .ret v => v | _ => .none) s')
        (fun e s' => wpAny (model prog w) (A.deeper (envOf qual scope L' f cdv)) (leaving (envOf qual scope L' f cdv) e) (fun _ s'' => R (.error e) s'') (fun e' s'' => R (.error e') s'') s')
        { s with heap := h₁, toks := s.toks + binds.length })
    (hco : scope.isCoroutine = false) (hgen : scope.isGenerator = false) (hk : scope.kind = .function)
    (hcell : ∀ x ∈ scope.names, x.2 ≠ .cell) : codeAny (model prog w) A (.call (.ref f) args) R s := by
  refine cutG fun Pc kc => ?_
  obtain ⟨FG, BG, st, _⟩ := groundX (R := R) B F N hA hf hke
  refine kc ?_
  clear kc Pc
  have hfs : [env].filterMap (·.frame) = [L] := by simp [hf]
  refine cutG fun Pc kc => ?_
  obtain ⟨oL, es, ep, hL, hLd, hLk, hLf⟩ := id FG.ns
  refine kc ?_
  clear kc Pc
  have D : KtsDicts ([env].filterMap (·.frame)) (hideAll s.heap (news.map (·.1))) := by
    rw [hfs]
    intro b hb
    rw [List.mem_singleton.mp hb]
    exact ⟨oL, es, ep, hL, hLd⟩
  have nL : h₀.get? L = none := kts_self F
  refine codeAny_call_def (fd := fnOf name qual params body scope dV kV doc pm an cdv ct) (body := body) (binds := binds) hroom ((X₀.keeps F.keep) _ _ ho) rfl (T.nolimit.keeps F.keep) (codeRec_of (X₀.keeps F.keep) hcd) rfl hbind hcell hloc (fun h₁ hns hk₁ => ?_) hco hgen hk
  refine wpAny_mono (h _ s.heap.objs.size h₁ FG ⟨hns, fun b o e => hk₁ b o (of_hideAll _ e), Nat.le_of_eq (hideAll_size _ _)⟩
    (fun q hq => ⟨hk₁ _ _ (N q hq).1, Nat.ne_of_lt (Heap.lt_size (N q hq).1), hideAll_none _ (List.mem_map_of_mem hq)⟩) BG (X₀.keeps st) (T.keeps st) D) (fun fl s' hl => ?_) fun _ _ y => y
  refine cutG fun Pc kc => ?_
  obtain ⟨g', L', m', news', T', F', N', k⟩ := hl
  refine kc ?_
  clear kc Pc
  obtain ⟨sl, hs⟩ := T'.frame L oL hL (by rw [hfs]; exact .head _)
  have hs' := F'.keep _ _ hs
  have ne : ∀ b o, h₀.get? b = some o → b ∉ [env].filterMap (·.frame) := fun b o e hb => by
    rw [hfs, List.mem_singleton] at hb
    rw [hb, nL] at e; cases e
  refine k ⟨⟨_, es, ep, hs', hLd, hLk, hLf⟩, fun b o e => F'.keep b o (T'.other b o (st b o e) (ne b o e)), F.above⟩ fun q hq => ⟨(N' q hq).1, fun e => ?_, ?_⟩
  · have := (N' q hq).2.2
    rw [e, hs] at this; cases this
  · cases e : h₀.get? q.1 with
    | none => rfl
    | some o =>
      have := (N' q hq).2.2
      rw [T'.other _ _ (st _ _ e) (ne _ _ e)] at this; cases this
end
end
section
open _root_.PySem _root_.PySem.W _root_.PyProof.Rows _root_.PySem.Calls _root_.PySem.Spec
section
variable {prog : Program} {w : World} {A : Around} {E : Value → Shared → Prop} {s : Shared} {K : Frag} {e t C : Addr} {oe : Obj} {ws : Array Value} {m : Str} {tk : Tok}
structure OwnExc (K : Frag) (C : Addr) (h : Heap) (e t : Addr) (m : Str) (tk : Tok) : Prop where
  kin : K.In h
  str : findIn K (.ref C) "__str__" = some (some (.builtin "BaseException.__str__"))
  sub : mroIn K C (.type "BaseException") = some true
  at_ : ∃ oe ws, h.get? e = some oe ∧ oe.cls = .ref C ∧ oe.data = .fields ws ∧ ws[0]? = some (.ref t)
  tup : h.TupAt t [.str m tk]
theorem own_type {M : Model} {h : Heap} (x : OwnExc K C h e t m tk) : Looks M h (typeOf (.ref e)) (.ref C) := by
  refine cutG fun Pc kc => ?_
  obtain ⟨oe, ws, ho, hc, _⟩ := x.at_
  refine kc ?_
  clear kc Pc
  exact hc ▸ (Looks.ld ho).andThen .now
theorem own_args {M : Model} {Q : Value × List Value → Shared → Prop} (x : OwnExc K C s.heap e t m tk) (hq : Q (.ref t, [.str m tk]) s) : wpAny M A (Builtin.BaseException.bexcArgs (.ref e)) Q E s := by
  refine cutG fun Pc kc => ?_
  obtain ⟨oe, ws, ho, hc, hd, h0⟩ := x.at_
  refine kc ?_
  clear kc Pc
  refine cutG fun Pc kc => ?_
  obtain ⟨ot, k, hto, _, htd⟩ := x.tup
  refine kc ?_
  clear kc Pc
  unfold Builtin.BaseException.bexcArgs
  exact wpAny_bind (wpAny_field ho hd h0 (wpAny_bind (wpAny_seqItems hto htd (wpAny_pure hq))))
theorem own_entry {Q : Fin → Shared → Prop} (x : OwnExc K C s.heap e t m tk) (hq : Q (.done (.ret (.str m tk))) s) : wpAny (model prog w) A (Builtin.«BaseException.__str__» ⟨[.ref e], []⟩) Q E s := by
  unfold Builtin.«BaseException.__str__»
  repeat (first | with_reducible refine own_args x ?_ | wp_step)
  exact hq
theorem own_check {Q : Unit → Shared → Prop} (x : OwnExc K C s.heap e t m tk) (hq : Q () s) : wpAny (model prog w) A (checkBuiltinCall "BaseException.__str__" ⟨[.ref e], []⟩) Q E s := by
  have hk : builtinKind "BaseException.__str__" = some .slot := by kernel_rfl
  have hsplit : splitId "BaseException.__str__" = some ("BaseException", "__str__") := by kernel_rfl
  unfold checkBuiltinCall
  rw [hk, hsplit]
  refine wpAny_bind (wpAny_bind ((own_type x).here ((looks_mroIn x.kin x.sub).here ?_)))
  have ha := PySem.F.args_bexc_str (.ref e)
  cases hsig : Manifest.signature? "BaseException.__str__" with
  | none => exact wpAny_pure hq
  | some sig =>
    unfold argsOk at ha
    rw [hsig] at ha
    have h2 : Bind.checkArgs "BaseException.__str__" sig ⟨[.ref e], []⟩ = pure () := ha
    show wpAny _ A (Bind.checkArgs "BaseException.__str__" sig ⟨[.ref e], []⟩) Q E s
    rw [h2]; exact wpAny_pure hq
theorem own_call {Q : Value → Shared → Prop} (x : OwnExc K C s.heap e t m tk) (hq : Q (.str m tk) s) : wpAny (model prog w) A (call (.builtin "BaseException.__str__") [.ref e]) Q E s := by
  refine wpAny_call (codeAny_call_builtin (by decide +kernel) PySem.F.entry_bexc_str (own_check x (own_entry x ?_)))
  exact hq
theorem own_special {Q : Option Value → Shared → Prop} (x : OwnExc K C s.heap e t m tk) (hq : Q (some (.str m tk)) s) : wpAny (model prog w) A (callSpecial? (.ref e) "__str__") Q E s := by
  refine wpAny_bind (wpAny_bind ((own_type x).here ((looks_findIn x.kin x.str).here (wpAny_holding (wpAny_bind ?_)))))
  rw [PySem.F.excStr_ValueError.str.bind]
  exact wpAny_pure (wpAny_bind (own_call x (wpAny_pure hq)))
theorem own_strOf {Q : Value → Shared → Prop} (hu : A.units < cLine) (x : OwnExc K C s.heap e t m tk) (hq : Q (.str m tk) s) : wpAny (model prog w) A (PySem.Builtin.Str.strOf (.ref e)) Q E s := by
  unfold PySem.Builtin.Str.strOf
  repeat (first | with_reducible refine wpAny_cRoomFor hu ?_ | with_reducible refine own_special x ?_ | wp_step)
  exact hq
theorem own_str {Q : Value → Shared → Prop} (hu : A.units + 2 < cLine) (x : OwnExc K C s.heap e t m tk) (hq : Q (.str m tk) s) : wpAny (model prog w) A (call (.type "str") [.ref e]) Q E s :=
  callType_new PySem.F.called_str (by decide) (PySem.F.typeCall_str_1 _) (PySem.F.newCall_str_1 _) (fun obj => PySem.F.args_object_init_2 obj _) PySem.F.entry_str_new
    (meets_str_new (S := fun A' R s' => A'.units + 1 < cLine ∧ OwnExc K C s'.heap e t m tk ∧ R (.ok (.ret (.str m tk))) s')
      fun _ _ A' _ _ hq => own_strOf (A := A'.in1) hq.1 hq.2.1 hq.2.2)
    ⟨(show A.units + 1 + 1 < cLine from hu), x, typeIs_str _ _ _, hq⟩
end
end
section
open _root_.PySem _root_.PySem.W _root_.PyProof.Rows
theorem fresh_20 : True := by (w_top off); exact trivial
noncomputable def pSep (r : Str) : Str := Txt.item r (Txt.find r (Str.ofString "(") + 1)
noncomputable def pRt (r : Str) : Int := Txt.find3 r (Str.ofString ")") (Txt.find r (Str.ofString "(") + 1)
noncomputable def pParts (r : Str) : List Str := Txt.split (Txt.slice r (some (Txt.find r (Str.ofString "(") + 1)) (some (pRt r))) (pSep r)
noncomputable def pEnd : Option Str → Nat × Int
  | none => (3, 0)
  | some y => match PySem.intText? y with
    | some v => (2, v)
    | none => (3, 0)
noncomputable def portV (r : Str) : Nat × Int :=
  if (Txt.slice r none (some 3) != Str.ofString "229") = true then (0, 0) else
  if Txt.find r (Str.ofString "(") < 0 then (1, 0) else
  if pRt r < 0 then (1, 0) else
  if (pSep r != Txt.item r (pRt r - 1)) = true then (1, 0) else
  if (pParts r).length ≠ 5 then (1, 0) else pEnd (pParts r)[3]?
noncomputable def OkR (r : Str) : Prop := (portV r).1 ≠ 3
section
variable {r : Str} {l : List (Str × Tok)}
theorem bool_no {b : Bool} (h : b = false) : ¬ b = true := by rw [h]; decide
theorem pv0 (h1 : (Txt.slice r none (some 3) != Str.ofString "229") = true) : portV r = (0, 0) := if_pos h1
theorem pv1 (h1 : (Txt.slice r none (some 3) != Str.ofString "229") = false) (h2 : Txt.find r (Str.ofString "(") < 0) : portV r = (1, 0) := Eq.trans (if_neg (bool_no h1)) (if_pos h2)
theorem pv2 (h1 : (Txt.slice r none (some 3) != Str.ofString "229") = false) (h2 : ¬ Txt.find r (Str.ofString "(") < 0) (h3 : Txt.find3 r (Str.ofString ")") (Txt.find r (Str.ofString "(") + 1) < 0) : portV r = (1, 0) := Eq.trans (if_neg (bool_no h1)) (Eq.trans (if_neg h2) (if_pos h3))
theorem pv3 (h1 : (Txt.slice r none (some 3) != Str.ofString "229") = false) (h2 : ¬ Txt.find r (Str.ofString "(") < 0) (h3 : ¬ Txt.find3 r (Str.ofString ")") (Txt.find r (Str.ofString "(") + 1) < 0) (h4 : (Txt.item r (Txt.find r (Str.ofString "(") + 1) != Txt.item r (Txt.find3 r (Str.ofString ")") (Txt.find r (Str.ofString "(") + 1) - 1)) = true) : portV r = (1, 0) := Eq.trans (if_neg (bool_no h1)) (Eq.trans (if_neg h2) (Eq.trans (if_neg h3) (if_pos h4)))
theorem pv4 (h1 : (Txt.slice r none (some 3) != Str.ofString "229") = false) (h2 : ¬ Txt.find r (Str.ofString "(") < 0) (h3 : ¬ Txt.find3 r (Str.ofString ")") (Txt.find r (Str.ofString "(") + 1) < 0) (h4 : (Txt.item r (Txt.find r (Str.ofString "(") + 1) != Txt.item r (Txt.find3 r (Str.ofString ")") (Txt.find r (Str.ofString "(") + 1) - 1)) = false) (hs : l.map (fun x => x.1) = Txt.split (Txt.slice r (some (Txt.find r (Str.ofString "(") + 1)) (some (Txt.find3 r (Str.ofString ")") (Txt.find r (Str.ofString "(") + 1)))) (Txt.item r (Txt.find r (Str.ofString "(") + 1))) (h5 : ¬ (l.length : Int) = 5) : portV r = (1, 0) := by
  have e : pParts r = l.map (fun x => x.1) := hs.symm
  have h5' : (pParts r).length ≠ 5 := by rw [e, List.length_map]; intro q; exact h5 (by rw [q]; rfl)
  exact Eq.trans (if_neg (bool_no h1)) (Eq.trans (if_neg h2) (Eq.trans (if_neg h3) (Eq.trans (if_neg (bool_no h4)) (if_pos h5'))))
theorem pv5 (h1 : (Txt.slice r none (some 3) != Str.ofString "229") = false) (h2 : ¬ Txt.find r (Str.ofString "(") < 0) (h3 : ¬ Txt.find3 r (Str.ofString ")") (Txt.find r (Str.ofString "(") + 1) < 0) (h4 : (Txt.item r (Txt.find r (Str.ofString "(") + 1) != Txt.item r (Txt.find3 r (Str.ofString ")") (Txt.find r (Str.ofString "(") + 1) - 1)) = false) (hs : l.map (fun x => x.1) = Txt.split (Txt.slice r (some (Txt.find r (Str.ofString "(") + 1)) (some (Txt.find3 r (Str.ofString ")") (Txt.find r (Str.ofString "(") + 1)))) (Txt.item r (Txt.find r (Str.ofString "(") + 1))) (h5 : (l.length : Int) = 5) {y : Str} (hy : (l.map (fun x => x.1))[Int.toNat 3]? = some y) (hn : OkR r) : ∃ v, PySem.intText? y = some v ∧ portV r = (2, v) := by
  have e : pParts r = l.map (fun x => x.1) := hs.symm
  have h5' : ¬ (pParts r).length ≠ 5 := by rw [e, List.length_map]; intro q; exact q (Int.ofNat.inj h5)
  have e9 : portV r = pEnd (pParts r)[3]? := Eq.trans (if_neg (bool_no h1)) (Eq.trans (if_neg h2) (Eq.trans (if_neg h3) (Eq.trans (if_neg (bool_no h4)) (if_neg h5'))))
  have hy' : (pParts r)[3]? = some y := by rw [e]; exact hy
  rw [hy'] at e9
  unfold OkR at hn
  rw [e9] at hn ⊢
  unfold pEnd at hn ⊢
  dsimp only at hn ⊢
  cases hv : PySem.intText? y with
  | none => rw [hv] at hn; exact absurd rfl hn
  | some v => exact ⟨v, rfl, rfl⟩
end
theorem news_skip {h₀ h : Heap} {L : Addr} {x y : Addr × Obj} {r : List (Addr × Obj)} (N : News h₀ L h (x :: y :: r)) : News h₀ L h (x :: r) := fun p hp => N p (by
  rcases List.mem_cons.mp hp with rfl | hp
  · exact .head _
  · exact .tail _ (.tail _ hp))
theorem allLt_mem {a : Addr} {l : List (Addr × Obj)} (x : AllLt a l) : ∀ q ∈ l, q.1 < a := by
  induction l with
  | nil => exact fun q hq => absurd hq List.not_mem_nil
  | cons b l ih =>
    intro q hq
    have x1 : @LT.lt Nat _ b.1 a := x.1
    rcases List.mem_cons.mp hq with e | hq
    · rw [e]; exact x1
    · exact ih x.2 q hq
theorem own_of {K : Frag} {g h : Heap} {L e t C : Addr} {mm : Str → Option Value} {n₂ : List (Addr × Obj)} {m : Str} {tk : Tok} (X : K.In g) (F : Fr g L h mm) (N : News g L h n₂) (G : Got n₂ e t (.ref C) [.str m tk]) (hs : findIn K (.ref C) "__str__" = some (some (.builtin "BaseException.__str__"))) (hm : mroIn K C (.type "BaseException") = some true) : OwnExc K C h e t m tk := by
  refine cutG fun Pc kc => ?_
  obtain ⟨oe, ot, ws, nt, h1, h2, hc, hd, h0, hc2, hd2⟩ := G
  refine kc ?_
  clear kc Pc
  exact ⟨X.keeps F.keep, hs, hm, ⟨oe, ws, (N _ h1).1, hc, hd, h0⟩, ⟨ot, nt, (N _ h2).1, hc2, hd2⟩⟩
theorem own_str2 {p : Program} {w : World} {A : Around} {Q : Value → Shared → Prop} {E : Value → Shared → Prop} {s : Shared} {K : Frag} {g : Heap} {L e t C : Addr} {mm : Str → Option Value} {n₂ : List (Addr × Obj)} {m : Str} {tk : Tok} (G : Got n₂ e t (.ref C) [.str m tk]) (F : Fr g L s.heap mm) (X : K.In g) (N : News g L s.heap n₂) (hs : findIn K (.ref C) "__str__" = some (some (.builtin "BaseException.__str__"))) (hm : mroIn K C (.type "BaseException") = some true) (hu : A.units + 2 < cLine) (hq : Q (.str m tk) s) : wpAny (model p w) A (call (.type "str") [.ref e]) Q E s := own_str hu (own_of X F N G hs hm) hq
noncomputable def PortX.R (w : World) (mean : ExcName → Option Value) (mg mb : Str → Option Value) (loose : List Str) (dp un : Nat) (gd : Option (List Code)) (cn : Str) (cs : Scope) (a : Addr) (ccd : Value) (cl : List (Str × Addr)) (A₀ : Around) (h₀ : Heap) (L : Addr) (m : Str → Option Value) (s : Shared) (Q E : Value → Shared → Prop) (news : List (Addr × Obj)) (reply : Str) (t1 : Tok) : Prop :=
  ∀ (B : Below A₀ h₀ [] h₀) (F : Fr h₀ L s.heap m) (X : (hd.heap_1 w.params).In h₀) (T : Top topProg loose mean mg mb h₀) (hk : cs.kind = .function) (N : News h₀ L s.heap news) (hl : reply.length ≤ 500) (hb : ¬ Txt.find reply (Str.ofString "(") < 0 → ¬ Txt.find3 reply (Str.ofString ")") (Txt.find reply (Str.ofString "(") + 1) < 0 → (Txt.find reply (Str.ofString "(") + 1 < (reply.length : Int) ∧ 1 ≤ Txt.find3 reply (Str.ofString ")") (Txt.find reply (Str.ofString "(") + 1) ∧ Txt.find3 reply (Str.ofString ")") (Txt.find reply (Str.ofString "(") + 1) ≤ (reply.length : Int))) (h3 : OkR reply) (hd : dp + 8 < recursionLimit) (hu : un + 80 < cLine) (ret0 : ∀ (h9 : Heap) (tk9 : Nat) (R0 : Addr) (ta : Tok) (k : Nat), portV reply = (0, 0) → Fr h₀ L h9 m → News h₀ L h9 ((R0, listOf #[.str (Str.ofString "reply") ta, .str reply t1] k) :: news) → (∀ q ∈ news, q.1 < R0) → Q (.ref R0) { s with heap := h9, toks := tk9 }) (ret1 : ∀ (h9 : Heap) (tk9 : Nat) (R0 : Addr) (ta : Tok) (k : Nat), portV reply = (1, 0) → Fr h₀ L h9 m → News h₀ L h9 ((R0, listOf #[.str (Str.ofString "proto") ta, .str reply t1] k) :: news) → (∀ q ∈ news, q.1 < R0) → Q (.ref R0) { s with heap := h9, toks := tk9 }) (ret2 : ∀ (h9 : Heap) (tk9 : Nat) (R0 : Addr) (v : Int) (ta tb : Tok), portV reply = (2, v) → Fr h₀ L h9 m → News h₀ L h9 ((R0, { cls := .type "tuple", data := .seq #[.str (Str.ofString "peer") ta, .int v tb] }) :: news) → (∀ q ∈ news, q.1 < R0) → Q (.ref R0) { s with heap := h9, toks := tk9 }),
   wpAny (model PySem.Challenge.rw_ta0052_01.row.prog w) (ktrTop dp un gd cn cs L a ccd cl []) (call (.ref 150) [.str reply t1]) Q E s
noncomputable def PortX (w : World) (mean : ExcName → Option Value) (mg mb : Str → Option Value) (loose : List Str) : Prop := ∀ ⦃dp un : Nat⦄ ⦃gd : Option (List Code)⦄ ⦃cn : Str⦄ ⦃cs : Scope⦄ ⦃a : Addr⦄ ⦃ccd : Value⦄ ⦃cl : List (Str × Addr)⦄ ⦃A₀ : Around⦄ ⦃h₀ : Heap⦄ ⦃L : Addr⦄ ⦃m : Str → Option Value⦄ ⦃s : Shared⦄ ⦃Q E : Value → Shared → Prop⦄ ⦃news : List (Addr × Obj)⦄ ⦃reply : Str⦄ ⦃t1 : Tok⦄, PortX.R w mean mg mb loose dp un gd cn cs a ccd cl A₀ h₀ L m s Q E news reply t1
theorem PortX.use {w : World} {mean : ExcName → Option Value} {mg mb : Str → Option Value} {loose : List Str} (spc : PortX w mean mg mb loose) : PortX w mean mg mb loose := spc
section
local macro_rules | `(tactic| k_room) => `(tactic| ((try simp only [depth_under_make, depth_under_kw, depth_in1, depth_deeper, depth_caller]); (try dsimp only); (show _ < recursionLimit); omega))
local macro_rules | `(tactic| walk_at "call type:str") => rowR `own_str2 "ssaaiiPw"
local macro_rules | `(tactic| walk_at "my p") => `(tactic| ((try simp only [units_mark, units_deeper]); (try dsimp only); omega))
abbrev portSK.TT : Type := World × (ExcName → Option Value) × (Str → Option Value) × (Str → Option Value) × (List Str) × Nat × Nat × (Option (List Code)) × Str × Scope × Addr × Value × (List (Str × Addr)) × Around × Heap × Addr × (Str → Option Value) × Shared × (Value → Shared → Prop) × (Value → Shared → Prop) × (List (Addr × Obj)) × Str × Tok
theorem portSK.nn : Nonempty portSK.TT := ⟨(⟨fun _ _ => 0, { strHash := fun _ => 0, shareClass := fun _ => 0, mergeTok := fun _ => 0, idOf := fun _ => 0, idOfShared := fun _ _ => 0, followText := fun _ => false, idOfImm := fun _ => 0 }⟩, fun _ => none, fun _ => none, fun _ => none, [], 0, 0, none, Str.ofString "", default, 0, .none, [], {}, {}, 0, fun _ => none, {}, fun _ _ => True, fun _ _ => True, [], Str.ofString "", 0)⟩
noncomputable def portSK.QQ (c : portSK.TT) : Prop := PortX.R c.1 c.2.1 c.2.2.1 c.2.2.2.1 c.2.2.2.2.1 c.2.2.2.2.2.1 c.2.2.2.2.2.2.1 c.2.2.2.2.2.2.2.1 c.2.2.2.2.2.2.2.2.1 c.2.2.2.2.2.2.2.2.2.1 c.2.2.2.2.2.2.2.2.2.2.1 c.2.2.2.2.2.2.2.2.2.2.2.1 c.2.2.2.2.2.2.2.2.2.2.2.2.1 c.2.2.2.2.2.2.2.2.2.2.2.2.2.1 c.2.2.2.2.2.2.2.2.2.2.2.2.2.2.1 c.2.2.2.2.2.2.2.2.2.2.2.2.2.2.2.1 c.2.2.2.2.2.2.2.2.2.2.2.2.2.2.2.2.1 c.2.2.2.2.2.2.2.2.2.2.2.2.2.2.2.2.2.1 c.2.2.2.2.2.2.2.2.2.2.2.2.2.2.2.2.2.2.1 c.2.2.2.2.2.2.2.2.2.2.2.2.2.2.2.2.2.2.2.1 c.2.2.2.2.2.2.2.2.2.2.2.2.2.2.2.2.2.2.2.2.1 c.2.2.2.2.2.2.2.2.2.2.2.2.2.2.2.2.2.2.2.2.2.1 c.2.2.2.2.2.2.2.2.2.2.2.2.2.2.2.2.2.2.2.2.2.2
noncomputable def portSK.cc : portSK.TT := Classical.epsilon (h := portSK.nn) fun c => ¬ portSK.QQ c
namespace portSK
@[irreducible] noncomputable def w := cc.1
@[irreducible] noncomputable def mean := cc.2.1
@[irreducible] noncomputable def mg := cc.2.2.1
@[irreducible] noncomputable def mb := cc.2.2.2.1
@[irreducible] noncomputable def loose := cc.2.2.2.2.1
@[irreducible] noncomputable def dp := cc.2.2.2.2.2.1
@[irreducible] noncomputable def un := cc.2.2.2.2.2.2.1
@[irreducible] noncomputable def gd := cc.2.2.2.2.2.2.2.1
@[irreducible] noncomputable def cn := cc.2.2.2.2.2.2.2.2.1
@[irreducible] noncomputable def cs := cc.2.2.2.2.2.2.2.2.2.1
@[irreducible] noncomputable def a := cc.2.2.2.2.2.2.2.2.2.2.1
@[irreducible] noncomputable def ccd := cc.2.2.2.2.2.2.2.2.2.2.2.1
@[irreducible] noncomputable def cl := cc.2.2.2.2.2.2.2.2.2.2.2.2.1
@[irreducible] noncomputable def A₀ := cc.2.2.2.2.2.2.2.2.2.2.2.2.2.1
@[irreducible] noncomputable def h₀ := cc.2.2.2.2.2.2.2.2.2.2.2.2.2.2.1
@[irreducible] noncomputable def L := cc.2.2.2.2.2.2.2.2.2.2.2.2.2.2.2.1
@[irreducible] noncomputable def m := cc.2.2.2.2.2.2.2.2.2.2.2.2.2.2.2.2.1
@[irreducible] noncomputable def s := cc.2.2.2.2.2.2.2.2.2.2.2.2.2.2.2.2.2.1
@[irreducible] noncomputable def Q := cc.2.2.2.2.2.2.2.2.2.2.2.2.2.2.2.2.2.2.1
@[irreducible] noncomputable def E := cc.2.2.2.2.2.2.2.2.2.2.2.2.2.2.2.2.2.2.2.1
@[irreducible] noncomputable def news := cc.2.2.2.2.2.2.2.2.2.2.2.2.2.2.2.2.2.2.2.2.1
@[irreducible] noncomputable def reply := cc.2.2.2.2.2.2.2.2.2.2.2.2.2.2.2.2.2.2.2.2.2.1
@[irreducible] noncomputable def t1 := cc.2.2.2.2.2.2.2.2.2.2.2.2.2.2.2.2.2.2.2.2.2.2
theorem main : PortX.R w mean mg mb loose dp un gd cn cs a ccd cl A₀ h₀ L m s Q E news reply t1 := by
  intro B F X T hk N hl hb h3 hd hu ret0 ret1 ret2
  revert X T; k_fill; intro X T
  refine wpAny_call ?_
  refine' code_defX0 (binds := [(Str.ofString "reply", .str reply t1)]) B F X N T rfl rfl hk ?k6 ?k7 ?k8 ?k9 ?kB ?_ ?c2 ?c3 ?c4 ?c5
  case k6 => k_is
  case k7 => k_is
  case k9 => exact BindsTo.of_eq rfl
  case kB => exact locs rfl
  case c5 => decide
  case c2 => exact rfl
  case c3 => exact rfl
  case c4 => exact rfl
  case k8 => (show dp < recursionLimit; omega)
  intro g' L' h' FG' F' N' B' X' T' D'
  have T0' : KtsTurn ([envX cn cs L a ccd cl].filterMap (·.frame)) g' g' := KtsTurn.refl
  have F2 : Fr g' L' h' (fun y => List.lookup y [(Str.ofString "reply", .str reply t1)]) := F'
  clear F' N F
  dsimp only
  k_unmd
  k_fold
  change wpAny _ _ (execs (_ :: _) _) _ _ _
  k_unmd
  k_steps
  rotate_left 5
  rename_i y9 t9 hy9
  refine cutG fun Pc kc => ?_
  obtain ⟨v9, hv9, hp9⟩ := pv5 (by assumption) (by assumption) (by assumption) (by assumption) (by assumption) (by assumption) hy9 h3
  refine kc ?_
  clear kc Pc
  refine KIN.call_text hv9 ?kl ?_
  rotate_left
  k_steps
  rotate_left 6
  case kl =>
    rename_i hm9 _ _ _ _ _ _ _
    have h9 : y9.length ≤ (Txt.slice reply (some (Txt.find reply (Str.ofString "(") + 1)) (some (Txt.find3 reply (Str.ofString ")") (Txt.find reply (Str.ofString "(") + 1)))).length := by
      first | exact hm9 _ (List.mem_of_getElem? hy9) | (have hm' := ‹∀ a ∈ List.map (fun x : Str × Tok => x.1) _, a.length ≤ _›; exact hm' _ (List.mem_of_getElem? hy9))
    omega
  · rename_i lA _ _ _ _ kF9 kN9 _ _
    exact ret2 _ _ _ _ _ _ hp9 kF9 (news_skip (news_skip kN9)) (allLt_mem lA.2.2)
  · rename_i lA _ _ _ _ kF9 kN9 _ _
    exact ret0 _ _ _ _ _ (pv0 (by assumption)) kF9 (news_skip kN9) (allLt_mem lA.2)
  · rename_i lA _ _ _ _ kF9 kN9 _ _
    exact ret1 _ _ _ _ _ (pv1 (by assumption) (by assumption)) kF9 (news_skip kN9) (allLt_mem lA.2)
  · rename_i lA _ _ _ _ kF9 kN9 _ _
    exact ret1 _ _ _ _ _ (pv2 (by assumption) (by assumption) (by assumption)) kF9 (news_skip kN9) (allLt_mem lA.2)
  · rename_i lA _ _ _ _ kF9 kN9 _ _
    exact ret1 _ _ _ _ _ (pv3 (by assumption) (by assumption) (by assumption) (by assumption)) kF9 (news_skip kN9) (allLt_mem lA.2)
  · rename_i lA _ _ _ _ kF9 kN9 _ _
    exact ret1 _ _ _ _ _ (pv4 (by assumption) (by assumption) (by assumption) (by assumption) (by assumption) (by assumption)) kF9 (news_skip (news_skip kN9)) (allLt_mem lA.2.2)
end portSK
theorem portS (w : World) (mean) (mg mb) (loose) : PortX w mean mg mb loose := fun dp un gd cn cs a ccd cl A₀ h₀ L m s Q E news reply t1 => shut portSK.nn (Q := portSK.QQ) (by with_unfolding_all exact portSK.main) (w, mean, mg, mb, loose, dp, un, gd, cn, cs, a, ccd, cl, A₀, h₀, L, m, s, Q, E, news, reply, t1)
end
end
section
open _root_.PySem _root_.PySem.W _root_.PyProof.Rows _root_.PySem.Builtin _root_.PySem.Builtin.Str _root_.PySem.StrLaws
noncomputable def ixL (c : Nat) : List Nat → Nat → Option Nat
  | [], _ => none
  | d :: r, i => if d = c then some i else ixL c r (i + 1)
theorem ix_some {c : Nat} : ∀ {l : List Nat} {i k : Nat}, ixL c l i = some k → ∃ j, k = i + j ∧ l[j]? = some c ∧ ∀ v, v < j → l[v]? ≠ some c
  | [], _, _, h => nomatch h
  | d :: r, i, k, h => by
    unfold ixL at h
    by_cases e : d = c
    · rw [if_pos e] at h
      cases h
      exact ⟨0, rfl, by rw [e]; rfl, fun v hv => absurd hv (Nat.not_lt_zero _)⟩
    · rw [if_neg e] at h
      refine cutG fun Pc kc => ?_
      obtain ⟨j, e1, e2, e3⟩ := ix_some h
      refine kc ?_
      clear kc Pc
      refine ⟨j + 1, by omega, e2, fun v hv => ?_⟩
      cases v with
      | zero => intro q; exact e (Option.some.inj q)
      | succ v => exact e3 v (by omega)
theorem ix_none {c : Nat} : ∀ {l : List Nat} {i : Nat}, ixL c l i = none → ∀ v : Nat, l[v]? ≠ some c
  | [], _, _, v => by simp
  | d :: r, i, h, v => by
    unfold ixL at h
    by_cases e : d = c
    · rw [if_pos e] at h; cases h
    · rw [if_neg e] at h
      cases v with
      | zero => intro q; exact e (Option.some.inj q)
      | succ v => exact ix_none h v
theorem find_L (x : Str) (c : Nat) : Txt.find x ⟨#[c]⟩ = match ixL c x.cps.toList 0 with | some k => (k : Int) | none => -1 := by
  unfold Txt.find
  rcases occ_head x ⟨#[c]⟩ 1 (Nat.le_refl 1) with ⟨h0, hn⟩ | ⟨k, r, h0, hk, hn⟩
  · rw [h0]
    cases e : ixL c x.cps.toList 0 with
    | none => rfl
    | some k =>
      refine cutG fun Pc kc => ?_
      obtain ⟨j, e1, e2, _⟩ := ix_some e
      refine kc ?_
      clear kc Pc
      exact absurd ((subAt_one x c j).mpr e2) (hn j)
  · rw [h0]
    have hm := (subAt_one x c k).mp hk
    cases e : ixL c x.cps.toList 0 with
    | none => exact absurd hm (ix_none e k)
    | some k' =>
      refine cutG fun Pc kc => ?_
      obtain ⟨j, e1, e2, e3⟩ := ix_some e
      refine kc ?_
      clear kc Pc
      rcases Nat.lt_trichotomy j k with h | h | h
      · exact absurd ((subAt_one x c j).mpr e2) (hn j h)
      · show ((k : Nat) : Int) = (k' : Int); omega
      · exact absurd hm (e3 k h)
theorem find3_L (x : Str) (c lo : Nat) (hlo : lo ≤ x.length) : Txt.find3 x ⟨#[c]⟩ (lo : Int) = match ixL c (x.cps.toList.drop lo) lo with | some k => (k : Int) | none => -1 := by
  have hf : fromIndex x.length (lo : Int) = lo := by unfold fromIndex; rw [if_neg (by omega)]; omega
  unfold Txt.find3
  rw [hf]
  rcases occ_head_from x ⟨#[c]⟩ lo 1 (Nat.le_refl 1) with ⟨h0, hn⟩ | ⟨k, r, h0, hl, hk, hn⟩
  · rw [h0]
    cases e : ixL c (x.cps.toList.drop lo) lo with
    | none => rfl
    | some k =>
      refine cutG fun Pc kc => ?_
      obtain ⟨j, e1, e2, _⟩ := ix_some e
      refine kc ?_
      clear kc Pc
      rw [List.getElem?_drop] at e2
      exact absurd ((subAt_one x c (lo + j)).mpr e2) (hn (lo + j) (by omega))
  · rw [h0]
    have hm := (subAt_one x c k).mp hk
    cases e : ixL c (x.cps.toList.drop lo) lo with
    | none =>
      have := ix_none e (k - lo)
      rw [List.getElem?_drop, show lo + (k - lo) = k by omega] at this
      exact absurd hm this
    | some k' =>
      refine cutG fun Pc kc => ?_
      obtain ⟨j, e1, e2, e3⟩ := ix_some e
      refine kc ?_
      clear kc Pc
      rw [List.getElem?_drop] at e2
      rcases Nat.lt_trichotomy (lo + j) k with h | h | h
      · exact absurd ((subAt_one x c (lo + j)).mpr e2) (hn (lo + j) (by omega) h)
      · show ((k : Nat) : Int) = (k' : Int); omega
      · have := e3 (k - lo) (by omega)
        rw [List.getElem?_drop, show lo + (k - lo) = k by omega] at this
        exact absurd hm this
theorem occ_all (x : Str) (c limit : Nat) : ∀ (n a : Nat) (arr : Array Nat) (free : Nat), free ≤ a → arr.size + n ≤ limit →
    (forIn (List.range' a n) (arr, free) (occBody x ⟨#[c]⟩ x.length limit)).run.fst.toList = arr.toList ++ (List.range' a n).filter (fun i => decide (x.cps.toList[i]? = some c))
  | 0, a, arr, free, _, _ => by simp
  | n + 1, a, arr, free, hf, hl => by
    rw [List.range'_succ, List.forIn_cons]
    by_cases h : x.cps.toList[a]? = some c
    · have h2 := (subAt_one x c a).mpr h
      have e : occBody x ⟨#[c]⟩ x.length limit a (arr, free) = pure (ForInStep.yield (arr.push a, a + 1)) := by
        unfold occBody
        exact if_pos ⟨⟨⟨by show arr.size < limit; omega, hf⟩, h2.1⟩, h2.2⟩
      rw [e]
      show (forIn (List.range' (a + 1) n) (arr.push a, a + 1) (occBody x ⟨#[c]⟩ x.length limit)).run.fst.toList = _
      rw [occ_all x c limit n (a + 1) (arr.push a) (a + 1) (Nat.le_refl _) (by rw [Array.size_push]; omega), List.filter_cons_of_pos (by rw [decide_eq_true_eq]; exact h), Array.toList_push, List.append_assoc]
      rfl
    · have e : occBody x ⟨#[c]⟩ x.length limit a (arr, free) = pure (ForInStep.yield (arr, free)) := by
        unfold occBody
        exact if_neg fun q => h ((subAt_one x c a).mp ⟨q.1.2, q.2⟩)
      rw [e]
      show (forIn (List.range' (a + 1) n) (arr, free) (occBody x ⟨#[c]⟩ x.length limit)).run.fst.toList = _
      rw [occ_all x c limit n (a + 1) arr free (by omega) (by omega), List.filter_cons_of_neg (by rw [decide_eq_true_eq]; exact h)]
noncomputable def splitL (c : Nat) : List Nat → List (List Nat)
  | [] => [[]]
  | d :: r => if d = c then [] :: splitL c r else match splitL c r with
    | p :: ps => (d :: p) :: ps
    | [] => [[d]]
theorem parts_L (x : Str) (c : Nat) : ∀ (n a : Nat), a + n = x.length → (partsFrom x 1 a ((List.range' a (n + 1)).filter fun i => decide (x.cps.toList[i]? = some c))).map (fun p => p.cps.toList) = splitL c (x.cps.toList.drop a)
  | 0, a, h => by
    have hl : x.cps.toList.length = x.length := Array.length_toList
    have h1 : x.cps.toList[a]? = none := List.getElem?_eq_none (by omega)
    rw [List.range'_succ, List.filter_cons_of_neg (by simp [h1]), List.drop_eq_nil_of_le (by omega)]
    show [(strSub x a x.length).cps.toList] = [[]]
    rw [strSub_toList, List.drop_eq_nil_of_le (by omega), List.take_nil]
  | n + 1, a, h => by
    have hl : x.cps.toList.length = x.length := Array.length_toList
    have ih := parts_L x c n (a + 1) (by omega)
    have hlt : a < x.cps.toList.length := by omega
    have hd : x.cps.toList.drop a = x.cps.toList[a] :: x.cps.toList.drop (a + 1) := List.drop_eq_getElem_cons hlt
    have hg : x.cps.toList[a]? = some x.cps.toList[a] := List.getElem?_eq_getElem hlt
    rw [List.range'_succ, hd]
    by_cases e : x.cps.toList[a] = c
    · rw [List.filter_cons_of_pos (by rw [hg, e, decide_eq_true_eq])]
      show (strSub x a a).cps.toList :: (partsFrom x 1 (a + 1) _).map _ = _
      rw [ih, strSub_toList]
      unfold splitL
      rw [if_pos e, Nat.sub_self]
      cases x.cps.toList.drop (a + 1) <;> rfl
    · rw [List.filter_cons_of_neg (by rw [hg, decide_eq_true_eq]; intro q; exact e (Option.some.inj q))]
      unfold splitL
      rw [if_neg e, ← ih]
      have hb : ∀ j, a + 1 ≤ j → (strSub x a j).cps.toList = x.cps.toList[a] :: (strSub x (a + 1) j).cps.toList := fun j hj => by
        rw [strSub_toList, strSub_toList, hd, show j - a = (j - (a + 1)) + 1 by omega, List.take_succ_cons]
      cases hc : ((List.range' (a + 1) (n + 1)).filter fun i => decide (x.cps.toList[i]? = some c)) with
      | nil =>
        show [(strSub x a x.length).cps.toList] = _
        rw [hb _ (by omega)]
        rfl
      | cons i r =>
        have hi : i ∈ (List.range' (a + 1) (n + 1)).filter fun i => decide (x.cps.toList[i]? = some c) := by rw [hc]; exact .head _
        have := List.mem_range'_1.mp ((List.mem_filter.mp hi).1)
        show (strSub x a i).cps.toList :: _ = _
        rw [hb _ (by omega)]
        rfl
theorem split_L (x : Str) (c : Nat) (hc : c < 256) (hx : x.cps.toList ≠ []) : (Txt.split x ⟨#[c]⟩).map (fun p => p.cps.toList) = splitL c x.cps.toList := by
  have hl : x.cps.toList.length = x.length := Array.length_toList
  have h0 : 0 < x.length := by rw [← hl]; exact List.length_pos_iff.mpr hx
  have hk : PySem.Builtin.Str.strKind ⟨#[c]⟩ = 1 := by
    unfold PySem.Builtin.Str.strKind
    exact if_pos (by simp [hc])
  have hkx : ¬ PySem.Builtin.Str.strKind x < 1 := by unfold PySem.Builtin.Str.strKind; (repeat' split) <;> omega
  have ho : occurrences x ⟨#[c]⟩ 0 x.length (x.length + 1) = (List.range' 0 (x.length + 1)).filter (fun i => decide (x.cps.toList[i]? = some c)) := by
    rw [occ_eq]
    have := occ_all x c (x.length + 1) (x.length + 1) 0 #[] 0 (Nat.le_refl _) (by simp)
    simpa using this
  have hp := parts_L x c x.length 0 (by omega)
  rw [List.drop_zero] at hp
  unfold Txt.split
  rw [if_neg (by rw [hk]; show ¬ (decide (x.length < 1) || decide (PySem.Builtin.Str.strKind x < 1)) = true; simp only [Bool.or_eq_true, decide_eq_true_eq]; omega), ho]
  split
  · rename_i he
    have he' := List.isEmpty_iff.mp he
    rw [he'] at hp
    rw [← hp]
    show [x.cps.toList] = [(strSub x 0 x.length).cps.toList]
    rw [sub_whole]
  · show (partsBetween x _ 1).map _ = _
    rw [partsBetween_eq]
    exact hp
end
section
open _root_.PySem _root_.PySem.W _root_.PyProof.Rows _root_.PySem.Builtin _root_.PySem.Builtin.Str _root_.PySem.StrLaws
noncomputable def portL (cs : List Nat) : Nat × List Nat :=
  if cs.take 3 ≠ [50, 50, 57] then (0, []) else
  match ixL 40 cs 0 with
  | none => (1, [])
  | some l => match ixL 41 (cs.drop (l + 1)) (l + 1) with
    | none => (1, [])
    | some r => if cs.getD (l + 1) 0 ≠ cs.getD (r - 1) 0 then (1, []) else
      if (splitL (cs.getD (l + 1) 0) ((cs.drop (l + 1)).take (r - (l + 1)))).length ≠ 5 then (1, []) else (2, (splitL (cs.getD (l + 1) 0) ((cs.drop (l + 1)).take (r - (l + 1)))).getD 3 [])
noncomputable def HB (r : Str) : Prop := ¬ Txt.find r (Str.ofString "(") < 0 → ¬ Txt.find3 r (Str.ofString ")") (Txt.find r (Str.ofString "(") + 1) < 0 → (Txt.find r (Str.ofString "(") + 1 < (r.length : Int) ∧ 1 ≤ Txt.find3 r (Str.ofString ")") (Txt.find r (Str.ofString "(") + 1) ∧ Txt.find3 r (Str.ofString ")") (Txt.find r (Str.ofString "(") + 1) ≤ (r.length : Int))
noncomputable def portR (c : Nat × List Nat) : Nat × Int := if c.1 = 0 then (0, 0) else if c.1 = 1 then (1, 0) else pEnd (some ⟨c.2.toArray⟩)
theorem item_L (x : Str) (i : Nat) (h : i < x.cps.toList.length) : Txt.item x (i : Int) = ⟨#[x.cps.toList.getD i 0]⟩ := by
  have hl : x.cps.toList.length = x.length := Array.length_toList
  unfold Txt.item Txt.charAt
  rw [seqIndex_nonneg (by omega) (by omega)]
  have e : x.cps[i]? = some x.cps.toList[i] := by
    rw [← Array.getElem?_toList]
    exact List.getElem?_eq_getElem h
  show (⟨#[((x.cps[((i : Nat) : Int).toNat]?)).getD 0]⟩ : Str) = _
  rw [Int.toNat_natCast, e, List.getD_eq_getElem?_getD, List.getElem?_eq_getElem h]
theorem slice_L (x : Str) (a b : Nat) (hab : a ≤ b) (hb : b ≤ x.cps.toList.length) : Txt.slice x (some (a : Int)) (some (b : Int)) = ⟨((x.cps.toList.drop a).take (b - a)).toArray⟩ :=
  sliceText_nat x hab (by have hl : x.cps.toList.length = x.length := Array.length_toList; omega)
theorem slice3_L (x : Str) (h : 3 ≤ x.cps.toList.length) : Txt.slice x none (some 3) = ⟨(x.cps.toList.take 3).toArray⟩ :=
  (sliceText_to (x := x) (j := 3) ⟨by omega, by omega⟩)
theorem mk_ne {a b : List Nat} : ((⟨a.toArray⟩ : Str) != ⟨b.toArray⟩) = decide (a ≠ b) := by
  by_cases h : a = b
  · subst h; simp
  · rw [decide_eq_true h]
    rw [bne_iff_ne]
    intro e
    exact h (by have := congrArg (fun x : Str => x.cps.toList) e; simpa using this)
theorem mk1_ne {a b : Nat} : ((⟨#[a]⟩ : Str) != ⟨#[b]⟩) = decide (a ≠ b) := by
  have h := mk_ne (a := [a]) (b := [b])
  have e : decide ([a] ≠ [b]) = decide (a ≠ b) := by by_cases q : a = b <;> simp [q]
  exact h.trans e
theorem dec_pos {p : Prop} [Decidable p] (h : p) : ¬ decide (¬ p) = true := by rw [decide_eq_true_eq]; exact fun q => q h
theorem dec_neg {p : Prop} [Decidable p] (h : ¬ p) : decide (¬ p) = true := by rw [decide_eq_true_eq]; exact h
theorem port_L (x : Str) (h3 : 3 ≤ x.cps.toList.length) (hb : ∀ d ∈ x.cps.toList, d < 256) : portV x = portR (portL x.cps.toList) ∧ HB x := by
  have hl : x.cps.toList.length = x.length := Array.length_toList
  have e229 : Str.ofString "229" = ⟨[50, 50, 57].toArray⟩ := by decide +kernel
  have e40 : Str.ofString "(" = ⟨#[40]⟩ := by decide +kernel
  have e41 : Str.ofString ")" = ⟨#[41]⟩ := by decide +kernel
  unfold portV HB pParts pRt pSep
  rw [slice3_L x h3, e229, mk_ne, e40, e41, find_L]
  unfold portL
  by_cases c1 : x.cps.toList.take 3 = [50, 50, 57]
  · rw [if_neg (show ¬ (decide (x.cps.toList.take 3 ≠ [50, 50, 57]) = true) by rw [decide_eq_true_eq]; exact fun q => q c1), if_neg (show ¬ (x.cps.toList.take 3 ≠ [50, 50, 57]) from fun q => q c1)]
    cases e1 : ixL 40 x.cps.toList 0 with
    | none =>
      refine ⟨?_, fun q => absurd (show (-1 : Int) < 0 by decide) q⟩
      rfl
    | some l =>
      dsimp only
      refine cutG fun Pc kc => ?_
      obtain ⟨j, q1, q2, q3⟩ := ix_some e1
      refine kc ?_
      clear kc Pc
      have hlt : l < x.cps.toList.length := by
        obtain ⟨h, _⟩ := List.getElem?_eq_some_iff.mp q2; omega
      rw [if_neg (show ¬ ((l : Int) < 0) by omega), show (l : Int) + 1 = ((l + 1 : Nat) : Int) by omega, find3_L x 41 (l + 1) (by omega)]
      cases e2 : ixL 41 (x.cps.toList.drop (l + 1)) (l + 1) with
      | none => exact ⟨rfl, fun _ q => absurd (show (-1 : Int) < 0 by decide) q⟩
      | some r =>
        dsimp only
        refine cutG fun Pc kc => ?_
        obtain ⟨j2, p1, p2, p3⟩ := ix_some e2
        refine kc ?_
        clear kc Pc
        rw [List.getElem?_drop] at p2
        have hr : r < x.cps.toList.length := by
          obtain ⟨h, _⟩ := List.getElem?_eq_some_iff.mp p2; omega
        refine ⟨?_, fun _ _ => ⟨by omega, by omega, by omega⟩⟩
        rw [if_neg (show ¬ ((r : Int) < 0) by omega), item_L x (l + 1) (by omega), show (r : Int) - 1 = ((r - 1 : Nat) : Int) by omega, item_L x (r - 1) (by omega)]
        rw [mk1_ne]
        by_cases c2 : x.cps.toList.getD (l + 1) 0 = x.cps.toList.getD (r - 1) 0
        · rw [if_neg (dec_pos c2), if_neg (show ¬ (x.cps.toList.getD (l + 1) 0 ≠ x.cps.toList.getD (r - 1) 0) from fun q => q c2), slice_L x (l + 1) r (by omega) (by omega)]
          have hlr : l + 1 < r := by
            rcases Nat.lt_or_ge (l + 1) r with h | h
            · exact h
            · exfalso
              have hr0 : r = l + 1 := by omega
              have g1 : x.cps.toList[l]? = some 40 := by rw [← q2]; congr 1; omega
              have g2 : x.cps.toList[l + 1]? = some 41 := by rw [← p2]; congr 1; omega
              rw [hr0, Nat.add_sub_cancel, List.getD_eq_getElem?_getD, List.getD_eq_getElem?_getD, g1, g2] at c2
              exact absurd c2 (by decide)
          have hne : ((x.cps.toList.drop (l + 1)).take (r - (l + 1))) ≠ [] := by
            intro q
            have := congrArg List.length q
            rw [List.length_take, List.length_drop, List.length_nil] at this
            omega
          have hc : x.cps.toList.getD (l + 1) 0 < 256 := by
            rw [List.getD_eq_getElem?_getD, List.getElem?_eq_getElem (show l + 1 < x.cps.toList.length by omega)]
            exact hb _ (List.getElem_mem _)
          have hsp := split_L ⟨((x.cps.toList.drop (l + 1)).take (r - (l + 1))).toArray⟩ (x.cps.toList.getD (l + 1) 0) hc hne
          generalize Txt.split ⟨((x.cps.toList.drop (l + 1)).take (r - (l + 1))).toArray⟩ ⟨#[x.cps.toList.getD (l + 1) 0]⟩ = ps at hsp
          rw [show (({ cps := ((x.cps.toList.drop (l + 1)).take (r - (l + 1))).toArray } : Str).cps.toList) = (x.cps.toList.drop (l + 1)).take (r - (l + 1)) from rfl] at hsp
          rw [← hsp, List.length_map]
          by_cases c3 : ps.length = 5
          · rw [if_neg (show ¬ (ps.length ≠ 5) from fun q => q c3), if_neg (show ¬ (ps.length ≠ 5) from fun q => q c3)]
            have h3p : 3 < ps.length := by omega
            rw [List.getElem?_eq_getElem h3p]
            unfold portR
            rw [if_neg (show ¬ (2 = 0) by decide), if_neg (show ¬ (2 = 1) by decide)]
            rw [List.getD_eq_getElem?_getD, List.getElem?_map, List.getElem?_eq_getElem h3p]
            rfl
          · rw [if_pos (show ps.length ≠ 5 from c3), if_pos (show ps.length ≠ 5 from c3)]; rfl
        · rw [if_pos (dec_neg c2), if_pos (show x.cps.toList.getD (l + 1) 0 ≠ x.cps.toList.getD (r - 1) 0 from c2)]; rfl
  · rw [if_pos (dec_neg c1), if_pos (show x.cps.toList.take 3 ≠ [50, 50, 57] from c1)]
    refine ⟨rfl, ?_⟩
    cases e1 : ixL 40 x.cps.toList 0 with
    | none => exact fun q => absurd (show (-1 : Int) < 0 by decide) q
    | some l =>
      dsimp only
      refine cutG fun Pc kc => ?_
      obtain ⟨j, q1, q2, q3⟩ := ix_some e1
      refine kc ?_
      clear kc Pc
      have hlt : l < x.cps.toList.length := by
        obtain ⟨h, _⟩ := List.getElem?_eq_some_iff.mp q2; omega
      rw [show (l : Int) + 1 = ((l + 1 : Nat) : Int) by omega, find3_L x 41 (l + 1) (by omega)]
      cases e2 : ixL 41 (x.cps.toList.drop (l + 1)) (l + 1) with
      | none => exact fun _ q => absurd (show (-1 : Int) < 0 by decide) q
      | some r =>
        dsimp only
        refine cutG fun Pc kc => ?_
        obtain ⟨j2, p1, p2, p3⟩ := ix_some e2
        refine kc ?_
        clear kc Pc
        rw [List.getElem?_drop] at p2
        have hr : r < x.cps.toList.length := by
          obtain ⟨h, _⟩ := List.getElem?_eq_some_iff.mp p2; omega
        exact fun _ _ => ⟨by omega, by omega, by omega⟩
end
section
open _root_.PySem _root_.PySem.W _root_.PyProof.Rows
noncomputable def headV : Nat → Str
  | 0 => Str.ofString "229 ("
  | 1 => Str.ofString "229 Extended ) ("
  | _ => Str.ofString "229("
noncomputable def xV : Nat → Str
  | 0 => Str.ofString ""
  | 1 => Str.ofString "1"
  | _ => Str.ofString "h 2"
noncomputable def yV : Nat → Str
  | 0 => Str.ofString ""
  | 1 => Str.ofString "h"
  | _ => Str.ofString "b"
noncomputable def tailV : Nat → Str
  | 0 => Str.ofString " a) ("
  | 1 => Str.ofString ""
  | _ => Str.ofString ")"
noncomputable def figV (t : Str) : Nat → Str
  | 0 => t
  | 1 => Str.ofString "00" ++ t
  | _ => Str.ofString " +" ++ t ++ Str.ofString " "
noncomputable def insV (mark : Str) (t : Str) (k : Nat) : Str := mark ++ xV k ++ mark ++ yV k ++ mark ++ figV t k ++ mark
noncomputable def headL : Nat → List Nat
  | 0 => [50, 50, 57, 32, 40]
  | 1 => [50, 50, 57, 32, 69, 120, 116, 101, 110, 100, 101, 100, 32, 41, 32, 40]
  | _ => [50, 50, 57, 40]
noncomputable def xL : Nat → List Nat
  | 0 => []
  | 1 => [49]
  | _ => [104, 32, 50]
noncomputable def yL : Nat → List Nat
  | 0 => []
  | 1 => [104]
  | _ => [98]
noncomputable def tailL : Nat → List Nat
  | 0 => [32, 97, 41, 32, 40]
  | 1 => []
  | _ => [41]
noncomputable def figL (t : List Nat) : Nat → List Nat
  | 0 => t
  | 1 => [48, 48] ++ t
  | _ => [32, 43] ++ t ++ [32]
noncomputable def insL (m : List Nat) (t : List Nat) (k : Nat) : List Nat := m ++ xL k ++ m ++ yL k ++ m ++ figL t k ++ m
noncomputable def dg (p : Nat) : List Nat := if p < 10 then [48 + p] else [48 + p / 10, 48 + p % 10]
noncomputable def lt3 (k : Nat) : k = 0 ∨ k = 1 ∨ 2 ≤ k := by omega
theorem toL_app (a b : Str) : (a ++ b).cps.toList = a.cps.toList ++ b.cps.toList := by
  show (a.cps ++ b.cps).toList = _
  rw [Array.toList_append]
theorem head_L : ∀ k, k < 3 → (headV k).cps.toList = headL k := by decide +kernel
theorem x_L : ∀ k, k < 3 → (xV k).cps.toList = xL k := by decide +kernel
theorem y_L : ∀ k, k < 3 → (yV k).cps.toList = yL k := by decide +kernel
theorem tail_L : ∀ k, k < 3 → (tailV k).cps.toList = tailL k := by decide +kernel
theorem fig_L (t : Str) (k : Nat) : (figV t k).cps.toList = figL t.cps.toList k := by
  match k with
  | 0 => rfl
  | 1 => exact (toL_app _ _).trans (congrArg (· ++ t.cps.toList) (by decide +kernel))
  | k + 2 =>
    show (Str.ofString " +" ++ t ++ Str.ofString " ").cps.toList = [32, 43] ++ t.cps.toList ++ [32]
    rw [toL_app, toL_app, show (Str.ofString " +").cps.toList = [32, 43] by decide +kernel, show (Str.ofString " ").cps.toList = [32] by decide +kernel]
theorem ins_L (mark t : Str) (k : Nat) (hk : k < 3) : (insV mark t k).cps.toList = insL mark.cps.toList t.cps.toList k := by
  unfold insV insL
  rw [toL_app, toL_app, toL_app, toL_app, toL_app, toL_app, x_L k hk, y_L k hk, fig_L]
theorem dg_all : ((List.range 60).all fun p => decide ((Nat.toDigits 10 p).map Char.toNat = dg p)) = true := by decide +kernel
theorem num_L (p : Nat) (h : p < 60) : (Str.ofString (toString ((p : Nat) : Int))).cps.toList = dg p := by
  rw [KIN.signs_num]
  exact of_decide_eq_true (List.all_eq_true.mp dg_all p (List.mem_range.mpr h))
noncomputable def RepOk (r : Str) (c : Nat × Int) : Prop := r.length ≤ 500 ∧ HB r ∧ portV r = c
theorem rep_of (r : Str) (l : List Nat) (c : Nat × List Nat) (e : r.cps.toList = l) (h : (decide (3 ≤ l.length) && (decide (l.length ≤ 500) && (l.all (fun d => decide (d < 256)) && decide (portL l = c)))) = true) : RepOk r (portR c) := by
  simp only [Bool.and_eq_true, decide_eq_true_eq] at h
  refine cutG fun Pc kc => ?_
  obtain ⟨h1, h2, h3, h4⟩ := h
  refine kc ?_
  clear kc Pc
  subst e
  have hl : r.cps.toList.length = r.length := Array.length_toList
  have := port_L r h1 (fun d hd => of_decide_eq_true (List.all_eq_true.mp h3 d hd))
  exact ⟨by omega, this.2, by rw [this.1, h4]⟩
noncomputable def markL : List (List Nat) := [[124], [33], [59], [126]]
noncomputable def okL (k : Nat) : Bool := markL.all fun m => (List.range 60).all fun p => (fun l => decide (3 ≤ l.length) && (decide (l.length ≤ 500) && (l.all (fun d => decide (d < 256)) && decide (portL l = (2, figL (dg p) k))))) (headL k ++ insL m (dg p) k ++ [41] ++ tailL k)
theorem okL0 : okL 0 = true := by decide +kernel
theorem okL1 : okL 1 = true := by decide +kernel
theorem okL2 : okL 2 = true := by decide +kernel
theorem figOk : ((List.range 3).all fun k => (List.range 60).all fun p => decide (pEnd (some ⟨(figL (dg p) k).toArray⟩) = (2, (p : Int)))) = true := by decide +kernel
end
section
open _root_.PySem _root_.PySem.W _root_.PyProof.Rows
theorem rep_num {k : Nat} (hk : k < 3) {mark : Str} (hm : mark = Str.ofString "|" ∨ mark = Str.ofString "!" ∨ mark = Str.ofString ";" ∨ mark = Str.ofString "~") {port : Int} (h0 : 0 ≤ port) (h60 : port < 60) :
    RepOk (headV k ++ insV mark (Str.ofString (toString port)) k ++ Str.ofString ")" ++ tailV k) (2, port) := by
  obtain ⟨p, rfl⟩ := Int.eq_ofNat_of_zero_le h0
  have hp : p < 60 := by omega
  have hml : mark.cps.toList ∈ markL := by rcases hm with rfl | rfl | rfl | rfl <;> decide +kernel
  have hok : okL k = true := by
    rcases lt3 k with rfl | rfl | h
    · exact okL0
    · exact okL1
    · rw [show k = 2 by omega]; exact okL2
  have h1 := List.all_eq_true.mp (List.all_eq_true.mp hok _ hml) p (List.mem_range.mpr hp)
  have e : (headV k ++ insV mark (Str.ofString (toString ((p : Nat) : Int))) k ++ Str.ofString ")" ++ tailV k).cps.toList = headL k ++ insL mark.cps.toList (dg p) k ++ [41] ++ tailL k := by
    rw [toL_app, toL_app, toL_app, head_L k hk, ins_L _ _ k hk, num_L p hp, tail_L k hk, show (Str.ofString ")").cps.toList = [41] by decide +kernel]
  have h2 := rep_of _ _ _ e h1
  have h3 := of_decide_eq_true (List.all_eq_true.mp (List.all_eq_true.mp figOk k (List.mem_range.mpr hk)) p (List.mem_range.mpr hp))
  have h4 : portR (2, figL (dg p) k) = (2, (p : Int)) := h3
  rw [h4] at h2
  exact h2
noncomputable def oddV (mark t : Str) (k : Nat) : Nat → Str
  | 0 => Str.ofString "227" ++ Txt.slice (headV k) (some 3) none ++ insV mark t k ++ Str.ofString ")"
  | 1 => Str.ofString "229 " ++ insV mark t k ++ Str.ofString ")"
  | 2 => Str.ofString "229 272)"
  | 3 => headV k ++ insV mark t k
  | 4 => headV k ++ insV mark t k ++ mark
  | 5 => headV k ++ insV mark t k ++ Str.ofString "x)"
  | 6 => headV k ++ mark ++ insV mark t k ++ Str.ofString ")"
  | 7 => headV k ++ (mark ++ mark) ++ t ++ mark ++ Str.ofString ")"
  | _ => headV k ++ Str.ofString ")"
noncomputable def oddL (m t : List Nat) (k : Nat) : Nat → List Nat
  | 0 => [50, 50, 55] ++ (headL k).drop 3 ++ insL m t k ++ [41]
  | 1 => [50, 50, 57, 32] ++ insL m t k ++ [41]
  | 2 => [50, 50, 57, 32, 50, 55, 50, 41]
  | 3 => headL k ++ insL m t k
  | 4 => headL k ++ insL m t k ++ m
  | 5 => headL k ++ insL m t k ++ [120, 41]
  | 6 => headL k ++ m ++ insL m t k ++ [41]
  | 7 => headL k ++ (m ++ m) ++ t ++ m ++ [41]
  | _ => headL k ++ [41]
theorem hs_L : ∀ k, k < 3 → (Txt.slice (headV k) (some 3) none).cps.toList = (headL k).drop 3 := by decide +kernel
theorem odd_L (mark t : Str) (k : Nat) (hk : k < 3) (i : Nat) : (oddV mark t k i).cps.toList = oddL mark.cps.toList t.cps.toList k i := by
  match i with
  | 0 => show (Str.ofString "227" ++ Txt.slice (headV k) (some 3) none ++ insV mark t k ++ Str.ofString ")").cps.toList = _
         rw [toL_app, toL_app, toL_app, hs_L k hk, ins_L _ _ k hk, show (Str.ofString ")").cps.toList = [41] by decide +kernel, show (Str.ofString "227").cps.toList = [50, 50, 55] by decide +kernel]; rfl
  | 1 => show (Str.ofString "229 " ++ insV mark t k ++ Str.ofString ")").cps.toList = _
         rw [toL_app, toL_app, ins_L _ _ k hk, show (Str.ofString ")").cps.toList = [41] by decide +kernel, show (Str.ofString "229 ").cps.toList = [50, 50, 57, 32] by decide +kernel]; rfl
  | 2 => exact (show (Str.ofString "229 272)").cps.toList = [50, 50, 57, 32, 50, 55, 50, 41] by decide +kernel)
  | 3 => show (headV k ++ insV mark t k).cps.toList = _
         rw [toL_app, head_L k hk, ins_L _ _ k hk]; rfl
  | 4 => show (headV k ++ insV mark t k ++ mark).cps.toList = _
         rw [toL_app, toL_app, head_L k hk, ins_L _ _ k hk]; rfl
  | 5 => show (headV k ++ insV mark t k ++ Str.ofString "x)").cps.toList = _
         rw [toL_app, toL_app, head_L k hk, ins_L _ _ k hk, show (Str.ofString "x)").cps.toList = [120, 41] by decide +kernel]; rfl
  | 6 => show (headV k ++ mark ++ insV mark t k ++ Str.ofString ")").cps.toList = _
         rw [toL_app, toL_app, toL_app, head_L k hk, ins_L _ _ k hk, show (Str.ofString ")").cps.toList = [41] by decide +kernel]; rfl
  | 7 => show (headV k ++ (mark ++ mark) ++ t ++ mark ++ Str.ofString ")").cps.toList = _
         rw [toL_app, toL_app, toL_app, toL_app, toL_app, head_L k hk, show (Str.ofString ")").cps.toList = [41] by decide +kernel]; rfl
  | i + 8 => show (headV k ++ Str.ofString ")").cps.toList = headL k ++ [41]
             rw [toL_app, head_L k hk, show (Str.ofString ")").cps.toList = [41] by decide +kernel]
noncomputable def oddB (i : Nat) : Bool := (List.range 3).all fun k => markL.all fun m => (List.range 60).all fun p => (fun l => decide (3 ≤ l.length) && (decide (l.length ≤ 500) && (l.all (fun d => decide (d < 256)) && decide (portL l = (if i = 0 then (0, []) else (1, [])))))) (oddL m (dg p) k i)
theorem odd0 : oddB 0 = true := by decide +kernel
theorem odd1 : oddB 1 = true := by decide +kernel
theorem odd2 : oddB 2 = true := by decide +kernel
theorem odd3 : oddB 3 = true := by decide +kernel
theorem odd4 : oddB 4 = true := by decide +kernel
theorem odd5 : oddB 5 = true := by decide +kernel
theorem odd6 : oddB 6 = true := by decide +kernel
theorem odd7 : oddB 7 = true := by decide +kernel
theorem odd8 : oddB 8 = true := by decide +kernel
theorem rep_odd {k : Nat} (hk : k < 3) {mark : Str} (hm : mark = Str.ofString "|" ∨ mark = Str.ofString "!" ∨ mark = Str.ofString ";" ∨ mark = Str.ofString "~") {port : Int} (h0 : 0 ≤ port) (h60 : port < 60) {i : Nat} (hi : i < 9) :
    RepOk (oddV mark (Str.ofString (toString port)) k i) (if i = 0 then (0, 0) else (1, 0)) := by
  obtain ⟨p, rfl⟩ := Int.eq_ofNat_of_zero_le h0
  have hp : p < 60 := by omega
  have hml : mark.cps.toList ∈ markL := by rcases hm with rfl | rfl | rfl | rfl <;> decide +kernel
  have hok : oddB i = true := by
    rcases (show i = 0 ∨ i = 1 ∨ i = 2 ∨ i = 3 ∨ i = 4 ∨ i = 5 ∨ i = 6 ∨ i = 7 ∨ i = 8 by omega) with rfl | rfl | rfl | rfl | rfl | rfl | rfl | rfl | rfl
    · exact odd0
    · exact odd1
    · exact odd2
    · exact odd3
    · exact odd4
    · exact odd5
    · exact odd6
    · exact odd7
    · exact odd8
  have h1 := List.all_eq_true.mp (List.all_eq_true.mp (List.all_eq_true.mp hok k (List.mem_range.mpr hk)) _ hml) p (List.mem_range.mpr hp)
  have h2 := rep_of (oddV mark (Str.ofString (toString ((p : Nat) : Int))) k i) _ _ (by rw [odd_L _ _ k hk i, num_L p hp]) h1
  by_cases q : i = 0
  · rw [if_pos q] at h2 ⊢; exact h2
  · rw [if_neg q] at h2 ⊢; exact h2
end
section
open _root_.PySem _root_.PySem.W _root_.PyProof.Rows
section
variable {w : World} {mean : ExcName → Option Value} {mg mb : Str → Option Value} {loose : List Str} {dp un : Nat} {gd : Option (List Code)} {cn : Str} {cs : Scope} {a : Addr} {ccd : Value} {cl : List (Str × Addr)} {A₀ : Around} {h₀ : Heap} {L : Addr} {m : Str → Option Value} {s : Shared} {Q E : Value → Shared → Prop} {news : List (Addr × Obj)} {reply : Str} {t1 : Tok}
theorem port_num {v : Int} (spc : PortX w mean mg mb loose) (B : Below A₀ h₀ [] h₀) (F : Fr h₀ L s.heap m) (X : (hd.heap_1 w.params).In h₀) (T : Top topProg loose mean mg mb h₀) (hk : cs.kind = .function) (N : News h₀ L s.heap news) (hr : RepOk reply (2, v)) (hd : dp + 8 < recursionLimit) (hu : un + 80 < cLine)
    (ret : ∀ h9 tk9 R0 ta tb, Fr h₀ L h9 m → News h₀ L h9 ((R0, { cls := .type "tuple", data := .seq #[.str (Str.ofString "peer") ta, .int v tb] }) :: news) → (∀ q ∈ news, q.1 < R0) → Q (.ref R0) { s with heap := h9, toks := tk9 }) :
    wpAny (model PySem.Challenge.rw_ta0052_01.row.prog w) (ktrTop dp un gd cn cs L a ccd cl []) (call (.ref 150) [.str reply t1]) Q E s :=
  PortX.use spc B F X T hk N hr.1 hr.2.1 (by unfold OkR; rw [hr.2.2]; show (2 : Nat) ≠ 3; decide) hd hu
    (fun _ _ _ _ _ e => by rw [hr.2.2] at e; exact absurd (congrArg Prod.fst e) (by simp)) (fun _ _ _ _ _ e => by rw [hr.2.2] at e; exact absurd (congrArg Prod.fst e) (by simp))
    fun h9 tk9 R0 v' ta tb e F N l => by
      rw [hr.2.2] at e
      have e' : v = v' := congrArg Prod.snd e
      subst e'
      exact ret h9 tk9 R0 ta tb F N l
theorem port_bad {b : Bool} (spc : PortX w mean mg mb loose) (B : Below A₀ h₀ [] h₀) (F : Fr h₀ L s.heap m) (X : (hd.heap_1 w.params).In h₀) (T : Top topProg loose mean mg mb h₀) (hk : cs.kind = .function) (N : News h₀ L s.heap news) (hr : RepOk reply (if b = true then (0, 0) else (1, 0))) (hd : dp + 8 < recursionLimit) (hu : un + 80 < cLine)
    (ret : ∀ h9 tk9 R0 ta k, Fr h₀ L h9 m → News h₀ L h9 ((R0, listOf #[.str (if b = true then Str.ofString "reply" else Str.ofString "proto") ta, .str reply t1] k) :: news) → (∀ q ∈ news, q.1 < R0) → Q (.ref R0) { s with heap := h9, toks := tk9 }) :
    wpAny (model PySem.Challenge.rw_ta0052_01.row.prog w) (ktrTop dp un gd cn cs L a ccd cl []) (call (.ref 150) [.str reply t1]) Q E s := by
  cases b with
  | true =>
    have e0 : portV reply = (0, 0) := hr.2.2
    exact PortX.use spc B F X T hk N hr.1 hr.2.1 (by unfold OkR; rw [e0]; show (0 : Nat) ≠ 3; decide) hd hu
      (fun h9 tk9 R0 ta k e F N l => ret h9 tk9 R0 ta k F N l) (fun _ _ _ _ _ e => by rw [e0] at e; exact absurd (congrArg Prod.fst e) (by decide)) fun _ _ _ _ _ _ e => by rw [e0] at e; exact absurd (congrArg Prod.fst e) (by simp)
  | false =>
    have e0 : portV reply = (1, 0) := hr.2.2
    exact PortX.use spc B F X T hk N hr.1 hr.2.1 (by unfold OkR; rw [e0]; show (1 : Nat) ≠ 3; decide) hd hu
      (fun _ _ _ _ _ e => by rw [e0] at e; exact absurd (congrArg Prod.fst e) (by decide)) (fun h9 tk9 R0 ta k e F N l => ret h9 tk9 R0 ta k F N l) fun _ _ _ _ _ _ e => by rw [e0] at e; exact absurd (congrArg Prod.fst e) (by simp)
end
end
section
open _root_.PySem _root_.PySem.W _root_.PyProof.Rows
theorem fresh_21 : True := by (w_top off); exact trivial
noncomputable def p257 : Nat → Str → Int → Str → Str
  | 0, _, _, acc => acc
  | k + 1, r, i, acc => if i < (r.length : Int) then
      (if (Txt.item r i == Str.ofString "\"") = true then
        (if i + 1 < (r.length : Int) ∧ (Txt.item r (i + 1) != Str.ofString "\"") = false then p257 k r (i + 1 + 1) (acc ++ Txt.item r i) else acc)
      else p257 k r (i + 1) (acc ++ Txt.item r i))
    else acc
noncomputable def mS (resp : Str) (t1 : Tok) (dn : Str) (td : Tok) (i : Int) (ti tn : Tok) (oc : Option Value) : Str → Option Value := fun y =>
  if y = Str.ofString "c" then oc else if y = Str.ofString "n" then some (.int (resp.length : Int) tn) else if y = Str.ofString "i" then some (.int i ti) else if y = Str.ofString "dirname" then some (.str dn td) else List.lookup y [(Str.ofString "resp", .str resp t1)]
theorem mS_0 (r : Str) (t1 : Tok) (td ti tn : Tok) (y : Str) : mS r t1 (Str.ofString "") td 5 ti tn none y = if y = Str.ofString "n" then some (.int (r.length : Int) tn) else if y = Str.ofString "i" then some (.int 5 ti) else if y = Str.ofString "dirname" then some (.str (Str.ofString "") td) else List.lookup y [(Str.ofString "resp", .str r t1)] := by
  unfold mS
  by_cases h : y = Str.ofString "c"
  · subst h; rfl
  · rw [if_neg h]
theorem mS_a (r : Str) (t1 : Tok) (dn dn' : Str) (td td' : Tok) (i i' : Int) (ti ti' tn : Tok) (oc : Option Value) (v : Value) (y : Str) : mS r t1 dn' td' i' ti' tn (some v) y = if y = Str.ofString "dirname" then some (.str dn' td') else if y = Str.ofString "i" then some (.int i' ti') else if y = Str.ofString "c" then some v else mS r t1 dn td i ti tn oc y := by
  unfold mS
  by_cases h1 : y = Str.ofString "dirname"
  · subst h1; rfl
  · by_cases h2 : y = Str.ofString "i"
    · subst h2; rfl
    · by_cases h3 : y = Str.ofString "c"
      · subst h3; rfl
      · simp only [if_neg h1, if_neg h2, if_neg h3]
theorem mS_b (r : Str) (t1 : Tok) (dn dn' : Str) (td td' : Tok) (i i' i2 : Int) (ti ti' ti2 tn : Tok) (oc : Option Value) (v : Value) (y : Str) : mS r t1 dn' td' i' ti' tn (some v) y = if y = Str.ofString "dirname" then some (.str dn' td') else if y = Str.ofString "i" then some (.int i' ti') else if y = Str.ofString "i" then some (.int i2 ti2) else if y = Str.ofString "c" then some v else mS r t1 dn td i ti tn oc y := by
  rw [mS_a r t1 dn dn' td td' i i' ti ti' tn oc v y]
  by_cases h1 : y = Str.ofString "dirname"
  · subst h1; rfl
  · by_cases h2 : y = Str.ofString "i"
    · subst h2; rfl
    · simp only [if_neg h1, if_neg h2]
theorem p7_fuel (r : Str) : ∀ (k k' : Nat) (i : Int) (a : Str), ((r.length : Int) - i).toNat ≤ k → ((r.length : Int) - i).toNat ≤ k' → p257 k r i a = p257 k' r i a
  | 0, 0, _, _, _, _ => rfl
  | 0, k' + 1, i, a, h, _ => by
    show a = if i < (r.length : Int) then _ else a
    rw [if_neg (by omega)]
  | k + 1, 0, i, a, _, h => by
    show (if i < (r.length : Int) then _ else a) = a
    rw [if_neg (by omega)]
  | k + 1, k' + 1, i, a, h, h' => by
    show (if i < (r.length : Int) then _ else a) = if i < (r.length : Int) then _ else a
    by_cases hl : i < (r.length : Int)
    · rw [if_pos hl, if_pos hl, p7_fuel r k k' (i + 1) _ (by omega) (by omega), p7_fuel r k k' (i + 1 + 1) _ (by omega) (by omega)]
    · rw [if_neg hl, if_neg hl]
theorem p7_end {r : Str} {i : Int} {a : Str} (h : ¬ i < (r.length : Int)) : p257 ((r.length : Int) - i).toNat r i a = a := by
  rw [show ((r.length : Int) - i).toNat = 0 by omega]; rfl
theorem p7_step {r : Str} {i : Int} {a : Str} (h : i < (r.length : Int)) : p257 ((r.length : Int) - i).toNat r i a = (if (Txt.item r i == Str.ofString "\"") = true then
        (if i + 1 < (r.length : Int) ∧ (Txt.item r (i + 1) != Str.ofString "\"") = false then p257 ((r.length : Int) - (i + 1)).toNat r (i + 1 + 1) (a ++ Txt.item r i) else a)
      else p257 ((r.length : Int) - (i + 1)).toNat r (i + 1) (a ++ Txt.item r i)) := by
  rw [show ((r.length : Int) - i).toNat = ((r.length : Int) - (i + 1)).toNat + 1 by omega]
  show (if i < (r.length : Int) then _ else a) = _
  rw [if_pos h]
theorem p7_brk {r : Str} {i : Int} {a : Str} (h : i < (r.length : Int)) (hq : (Txt.item r i == Str.ofString "\"") = true) (hn : ¬ (i + 1 < (r.length : Int) ∧ (Txt.item r (i + 1) != Str.ofString "\"") = false)) : p257 ((r.length : Int) - i).toNat r i a = a := by
  rw [p7_step h, if_pos hq, if_neg hn]
theorem p7_esc {r : Str} {i : Int} {a : Str} (h : i < (r.length : Int)) (hq : (Txt.item r i == Str.ofString "\"") = true) (h2 : i + 1 < (r.length : Int)) (hn : (Txt.item r (i + 1) != Str.ofString "\"") = false) : p257 ((r.length : Int) - (i + 1 + 1)).toNat r (i + 1 + 1) (a ++ Txt.item r i) = p257 ((r.length : Int) - i).toNat r i a := by
  rw [p7_step h, if_pos hq, if_pos ⟨h2, hn⟩]
  exact p7_fuel r _ _ _ _ (Nat.le_refl _) (by omega)
theorem p7_one {r : Str} {i : Int} {a : Str} (h : i < (r.length : Int)) (hq : (Txt.item r i == Str.ofString "\"") = false) : p257 ((r.length : Int) - (i + 1)).toNat r (i + 1) (a ++ Txt.item r i) = p257 ((r.length : Int) - i).toNat r i a := by
  rw [p7_step h, if_neg (by rw [hq]; decide)]
noncomputable def P7I (g : Heap) (L : Addr) (news : List (Addr × Obj)) (resp : Str) (t1 : Tok) (s₀ : Shared) (r : Str) (n : Nat) (s : Shared) : Prop :=
  ∃ h tk dn td i ti tn oc, s = { s₀ with heap := h, toks := tk } ∧ Fr g L h (mS resp t1 dn td i ti tn oc) ∧ News g L h news ∧ 5 ≤ i ∧ i ≤ (resp.length : Int) ∧ (dn.length : Int) + 5 ≤ i ∧ n = ((resp.length : Int) - i).toNat ∧ p257 ((resp.length : Int) - i).toNat resp i dn = r
noncomputable def P257 (w : World) (mean : ExcName → Option Value) (mg mb : Str → Option Value) (loose : List Str) : Prop :=
  ∀ ⦃dp un : Nat⦄ ⦃gd : Option (List Code)⦄ ⦃cn : Str⦄ ⦃cs : Scope⦄ ⦃a : Addr⦄ ⦃ccd : Value⦄ ⦃cl : List (Str × Addr)⦄ ⦃outer : List Env⦄ ⦃A₀ : Around⦄ ⦃base h₀ : Heap⦄ ⦃L : Addr⦄ ⦃m : Str → Option Value⦄ ⦃s : Shared⦄ ⦃Q E : Value → Shared → Prop⦄
   ⦃news : List (Addr × Obj)⦄ ⦃resp : Str⦄ ⦃t1 : Tok⦄
   (B : Below A₀ base outer h₀) (F : Fr h₀ L s.heap m) (X : (hd.heap_1 w.params).In h₀) (T : Top topProg loose mean mg mb h₀) (hk : cs.kind = .function) (N : News h₀ L s.heap news) (hl : resp.length ≤ 1000) (h5 : 5 ≤ resp.length) (h7 : (Txt.slice resp none (some 3) != Str.ofString "257") = false) (h8 : (Txt.slice resp (some 3) (some 5) != Str.ofString " \"") = false) (hd : dp + 4 < recursionLimit) (hu : un + 40 < cLine) (ret : ∀ (h' : Heap) (tk' : Nat) (t : Tok), Fr h₀ L h' m → News h₀ L h' news → Q (.str (p257 (resp.length - 5) resp 5 (Str.ofString "")) t) { s with heap := h', toks := tk' }),
   wpAny (model PySem.Challenge.rw_ta0052_01.row.prog w) (ktrTop dp un gd cn cs L a ccd cl outer) (call (.ref 143) [.str resp t1]) Q E s
theorem P257.use {w : World} {mean : ExcName → Option Value} {mg mb : Str → Option Value} {loose : List Str} (spc : P257 w mean mg mb loose) : P257 w mean mg mb loose := spc
section
local macro_rules | `(tactic| walk_at "exec While Compare cons nil") => `(tactic| refine stop_here ?_)
theorem p257S (w : World) (mean) (mg mb) (loose) : P257 w mean mg mb loose := by
  unfold P257
  intro dp un gd cn cs a ccd cl outer A₀ base h₀ L m s Q E news resp t1 B F X T hk N hl h5 h7 h8 hd hu ret
  revert X T; k_fill; intro X T
  refine wpAny_call ?_
  refine' code_def (binds := [(Str.ofString "resp", .str resp t1)]) B F X N T rfl rfl hk ?k6 ?k7 ?k8 ?k9 ?kB ?_ ?c2 ?c3 ?c4 ?c5
  case k6 => k_is
  case k7 => k_is
  case k9 => exact BindsTo.of_eq rfl
  case kB => exact locs rfl
  case c5 => decide
  case c2 => exact rfl
  case c3 => exact rfl
  case c4 => exact rfl
  case k8 => (show dp < recursionLimit; omega)
  intro g' L' h' FG' F' N' B' X' T'
  clear N F B
  have F2 : Fr g' L' h' (fun y => List.lookup y [(Str.ofString "resp", .str resp t1)]) := F'
  clear F'
  dsimp only
  k_unmd
  k_fold
  change wpAny _ _ (execs (_ :: _) _) _ _ _
  k_unmd
  k_steps
  unfold Stop
  refine wpAny_While (codeAny_whileLoop (P7I g' L' news resp t1 s (p257 (resp.length - 5) resp 5 (Str.ofString ""))) ?_ ((resp.length : Int) - 5).toNat ?_)
  · intro n s9 hI
    refine cutG fun Pc kc => ?_
    obtain ⟨h9, tk9, dn, td, i, ti, tn, oc, rfl, F9, N9, hi5, hil, hdn, rfl, hr9⟩ := hI
    refine kc ?_
    clear kc Pc
    k_steps
    rotate_left 4
    · exact ((resp.length : Int) - (i + 1 + 1)).toNat
    rotate_left 2
    · exact ((resp.length : Int) - (i + 1)).toNat
    · have e := hr9.symm.trans (p7_end (by omega))
      rw [← e]
      exact ret _ _ _ (by assumption) (by assumption)
    · have e := hr9.symm.trans (p7_brk (by omega) (by assumption) (fun h => absurd h.1 (by omega)))
      rw [← e]
      exact ret _ _ _ (by assumption) (by assumption)
    · have e := hr9.symm.trans (p7_brk (by omega) (by assumption) (fun h => absurd (h.2.symm.trans (by assumption)) (by decide)))
      rw [← e]
      exact ret _ _ _ (by assumption) (by assumption)
    · omega
    · exact ⟨_, _, _, _, i + 1 + 1, _, _, _, rfl, fr_eq (by assumption) (mS_b _ _ _ _ _ _ _ _ _ _ _ _ _ _ _), by assumption, by omega, by omega, by omega, rfl, (p7_esc (by omega) (by assumption) (by omega) (by assumption)).trans hr9⟩
    · omega
    · exact ⟨_, _, _, _, i + 1, _, _, _, rfl, fr_eq (by assumption) (mS_a _ _ _ _ _ _ _ _ _ _ _ _ _), by assumption, by omega, by omega, by omega, rfl, (p7_one (by omega) (by assumption)).trans hr9⟩
  · exact ⟨_, _, _, _, 5, _, _, none, rfl, fr_eq (by assumption) (mS_0 _ _ _ _ _), by assumption, by omega, by omega, by decide +kernel, rfl, by rw [show ((resp.length : Int) - 5).toNat = resp.length - 5 by omega]⟩
end
end
section
open _root_.PySem _root_.PySem.W _root_.PyProof.Rows _root_.PySem.Builtin _root_.PySem.Builtin.Str _root_.PySem.StrLaws
noncomputable def dbl : List Nat → List Nat
  | [] => []
  | c :: r => if c = 34 then 34 :: 34 :: dbl r else c :: dbl r
noncomputable def joinL (z : List Nat) : List (List Nat) → List Nat
  | [] => []
  | [x] => x
  | x :: y :: r => x ++ z ++ joinL z (y :: r)
theorem toL_app' (a b : Str) : (a ++ b).cps.toList = a.cps.toList ++ b.cps.toList := by
  show (a.cps ++ b.cps).toList = _
  rw [Array.toList_append]
theorem join_toL (z : Str) : ∀ ps : List Str, (Str.join z ps).cps.toList = joinL z.cps.toList (ps.map fun p => p.cps.toList)
  | [] => rfl
  | [x] => rfl
  | x :: y :: r => by
    show (x ++ z ++ Str.join z (y :: r)).cps.toList = x.cps.toList ++ z.cps.toList ++ joinL z.cps.toList ((y :: r).map fun p => p.cps.toList)
    rw [toL_app', toL_app', join_toL z (y :: r)]
theorem splitL_ne (c : Nat) (l : List Nat) : ∃ p ps, splitL c l = p :: ps := by
  cases l with
  | nil => exact ⟨_, _, rfl⟩
  | cons d r =>
    unfold splitL
    by_cases h : d = c
    · rw [if_pos h]; exact ⟨_, _, rfl⟩
    · rw [if_neg h]
      split
      · exact ⟨_, _, rfl⟩
      · exact ⟨_, _, rfl⟩
theorem join_dbl : ∀ l : List Nat, joinL [34, 34] (splitL 34 l) = dbl l
  | [] => rfl
  | d :: r => by
    have ih := join_dbl r
    refine cutG fun Pc kc => ?_
    obtain ⟨p, ps, e⟩ := splitL_ne 34 r
    refine kc ?_
    clear kc Pc
    unfold splitL dbl
    by_cases h : d = 34
    · rw [if_pos h, if_pos h, ← ih, e]
      show [] ++ [34, 34] ++ joinL [34, 34] (p :: ps) = _
      rfl
    · rw [if_neg h, if_neg h, ← ih, e]
      dsimp only
      cases ps with
      | nil => rfl
      | cons q qs => rfl
theorem replace_L (x : Str) : (Txt.replace x (Str.ofString "\"") (Str.ofString "\"\"")).cps.toList = dbl x.cps.toList := by
  have e34 : Str.ofString "\"" = ⟨#[34]⟩ := by decide +kernel
  have e35 : Str.ofString "\"\"" = ⟨#[34, 34]⟩ := by decide +kernel
  rw [e34, e35]
  have ho : occurrences x ⟨#[34]⟩ 0 x.length (x.length + 1) = (List.range' 0 (x.length + 1)).filter (fun i => decide (x.cps.toList[i]? = some 34)) := by
    rw [occ_eq]
    have := occ_all x 34 (x.length + 1) (x.length + 1) 0 #[] 0 (Nat.le_refl _) (by simp)
    simpa using this
  have hp := parts_L x 34 x.length 0 (by omega)
  rw [List.drop_zero] at hp
  have e : Txt.replace x ⟨#[34]⟩ ⟨#[34, 34]⟩ = Str.join ⟨#[34, 34]⟩ (partsBetween x (occurrences x ⟨#[34]⟩ 0 x.length (x.length + 1)) 1) := by
    unfold Txt.replace
    split
    · rename_i h
      have h' : (occurrences x ⟨#[34]⟩ 0 x.length (x.length + 1)).isEmpty = true := by
        rcases Bool.or_eq_true_iff.mp h with h | h
        · exact h
        · exact absurd h (by decide)
      rw [List.isEmpty_iff.mp h', partsBetween_eq]
      show x = strSub x 0 x.length
      rw [sub_whole]
    · rw [glued_eq_join]; rfl
  rw [e, join_toL, ho, partsBetween_eq, hp]
  exact join_dbl _
theorem one_app (c : Nat) (t : List Nat) : (⟨#[c]⟩ : Str) ++ ⟨t.toArray⟩ = ⟨(c :: t).toArray⟩ := by
  apply PySem.Str.ext'
  apply Array.toList_inj.mp
  show (#[c] ++ t.toArray).toList = _
  rw [Array.toList_append]
  rfl
theorem p7_run (r : Str) (tl : List Nat) (htl : tl.head? ≠ some 34) : ∀ (t pre : List Nat) (acc : Str), r.cps.toList = pre ++ dbl t ++ 34 :: tl → p257 ((r.length : Int) - (pre.length : Int)).toNat r pre.length acc = acc ++ ⟨t.toArray⟩
  | [], pre, acc, h => by
    have hl : r.cps.toList.length = r.length := Array.length_toList
    have hlen : r.length = pre.length + (1 + tl.length) := by rw [← hl, h]; simp [dbl]; omega
    have e34 : Str.ofString "\"" = ⟨#[34]⟩ := by decide +kernel
    have hi : Txt.item r (pre.length : Int) = ⟨#[34]⟩ := by
      rw [item_L r pre.length (by omega), List.getD_eq_getElem?_getD, h]
      simp [dbl]
    rw [p7_brk (by omega) (by rw [hi, e34]; decide)]
    · exact (PySem.Str.append_empty acc).symm
    · rintro ⟨h1, h2⟩
      cases tl with
      | nil => simp at hlen; omega
      | cons d tl' =>
        have h3 : Txt.item r ((pre.length : Int) + 1) = ⟨#[d]⟩ := by
          rw [show (pre.length : Int) + 1 = ((pre.length + 1 : Nat) : Int) by omega, item_L r (pre.length + 1) (by simp at hlen; omega), List.getD_eq_getElem?_getD, h]
          simp [dbl, List.getElem?_append_right]
        rw [h3, e34, mk1_ne] at h2
        have h4 : d = 34 := by
          rcases Decidable.em (d = 34) with q | q
          · exact q
          · exact absurd h2 (by rw [decide_eq_true (p := d ≠ 34) q]; decide)
        exact htl (by rw [h4]; rfl)
  | c :: t, pre, acc, h => by
    have hl : r.cps.toList.length = r.length := Array.length_toList
    have e34 : Str.ofString "\"" = ⟨#[34]⟩ := by decide +kernel
    by_cases hc : c = 34
    · subst hc
      have h' : r.cps.toList = (pre ++ [34, 34]) ++ dbl t ++ 34 :: tl := by rw [h]; simp [dbl]
      have hlen : r.length = pre.length + (2 + ((dbl t).length + (1 + tl.length))) := by rw [← hl, h']; simp; omega
      have hi : Txt.item r (pre.length : Int) = ⟨#[34]⟩ := by
        rw [item_L r pre.length (by omega), List.getD_eq_getElem?_getD, h']
        simp
      have hi2 : Txt.item r ((pre.length : Int) + 1) = ⟨#[34]⟩ := by
        rw [show (pre.length : Int) + 1 = ((pre.length + 1 : Nat) : Int) by omega, item_L r (pre.length + 1) (by omega), List.getD_eq_getElem?_getD, h']
        simp [List.getElem?_append_right]
      have ih := p7_run r tl htl t (pre ++ [34, 34]) (acc ++ ⟨#[34]⟩) h'
      rw [← p7_esc (by omega) (by rw [hi, e34]; decide) (by omega) (by rw [hi2, e34]; decide), hi]
      rw [List.length_append] at ih
      have e2 : ((pre.length + [34, 34].length : Nat) : Int) = (pre.length : Int) + 1 + 1 := by simp; omega
      rw [e2] at ih
      rw [ih, PySem.Str.append_assoc, one_app]
    · have h' : r.cps.toList = (pre ++ [c]) ++ dbl t ++ 34 :: tl := by rw [h]; simp [dbl, hc]
      have hlen : r.length = pre.length + (1 + ((dbl t).length + (1 + tl.length))) := by rw [← hl, h']; simp; omega
      have hi : Txt.item r (pre.length : Int) = ⟨#[c]⟩ := by
        rw [item_L r pre.length (by omega), List.getD_eq_getElem?_getD, h']
        simp
      have ih := p7_run r tl htl t (pre ++ [c]) (acc ++ ⟨#[c]⟩) h'
      have hq : ((⟨#[c]⟩ : Str) == ⟨#[34]⟩) = false := by
        have := mk1_ne (a := c) (b := 34)
        rw [decide_eq_true (p := c ≠ 34) hc] at this
        rw [bne, Bool.not_eq_true'] at this
        exact this
      rw [← p7_one (by omega) (by rw [hi, e34]; exact hq), hi]
      rw [List.length_append] at ih
      have e2 : ((pre.length + [c].length : Nat) : Int) = (pre.length : Int) + 1 := by simp
      rw [e2] at ih
      rw [ih, PySem.Str.append_assoc, one_app]
noncomputable def tail7 : List Str := [Str.ofString "", Str.ofString " made", Str.ofString " \"b\" (1)"]
theorem p7_ok (text tail : Str) (ht : tail ∈ tail7) : ∀ r, r = Str.ofString "257 \"" ++ Txt.replace text (Str.ofString "\"") (Str.ofString "\"\"") ++ Str.ofString "\"" ++ tail →
    5 ≤ r.length ∧ (Txt.slice r none (some 3) != Str.ofString "257") = false ∧ (Txt.slice r (some 3) (some 5) != Str.ofString " \"") = false ∧ p257 (r.length - 5) r 5 (Str.ofString "") = text := by
  rintro r rfl
  have htl : tail.cps.toList.head? ≠ some 34 := by
    rcases List.mem_cons.mp ht with rfl | ht
    · decide +kernel
    · rcases List.mem_cons.mp ht with rfl | ht
      · decide +kernel
      · rw [List.mem_singleton.mp ht]; decide +kernel
  have e : (Str.ofString "257 \"" ++ Txt.replace text (Str.ofString "\"") (Str.ofString "\"\"") ++ Str.ofString "\"" ++ tail).cps.toList = [50, 53, 55, 32, 34] ++ dbl text.cps.toList ++ 34 :: tail.cps.toList := by
    rw [toL_app', toL_app', toL_app', replace_L, show (Str.ofString "257 \"").cps.toList = [50, 53, 55, 32, 34] by decide +kernel, show (Str.ofString "\"").cps.toList = [34] by decide +kernel]
    simp
  generalize Str.ofString "257 \"" ++ Txt.replace text (Str.ofString "\"") (Str.ofString "\"\"") ++ Str.ofString "\"" ++ tail = r at e
  have hl : r.cps.toList.length = r.length := Array.length_toList
  have h6 : 6 ≤ r.cps.toList.length := by rw [e]; simp; omega
  refine ⟨by omega, ?_, ?_, ?_⟩
  · rw [slice3_L r (by omega), e]
    show ((⟨[50, 53, 55].toArray⟩ : Str) != Str.ofString "257") = false
    decide +kernel
  · have hs : Txt.slice r (some 3) (some 5) = _ := slice_L r 3 5 (by omega) (by omega)
    rw [hs, e]
    show ((⟨[32, 34].toArray⟩ : Str) != Str.ofString " \"") = false
    decide +kernel
  · have := p7_run r _ htl text.cps.toList [50, 53, 55, 32, 34] (Str.ofString "") e
    rw [show ((r.length : Int) - (([50, 53, 55, 32, 34] : List Nat).length : Int)).toNat = r.length - 5 by simp; omega] at this
    refine this.trans ?_
    exact PySem.Str.empty_append text
theorem dbl_len : ∀ l : List Nat, (dbl l).length ≤ 2 * l.length
  | [] => Nat.le_refl _
  | c :: r => by
    have := dbl_len r
    unfold dbl
    split <;> simp only [List.length_cons] <;> omega
theorem replace_len (x : Str) : (Txt.replace x (Str.ofString "\"") (Str.ofString "\"\"")).length ≤ 2 * x.length := by
  have h1 : (Txt.replace x (Str.ofString "\"") (Str.ofString "\"\"")).cps.toList.length = (Txt.replace x (Str.ofString "\"") (Str.ofString "\"\"")).length := Array.length_toList
  have h2 : x.cps.toList.length = x.length := Array.length_toList
  rw [← h1, ← h2, replace_L]
  exact dbl_len _
end
section
open _root_.PySem _root_.PySem.W _root_.PyProof.Rows
noncomputable def LawQ (w : World) (mean : ExcName → Option Value) (mg mb : Str → Option Value) (loose : List Str) (dp un : Nat) (gd : Option (List Code)) (L a : Addr) (ccd : Value) (A₀ : Around) (g : Heap) : Prop :=
  ∀ (s : Shared) (qk : Flow → Shared → Prop) (ek : Value → Shared → Prop)
   (o1 o2 o3 o4 o5 o6 o7 o8 o9 o10 o11 o12 o13 : Obj) (al : Addr) (vs : List Value) (ns : List Int)
    (B : Below A₀ g [] g) (X : (hd.heap_1 w.params).In g) (T : Top topProg loose mean mg mb g) (C : CodeHd g 70 66) (C2 : CodeHd g 77 73) (C3 : CodeHd g 154 152) (hd9 : dp + 32 < recursionLimit) (hu9 : un + 300 < cLine) (F0 : Fr g L s.heap (fun y => if y = Str.ofString "script" then some (.ref al) else none)) (N0 : News g L s.heap ((L + 1 + 1 + 1 + 1 + 1 + 1 + 1 + 1 + 1 + 1 + 1 + 1 + 1, o13) :: (L + 1 + 1 + 1 + 1 + 1 + 1 + 1 + 1 + 1 + 1 + 1 + 1, o12) :: (L + 1 + 1 + 1 + 1 + 1 + 1 + 1 + 1 + 1 + 1 + 1, o11) :: (L + 1 + 1 + 1 + 1 + 1 + 1 + 1 + 1 + 1 + 1, o10) :: (L + 1 + 1 + 1 + 1 + 1 + 1 + 1 + 1 + 1, o9) :: (L + 1 + 1 + 1 + 1 + 1 + 1 + 1 + 1, o8) :: (L + 1 + 1 + 1 + 1 + 1 + 1 + 1, o7) :: (L + 1 + 1 + 1 + 1 + 1 + 1, o6) :: (L + 1 + 1 + 1 + 1 + 1, o5) :: (L + 1 + 1 + 1 + 1, o4) :: (L + 1 + 1 + 1, o3) :: (L + 1 + 1, o2) :: (L + 1, o1) :: (66, tabObj #[]) :: (73, tabObj #[]) :: (152, tabObj #[]) :: []))
   (e1 : o1.data = .cell none) (e2 : o2.data = .cell none) (e3 : o3.data = .cell none) (e4 : o4.data = .cell none) (e5 : o5.data = .cell none) (e6 : o6.data = .cell none) (e7 : o7.data = .cell none) (e8 : o8.data = .cell none) (e9 : o9.data = .cell none) (e10 : o10.data = .cell none) (e11 : o11.data = .cell none) (e12 : o12.data = .cell none) (e13 : o13.data = .cell none) (hal : g.IsList al vs.toArray) (hI : IntsAre vs ns) (hlen : ns.length ≤ 63) (l1 : @LT.lt Nat _ 160 L)
   (ret : ∀ (h' : Heap) (tk' : Nat) (m' : Str → Option Value) (o8' o12' : Obj) (k : Nat) (mark : Str) (t8 t12 : Tok) (p1 p2 p5 : Array Value), k < 3 → (mark = Str.ofString "|" ∨ mark = Str.ofString "!" ∨ mark = Str.ofString ";" ∨ mark = Str.ofString "~") → Fr g L h' m' → News g L h' [(L + 1 + 1 + 1 + 1 + 1 + 1 + 1 + 1, o8'), (L + 1 + 1 + 1 + 1 + 1 + 1 + 1 + 1 + 1 + 1 + 1 + 1, o12'), (66, tabObj p1), (73, tabObj p2), (152, tabObj p5)] → o8'.data = .cell (some (.str mark t8)) → o12'.data = .cell (some (.str (headV k) t12)) → qk .next { s with heap := h', toks := tk' }),
   wpAny (model PySem.Challenge.rw_ta0052_01.row.prog w) (ktrTop dp un gd (Str.ofString "law") (scopeOf (topStmt 22)) L a ccd (cellsFrom (L + 1) (scopeOf (topStmt 22)).names []) []) (execs ((bodyOf (topStmt 22)).take 18) (envOfC (Str.ofString "law") (scopeOf (topStmt 22)) L a ccd)) qk ek s
abbrev LCtx : Type := World × (ExcName → Option Value) × (Str → Option Value) × (Str → Option Value) × (List Str) × Nat × Nat × (Option (List Code)) × Addr × Addr × Value × Around × Heap
theorem lctx : Nonempty LCtx := ⟨⟨⟨fun _ _ => 0, { strHash := fun _ => 0, shareClass := fun _ => 0, mergeTok := fun _ => 0, idOf := fun _ => 0, idOfShared := fun _ _ => 0, followText := fun _ => false, idOfImm := fun _ => 0 }⟩, fun _ => none, fun _ => none, fun _ => none, [], 0, 0, none, 0, 0, .none, {}, {}⟩⟩
noncomputable def LC.c : LCtx := @Classical.epsilon LCtx lctx fun c => ¬ LawQ c.1 c.2.1 c.2.2.1 c.2.2.2.1 c.2.2.2.2.1 c.2.2.2.2.2.1 c.2.2.2.2.2.2.1 c.2.2.2.2.2.2.2.1 c.2.2.2.2.2.2.2.2.1 c.2.2.2.2.2.2.2.2.2.1 c.2.2.2.2.2.2.2.2.2.2.1 c.2.2.2.2.2.2.2.2.2.2.2.1 c.2.2.2.2.2.2.2.2.2.2.2.2
@[irreducible] noncomputable def LC.w : World := LC.c.1
@[irreducible] noncomputable def LC.mean : ExcName → Option Value := LC.c.2.1
@[irreducible] noncomputable def LC.mg : Str → Option Value := LC.c.2.2.1
@[irreducible] noncomputable def LC.mb : Str → Option Value := LC.c.2.2.2.1
@[irreducible] noncomputable def LC.loose : List Str := LC.c.2.2.2.2.1
@[irreducible] noncomputable def LC.dp : Nat := LC.c.2.2.2.2.2.1
@[irreducible] noncomputable def LC.un : Nat := LC.c.2.2.2.2.2.2.1
@[irreducible] noncomputable def LC.gd : Option (List Code) := LC.c.2.2.2.2.2.2.2.1
@[irreducible] noncomputable def LC.L : Addr := LC.c.2.2.2.2.2.2.2.2.1
@[irreducible] noncomputable def LC.a : Addr := LC.c.2.2.2.2.2.2.2.2.2.1
@[irreducible] noncomputable def LC.ccd : Value := LC.c.2.2.2.2.2.2.2.2.2.2.1
@[irreducible] noncomputable def LC.A₀ : Around := LC.c.2.2.2.2.2.2.2.2.2.2.2.1
@[irreducible] noncomputable def LC.g : Heap := LC.c.2.2.2.2.2.2.2.2.2.2.2.2
theorem LC.all (h : LawQ LC.w LC.mean LC.mg LC.mb LC.loose LC.dp LC.un LC.gd LC.L LC.a LC.ccd LC.A₀ LC.g) (w : World) (mean : ExcName → Option Value) (mg mb : Str → Option Value) (loose : List Str) (dp un : Nat) (gd : Option (List Code)) (L a : Addr) (ccd : Value) (A₀ : Around) (g : Heap) : LawQ w mean mg mb loose dp un gd L a ccd A₀ g := by
  apply Classical.byContradiction
  intro hn
  have e : ¬ LawQ LC.c.1 LC.c.2.1 LC.c.2.2.1 LC.c.2.2.2.1 LC.c.2.2.2.2.1 LC.c.2.2.2.2.2.1 LC.c.2.2.2.2.2.2.1 LC.c.2.2.2.2.2.2.2.1 LC.c.2.2.2.2.2.2.2.2.1 LC.c.2.2.2.2.2.2.2.2.2.1 LC.c.2.2.2.2.2.2.2.2.2.2.1 LC.c.2.2.2.2.2.2.2.2.2.2.2.1 LC.c.2.2.2.2.2.2.2.2.2.2.2.2 := Classical.epsilon_spec (p := fun c : LCtx => ¬ LawQ c.1 c.2.1 c.2.2.1 c.2.2.2.1 c.2.2.2.2.1 c.2.2.2.2.2.1 c.2.2.2.2.2.2.1 c.2.2.2.2.2.2.2.1 c.2.2.2.2.2.2.2.2.1 c.2.2.2.2.2.2.2.2.2.1 c.2.2.2.2.2.2.2.2.2.2.1 c.2.2.2.2.2.2.2.2.2.2.2.1 c.2.2.2.2.2.2.2.2.2.2.2.2) ⟨(w, mean, mg, mb, loose, dp, un, gd, L, a, ccd, A₀, g), hn⟩
  unfold LC.w LC.mean LC.mg LC.mb LC.loose LC.dp LC.un LC.gd LC.L LC.a LC.ccd LC.A₀ LC.g at h
  exact e h
end
section
open _root_.PySem _root_.PySem.W _root_.PyProof.Rows
local macro_rules | `(tactic| walk_at "eval Name") => rowR `nameX_L "ax>rrrw"
local macro_rules | `(tactic| walk_at "subscriptTail Name Slice ref ref") => rowR `kmk_slice_ints "aalppsMr>utZ.....LI"
local macro_rules | `(tactic| walk_at "exec Assign cons ListComp") => `(tactic| refine stop_here ?_)
local macro_rules | `(tactic| walk_at "eval ListComp") => `(tactic| refine stop_here ?_)
section
open _root_.PySem _root_.PySem.W _root_.PyProof.Rows
theorem fresh_22 : True := by (w_top off); exact trivial
open LC
local macro_rules | `(tactic| k_lt $h) => `(tactic| (replace $h := allLt_of $h; simp only [AllLt, and_true] at $h:ident))
local macro_rules | `(tactic| k_ne) => `(tactic| (refine neN ?_; (try dsimp only); omega))
theorem slice3_ints {prog : Program} {w : World} {A : Around} {E : Value → Shared → Prop} {s : Shared} {h₀ : Heap} {L l : Addr} {m : Str → Option Value} {news : List (Addr × Obj)} {value slice : PySem.Expr} {vs : List Value} {ns : List Int} {vl vu vk : Value} {lo hi : Option Int} {st : Int} {ops : List Value} {Q : Value → Shared → Prop} (F : Fr h₀ L s.heap m) (N : News h₀ L s.heap news) (hl : s.heap.IsList l vs.toArray) (pl : IsPart vl lo) (pu : IsPart vu hi) (pk : IsPart vk (some st)) (h0 : some st ≠ some 0) (hi' : IntsAre vs ns)
    (h : ∀ D ws h', Fr h₀ L h' m → News h₀ L h' ((D, listOf (List.toArray ws) 0) :: news) → (∀ p ∈ news, p.1 < D) → IntsAre ws (pickNums ns lo hi (some st)) → Q (.ref D) { s with heap := h' })
    (hs : subscripted slice false (.ref l) (.ref s.heap.objs.size) = operate ops (getItem (.ref l) (.ref s.heap.objs.size))) (ht : ∀ r, letTemporaryGo value (.ref l) r = pure ()) (hz : vs.toArray.size ≤ sizeLine) :
    wpAny (model prog w) A (subscriptTail value slice (.ref l) (.ref s.heap.objs.size)) Q E { s with heap := s.heap.push { cls := .type "slice", data := .fields #[vl, vu, vk] } } := by
  refine slice_list3 F N hl pl pu pk h0 (fun h' F' N' => h _ (slicePick vs.toArray lo hi (some st)).toList h' F' ?_ (fun p hp => Nat.lt_succ_of_lt (Heap.lt_size (N p hp).1)) (IntsAre.pick hi' lo hi (some st))) hs ht hz
  rw [Array.toArray_toList]
  exact N'
section
local macro_rules | `(tactic| walk_at "subscriptTail Name Slice ref ref") => rowR `slice3_ints "aalpppdT>utk.....LIS"
theorem lawS0 (s : Shared) (qk : Flow → Shared → Prop) (ek : Value → Shared → Prop)
   (R : List (Addr × Obj)) (o1 o2 : Obj) (al : Addr) (vs : List Value) (ns : List Int)
    (B : Below A₀ g [] g) (X : (hd.heap_1 w.params).In g) (T : Top topProg loose mean mg mb g) (C : CodeHd g 70 66) (C2 : CodeHd g 77 73) (C3 : CodeHd g 154 152) (hd9 : dp + 32 < recursionLimit) (hu9 : un + 300 < cLine) (F : Fr g L s.heap (fun y => if y = Str.ofString "script" then some (.ref al) else none)) (N : News g L s.heap ((L + 1 + 1, o2) :: (L + 1, o1) :: R)) (e1 : o1.data = .cell none) (e2 : o2.data = .cell none) (hR1 : ∀ q ∈ R, q.1 ≠ L + 1) (hR2 : ∀ q ∈ R, q.1 ≠ L + 1 + 1) (hal : g.IsList al vs.toArray) (hI : IntsAre vs ns) (hlen : ns.length ≤ 63) (l1 : @LT.lt Nat _ 160 L) (ret : ∀ (h' : Heap) (tk' : Nat) (Ds Do : Addr) (ws : List Value) (o1' o2' : Obj) (t1 t2 t3 t4 t5 : Tok), Fr g L h' (fun y => if y = Str.ofString "script" then some (.ref al) else none) → News g L h' ((Do, listOf #[.int 850 t1, .int 2 t2, .int 1 t3, .int 1 t4, .int 6 t5] 0) :: (Ds, listOf ws.toArray 0) :: (L + 1 + 1, o2') :: (L + 1, o1') :: R) → o1'.data = .cell (some (.ref Ds)) → o2'.data = .cell (some (.ref Do)) → IntsAre ws (ns.take 60) → (∀ q ∈ R, q.1 < Ds ∧ q.1 < Do) → @LT.lt Nat _ (L + 1 + 1) Ds → @LT.lt Nat _ Ds Do → qk .next { s with heap := h', toks := tk' }) :
   wpAny (model PySem.Challenge.rw_ta0052_01.row.prog w) (ktrTop dp un gd (Str.ofString "law") (scopeOf (topStmt 22)) L a ccd (cellsFrom (L + 1) (scopeOf (topStmt 22)).names []) []) (execs (((bodyOf (topStmt 22)).take 2).drop 0) (envOfC (Str.ofString "law") (scopeOf (topStmt 22)) L a ccd)) qk ek s := by
  refine cutG fun Pc kc => ?_
  obtain ⟨sc, hsc⟩ : ∃ sc, sc = scopeOf (topStmt 22) := ⟨_, rfl⟩
  refine kc ?_
  clear kc Pc
  rw [← hsc]
  conv at hsc => rhs; whnf
  subst hsc
  revert X T; k_fill; intro X T
  change wpAny _ _ (execs [_, _] _) _ _ _
  k_unmd
  k_steps
  rename Fr _ _ _ _ => F9
  rename News _ _ _ _ => N9
  rename IntsAre _ (List.take 60 ns) => hI9
  refine ret _ _ _ _ _ _ _ _ _ _ _ _ F9 N9 (by assumption) (by assumption) hI9 ?_ ?_ ?_
  · have lA := ‹_ ∧ _ ∧ AllLt _ R›
    have lB := ‹_ ∧ _ ∧ _ ∧ AllLt _ R›
    exact fun q hq => ⟨allLt_mem lA.2.2 q hq, allLt_mem lB.2.2.2 q hq⟩
  · omega
  · omega
noncomputable def lawS1.R (s : Shared) (qk : Flow → Shared → Prop) (ek : Value → Shared → Prop) (R : List (Addr × Obj)) (o1 o2 o3 : Obj) (Do Ds : Addr) (t1 t2 t3 t4 t5 : Tok) (al : Addr) (ws : List Value) (ns : List Int) : Prop :=
  ∀ (B : Below A₀ g [] g) (X : (hd.heap_1 w.params).In g) (T : Top topProg loose mean mg mb g) (C : CodeHd g 70 66) (C2 : CodeHd g 77 73) (C3 : CodeHd g 154 152) (hd9 : dp + 32 < recursionLimit) (hu9 : un + 300 < cLine) (F : Fr g L s.heap (fun y => if y = Str.ofString "script" then some (.ref al) else none)) (N : News g L s.heap ((Do, listOf #[.int 850 t1, .int 2 t2, .int 1 t3, .int 1 t4, .int 6 t5] 0) :: (Ds, listOf ws.toArray 0) :: (L + 1 + 1, o2) :: (L + 1, o1) :: (L + 1 + 1 + 1, o3) :: R)) (e1 : o1.data = .cell (some (.ref Ds))) (e2 : o2.data = .cell (some (.ref Do))) (e3 : o3.data = .cell none) (hR3 : ∀ q ∈ R, q.1 ≠ L + 1 + 1 + 1) (hDo : @LT.lt Nat _ (L + 1 + 1 + 1) Do) (hDs : @LT.lt Nat _ (L + 1 + 1 + 1) Ds) (hI : IntsAre ws ns) (hlen : ns.length ≤ 63) (l1 : @LT.lt Nat _ 160 L) (ret : ∀ (h' : Heap) (tk' : Nat) (Dc : Addr) (k : Nat) (ys : List Value) (zs : List Int) (o3' : Obj), Fr g L h' (fun y => if y = Str.ofString "script" then some (.ref al) else none) → News g L h' ((Dc, listOf ys.toArray k) :: (L + 1 + 1 + 1, o3') :: R) → o3'.data = .cell (some (.ref Dc)) → IntsAre ys zs → zs.length = 5 → (∀ q ∈ R, q.1 ≠ Dc) → (∀ q ∈ ((Do, listOf #[.int 850 t1, .int 2 t2, .int 1 t3, .int 1 t4, .int 6 t5] 0) :: (Ds, listOf ws.toArray 0) :: (L + 1 + 1, o2) :: (L + 1, o1) :: (L + 1 + 1 + 1, o3) :: []), q.1 ≠ Dc) → qk .next { s with heap := h', toks := tk' }),
   wpAny (model PySem.Challenge.rw_ta0052_01.row.prog w) (ktrTop dp un gd (Str.ofString "law") (scopeOf (topStmt 22)) L a ccd (cellsFrom (L + 1) (scopeOf (topStmt 22)).names []) []) (execs (((bodyOf (topStmt 22)).take 3).drop 2) (envOfC (Str.ofString "law") (scopeOf (topStmt 22)) L a ccd)) qk ek s
abbrev lawS1.T : Type := Shared × (Flow → Shared → Prop) × (Value → Shared → Prop) × (List (Addr × Obj)) × Obj × Obj × Obj × Addr × Addr × Tok × Tok × Tok × Tok × Tok × Addr × (List Value) × (List Int)
theorem lawS1.ne : Nonempty lawS1.T := ⟨({}, fun _ _ => True, fun _ _ => True, [], default, default, default, 0, 0, 0, 0, 0, 0, 0, 0, [], [])⟩
noncomputable def lawS1.Q (c : lawS1.T) : Prop := lawS1.R c.1 c.2.1 c.2.2.1 c.2.2.2.1 c.2.2.2.2.1 c.2.2.2.2.2.1 c.2.2.2.2.2.2.1 c.2.2.2.2.2.2.2.1 c.2.2.2.2.2.2.2.2.1 c.2.2.2.2.2.2.2.2.2.1 c.2.2.2.2.2.2.2.2.2.2.1 c.2.2.2.2.2.2.2.2.2.2.2.1 c.2.2.2.2.2.2.2.2.2.2.2.2.1 c.2.2.2.2.2.2.2.2.2.2.2.2.2.1 c.2.2.2.2.2.2.2.2.2.2.2.2.2.2.1 c.2.2.2.2.2.2.2.2.2.2.2.2.2.2.2.1 c.2.2.2.2.2.2.2.2.2.2.2.2.2.2.2.2
noncomputable def lawS1.c : lawS1.T := Classical.epsilon (h := lawS1.ne) fun c => ¬ lawS1.Q c
namespace lawS1K
@[irreducible] noncomputable def s := lawS1.c.1
@[irreducible] noncomputable def qk := lawS1.c.2.1
@[irreducible] noncomputable def ek := lawS1.c.2.2.1
@[irreducible] noncomputable def R := lawS1.c.2.2.2.1
@[irreducible] noncomputable def o1 := lawS1.c.2.2.2.2.1
@[irreducible] noncomputable def o2 := lawS1.c.2.2.2.2.2.1
@[irreducible] noncomputable def o3 := lawS1.c.2.2.2.2.2.2.1
@[irreducible] noncomputable def Do := lawS1.c.2.2.2.2.2.2.2.1
@[irreducible] noncomputable def Ds := lawS1.c.2.2.2.2.2.2.2.2.1
@[irreducible] noncomputable def t1 := lawS1.c.2.2.2.2.2.2.2.2.2.1
@[irreducible] noncomputable def t2 := lawS1.c.2.2.2.2.2.2.2.2.2.2.1
@[irreducible] noncomputable def t3 := lawS1.c.2.2.2.2.2.2.2.2.2.2.2.1
@[irreducible] noncomputable def t4 := lawS1.c.2.2.2.2.2.2.2.2.2.2.2.2.1
@[irreducible] noncomputable def t5 := lawS1.c.2.2.2.2.2.2.2.2.2.2.2.2.2.1
@[irreducible] noncomputable def al := lawS1.c.2.2.2.2.2.2.2.2.2.2.2.2.2.2.1
@[irreducible] noncomputable def ws := lawS1.c.2.2.2.2.2.2.2.2.2.2.2.2.2.2.2.1
@[irreducible] noncomputable def ns := lawS1.c.2.2.2.2.2.2.2.2.2.2.2.2.2.2.2.2
theorem main : lawS1.R s qk ek R o1 o2 o3 Do Ds t1 t2 t3 t4 t5 al ws ns := by
  intro B X T C C2 C3 hd9 hu9 F N e1 e2 e3 hR3 hDo hDs hI hlen l1 ret
  refine cutG fun Pc kc => ?_
  obtain ⟨sc, hsc⟩ : ∃ sc, sc = scopeOf (topStmt 22) := ⟨_, rfl⟩
  refine kc ?_
  clear kc Pc
  rw [← hsc]
  conv at hsc => rhs; whnf
  subst hsc
  revert X T; k_fill; intro X T
  change wpAny _ _ (execs [_] _) _ _ _
  k_unmd
  k_steps
  unfold Stop
  rename Fr _ _ _ _ => F
  rename News _ _ _ _ => N
  refine wpAny_Assign_Name ?_ (by with_unfolding_all rfl)
  refine' compKR [(Do, listOf #[.int 850 t1, .int 2 t2, .int 1 t3, .int 1 t4, .int 6 t5] 0), (Ds, listOf ws.toArray 0), (L + 1 + 1, o2), (L + 1, o1), (L + 1 + 1 + 1, o3)] R 0 5 (fun i ys ex => ex = [] ∧ ∃ zs : List Int, IntsAre ys zs ∧ zs.length = i) F ?hh ?hclos ?hcell ?hkind ?hnames ?hx ?hn ?h0 ?h1 ?hit ?J0 ?T ?hQ ?hs
  case hh => with_unfolding_all rfl
  case hclos => with_unfolding_all rfl
  case hcell => decide
  case hkind => with_unfolding_all rfl
  case hnames => decide
  case hx => with_unfolding_all rfl
  case hs => intro _; with_unfolding_all rfl
  case hn => omega
  case h0 => omega
  case h1 => omega
  case hit =>
    refine wpAny_stop ?_
    k_steps
    try unfold Stop
    exact ⟨_, _, _, _, _, _, _, rfl, by assumption, by omega, by assumption, by assumption, rfl⟩
  case J0 => exact ⟨rfl, [], .nil, rfl⟩
  case T =>
    intro i9 ys9 ex9 v9 I9 oI9 C9 oC9 D9 m9 h9 tk9 E9 hi9 hJ9 hv9 hC9 hx9 F9 N9
    clear F N
    obtain ⟨t9, rfl⟩ := hv9
    refine cutG fun Pc kc => ?_
    obtain ⟨rfl, zs9, hz9, hzl9⟩ := hJ9
    refine kc ?_
    clear kc Pc
    have hb0 : 0 ≤ 0 + (i9 : Int) := by omega
    have hb1 : 0 + (i9 : Int) < 5 := by omega
    simp only [List.cons_append, List.nil_append] at N9
    refine wpAny_stop ?_
    k_steps
    unfold Stop
    rename News _ _ _ _ => N8
    refine ⟨_, _, [], rfl, by assumption, ?_, (fun q hq => nomatch hq), rfl, _, IntsAre.append hz9 (.cons _ _ .nil), ?_⟩
    · first | exact N8 | exact news_tail N8 | exact news_tail (news_tail N8) | exact news_tail (news_tail (news_tail N8)) | exact news_tail (news_tail (news_tail (news_tail N8)))
    · rw [List.length_append, hzl9]; rfl
  case hQ =>
    intro D ys ex h9 tk9 hJ9 F9 N9 hD9
    refine cutG fun Pc kc => ?_
    obtain ⟨rfl, zs, hz, hzl⟩ := hJ9
    refine kc ?_
    clear kc Pc
    clear F N
    simp only [List.cons_append, List.nil_append] at N9 hD9
    have q3 : @Ne Nat D (L + 1 + 1 + 1) := (hD9 (L + 1 + 1 + 1, o3) (by simp)).symm
    k_steps
    rename Fr _ _ _ _ => F8
    rename News _ _ _ _ => N8
    rename _ = Data.cell (some (Value.ref D)) => d8
    refine ret _ _ D ys.length ys zs _ F8 (newsS N8 (by walk_at "my s")) d8 hz hzl (fun q hq => hD9 q (by simp only [List.mem_cons]; simp [hq])) (fun q hq => hD9 q (by simp only [List.mem_cons, List.not_mem_nil, or_false] at hq ⊢; rcases hq with h | h | h | h | h <;> simp [h]))
end lawS1K
theorem lawS1 (s : Shared) (qk : Flow → Shared → Prop) (ek : Value → Shared → Prop) (R : List (Addr × Obj)) (o1 o2 o3 : Obj) (Do Ds : Addr) (t1 t2 t3 t4 t5 : Tok) (al : Addr) (ws : List Value) (ns : List Int) : lawS1.R s qk ek R o1 o2 o3 Do Ds t1 t2 t3 t4 t5 al ws ns := shut lawS1.ne (Q := lawS1.Q) (by with_unfolding_all exact lawS1K.main) (s, qk, ek, R, o1, o2, o3, Do, Ds, t1, t2, t3, t4, t5, al, ws, ns)
end
end
section
open _root_.PySem _root_.PySem.W _root_.PyProof.Rows
theorem fresh_23 : True := by (w_top off); exact trivial
open LC
noncomputable def alphaV (kinds at_ : Int) : Str := Txt.slice (Str.ofString "ab (|") none (some at_) ++ Str.ofString "\"" ++ Txt.slice (Str.ofString "ab (|") (some at_) (some (kinds - 1))
theorem alpha_len {kinds at_ : Int} (hk2 : 2 ≤ kinds) (hk6 : kinds ≤ 6) (ha0 : 0 ≤ at_) (hak : at_ < kinds) : (Txt.slice (Str.ofString "ab (|") none (some at_)).length ≤ 5 ∧ (Txt.slice (Str.ofString "ab (|") (some at_) (some (kinds - 1))).length ≤ 5 := by
  rcases (show at_ = 0 ∨ at_ = 1 ∨ at_ = 2 ∨ at_ = 3 ∨ at_ = 4 ∨ at_ = 5 by omega) with rfl | rfl | rfl | rfl | rfl | rfl <;>
  rcases (show kinds = 2 ∨ kinds = 3 ∨ kinds = 4 ∨ kinds = 5 ∨ kinds = 6 by omega) with rfl | rfl | rfl | rfl | rfl <;> decide +kernel
section
theorem lawS2 (s : Shared) (qk : Flow → Shared → Prop) (ek : Value → Shared → Prop)
   (R : List (Addr × Obj)) (o3 o4 o5 : Obj) (Dc al : Addr) (kc : Nat) (z0 z1 z2 z3 z4 : Int) (u0 u1 u2 u3 u4 : Tok)
    (B : Below A₀ g [] g) (X : (hd.heap_1 w.params).In g) (T : Top topProg loose mean mg mb g) (C : CodeHd g 70 66) (C2 : CodeHd g 77 73) (C3 : CodeHd g 154 152) (hd9 : dp + 32 < recursionLimit) (hu9 : un + 300 < cLine) (F : Fr g L s.heap (fun y => if y = Str.ofString "script" then some (.ref al) else none)) (N : News g L s.heap ((Dc, listOf #[.int z0 u0, .int z1 u1, .int z2 u2, .int z3 u3, .int z4 u4] kc) :: (L + 1 + 1 + 1, o3) :: (L + 1 + 1 + 1 + 1, o4) :: (L + 1 + 1 + 1 + 1 + 1, o5) :: R)) (e3 : o3.data = .cell (some (.ref Dc))) (e4 : o4.data = .cell none) (e5 : o5.data = .cell none) (hR4 : ∀ q ∈ R, q.1 ≠ L + 1 + 1 + 1 + 1) (hR5 : ∀ q ∈ R, q.1 ≠ L + 1 + 1 + 1 + 1 + 1) (q4 : @Ne Nat Dc (L + 1 + 1 + 1 + 1)) (q5 : @Ne Nat Dc (L + 1 + 1 + 1 + 1 + 1)) (l1 : @LT.lt Nat _ 160 L) (ret : ∀ (h' : Heap) (tk' : Nat) (kinds size at_ : Int) (o4' o5' : Obj) (t1 t2 t3 : Tok), 2 ≤ kinds → kinds ≤ 6 → 5 ≤ size → size ≤ 10 → 0 ≤ at_ → at_ < kinds → Fr g L h' (fun y => if y = Str.ofString "at" then some (.int at_ t3) else if y = Str.ofString "script" then some (.ref al) else none) → News g L h' ((Dc, listOf #[.int z0 u0, .int z1 u1, .int z2 u2, .int z3 u3, .int z4 u4] kc) :: (L + 1 + 1 + 1, o3) :: (L + 1 + 1 + 1 + 1, o4') :: (L + 1 + 1 + 1 + 1 + 1, o5') :: R) → o4'.data = .cell (some (.int kinds t1)) → o5'.data = .cell (some (.int size t2)) → qk .next { s with heap := h', toks := tk' }) :
   wpAny (model PySem.Challenge.rw_ta0052_01.row.prog w) (ktrTop dp un gd (Str.ofString "law") (scopeOf (topStmt 22)) L a ccd (cellsFrom (L + 1) (scopeOf (topStmt 22)).names []) []) (execs (((bodyOf (topStmt 22)).take 6).drop 3) (envOfC (Str.ofString "law") (scopeOf (topStmt 22)) L a ccd)) qk ek s := by
  refine cutG fun Pc kc => ?_
  obtain ⟨sc, hsc⟩ : ∃ sc, sc = scopeOf (topStmt 22) := ⟨_, rfl⟩
  refine kc ?_
  clear kc Pc
  rw [← hsc]
  conv at hsc => rhs; whnf
  subst hsc
  revert X T; k_fill; intro X T
  change wpAny _ _ (execs [_, _, _] _) _ _ _
  k_unmd
  have hk5 : 0 ≤ z1.fmod 5 := Int.fmod_nonneg_of_pos _ (by omega)
  have hk6 : z1.fmod 5 < 5 := Int.fmod_lt_of_pos _ (by omega)
  have hs5 : 0 ≤ z2.fmod 6 := Int.fmod_nonneg_of_pos _ (by omega)
  have hs6 : z2.fmod 6 < 6 := Int.fmod_lt_of_pos _ (by omega)
  have ha5 : 0 ≤ z3.fmod (2 + z1.fmod 5) := Int.fmod_nonneg_of_pos _ (by omega)
  have ha6 : z3.fmod (2 + z1.fmod 5) < 2 + z1.fmod 5 := Int.fmod_lt_of_pos _ (by omega)
  k_steps
  rename Fr _ _ _ _ => F8
  rename News _ _ _ _ => N8
  refine ret _ _ _ _ _ _ _ _ _ _ ?_ ?_ ?_ ?_ ?_ ?_ F8 N8 (by assumption) (by assumption)
  · show 2 ≤ 2 + z1.fmod 5; omega
  · show 2 + z1.fmod 5 ≤ 6; omega
  · show 5 ≤ 5 + z2.fmod 6; omega
  · show 5 + z2.fmod 6 ≤ 10; omega
  · exact ha5
  · exact ha6
theorem lawS3 (s : Shared) (qk : Flow → Shared → Prop) (ek : Value → Shared → Prop)
   (R : List (Addr × Obj)) (o4 o6 : Obj) (al : Addr) (kinds at_ : Int) (t1 t3 : Tok)
    (B : Below A₀ g [] g) (X : (hd.heap_1 w.params).In g) (T : Top topProg loose mean mg mb g) (C : CodeHd g 70 66) (C2 : CodeHd g 77 73) (C3 : CodeHd g 154 152) (hd9 : dp + 32 < recursionLimit) (hu9 : un + 300 < cLine) (F : Fr g L s.heap (fun y => if y = Str.ofString "at" then some (.int at_ t3) else if y = Str.ofString "script" then some (.ref al) else none)) (N : News g L s.heap ((L + 1 + 1 + 1 + 1, o4) :: (L + 1 + 1 + 1 + 1 + 1 + 1, o6) :: R)) (e4 : o4.data = .cell (some (.int kinds t1))) (e6 : o6.data = .cell none) (hR6 : ∀ q ∈ R, q.1 ≠ L + 1 + 1 + 1 + 1 + 1 + 1) (hk2 : 2 ≤ kinds) (hk6 : kinds ≤ 6) (ha0 : 0 ≤ at_) (hak : at_ < kinds) (l1 : @LT.lt Nat _ 160 L) (ret : ∀ (h' : Heap) (tk' : Nat) (o6' : Obj) (t4 : Tok), Fr g L h' (fun y => if y = Str.ofString "at" then some (.int at_ t3) else if y = Str.ofString "script" then some (.ref al) else none) → News g L h' ((L + 1 + 1 + 1 + 1, o4) :: (L + 1 + 1 + 1 + 1 + 1 + 1, o6') :: R) → o6'.data = .cell (some (.str (alphaV kinds at_) t4)) → qk .next { s with heap := h', toks := tk' }) :
   wpAny (model PySem.Challenge.rw_ta0052_01.row.prog w) (ktrTop dp un gd (Str.ofString "law") (scopeOf (topStmt 22)) L a ccd (cellsFrom (L + 1) (scopeOf (topStmt 22)).names []) []) (execs (((bodyOf (topStmt 22)).take 7).drop 6) (envOfC (Str.ofString "law") (scopeOf (topStmt 22)) L a ccd)) qk ek s := by
  refine cutG fun Pc kc => ?_
  obtain ⟨sc, hsc⟩ : ∃ sc, sc = scopeOf (topStmt 22) := ⟨_, rfl⟩
  refine kc ?_
  clear kc Pc
  rw [← hsc]
  conv at hsc => rhs; whnf
  subst hsc
  revert X T; k_fill; intro X T
  change wpAny _ _ (execs [_] _) _ _ _
  k_unmd
  obtain ⟨hs1, hs2⟩ := alpha_len hk2 hk6 ha0 hak
  k_steps
  rename Fr _ _ _ _ => F8
  rename News _ _ _ _ => N8
  refine ret _ _ _ _ F8 N8 (by assumption)
end
end
section
open _root_.PySem _root_.PySem.W _root_.PyProof.Rows
theorem fresh_24 : True := by (w_top off); exact trivial
open LC
theorem pow_bd {k : Int} {n : Nat} (h2 : 2 ≤ k) (h6 : k ≤ 6) (hn : n ≤ 10) : 0 < k ^ n ∧ k ^ n ≤ 60466176 := by
  have d : ∀ n : Nat, n ≤ 10 → ((0 < (2 : Int) ^ n ∧ (2 : Int) ^ n ≤ 60466176) ∧ (0 < (3 : Int) ^ n ∧ (3 : Int) ^ n ≤ 60466176) ∧ (0 < (4 : Int) ^ n ∧ (4 : Int) ^ n ≤ 60466176) ∧ (0 < (5 : Int) ^ n ∧ (5 : Int) ^ n ≤ 60466176) ∧ (0 < (6 : Int) ^ n ∧ (6 : Int) ^ n ≤ 60466176)) := by decide
  have := d n hn
  rcases (show k = 2 ∨ k = 3 ∨ k = 4 ∨ k = 5 ∨ k = 6 by omega) with rfl | rfl | rfl | rfl | rfl
  · exact this.1
  · exact this.2.1
  · exact this.2.2.1
  · exact this.2.2.2.1
  · exact this.2.2.2.2
section
local macro_rules | `(tactic| walk_at "exec Assign") => `(tactic| with_reducible refine stopA ?_)
noncomputable def lawS4.R (s : Shared) (qk : Flow → Shared → Prop) (ek : Value → Shared → Prop) (R : List (Addr × Obj)) (o3 o4 o5 o7 : Obj) (Dc al : Addr) (kc : Nat) (z0 z1 z2 z3 z4 kinds size at_ : Int) (u0 u1 u2 u3 u4 t1 t2 t3 : Tok) : Prop :=
  ∀ (B : Below A₀ g [] g) (X : (hd.heap_1 w.params).In g) (T : Top topProg loose mean mg mb g) (C : CodeHd g 70 66) (C2 : CodeHd g 77 73) (C3 : CodeHd g 154 152) (hd9 : dp + 32 < recursionLimit) (hu9 : un + 300 < cLine) (F : Fr g L s.heap (fun y => if y = Str.ofString "at" then some (.int at_ t3) else if y = Str.ofString "script" then some (.ref al) else none)) (N : News g L s.heap ((Dc, listOf #[.int z0 u0, .int z1 u1, .int z2 u2, .int z3 u3, .int z4 u4] kc) :: (L + 1 + 1 + 1, o3) :: (L + 1 + 1 + 1 + 1, o4) :: (L + 1 + 1 + 1 + 1 + 1, o5) :: (L + 1 + 1 + 1 + 1 + 1 + 1 + 1, o7) :: R)) (e3 : o3.data = .cell (some (.ref Dc))) (e4 : o4.data = .cell (some (.int kinds t1))) (e5 : o5.data = .cell (some (.int size t2))) (e7 : o7.data = .cell none) (hR7 : ∀ q ∈ R, q.1 ≠ L + 1 + 1 + 1 + 1 + 1 + 1 + 1) (q7 : @Ne Nat Dc (L + 1 + 1 + 1 + 1 + 1 + 1 + 1)) (hk2 : 2 ≤ kinds) (hk6 : kinds ≤ 6) (hz5 : 5 ≤ size) (hz10 : size ≤ 10) (l1 : @LT.lt Nat _ 160 L) (ret : ∀ (h' : Heap) (tk' : Nat) (Dn : Addr) (k : Nat) (ys : List Value) (zs : List Int) (o7' : Obj), Fr g L h' (fun y => if y = Str.ofString "at" then some (.int at_ t3) else if y = Str.ofString "script" then some (.ref al) else none) → News g L h' ((Dn, listOf ys.toArray k) :: (Dc, listOf #[.int z0 u0, .int z1 u1, .int z2 u2, .int z3 u3, .int z4 u4] kc) :: (L + 1 + 1 + 1, o3) :: (L + 1 + 1 + 1 + 1, o4) :: (L + 1 + 1 + 1 + 1 + 1, o5) :: (L + 1 + 1 + 1 + 1 + 1 + 1 + 1, o7') :: R) → o7'.data = .cell (some (.ref Dn)) → IntsAre ys zs → (zs.length : Int) = size → (∀ z ∈ zs, 0 ≤ z ∧ z < kinds) → (∀ q ∈ ((Dc, listOf #[.int z0 u0, .int z1 u1, .int z2 u2, .int z3 u3, .int z4 u4] kc) :: (L + 1 + 1 + 1, o3) :: (L + 1 + 1 + 1 + 1, o4) :: (L + 1 + 1 + 1 + 1 + 1, o5) :: (L + 1 + 1 + 1 + 1 + 1 + 1 + 1, o7) :: R), q.1 ≠ Dn) → qk .next { s with heap := h', toks := tk' }),
   wpAny (model PySem.Challenge.rw_ta0052_01.row.prog w) (ktrTop dp un gd (Str.ofString "law") (scopeOf (topStmt 22)) L a ccd (cellsFrom (L + 1) (scopeOf (topStmt 22)).names []) []) (execs (((bodyOf (topStmt 22)).take 8).drop 7) (envOfC (Str.ofString "law") (scopeOf (topStmt 22)) L a ccd)) qk ek s
abbrev lawS4.T : Type := Shared × (Flow → Shared → Prop) × (Value → Shared → Prop) × (List (Addr × Obj)) × Obj × Obj × Obj × Obj × Addr × Addr × Nat × Int × Int × Int × Int × Int × Int × Int × Int × Tok × Tok × Tok × Tok × Tok × Tok × Tok × Tok
theorem lawS4.ne : Nonempty lawS4.T := ⟨({}, fun _ _ => True, fun _ _ => True, [], default, default, default, default, 0, 0, 0, 0, 0, 0, 0, 0, 0, 0, 0, 0, 0, 0, 0, 0, 0, 0, 0)⟩
noncomputable def lawS4.Q (c : lawS4.T) : Prop := lawS4.R c.1 c.2.1 c.2.2.1 c.2.2.2.1 c.2.2.2.2.1 c.2.2.2.2.2.1 c.2.2.2.2.2.2.1 c.2.2.2.2.2.2.2.1 c.2.2.2.2.2.2.2.2.1 c.2.2.2.2.2.2.2.2.2.1 c.2.2.2.2.2.2.2.2.2.2.1 c.2.2.2.2.2.2.2.2.2.2.2.1 c.2.2.2.2.2.2.2.2.2.2.2.2.1 c.2.2.2.2.2.2.2.2.2.2.2.2.2.1 c.2.2.2.2.2.2.2.2.2.2.2.2.2.2.1 c.2.2.2.2.2.2.2.2.2.2.2.2.2.2.2.1 c.2.2.2.2.2.2.2.2.2.2.2.2.2.2.2.2.1 c.2.2.2.2.2.2.2.2.2.2.2.2.2.2.2.2.2.1 c.2.2.2.2.2.2.2.2.2.2.2.2.2.2.2.2.2.2.1 c.2.2.2.2.2.2.2.2.2.2.2.2.2.2.2.2.2.2.2.1 c.2.2.2.2.2.2.2.2.2.2.2.2.2.2.2.2.2.2.2.2.1 c.2.2.2.2.2.2.2.2.2.2.2.2.2.2.2.2.2.2.2.2.2.1 c.2.2.2.2.2.2.2.2.2.2.2.2.2.2.2.2.2.2.2.2.2.2.1 c.2.2.2.2.2.2.2.2.2.2.2.2.2.2.2.2.2.2.2.2.2.2.2.1 c.2.2.2.2.2.2.2.2.2.2.2.2.2.2.2.2.2.2.2.2.2.2.2.2.1 c.2.2.2.2.2.2.2.2.2.2.2.2.2.2.2.2.2.2.2.2.2.2.2.2.2.1 c.2.2.2.2.2.2.2.2.2.2.2.2.2.2.2.2.2.2.2.2.2.2.2.2.2.2
noncomputable def lawS4.c : lawS4.T := Classical.epsilon (h := lawS4.ne) fun c => ¬ lawS4.Q c
namespace lawS4K
@[irreducible] noncomputable def s := lawS4.c.1
@[irreducible] noncomputable def qk := lawS4.c.2.1
@[irreducible] noncomputable def ek := lawS4.c.2.2.1
@[irreducible] noncomputable def R := lawS4.c.2.2.2.1
@[irreducible] noncomputable def o3 := lawS4.c.2.2.2.2.1
@[irreducible] noncomputable def o4 := lawS4.c.2.2.2.2.2.1
@[irreducible] noncomputable def o5 := lawS4.c.2.2.2.2.2.2.1
@[irreducible] noncomputable def o7 := lawS4.c.2.2.2.2.2.2.2.1
@[irreducible] noncomputable def Dc := lawS4.c.2.2.2.2.2.2.2.2.1
@[irreducible] noncomputable def al := lawS4.c.2.2.2.2.2.2.2.2.2.1
@[irreducible] noncomputable def kc := lawS4.c.2.2.2.2.2.2.2.2.2.2.1
@[irreducible] noncomputable def z0 := lawS4.c.2.2.2.2.2.2.2.2.2.2.2.1
@[irreducible] noncomputable def z1 := lawS4.c.2.2.2.2.2.2.2.2.2.2.2.2.1
@[irreducible] noncomputable def z2 := lawS4.c.2.2.2.2.2.2.2.2.2.2.2.2.2.1
@[irreducible] noncomputable def z3 := lawS4.c.2.2.2.2.2.2.2.2.2.2.2.2.2.2.1
@[irreducible] noncomputable def z4 := lawS4.c.2.2.2.2.2.2.2.2.2.2.2.2.2.2.2.1
@[irreducible] noncomputable def kinds := lawS4.c.2.2.2.2.2.2.2.2.2.2.2.2.2.2.2.2.1
@[irreducible] noncomputable def size := lawS4.c.2.2.2.2.2.2.2.2.2.2.2.2.2.2.2.2.2.1
@[irreducible] noncomputable def at_ := lawS4.c.2.2.2.2.2.2.2.2.2.2.2.2.2.2.2.2.2.2.1
@[irreducible] noncomputable def u0 := lawS4.c.2.2.2.2.2.2.2.2.2.2.2.2.2.2.2.2.2.2.2.1
@[irreducible] noncomputable def u1 := lawS4.c.2.2.2.2.2.2.2.2.2.2.2.2.2.2.2.2.2.2.2.2.1
@[irreducible] noncomputable def u2 := lawS4.c.2.2.2.2.2.2.2.2.2.2.2.2.2.2.2.2.2.2.2.2.2.1
@[irreducible] noncomputable def u3 := lawS4.c.2.2.2.2.2.2.2.2.2.2.2.2.2.2.2.2.2.2.2.2.2.2.1
@[irreducible] noncomputable def u4 := lawS4.c.2.2.2.2.2.2.2.2.2.2.2.2.2.2.2.2.2.2.2.2.2.2.2.1
@[irreducible] noncomputable def t1 := lawS4.c.2.2.2.2.2.2.2.2.2.2.2.2.2.2.2.2.2.2.2.2.2.2.2.2.1
@[irreducible] noncomputable def t2 := lawS4.c.2.2.2.2.2.2.2.2.2.2.2.2.2.2.2.2.2.2.2.2.2.2.2.2.2.1
@[irreducible] noncomputable def t3 := lawS4.c.2.2.2.2.2.2.2.2.2.2.2.2.2.2.2.2.2.2.2.2.2.2.2.2.2.2
theorem main : lawS4.R s qk ek R o3 o4 o5 o7 Dc al kc z0 z1 z2 z3 z4 kinds size at_ u0 u1 u2 u3 u4 t1 t2 t3 := by
  intro B X T C C2 C3 hd9 hu9 F N e3 e4 e5 e7 hR7 q7 hk2 hk6 hz5 hz10 l1 ret
  refine cutG fun Pc kc => ?_
  obtain ⟨sc, hsc⟩ : ∃ sc, sc = scopeOf (topStmt 22) := ⟨_, rfl⟩
  refine kc ?_
  clear kc Pc
  rw [← hsc]
  conv at hsc => rhs; whnf
  subst hsc
  revert X T; k_fill; intro X T
  change wpAny _ _ (execs [_] _) _ _ _
  k_unmd
  k_steps
  unfold Stop
  rename Fr _ _ _ _ => F
  rename News _ _ _ _ => N
  refine wpAny_Assign_Name ?_ (by with_unfolding_all rfl)
  refine' compKR [(Dc, listOf #[.int z0 u0, .int z1 u1, .int z2 u2, .int z3 u3, .int z4 u4] kc), (L + 1 + 1 + 1, o3), (L + 1 + 1 + 1 + 1, o4), (L + 1 + 1 + 1 + 1 + 1, o5), (L + 1 + 1 + 1 + 1 + 1 + 1 + 1, o7)] R 0 size.toNat (fun i ys ex => ex = [] ∧ ∃ zs : List Int, IntsAre ys zs ∧ zs.length = i ∧ ∀ z ∈ zs, 0 ≤ z ∧ z < kinds) F ?hh ?hclos ?hcell ?hkind ?hnames ?hx ?hn ?h0 ?h1 ?hit ?J0 ?T ?hQ ?hs
  case hh => with_unfolding_all rfl
  case hclos => with_unfolding_all rfl
  case hcell => decide
  case hkind => with_unfolding_all rfl
  case hnames => decide
  case hx => with_unfolding_all rfl
  case hs => intro _; with_unfolding_all rfl
  case hn => omega
  case h0 => omega
  case h1 => omega
  case hit =>
    refine wpAny_stop ?_
    k_steps
    try unfold Stop
    try dsimp only
    exact ⟨_, _, _, _, _, _, _, rfl, by assumption, by omega, by assumption, by assumption, rfl⟩
  case J0 => exact ⟨rfl, [], .nil, rfl, fun z hz => nomatch hz⟩
  case T =>
    intro i9 ys9 ex9 v9 I9 oI9 C9 oC9 D9 m9 h9 tk9 E9 hi9 hJ9 hv9 hC9 hx9 F9 N9
    clear F N
    obtain ⟨t9, rfl⟩ := hv9
    refine cutG fun Pc kc => ?_
    obtain ⟨rfl, zs9, hz9, hzl9, hzb9⟩ := hJ9
    refine kc ?_
    clear kc Pc
    have hb0 : 0 ≤ 0 + (i9 : Int) := by omega
    have hb1 : 0 + (i9 : Int) < 10 := by omega
    obtain ⟨hp1, hp3⟩ := pow_bd (n := size.toNat) hk2 hk6 (by omega)
    obtain ⟨hp2, hp4⟩ := pow_bd (n := (0 + (i9 : Int)).toNat) hk2 hk6 (by omega)
    have hp5 : 0 ≤ ([z0, z1, z2, z3, z4].getD (Int.toNat 0) 0).fmod (kinds ^ size.toNat) := Int.fmod_nonneg_of_pos _ hp1
    have hp6 : ([z0, z1, z2, z3, z4].getD (Int.toNat 0) 0).fmod (kinds ^ size.toNat) < kinds ^ size.toNat := Int.fmod_lt_of_pos _ hp1
    simp only [List.cons_append, List.nil_append] at N9
    refine wpAny_stop ?_
    k_steps
    unfold Stop
    rename News _ _ _ _ => N8
    refine ⟨_, _, [], rfl, by assumption, ?_, (fun q hq => nomatch hq), rfl, _, IntsAre.append hz9 (.cons _ _ .nil), ?_, ?_⟩
    · first | exact N8 | exact news_tail N8 | exact news_tail (news_tail N8) | exact news_tail (news_tail (news_tail N8)) | exact news_tail (news_tail (news_tail (news_tail N8)))
    · rw [List.length_append, hzl9]; rfl
    · intro z hz
      rcases List.mem_append.mp hz with hz | hz
      · exact hzb9 z hz
      · rw [List.mem_singleton] at hz
        rw [hz]
        exact ⟨Int.fmod_nonneg_of_pos _ (by omega), Int.fmod_lt_of_pos _ (by omega)⟩
  case hQ =>
    intro D ys ex h9 tk9 hJ9 F9 N9 hD9
    refine cutG fun Pc kc => ?_
    obtain ⟨rfl, zs, hz, hzl, hzb⟩ := hJ9
    refine kc ?_
    clear kc Pc
    clear F N
    simp only [List.cons_append, List.nil_append] at N9 hD9
    have q9 : @Ne Nat D (L + 1 + 1 + 1 + 1 + 1 + 1 + 1) := (hD9 (L + 1 + 1 + 1 + 1 + 1 + 1 + 1, o7) (by simp)).symm
    k_steps
    rename Fr _ _ _ _ => F8
    rename News _ _ _ _ => N8
    rename _ = Data.cell (some (Value.ref D)) => d8
    refine ret _ _ D ys.length ys zs _ F8 N8 d8 hz (by omega) hzb hD9
end lawS4K
theorem lawS4 (s : Shared) (qk : Flow → Shared → Prop) (ek : Value → Shared → Prop) (R : List (Addr × Obj)) (o3 o4 o5 o7 : Obj) (Dc al : Addr) (kc : Nat) (z0 z1 z2 z3 z4 kinds size at_ : Int) (u0 u1 u2 u3 u4 t1 t2 t3 : Tok) : lawS4.R s qk ek R o3 o4 o5 o7 Dc al kc z0 z1 z2 z3 z4 kinds size at_ u0 u1 u2 u3 u4 t1 t2 t3 := shut lawS4.ne (Q := lawS4.Q) (by with_unfolding_all exact lawS4K.main) (s, qk, ek, R, o3, o4, o5, o7, Dc, al, kc, z0, z1, z2, z3, z4, kinds, size, at_, u0, u1, u2, u3, u4, t1, t2, t3)
end
end
section
open _root_.PySem _root_.PySem.W _root_.PyProof.Rows
theorem fresh_25 : True := by (w_top off); exact trivial
open LC
noncomputable def climbV (zs : List Int) : Int := (((rangeInts 1 1 (zs.length - 1)).filter fun k => decide (zs.getD (k - 1).toNat 0 ≤ zs.getD k.toNat 0)).map fun k => k).sum
noncomputable def portP (zs : List Int) (size kinds : Int) : Int := (climbV zs).fmod size * kinds + zs.sum.fmod kinds
theorem port_bd {zs : List Int} {size kinds : Int} (h5 : 5 ≤ size) (h10 : size ≤ 10) (h2 : 2 ≤ kinds) (h6 : kinds ≤ 6) : 0 ≤ portP zs size kinds ∧ portP zs size kinds < 60 := by
  have h1 : 0 ≤ (climbV zs).fmod size := Int.fmod_nonneg_of_pos _ (by omega)
  have h3 : (climbV zs).fmod size < size := Int.fmod_lt_of_pos _ (by omega)
  have h4 : 0 ≤ zs.sum.fmod kinds := Int.fmod_nonneg_of_pos _ (by omega)
  have h7 : zs.sum.fmod kinds < kinds := Int.fmod_lt_of_pos _ (by omega)
  unfold portP
  generalize (climbV zs).fmod size = a at *
  generalize zs.sum.fmod kinds = b at *
  rcases (show kinds = 2 ∨ kinds = 3 ∨ kinds = 4 ∨ kinds = 5 ∨ kinds = 6 by omega) with rfl | rfl | rfl | rfl | rfl <;> omega
section
noncomputable def lawS5.R (s : Shared) (qk : Flow → Shared → Prop) (ek : Value → Shared → Prop) (R : List (Addr × Obj)) (o4 o5 o7 : Obj) (Dn al : Addr) (kn : Nat) (ys : List Value) (zs : List Int) (kinds size at_ : Int) (t1 t2 t3 : Tok) : Prop :=
  ∀ (B : Below A₀ g [] g) (X : (hd.heap_1 w.params).In g) (T : Top topProg loose mean mg mb g) (C : CodeHd g 70 66) (C2 : CodeHd g 77 73) (C3 : CodeHd g 154 152) (hd9 : dp + 32 < recursionLimit) (hu9 : un + 300 < cLine) (F : Fr g L s.heap (fun y => if y = Str.ofString "at" then some (.int at_ t3) else if y = Str.ofString "script" then some (.ref al) else none)) (N : News g L s.heap ((Dn, listOf ys.toArray kn) :: (L + 1 + 1 + 1 + 1, o4) :: (L + 1 + 1 + 1 + 1 + 1, o5) :: (L + 1 + 1 + 1 + 1 + 1 + 1 + 1, o7) :: R)) (e4 : o4.data = .cell (some (.int kinds t1))) (e5 : o5.data = .cell (some (.int size t2))) (e7 : o7.data = .cell (some (.ref Dn))) (hI : IntsAre ys zs) (hzl : (zs.length : Int) = size) (hzb : ∀ z ∈ zs, 0 ≤ z ∧ z < kinds) (hk2 : 2 ≤ kinds) (hk6 : kinds ≤ 6) (hz5 : 5 ≤ size) (hz10 : size ≤ 10) (l1 : @LT.lt Nat _ 160 L) (ret : ∀ (h' : Heap) (tk' : Nat) (t4 t5 : Tok), Fr g L h' (fun y => if y = Str.ofString "port" then some (.int (portP zs size kinds) t5) else if y = Str.ofString "climbs" then some (.int (climbV zs) t4) else if y = Str.ofString "at" then some (.int at_ t3) else if y = Str.ofString "script" then some (.ref al) else none) → News g L h' ((Dn, listOf ys.toArray kn) :: (L + 1 + 1 + 1 + 1, o4) :: (L + 1 + 1 + 1 + 1 + 1, o5) :: (L + 1 + 1 + 1 + 1 + 1 + 1 + 1, o7) :: R) → qk .next { s with heap := h', toks := tk' }),
   wpAny (model PySem.Challenge.rw_ta0052_01.row.prog w) (ktrTop dp un gd (Str.ofString "law") (scopeOf (topStmt 22)) L a ccd (cellsFrom (L + 1) (scopeOf (topStmt 22)).names []) []) (execs (((bodyOf (topStmt 22)).take 10).drop 8) (envOfC (Str.ofString "law") (scopeOf (topStmt 22)) L a ccd)) qk ek s
abbrev lawS5.T : Type := Shared × (Flow → Shared → Prop) × (Value → Shared → Prop) × (List (Addr × Obj)) × Obj × Obj × Obj × Addr × Addr × Nat × (List Value) × (List Int) × Int × Int × Int × Tok × Tok × Tok
theorem lawS5.ne : Nonempty lawS5.T := ⟨({}, fun _ _ => True, fun _ _ => True, [], default, default, default, 0, 0, 0, [], [], 0, 0, 0, 0, 0, 0)⟩
noncomputable def lawS5.Q (c : lawS5.T) : Prop := lawS5.R c.1 c.2.1 c.2.2.1 c.2.2.2.1 c.2.2.2.2.1 c.2.2.2.2.2.1 c.2.2.2.2.2.2.1 c.2.2.2.2.2.2.2.1 c.2.2.2.2.2.2.2.2.1 c.2.2.2.2.2.2.2.2.2.1 c.2.2.2.2.2.2.2.2.2.2.1 c.2.2.2.2.2.2.2.2.2.2.2.1 c.2.2.2.2.2.2.2.2.2.2.2.2.1 c.2.2.2.2.2.2.2.2.2.2.2.2.2.1 c.2.2.2.2.2.2.2.2.2.2.2.2.2.2.1 c.2.2.2.2.2.2.2.2.2.2.2.2.2.2.2.1 c.2.2.2.2.2.2.2.2.2.2.2.2.2.2.2.2.1 c.2.2.2.2.2.2.2.2.2.2.2.2.2.2.2.2.2
noncomputable def lawS5.c : lawS5.T := Classical.epsilon (h := lawS5.ne) fun c => ¬ lawS5.Q c
namespace lawS5K
@[irreducible] noncomputable def s := lawS5.c.1
@[irreducible] noncomputable def qk := lawS5.c.2.1
@[irreducible] noncomputable def ek := lawS5.c.2.2.1
@[irreducible] noncomputable def R := lawS5.c.2.2.2.1
@[irreducible] noncomputable def o4 := lawS5.c.2.2.2.2.1
@[irreducible] noncomputable def o5 := lawS5.c.2.2.2.2.2.1
@[irreducible] noncomputable def o7 := lawS5.c.2.2.2.2.2.2.1
@[irreducible] noncomputable def Dn := lawS5.c.2.2.2.2.2.2.2.1
@[irreducible] noncomputable def al := lawS5.c.2.2.2.2.2.2.2.2.1
@[irreducible] noncomputable def kn := lawS5.c.2.2.2.2.2.2.2.2.2.1
@[irreducible] noncomputable def ys := lawS5.c.2.2.2.2.2.2.2.2.2.2.1
@[irreducible] noncomputable def zs := lawS5.c.2.2.2.2.2.2.2.2.2.2.2.1
@[irreducible] noncomputable def kinds := lawS5.c.2.2.2.2.2.2.2.2.2.2.2.2.1
@[irreducible] noncomputable def size := lawS5.c.2.2.2.2.2.2.2.2.2.2.2.2.2.1
@[irreducible] noncomputable def at_ := lawS5.c.2.2.2.2.2.2.2.2.2.2.2.2.2.2.1
@[irreducible] noncomputable def t1 := lawS5.c.2.2.2.2.2.2.2.2.2.2.2.2.2.2.2.1
@[irreducible] noncomputable def t2 := lawS5.c.2.2.2.2.2.2.2.2.2.2.2.2.2.2.2.2.1
@[irreducible] noncomputable def t3 := lawS5.c.2.2.2.2.2.2.2.2.2.2.2.2.2.2.2.2.2
theorem main : lawS5.R s qk ek R o4 o5 o7 Dn al kn ys zs kinds size at_ t1 t2 t3 := by
  intro B X T C C2 C3 hd9 hu9 F N e4 e5 e7 hI hzl hzb hk2 hk6 hz5 hz10 l1 ret
  refine cutG fun Pc kc => ?_
  obtain ⟨sc, hsc⟩ : ∃ sc, sc = scopeOf (topStmt 22) := ⟨_, rfl⟩
  refine kc ?_
  clear kc Pc
  rw [← hsc]
  conv at hsc => rhs; whnf
  subst hsc
  revert X T; k_fill; intro X T
  change wpAny _ _ (execs [_, _] _) _ _ _
  k_unmd
  k_steps
  unfold Stop
  rename Fr _ _ _ _ => F
  rename News _ _ _ _ => N
  refine' compI F N 1 (zs.length - 1) (fun k => decide (zs.getD (k - 1).toNat 0 ≤ zs.getD k.toNat 0)) (fun k => k) ?hh ?hclos ?hcell ?hkind ?hnames ?hx ?hn ?h0 ?h1 ?hit ?htest ?helt ?hQ ?hs
  case hh => with_unfolding_all rfl
  case hclos => with_unfolding_all rfl
  case hcell => decide
  case hkind => with_unfolding_all rfl
  case hnames => decide
  case hx => with_unfolding_all rfl
  case hs => intro _; with_unfolding_all rfl
  case hn => omega
  case h0 => omega
  case h1 => omega
  case hit =>
    refine wpAny_stop ?_
    k_steps
    try unfold Stop
    exact ⟨_, _, _, _, _, _, _, rfl, by assumption, by omega, by assumption, by assumption, rfl⟩
  case htest =>
    intro s9 C9 i9 t9 s8 m9 E9 F9 N9 hi0 hi1 hn9 hm9 hk9
    have F8 := Fr.keeps F9 hk9
    have N8 := News.grown N9 hk9
    clear F9 N9 F N
    refine wpAny_stop ?_
    k_steps
    try unfold Stop
    exact ⟨rfl, ⟨_, _, rfl, fun _ _ e => e⟩⟩
  case helt =>
    intro s9 C9 i9 t9 s8 m9 E9 F9 N9 hi0 hi1 hp9 hn9 hm9 hk9
    have F8 := Fr.keeps F9 hk9
    have N8 := News.grown N9 hk9
    clear F9 N9 F N
    refine wpAny_stop ?_
    k_steps
    try unfold Stop
    exact ⟨⟨_, rfl⟩, ⟨_, _, rfl, fun _ _ e => e⟩⟩
  case hQ =>
  intro Dt yt kt h6 tk6 F' N' I2'
  clear F N
  change IntsAre yt _ at I2'
  have hf1 : 0 ≤ (climbV zs).fmod size := Int.fmod_nonneg_of_pos _ (by omega)
  have hf2 : (climbV zs).fmod size < size := Int.fmod_lt_of_pos _ (by omega)
  k_steps
  rename Fr _ _ _ _ => F8
  rename News _ _ _ _ => N8
  exact ret _ _ _ _ F8 (news_tail N8)
end lawS5K
theorem lawS5 (s : Shared) (qk : Flow → Shared → Prop) (ek : Value → Shared → Prop) (R : List (Addr × Obj)) (o4 o5 o7 : Obj) (Dn al : Addr) (kn : Nat) (ys : List Value) (zs : List Int) (kinds size at_ : Int) (t1 t2 t3 : Tok) : lawS5.R s qk ek R o4 o5 o7 Dn al kn ys zs kinds size at_ t1 t2 t3 := shut lawS5.ne (Q := lawS5.Q) (by with_unfolding_all exact lawS5K.main) (s, qk, ek, R, o4, o5, o7, Dn, al, kn, ys, zs, kinds, size, at_, t1, t2, t3)
end
end
section
open _root_.PySem _root_.PySem.W _root_.PyProof.Rows
theorem fresh_26 : True := by (w_top off); exact trivial
open LC
local macro_rules | `(tactic| k_lt $h) => `(tactic| (replace $h := allLt_of $h; simp only [AllLt, and_true] at $h:ident))
local macro_rules | `(tactic| k_ne) => `(tactic| (refine neN ?_; (try dsimp only); omega))
theorem news_s6 {h₀ h : Heap} {L : Addr} {x a b c y : Addr × Obj} {r : List (Addr × Obj)} (N : News h₀ L h (x :: a :: b :: c :: y :: r)) : News h₀ L h (a :: b :: c :: r) := newsS N (by walk_at "my s")
theorem mark_or {i : Int} (h0 : 0 ≤ i) (h4 : i < 4) : Txt.item (Str.ofString "|!;~") i = Str.ofString "|" ∨ Txt.item (Str.ofString "|!;~") i = Str.ofString "!" ∨ Txt.item (Str.ofString "|!;~") i = Str.ofString ";" ∨ Txt.item (Str.ofString "|!;~") i = Str.ofString "~" := by
  rcases (show i = 0 ∨ i = 1 ∨ i = 2 ∨ i = 3 by omega) with rfl | rfl | rfl | rfl
  · exact .inl (by decide +kernel)
  · exact .inr (.inl (by decide +kernel))
  · exact .inr (.inr (.inl (by decide +kernel)))
  · exact .inr (.inr (.inr (by decide +kernel)))
section
noncomputable def lawS6.R (s : Shared) (qk : Flow → Shared → Prop) (ek : Value → Shared → Prop) (R : List (Addr × Obj)) (o3 o8 : Obj) (Dc al : Addr) (kc : Nat) (z0 z1 z2 z3 z4 port climbs at_ : Int) (u0 u1 u2 u3 u4 t3 t4 t5 : Tok) : Prop :=
  ∀ (B : Below A₀ g [] g) (X : (hd.heap_1 w.params).In g) (T : Top topProg loose mean mg mb g) (C : CodeHd g 70 66) (C2 : CodeHd g 77 73) (C3 : CodeHd g 154 152) (hd9 : dp + 32 < recursionLimit) (hu9 : un + 300 < cLine) (F : Fr g L s.heap (fun y => if y = Str.ofString "port" then some (.int port t5) else if y = Str.ofString "climbs" then some (.int climbs t4) else if y = Str.ofString "at" then some (.int at_ t3) else if y = Str.ofString "script" then some (.ref al) else none)) (N : News g L s.heap ((Dc, listOf #[.int z0 u0, .int z1 u1, .int z2 u2, .int z3 u3, .int z4 u4] kc) :: (L + 1 + 1 + 1, o3) :: (L + 1 + 1 + 1 + 1 + 1 + 1 + 1 + 1, o8) :: R)) (e3 : o3.data = .cell (some (.ref Dc))) (e8 : o8.data = .cell none) (hR8 : ∀ q ∈ R, q.1 ≠ L + 1 + 1 + 1 + 1 + 1 + 1 + 1 + 1) (q8 : @Ne Nat Dc (L + 1 + 1 + 1 + 1 + 1 + 1 + 1 + 1)) (l1 : @LT.lt Nat _ 160 L) (ret : ∀ (h' : Heap) (tk' : Nat) (mark : Str) (dress : Int) (Dh Di Dq : Addr) (o8' : Obj) (t6 t7 v1 v2 v3 : Tok), (mark = Str.ofString "|" ∨ mark = Str.ofString "!" ∨ mark = Str.ofString ";" ∨ mark = Str.ofString "~") → 0 ≤ dress → dress < 3 → Fr g L h' (fun y => if y = Str.ofString "heads" then some (.ref Dh) else if y = Str.ofString "insides" then some (.ref Di) else if y = Str.ofString "heard" then some (.ref Dq) else if y = Str.ofString "dress" then some (.int dress t7) else if y = Str.ofString "port" then some (.int port t5) else if y = Str.ofString "climbs" then some (.int climbs t4) else if y = Str.ofString "at" then some (.int at_ t3) else if y = Str.ofString "script" then some (.ref al) else none) → News g L h' ((Dq, listOf #[] 0) :: (Di, listOf #[] 0) :: (Dh, listOf #[.str (Str.ofString "229 (") v1, .str (Str.ofString "229 Extended ) (") v2, .str (Str.ofString "229(") v3] 0) :: (Dc, listOf #[.int z0 u0, .int z1 u1, .int z2 u2, .int z3 u3, .int z4 u4] kc) :: (L + 1 + 1 + 1, o3) :: (L + 1 + 1 + 1 + 1 + 1 + 1 + 1 + 1, o8') :: R) → o8'.data = .cell (some (.str mark t6)) → (∀ q ∈ ((Dc, listOf #[.int z0 u0, .int z1 u1, .int z2 u2, .int z3 u3, .int z4 u4] kc) :: (L + 1 + 1 + 1, o3) :: (L + 1 + 1 + 1 + 1 + 1 + 1 + 1 + 1, o8) :: R), q.1 < Dh) → @LT.lt Nat _ Dh Di → @LT.lt Nat _ Di Dq → qk .next { s with heap := h', toks := tk' }),
   wpAny (model PySem.Challenge.rw_ta0052_01.row.prog w) (ktrTop dp un gd (Str.ofString "law") (scopeOf (topStmt 22)) L a ccd (cellsFrom (L + 1) (scopeOf (topStmt 22)).names []) []) (execs (((bodyOf (topStmt 22)).take 12).drop 10) (envOfC (Str.ofString "law") (scopeOf (topStmt 22)) L a ccd)) qk ek s
abbrev lawS6.T : Type := Shared × (Flow → Shared → Prop) × (Value → Shared → Prop) × (List (Addr × Obj)) × Obj × Obj × Addr × Addr × Nat × Int × Int × Int × Int × Int × Int × Int × Int × Tok × Tok × Tok × Tok × Tok × Tok × Tok × Tok
theorem lawS6.ne : Nonempty lawS6.T := ⟨({}, fun _ _ => True, fun _ _ => True, [], default, default, 0, 0, 0, 0, 0, 0, 0, 0, 0, 0, 0, 0, 0, 0, 0, 0, 0, 0, 0)⟩
noncomputable def lawS6.Q (c : lawS6.T) : Prop := lawS6.R c.1 c.2.1 c.2.2.1 c.2.2.2.1 c.2.2.2.2.1 c.2.2.2.2.2.1 c.2.2.2.2.2.2.1 c.2.2.2.2.2.2.2.1 c.2.2.2.2.2.2.2.2.1 c.2.2.2.2.2.2.2.2.2.1 c.2.2.2.2.2.2.2.2.2.2.1 c.2.2.2.2.2.2.2.2.2.2.2.1 c.2.2.2.2.2.2.2.2.2.2.2.2.1 c.2.2.2.2.2.2.2.2.2.2.2.2.2.1 c.2.2.2.2.2.2.2.2.2.2.2.2.2.2.1 c.2.2.2.2.2.2.2.2.2.2.2.2.2.2.2.1 c.2.2.2.2.2.2.2.2.2.2.2.2.2.2.2.2.1 c.2.2.2.2.2.2.2.2.2.2.2.2.2.2.2.2.2.1 c.2.2.2.2.2.2.2.2.2.2.2.2.2.2.2.2.2.2.1 c.2.2.2.2.2.2.2.2.2.2.2.2.2.2.2.2.2.2.2.1 c.2.2.2.2.2.2.2.2.2.2.2.2.2.2.2.2.2.2.2.2.1 c.2.2.2.2.2.2.2.2.2.2.2.2.2.2.2.2.2.2.2.2.2.1 c.2.2.2.2.2.2.2.2.2.2.2.2.2.2.2.2.2.2.2.2.2.2.1 c.2.2.2.2.2.2.2.2.2.2.2.2.2.2.2.2.2.2.2.2.2.2.2.1 c.2.2.2.2.2.2.2.2.2.2.2.2.2.2.2.2.2.2.2.2.2.2.2.2
noncomputable def lawS6.c : lawS6.T := Classical.epsilon (h := lawS6.ne) fun c => ¬ lawS6.Q c
namespace lawS6K
@[irreducible] noncomputable def s := lawS6.c.1
@[irreducible] noncomputable def qk := lawS6.c.2.1
@[irreducible] noncomputable def ek := lawS6.c.2.2.1
@[irreducible] noncomputable def R := lawS6.c.2.2.2.1
@[irreducible] noncomputable def o3 := lawS6.c.2.2.2.2.1
@[irreducible] noncomputable def o8 := lawS6.c.2.2.2.2.2.1
@[irreducible] noncomputable def Dc := lawS6.c.2.2.2.2.2.2.1
@[irreducible] noncomputable def al := lawS6.c.2.2.2.2.2.2.2.1
@[irreducible] noncomputable def kc := lawS6.c.2.2.2.2.2.2.2.2.1
@[irreducible] noncomputable def z0 := lawS6.c.2.2.2.2.2.2.2.2.2.1
@[irreducible] noncomputable def z1 := lawS6.c.2.2.2.2.2.2.2.2.2.2.1
@[irreducible] noncomputable def z2 := lawS6.c.2.2.2.2.2.2.2.2.2.2.2.1
@[irreducible] noncomputable def z3 := lawS6.c.2.2.2.2.2.2.2.2.2.2.2.2.1
@[irreducible] noncomputable def z4 := lawS6.c.2.2.2.2.2.2.2.2.2.2.2.2.2.1
@[irreducible] noncomputable def port := lawS6.c.2.2.2.2.2.2.2.2.2.2.2.2.2.2.1
@[irreducible] noncomputable def climbs := lawS6.c.2.2.2.2.2.2.2.2.2.2.2.2.2.2.2.1
@[irreducible] noncomputable def at_ := lawS6.c.2.2.2.2.2.2.2.2.2.2.2.2.2.2.2.2.1
@[irreducible] noncomputable def u0 := lawS6.c.2.2.2.2.2.2.2.2.2.2.2.2.2.2.2.2.2.1
@[irreducible] noncomputable def u1 := lawS6.c.2.2.2.2.2.2.2.2.2.2.2.2.2.2.2.2.2.2.1
@[irreducible] noncomputable def u2 := lawS6.c.2.2.2.2.2.2.2.2.2.2.2.2.2.2.2.2.2.2.2.1
@[irreducible] noncomputable def u3 := lawS6.c.2.2.2.2.2.2.2.2.2.2.2.2.2.2.2.2.2.2.2.2.1
@[irreducible] noncomputable def u4 := lawS6.c.2.2.2.2.2.2.2.2.2.2.2.2.2.2.2.2.2.2.2.2.2.1
@[irreducible] noncomputable def t3 := lawS6.c.2.2.2.2.2.2.2.2.2.2.2.2.2.2.2.2.2.2.2.2.2.2.1
@[irreducible] noncomputable def t4 := lawS6.c.2.2.2.2.2.2.2.2.2.2.2.2.2.2.2.2.2.2.2.2.2.2.2.1
@[irreducible] noncomputable def t5 := lawS6.c.2.2.2.2.2.2.2.2.2.2.2.2.2.2.2.2.2.2.2.2.2.2.2.2
theorem main : lawS6.R s qk ek R o3 o8 Dc al kc z0 z1 z2 z3 z4 port climbs at_ u0 u1 u2 u3 u4 t3 t4 t5 := by
  intro B X T C C2 C3 hd9 hu9 F N e3 e8 hR8 q8 l1 ret
  refine cutG fun Pc kc => ?_
  obtain ⟨sc, hsc⟩ : ∃ sc, sc = scopeOf (topStmt 22) := ⟨_, rfl⟩
  refine kc ?_
  clear kc Pc
  rw [← hsc]
  conv at hsc => rhs; whnf
  subst hsc
  revert X T; k_fill; intro X T
  change wpAny _ _ (execs [_, _] _) _ _ _
  k_unmd
  have hm5 : 0 ≤ ([z0, z1, z2, z3, z4].getD (Int.toNat 4) 0).fmod 4 := Int.fmod_nonneg_of_pos _ (by omega)
  have hm6 : ([z0, z1, z2, z3, z4].getD (Int.toNat 4) 0).fmod 4 < 4 := Int.fmod_lt_of_pos _ (by omega)
  k_steps
  rename Fr _ _ _ _ => F8
  rename News _ _ _ _ => N8
  have lA := ‹_ ∧ _ ∧ _ ∧ _ ∧ AllLt _ R›
  refine ret _ _ _ _ _ _ _ _ _ _ _ _ _ (mark_or hm5 hm6) ?_ ?_ F8 (news_s6 N8) (by assumption) (allLt_mem lA.2) ?_ ?_
  · exact Int.fmod_nonneg_of_pos _ (by omega)
  · exact Int.fmod_lt_of_pos _ (by omega)
  · omega
  · omega
end lawS6K
theorem lawS6 (s : Shared) (qk : Flow → Shared → Prop) (ek : Value → Shared → Prop) (R : List (Addr × Obj)) (o3 o8 : Obj) (Dc al : Addr) (kc : Nat) (z0 z1 z2 z3 z4 port climbs at_ : Int) (u0 u1 u2 u3 u4 t3 t4 t5 : Tok) : lawS6.R s qk ek R o3 o8 Dc al kc z0 z1 z2 z3 z4 port climbs at_ u0 u1 u2 u3 u4 t3 t4 t5 := shut lawS6.ne (Q := lawS6.Q) (by with_unfolding_all exact lawS6K.main) (s, qk, ek, R, o3, o8, Dc, al, kc, z0, z1, z2, z3, z4, port, climbs, at_, u0, u1, u2, u3, u4, t3, t4, t5)
end
end
section
open _root_.PySem _root_.PySem.W _root_.PyProof.Rows
noncomputable def forBody : Stmt → List Stmt
  | .For _ _ b _ _ => b
  | _ => []
theorem mp7b (b v p1 p3 : Option Value) (f : Str → Option Value) (y : Str) : (if y = Str.ofString "told" then p1 else if y = Str.ofString "figures" then v else if y = Str.ofString "k" then p3 else f y) = (if y = Str.ofString "figures" then v else if y = Str.ofString "told" then p1 else if y = Str.ofString "figures" then b else if y = Str.ofString "k" then p3 else f y) := by
  by_cases e1 : y = Str.ofString "told"
  · subst e1; rfl
  · rw [if_neg e1]
    by_cases e2 : y = Str.ofString "figures"
    · rw [if_pos e2, if_pos e2]
    · rw [if_neg e2, if_neg e2, if_neg e1, if_neg e2]
theorem fr7c {g h : Heap} {L : Addr} {x : Str} {v b : Option Value} {f : Str → Option Value} (F : Fr g L h (fun y => if y = x then v else if y = x then b else f y)) : Fr g L h (fun y => if y = x then v else f y) := fr_eq F fun y => by
  by_cases e : y = x
  · rw [if_pos e, if_pos e]
  · rw [if_neg e, if_neg e, if_neg e]
theorem fr7k {g h : Heap} {L : Addr} {v p1 p2 p3 : Option Value} {f : Str → Option Value} (F : Fr g L h (fun y => if y = Str.ofString "k" then v else if y = Str.ofString "told" then p1 else if y = Str.ofString "figures" then p2 else if y = Str.ofString "k" then p3 else f y)) : Fr g L h (fun y => if y = Str.ofString "told" then p1 else if y = Str.ofString "figures" then p2 else if y = Str.ofString "k" then v else f y) := fr_eq F fun y => by
  by_cases e1 : y = Str.ofString "told"
  · subst e1; rfl
  · rw [if_neg e1]
    by_cases e2 : y = Str.ofString "figures"
    · subst e2; rfl
    · rw [if_neg e2]
      by_cases e3 : y = Str.ofString "k"
      · rw [if_pos e3, if_pos e3]
      · rw [if_neg e3, if_neg e3, if_neg e1, if_neg e2, if_neg e3]
theorem execs_app0 {M : Model} {Γ : Ctx} {env : Env} {ys : List Stmt} {Q : Flow → Pos → Shared → Prop} {E : Value → Pos → Shared → Prop} : ∀ {xs : List Stmt} {p : Pos} {s : Shared}, Sem.wp M Γ (execs xs env) (fun fl p' s' => match fl with | .next => Sem.wp M Γ (execs ys env) Q E p' s' | fl => Q fl p' s') E p s → Sem.wp M Γ (execs (xs ++ ys) env) Q E p s
  | [], p, s, h => h
  | x :: xs, p, s, h => by
    have h' : Sem.wp M Γ (exec x env >>= fun fl => match fl with | .next => execs xs env | f => pure f) (fun fl p' s' => match fl with | .next => Sem.wp M Γ (execs ys env) Q E p' s' | fl => Q fl p' s') E p s := h
    show Sem.wp M Γ (exec x env >>= fun fl => match fl with | .next => execs (xs ++ ys) env | f => pure f) Q E p s
    rw [Sem.wp_bind'] at h' ⊢
    refine Sem.wp_mono M Γ _ (fun fl p' s' h2 => ?_) (fun _ _ _ h2 => h2) p s h'
    cases fl with
    | next => exact execs_app0 h2
    | _ => exact h2
theorem execs_app {M : Model} {A : Around} {E : Value → Shared → Prop} {env : Env} {xs ys : List Stmt} {s : Shared} {Q : Flow → Shared → Prop} (h : wpAny M A (execs xs env) (fun fl s' => match fl with | .next => wpAny M A (execs ys env) Q E s' | fl => Q fl s') E s) : wpAny M A (execs (xs ++ ys) env) Q E s := fun Γ p hi => by
  refine execs_app0 (Sem.wp_mono M Γ _ (fun fl p' s' h2 => ?_) (fun _ _ _ h2 => h2) p s (h Γ p hi))
  cases fl with
  | next => exact h2 Γ p' hi
  | _ => exact h2
theorem fr7b {g h : Heap} {L : Addr} {b v p1 p3 : Option Value} {f : Str → Option Value} (F : Fr g L h (fun y => if y = Str.ofString "figures" then v else if y = Str.ofString "told" then p1 else if y = Str.ofString "figures" then b else if y = Str.ofString "k" then p3 else f y)) : Fr g L h (fun y => if y = Str.ofString "told" then p1 else if y = Str.ofString "figures" then v else if y = Str.ofString "k" then p3 else f y) := fr_eq F fun y => mp7b b v p1 p3 f y
theorem add_len {prog : Program} {w : World} {A : Around} {E : Value → Shared → Prop} {s : Shared} {x y : Str} {t u : Tok} {Q : Value → Shared → Prop} (hsz : x.length + y.length ≤ 1000) (h : ∀ t' k, Q (.str (x ++ y) t') { s with toks := k }) : wpAny (model prog w) A (binaryOp .Add (.str x t) (.str y u)) Q E s := SB.add h (by rw [sizeLine_eq]; omega)
theorem sl0 : (Str.ofString "").length = 0 := by decide +kernel
theorem sl1 : (Str.ofString "1").length = 1 := by decide +kernel
theorem sl2 : (Str.ofString "h 2").length = 3 := by decide +kernel
theorem sl3 : (Str.ofString "h").length = 1 := by decide +kernel
theorem sl4 : (Str.ofString "b").length = 1 := by decide +kernel
theorem sl5 : (Str.ofString "00").length = 2 := by decide +kernel
theorem sl6 : (Str.ofString " +").length = 2 := by decide +kernel
theorem sl7 : (Str.ofString " ").length = 1 := by decide +kernel
theorem sl8 : (Str.ofString " a) (").length = 5 := by decide +kernel
theorem sl9 : (Str.ofString ")").length = 1 := by decide +kernel
theorem sl10 : (Str.ofString "229 (").length = 5 := by decide +kernel
theorem sl11 : (Str.ofString "229 Extended ) (").length = 16 := by decide +kernel
theorem sl12 : (Str.ofString "229(").length = 4 := by decide +kernel
theorem so0 : (Str.ofString "227").length = 3 := by decide +kernel
theorem so1 : (Str.ofString ")").length = 1 := by decide +kernel
theorem so2 : (Str.ofString "229 ").length = 4 := by decide +kernel
theorem so3 : (Str.ofString "229 272)").length = 8 := by decide +kernel
theorem so4 : (Str.ofString "x)").length = 2 := by decide +kernel
theorem sq0 : (Str.ofString "257 \"").length = 5 := by decide +kernel
theorem sq1 : (Str.ofString "\"").length = 1 := by decide +kernel
theorem sq2 : (Str.ofString " made").length = 5 := by decide +kernel
theorem sq3 : (Str.ofString " \"b\" (1)").length = 8 := by decide +kernel
theorem sz1 : (Str.ofString ")").length = 1 := by decide +kernel
end
section
open _root_.PySem _root_.PySem.W _root_.PyProof.Rows
local macro_rules | `(tactic| walk_at "binaryOp Add str str") => rowR `add_len "qI"
local macro_rules | `(tactic| walk_at "my q") => `(tactic| ((try simp only [PySem.Str.length_append, sl0, sl1, sl2, sl3, sl4, sl5, sl6, sl7, sl8, sl9, sl10, sl11, sl12, so0, so1, so2, so3, so4, sq0, sq1, sq2, sq3, sz1]); omega))
local macro_rules | `(tactic| walk_at "getMethod ref") => rowR `kl_method "amFG"
local macro_rules | `(tactic| walk_at "callWith") => rowR `callWith_method1 ""
local macro_rules | `(tactic| walk_at "call ref") => rowR `port_num "saaaarasoo.......LI"
section
open _root_.PySem _root_.PySem.W _root_.PyProof.Rows
theorem fresh_27 : True := by (w_top off); exact trivial
open LC
section
theorem lawS7a0 (s : Shared) (qk : Flow → Shared → Prop) (ek : Value → Shared → Prop)
   (R : List (Addr × Obj)) (Dh Di Dq al : Addr) (port climbs at_ dress : Int) (t3 t4 t5 t7 tk : Tok) (p1 p2 : Option Value)
    (B : Below A₀ g [] g) (X : (hd.heap_1 w.params).In g) (T : Top topProg loose mean mg mb g) (C : CodeHd g 70 66) (C2 : CodeHd g 77 73) (C3 : CodeHd g 154 152) (hd9 : dp + 32 < recursionLimit) (hu9 : un + 300 < cLine) (F : Fr g L s.heap (fun y => if y = Str.ofString "told" then p1 else if y = Str.ofString "figures" then p2 else if y = Str.ofString "k" then some (.int 0 tk) else if y = Str.ofString "heads" then some (.ref Dh) else if y = Str.ofString "insides" then some (.ref Di) else if y = Str.ofString "heard" then some (.ref Dq) else if y = Str.ofString "dress" then some (.int dress t7) else if y = Str.ofString "port" then some (.int port t5) else if y = Str.ofString "climbs" then some (.int climbs t4) else if y = Str.ofString "at" then some (.int at_ t3) else if y = Str.ofString "script" then some (.ref al) else none)) (N : News g L s.heap R) (hp0 : 0 ≤ port) (hp60 : port < 60) (hnl : (Str.ofString (toString port)).length ≤ 10) (l1 : @LT.lt Nat _ 160 L) (ret : ∀ (h' : Heap) (tk' : Nat) (tf : Tok), Fr g L h' (fun y => if y = Str.ofString "told" then p1 else if y = Str.ofString "figures" then some (.str (Str.ofString (toString port)) tf) else if y = Str.ofString "k" then some (.int 0 tk) else if y = Str.ofString "heads" then some (.ref Dh) else if y = Str.ofString "insides" then some (.ref Di) else if y = Str.ofString "heard" then some (.ref Dq) else if y = Str.ofString "dress" then some (.int dress t7) else if y = Str.ofString "port" then some (.int port t5) else if y = Str.ofString "climbs" then some (.int climbs t4) else if y = Str.ofString "at" then some (.int at_ t3) else if y = Str.ofString "script" then some (.ref al) else none) → News g L h' R → qk .next { s with heap := h', toks := tk' }) :
   wpAny (model PySem.Challenge.rw_ta0052_01.row.prog w) (ktrTop dp un gd (Str.ofString "law") (scopeOf (topStmt 22)) L a ccd (cellsFrom (L + 1) (scopeOf (topStmt 22)).names []) []) (execs (((forBody ((bodyOf (topStmt 22)).getD 12 (.Pass default))).take 1).drop 0) (envOfC (Str.ofString "law") (scopeOf (topStmt 22)) L a ccd)) qk ek s := by
  refine cutG fun Pc kc => ?_
  obtain ⟨sc, hsc⟩ : ∃ sc, sc = scopeOf (topStmt 22) := ⟨_, rfl⟩
  refine kc ?_
  clear kc Pc
  rw [← hsc]
  conv at hsc => rhs; whnf
  subst hsc
  revert X T; k_fill; intro X T
  change wpAny _ _ (execs [_] _) _ _ _
  k_unmd
  k_steps
  rename Fr _ _ _ _ => F8
  rename News _ _ _ _ => N8
  exact ret _ _ _ (fr7b F8) (news_tail N8)
theorem lawS7a1 (s : Shared) (qk : Flow → Shared → Prop) (ek : Value → Shared → Prop)
   (R : List (Addr × Obj)) (Dh Di Dq al : Addr) (port climbs at_ dress : Int) (t3 t4 t5 t7 tk : Tok) (p1 p2 : Option Value)
    (B : Below A₀ g [] g) (X : (hd.heap_1 w.params).In g) (T : Top topProg loose mean mg mb g) (C : CodeHd g 70 66) (C2 : CodeHd g 77 73) (C3 : CodeHd g 154 152) (hd9 : dp + 32 < recursionLimit) (hu9 : un + 300 < cLine) (F : Fr g L s.heap (fun y => if y = Str.ofString "told" then p1 else if y = Str.ofString "figures" then p2 else if y = Str.ofString "k" then some (.int 1 tk) else if y = Str.ofString "heads" then some (.ref Dh) else if y = Str.ofString "insides" then some (.ref Di) else if y = Str.ofString "heard" then some (.ref Dq) else if y = Str.ofString "dress" then some (.int dress t7) else if y = Str.ofString "port" then some (.int port t5) else if y = Str.ofString "climbs" then some (.int climbs t4) else if y = Str.ofString "at" then some (.int at_ t3) else if y = Str.ofString "script" then some (.ref al) else none)) (N : News g L s.heap R) (hp0 : 0 ≤ port) (hp60 : port < 60) (hnl : (Str.ofString (toString port)).length ≤ 10) (l1 : @LT.lt Nat _ 160 L) (ret : ∀ (h' : Heap) (tk' : Nat) (tf : Tok), Fr g L h' (fun y => if y = Str.ofString "told" then p1 else if y = Str.ofString "figures" then some (.str ((Str.ofString "00" ++ Str.ofString (toString port))) tf) else if y = Str.ofString "k" then some (.int 1 tk) else if y = Str.ofString "heads" then some (.ref Dh) else if y = Str.ofString "insides" then some (.ref Di) else if y = Str.ofString "heard" then some (.ref Dq) else if y = Str.ofString "dress" then some (.int dress t7) else if y = Str.ofString "port" then some (.int port t5) else if y = Str.ofString "climbs" then some (.int climbs t4) else if y = Str.ofString "at" then some (.int at_ t3) else if y = Str.ofString "script" then some (.ref al) else none) → News g L h' R → qk .next { s with heap := h', toks := tk' }) :
   wpAny (model PySem.Challenge.rw_ta0052_01.row.prog w) (ktrTop dp un gd (Str.ofString "law") (scopeOf (topStmt 22)) L a ccd (cellsFrom (L + 1) (scopeOf (topStmt 22)).names []) []) (execs (((forBody ((bodyOf (topStmt 22)).getD 12 (.Pass default))).take 1).drop 0) (envOfC (Str.ofString "law") (scopeOf (topStmt 22)) L a ccd)) qk ek s := by
  refine cutG fun Pc kc => ?_
  obtain ⟨sc, hsc⟩ : ∃ sc, sc = scopeOf (topStmt 22) := ⟨_, rfl⟩
  refine kc ?_
  clear kc Pc
  rw [← hsc]
  conv at hsc => rhs; whnf
  subst hsc
  revert X T; k_fill; intro X T
  change wpAny _ _ (execs [_] _) _ _ _
  k_unmd
  k_steps
  rename Fr _ _ _ _ => F8
  rename News _ _ _ _ => N8
  exact ret _ _ _ (fr7b F8) (news_tail N8)
theorem lawS7a2 (s : Shared) (qk : Flow → Shared → Prop) (ek : Value → Shared → Prop)
   (R : List (Addr × Obj)) (Dh Di Dq al : Addr) (port climbs at_ dress : Int) (t3 t4 t5 t7 tk : Tok) (p1 p2 : Option Value)
    (B : Below A₀ g [] g) (X : (hd.heap_1 w.params).In g) (T : Top topProg loose mean mg mb g) (C : CodeHd g 70 66) (C2 : CodeHd g 77 73) (C3 : CodeHd g 154 152) (hd9 : dp + 32 < recursionLimit) (hu9 : un + 300 < cLine) (F : Fr g L s.heap (fun y => if y = Str.ofString "told" then p1 else if y = Str.ofString "figures" then p2 else if y = Str.ofString "k" then some (.int 2 tk) else if y = Str.ofString "heads" then some (.ref Dh) else if y = Str.ofString "insides" then some (.ref Di) else if y = Str.ofString "heard" then some (.ref Dq) else if y = Str.ofString "dress" then some (.int dress t7) else if y = Str.ofString "port" then some (.int port t5) else if y = Str.ofString "climbs" then some (.int climbs t4) else if y = Str.ofString "at" then some (.int at_ t3) else if y = Str.ofString "script" then some (.ref al) else none)) (N : News g L s.heap R) (hp0 : 0 ≤ port) (hp60 : port < 60) (hnl : (Str.ofString (toString port)).length ≤ 10) (l1 : @LT.lt Nat _ 160 L) (ret : ∀ (h' : Heap) (tk' : Nat) (tf : Tok), Fr g L h' (fun y => if y = Str.ofString "told" then p1 else if y = Str.ofString "figures" then some (.str ((Str.ofString " +" ++ Str.ofString (toString port) ++ Str.ofString " ")) tf) else if y = Str.ofString "k" then some (.int 2 tk) else if y = Str.ofString "heads" then some (.ref Dh) else if y = Str.ofString "insides" then some (.ref Di) else if y = Str.ofString "heard" then some (.ref Dq) else if y = Str.ofString "dress" then some (.int dress t7) else if y = Str.ofString "port" then some (.int port t5) else if y = Str.ofString "climbs" then some (.int climbs t4) else if y = Str.ofString "at" then some (.int at_ t3) else if y = Str.ofString "script" then some (.ref al) else none) → News g L h' R → qk .next { s with heap := h', toks := tk' }) :
   wpAny (model PySem.Challenge.rw_ta0052_01.row.prog w) (ktrTop dp un gd (Str.ofString "law") (scopeOf (topStmt 22)) L a ccd (cellsFrom (L + 1) (scopeOf (topStmt 22)).names []) []) (execs (((forBody ((bodyOf (topStmt 22)).getD 12 (.Pass default))).take 1).drop 0) (envOfC (Str.ofString "law") (scopeOf (topStmt 22)) L a ccd)) qk ek s := by
  refine cutG fun Pc kc => ?_
  obtain ⟨sc, hsc⟩ : ∃ sc, sc = scopeOf (topStmt 22) := ⟨_, rfl⟩
  refine kc ?_
  clear kc Pc
  rw [← hsc]
  conv at hsc => rhs; whnf
  subst hsc
  revert X T; k_fill; intro X T
  change wpAny _ _ (execs [_] _) _ _ _
  k_unmd
  k_steps
  rename Fr _ _ _ _ => F8
  rename News _ _ _ _ => N8
  exact ret _ _ _ (fr7b F8) (news_tail N8)
end
end
section
open _root_.PySem _root_.PySem.W _root_.PyProof.Rows
theorem fresh_28 : True := by (w_top off); exact trivial
open LC
section
theorem lawS7b0 (s : Shared) (qk : Flow → Shared → Prop) (ek : Value → Shared → Prop)
   (R : List (Addr × Obj)) (o8 : Obj) (mark fig : Str) (n : Nat) (t6 tf : Tok) (Dh Di Dq al : Addr) (port climbs at_ dress : Int) (t3 t4 t5 t7 tk : Tok) (p1 : Option Value)
    (B : Below A₀ g [] g) (X : (hd.heap_1 w.params).In g) (T : Top topProg loose mean mg mb g) (C : CodeHd g 70 66) (C2 : CodeHd g 77 73) (C3 : CodeHd g 154 152) (hd9 : dp + 32 < recursionLimit) (hu9 : un + 300 < cLine) (F : Fr g L s.heap (fun y => if y = Str.ofString "told" then p1 else if y = Str.ofString "figures" then some (.str fig tf) else if y = Str.ofString "k" then some (.int 0 tk) else if y = Str.ofString "heads" then some (.ref Dh) else if y = Str.ofString "insides" then some (.ref Di) else if y = Str.ofString "heard" then some (.ref Dq) else if y = Str.ofString "dress" then some (.int dress t7) else if y = Str.ofString "port" then some (.int port t5) else if y = Str.ofString "climbs" then some (.int climbs t4) else if y = Str.ofString "at" then some (.int at_ t3) else if y = Str.ofString "script" then some (.ref al) else none)) (N : News g L s.heap ((Di, listOf #[] n) :: (L + 1 + 1 + 1 + 1 + 1 + 1 + 1 + 1, o8) :: R)) (e8 : o8.data = .cell (some (.str mark t6))) (hmk : mark.length = 1) (hfl : fig.length ≤ 20) (hRi : ∀ q ∈ R, q.1 ≠ Di) (hli : @LT.lt Nat _ (L + 1 + 1 + 1 + 1 + 1 + 1 + 1 + 1) Di) (l1 : @LT.lt Nat _ 160 L) (ret : ∀ (h' : Heap) (tk' : Nat) (ti : Tok), Fr g L h' (fun y => if y = Str.ofString "told" then p1 else if y = Str.ofString "figures" then some (.str fig tf) else if y = Str.ofString "k" then some (.int 0 tk) else if y = Str.ofString "heads" then some (.ref Dh) else if y = Str.ofString "insides" then some (.ref Di) else if y = Str.ofString "heard" then some (.ref Dq) else if y = Str.ofString "dress" then some (.int dress t7) else if y = Str.ofString "port" then some (.int port t5) else if y = Str.ofString "climbs" then some (.int climbs t4) else if y = Str.ofString "at" then some (.int at_ t3) else if y = Str.ofString "script" then some (.ref al) else none) → News g L h' ((Di, listOf (#[].push (.str (mark ++ Str.ofString "" ++ mark ++ Str.ofString "" ++ mark ++ fig ++ mark) ti)) (n + 1)) :: (L + 1 + 1 + 1 + 1 + 1 + 1 + 1 + 1, o8) :: R) → qk .next { s with heap := h', toks := tk' }) :
   wpAny (model PySem.Challenge.rw_ta0052_01.row.prog w) (ktrTop dp un gd (Str.ofString "law") (scopeOf (topStmt 22)) L a ccd (cellsFrom (L + 1) (scopeOf (topStmt 22)).names []) []) (execs (((forBody ((bodyOf (topStmt 22)).getD 12 (.Pass default))).take 2).drop 1) (envOfC (Str.ofString "law") (scopeOf (topStmt 22)) L a ccd)) qk ek s := by
  refine cutG fun Pc kc => ?_
  obtain ⟨sc, hsc⟩ : ∃ sc, sc = scopeOf (topStmt 22) := ⟨_, rfl⟩
  refine kc ?_
  clear kc Pc
  rw [← hsc]
  conv at hsc => rhs; whnf
  subst hsc
  revert X T; k_fill; intro X T
  change wpAny _ _ (execs [_] _) _ _ _
  k_unmd
  k_steps
  rename Fr _ _ _ _ => F8
  rename News _ _ _ _ => N8
  exact ret _ _ _ F8 (news_tail (news_tail N8))
theorem lawS7b1 (s : Shared) (qk : Flow → Shared → Prop) (ek : Value → Shared → Prop)
   (R : List (Addr × Obj)) (o8 : Obj) (mark fig : Str) (n : Nat) (t6 tf : Tok) (x0 : Str) (a0 : Tok) (Dh Di Dq al : Addr) (port climbs at_ dress : Int) (t3 t4 t5 t7 tk : Tok) (p1 : Option Value)
    (B : Below A₀ g [] g) (X : (hd.heap_1 w.params).In g) (T : Top topProg loose mean mg mb g) (C : CodeHd g 70 66) (C2 : CodeHd g 77 73) (C3 : CodeHd g 154 152) (hd9 : dp + 32 < recursionLimit) (hu9 : un + 300 < cLine) (F : Fr g L s.heap (fun y => if y = Str.ofString "told" then p1 else if y = Str.ofString "figures" then some (.str fig tf) else if y = Str.ofString "k" then some (.int 1 tk) else if y = Str.ofString "heads" then some (.ref Dh) else if y = Str.ofString "insides" then some (.ref Di) else if y = Str.ofString "heard" then some (.ref Dq) else if y = Str.ofString "dress" then some (.int dress t7) else if y = Str.ofString "port" then some (.int port t5) else if y = Str.ofString "climbs" then some (.int climbs t4) else if y = Str.ofString "at" then some (.int at_ t3) else if y = Str.ofString "script" then some (.ref al) else none)) (N : News g L s.heap ((Di, listOf #[.str x0 a0] n) :: (L + 1 + 1 + 1 + 1 + 1 + 1 + 1 + 1, o8) :: R)) (e8 : o8.data = .cell (some (.str mark t6))) (hmk : mark.length = 1) (hfl : fig.length ≤ 20) (hRi : ∀ q ∈ R, q.1 ≠ Di) (hli : @LT.lt Nat _ (L + 1 + 1 + 1 + 1 + 1 + 1 + 1 + 1) Di) (l1 : @LT.lt Nat _ 160 L) (ret : ∀ (h' : Heap) (tk' : Nat) (ti : Tok), Fr g L h' (fun y => if y = Str.ofString "told" then p1 else if y = Str.ofString "figures" then some (.str fig tf) else if y = Str.ofString "k" then some (.int 1 tk) else if y = Str.ofString "heads" then some (.ref Dh) else if y = Str.ofString "insides" then some (.ref Di) else if y = Str.ofString "heard" then some (.ref Dq) else if y = Str.ofString "dress" then some (.int dress t7) else if y = Str.ofString "port" then some (.int port t5) else if y = Str.ofString "climbs" then some (.int climbs t4) else if y = Str.ofString "at" then some (.int at_ t3) else if y = Str.ofString "script" then some (.ref al) else none) → News g L h' ((Di, listOf (#[.str x0 a0].push (.str (mark ++ Str.ofString "1" ++ mark ++ Str.ofString "h" ++ mark ++ fig ++ mark) ti)) (n + 1)) :: (L + 1 + 1 + 1 + 1 + 1 + 1 + 1 + 1, o8) :: R) → qk .next { s with heap := h', toks := tk' }) :
   wpAny (model PySem.Challenge.rw_ta0052_01.row.prog w) (ktrTop dp un gd (Str.ofString "law") (scopeOf (topStmt 22)) L a ccd (cellsFrom (L + 1) (scopeOf (topStmt 22)).names []) []) (execs (((forBody ((bodyOf (topStmt 22)).getD 12 (.Pass default))).take 2).drop 1) (envOfC (Str.ofString "law") (scopeOf (topStmt 22)) L a ccd)) qk ek s := by
  refine cutG fun Pc kc => ?_
  obtain ⟨sc, hsc⟩ : ∃ sc, sc = scopeOf (topStmt 22) := ⟨_, rfl⟩
  refine kc ?_
  clear kc Pc
  rw [← hsc]
  conv at hsc => rhs; whnf
  subst hsc
  revert X T; k_fill; intro X T
  change wpAny _ _ (execs [_] _) _ _ _
  k_unmd
  k_steps
  rename Fr _ _ _ _ => F8
  rename News _ _ _ _ => N8
  exact ret _ _ _ F8 (news_tail (news_tail N8))
theorem lawS7b2 (s : Shared) (qk : Flow → Shared → Prop) (ek : Value → Shared → Prop)
   (R : List (Addr × Obj)) (o8 : Obj) (mark fig : Str) (n : Nat) (t6 tf : Tok) (x0 : Str) (a0 : Tok) (x1 : Str) (a1 : Tok) (Dh Di Dq al : Addr) (port climbs at_ dress : Int) (t3 t4 t5 t7 tk : Tok) (p1 : Option Value)
    (B : Below A₀ g [] g) (X : (hd.heap_1 w.params).In g) (T : Top topProg loose mean mg mb g) (C : CodeHd g 70 66) (C2 : CodeHd g 77 73) (C3 : CodeHd g 154 152) (hd9 : dp + 32 < recursionLimit) (hu9 : un + 300 < cLine) (F : Fr g L s.heap (fun y => if y = Str.ofString "told" then p1 else if y = Str.ofString "figures" then some (.str fig tf) else if y = Str.ofString "k" then some (.int 2 tk) else if y = Str.ofString "heads" then some (.ref Dh) else if y = Str.ofString "insides" then some (.ref Di) else if y = Str.ofString "heard" then some (.ref Dq) else if y = Str.ofString "dress" then some (.int dress t7) else if y = Str.ofString "port" then some (.int port t5) else if y = Str.ofString "climbs" then some (.int climbs t4) else if y = Str.ofString "at" then some (.int at_ t3) else if y = Str.ofString "script" then some (.ref al) else none)) (N : News g L s.heap ((Di, listOf #[.str x0 a0, .str x1 a1] n) :: (L + 1 + 1 + 1 + 1 + 1 + 1 + 1 + 1, o8) :: R)) (e8 : o8.data = .cell (some (.str mark t6))) (hmk : mark.length = 1) (hfl : fig.length ≤ 20) (hRi : ∀ q ∈ R, q.1 ≠ Di) (hli : @LT.lt Nat _ (L + 1 + 1 + 1 + 1 + 1 + 1 + 1 + 1) Di) (l1 : @LT.lt Nat _ 160 L) (ret : ∀ (h' : Heap) (tk' : Nat) (ti : Tok), Fr g L h' (fun y => if y = Str.ofString "told" then p1 else if y = Str.ofString "figures" then some (.str fig tf) else if y = Str.ofString "k" then some (.int 2 tk) else if y = Str.ofString "heads" then some (.ref Dh) else if y = Str.ofString "insides" then some (.ref Di) else if y = Str.ofString "heard" then some (.ref Dq) else if y = Str.ofString "dress" then some (.int dress t7) else if y = Str.ofString "port" then some (.int port t5) else if y = Str.ofString "climbs" then some (.int climbs t4) else if y = Str.ofString "at" then some (.int at_ t3) else if y = Str.ofString "script" then some (.ref al) else none) → News g L h' ((Di, listOf (#[.str x0 a0, .str x1 a1].push (.str (mark ++ Str.ofString "h 2" ++ mark ++ Str.ofString "b" ++ mark ++ fig ++ mark) ti)) (n + 1)) :: (L + 1 + 1 + 1 + 1 + 1 + 1 + 1 + 1, o8) :: R) → qk .next { s with heap := h', toks := tk' }) :
   wpAny (model PySem.Challenge.rw_ta0052_01.row.prog w) (ktrTop dp un gd (Str.ofString "law") (scopeOf (topStmt 22)) L a ccd (cellsFrom (L + 1) (scopeOf (topStmt 22)).names []) []) (execs (((forBody ((bodyOf (topStmt 22)).getD 12 (.Pass default))).take 2).drop 1) (envOfC (Str.ofString "law") (scopeOf (topStmt 22)) L a ccd)) qk ek s := by
  refine cutG fun Pc kc => ?_
  obtain ⟨sc, hsc⟩ : ∃ sc, sc = scopeOf (topStmt 22) := ⟨_, rfl⟩
  refine kc ?_
  clear kc Pc
  rw [← hsc]
  conv at hsc => rhs; whnf
  subst hsc
  revert X T; k_fill; intro X T
  change wpAny _ _ (execs [_] _) _ _ _
  k_unmd
  k_steps
  rename Fr _ _ _ _ => F8
  rename News _ _ _ _ => N8
  exact ret _ _ _ F8 (news_tail (news_tail N8))
end
end
section
open _root_.PySem _root_.PySem.W _root_.PyProof.Rows
theorem fresh_29 : True := by (w_top off); exact trivial
open LC
section
theorem lawS7c0 (s : Shared) (qk : Flow → Shared → Prop) (ek : Value → Shared → Prop)
   (R : List (Addr × Obj)) (n nq : Nat) (v1 v2 v3 : Tok) (x0 : Str) (a0 : Tok) (Dh Di Dq al : Addr) (port climbs at_ dress : Int) (t3 t4 t5 t7 tk : Tok) (p1 p2 : Option Value)
    (B : Below A₀ g [] g) (X : (hd.heap_1 w.params).In g) (T : Top topProg loose mean mg mb g) (C : CodeHd g 70 66) (C2 : CodeHd g 77 73) (C3 : CodeHd g 154 152) (hd9 : dp + 32 < recursionLimit) (hu9 : un + 300 < cLine) (F : Fr g L s.heap (fun y => if y = Str.ofString "told" then p1 else if y = Str.ofString "figures" then p2 else if y = Str.ofString "k" then some (.int 0 tk) else if y = Str.ofString "heads" then some (.ref Dh) else if y = Str.ofString "insides" then some (.ref Di) else if y = Str.ofString "heard" then some (.ref Dq) else if y = Str.ofString "dress" then some (.int dress t7) else if y = Str.ofString "port" then some (.int port t5) else if y = Str.ofString "climbs" then some (.int climbs t4) else if y = Str.ofString "at" then some (.int at_ t3) else if y = Str.ofString "script" then some (.ref al) else none)) (N : News g L s.heap ((Dq, listOf #[] nq) :: (Di, listOf #[.str x0 a0] n) :: (Dh, listOf #[.str (Str.ofString "229 (") v1, .str (Str.ofString "229 Extended ) (") v2, .str (Str.ofString "229(") v3] 0) :: R)) (hrep : RepOk (Str.ofString "229 (" ++ x0 ++ Str.ofString ")" ++ Str.ofString " a) (") (2, port)) (hxl : x0.length ≤ 60) (hp0 : 0 ≤ port) (hp60 : port < 60) (hRq : ∀ q ∈ R, q.1 ≠ Dq) (hiq : @LT.lt Nat _ Di Dq) (hhi : @LT.lt Nat _ Dh Di) (l1 : @LT.lt Nat _ 160 L) (ret : ∀ (h' : Heap) (tk' : Nat) (R0 : Addr) (tb : Tok), Fr g L h' (fun y => if y = Str.ofString "told" then some (.ref R0) else if y = Str.ofString "figures" then p2 else if y = Str.ofString "k" then some (.int 0 tk) else if y = Str.ofString "heads" then some (.ref Dh) else if y = Str.ofString "insides" then some (.ref Di) else if y = Str.ofString "heard" then some (.ref Dq) else if y = Str.ofString "dress" then some (.int dress t7) else if y = Str.ofString "port" then some (.int port t5) else if y = Str.ofString "climbs" then some (.int climbs t4) else if y = Str.ofString "at" then some (.int at_ t3) else if y = Str.ofString "script" then some (.ref al) else none) → News g L h' ((Dq, listOf (#[].push (.int port tb)) (nq + 1)) :: (Di, listOf #[.str x0 a0] n) :: (Dh, listOf #[.str (Str.ofString "229 (") v1, .str (Str.ofString "229 Extended ) (") v2, .str (Str.ofString "229(") v3] 0) :: R) → qk .next { s with heap := h', toks := tk' }) :
   wpAny (model PySem.Challenge.rw_ta0052_01.row.prog w) (ktrTop dp un gd (Str.ofString "law") (scopeOf (topStmt 22)) L a ccd (cellsFrom (L + 1) (scopeOf (topStmt 22)).names []) []) (execs (((forBody ((bodyOf (topStmt 22)).getD 12 (.Pass default))).take 5).drop 2) (envOfC (Str.ofString "law") (scopeOf (topStmt 22)) L a ccd)) qk ek s := by
  refine cutG fun Pc kc => ?_
  obtain ⟨sc, hsc⟩ : ∃ sc, sc = scopeOf (topStmt 22) := ⟨_, rfl⟩
  refine kc ?_
  clear kc Pc
  rw [← hsc]
  conv at hsc => rhs; whnf
  subst hsc
  revert X T; k_fill; intro X T
  change wpAny _ _ (execs [_, _, _] _) _ _ _
  k_unmd
  have i1 := portS w mean mg mb loose
  k_steps
  rename Fr _ _ _ _ => F8
  rename News _ _ _ _ => N8
  exact ret _ _ _ _ (fr7c F8) (news_tail (news_tail (news_tail N8)))
theorem lawS7c1 (s : Shared) (qk : Flow → Shared → Prop) (ek : Value → Shared → Prop)
   (R : List (Addr × Obj)) (n nq : Nat) (v1 v2 v3 : Tok) (x0 : Str) (a0 : Tok) (x1 : Str) (a1 : Tok) (b0 : Tok) (Dh Di Dq al : Addr) (port climbs at_ dress : Int) (t3 t4 t5 t7 tk : Tok) (p1 p2 : Option Value)
    (B : Below A₀ g [] g) (X : (hd.heap_1 w.params).In g) (T : Top topProg loose mean mg mb g) (C : CodeHd g 70 66) (C2 : CodeHd g 77 73) (C3 : CodeHd g 154 152) (hd9 : dp + 32 < recursionLimit) (hu9 : un + 300 < cLine) (F : Fr g L s.heap (fun y => if y = Str.ofString "told" then p1 else if y = Str.ofString "figures" then p2 else if y = Str.ofString "k" then some (.int 1 tk) else if y = Str.ofString "heads" then some (.ref Dh) else if y = Str.ofString "insides" then some (.ref Di) else if y = Str.ofString "heard" then some (.ref Dq) else if y = Str.ofString "dress" then some (.int dress t7) else if y = Str.ofString "port" then some (.int port t5) else if y = Str.ofString "climbs" then some (.int climbs t4) else if y = Str.ofString "at" then some (.int at_ t3) else if y = Str.ofString "script" then some (.ref al) else none)) (N : News g L s.heap ((Dq, listOf #[.int port b0] nq) :: (Di, listOf #[.str x0 a0, .str x1 a1] n) :: (Dh, listOf #[.str (Str.ofString "229 (") v1, .str (Str.ofString "229 Extended ) (") v2, .str (Str.ofString "229(") v3] 0) :: R)) (hrep : RepOk (Str.ofString "229 Extended ) (" ++ x1 ++ Str.ofString ")" ++ Str.ofString "") (2, port)) (hxl : x1.length ≤ 60) (hp0 : 0 ≤ port) (hp60 : port < 60) (hRq : ∀ q ∈ R, q.1 ≠ Dq) (hiq : @LT.lt Nat _ Di Dq) (hhi : @LT.lt Nat _ Dh Di) (l1 : @LT.lt Nat _ 160 L) (ret : ∀ (h' : Heap) (tk' : Nat) (R0 : Addr) (tb : Tok), Fr g L h' (fun y => if y = Str.ofString "told" then some (.ref R0) else if y = Str.ofString "figures" then p2 else if y = Str.ofString "k" then some (.int 1 tk) else if y = Str.ofString "heads" then some (.ref Dh) else if y = Str.ofString "insides" then some (.ref Di) else if y = Str.ofString "heard" then some (.ref Dq) else if y = Str.ofString "dress" then some (.int dress t7) else if y = Str.ofString "port" then some (.int port t5) else if y = Str.ofString "climbs" then some (.int climbs t4) else if y = Str.ofString "at" then some (.int at_ t3) else if y = Str.ofString "script" then some (.ref al) else none) → News g L h' ((Dq, listOf (#[.int port b0].push (.int port tb)) (nq + 1)) :: (Di, listOf #[.str x0 a0, .str x1 a1] n) :: (Dh, listOf #[.str (Str.ofString "229 (") v1, .str (Str.ofString "229 Extended ) (") v2, .str (Str.ofString "229(") v3] 0) :: R) → qk .next { s with heap := h', toks := tk' }) :
   wpAny (model PySem.Challenge.rw_ta0052_01.row.prog w) (ktrTop dp un gd (Str.ofString "law") (scopeOf (topStmt 22)) L a ccd (cellsFrom (L + 1) (scopeOf (topStmt 22)).names []) []) (execs (((forBody ((bodyOf (topStmt 22)).getD 12 (.Pass default))).take 5).drop 2) (envOfC (Str.ofString "law") (scopeOf (topStmt 22)) L a ccd)) qk ek s := by
  refine cutG fun Pc kc => ?_
  obtain ⟨sc, hsc⟩ : ∃ sc, sc = scopeOf (topStmt 22) := ⟨_, rfl⟩
  refine kc ?_
  clear kc Pc
  rw [← hsc]
  conv at hsc => rhs; whnf
  subst hsc
  revert X T; k_fill; intro X T
  change wpAny _ _ (execs [_, _, _] _) _ _ _
  k_unmd
  have i1 := portS w mean mg mb loose
  k_steps
  rename Fr _ _ _ _ => F8
  rename News _ _ _ _ => N8
  exact ret _ _ _ _ (fr7c F8) (news_tail (news_tail (news_tail N8)))
theorem lawS7c2 (s : Shared) (qk : Flow → Shared → Prop) (ek : Value → Shared → Prop)
   (R : List (Addr × Obj)) (n nq : Nat) (v1 v2 v3 : Tok) (x0 : Str) (a0 : Tok) (x1 : Str) (a1 : Tok) (x2 : Str) (a2 : Tok) (b0 : Tok) (b1 : Tok) (Dh Di Dq al : Addr) (port climbs at_ dress : Int) (t3 t4 t5 t7 tk : Tok) (p1 p2 : Option Value)
    (B : Below A₀ g [] g) (X : (hd.heap_1 w.params).In g) (T : Top topProg loose mean mg mb g) (C : CodeHd g 70 66) (C2 : CodeHd g 77 73) (C3 : CodeHd g 154 152) (hd9 : dp + 32 < recursionLimit) (hu9 : un + 300 < cLine) (F : Fr g L s.heap (fun y => if y = Str.ofString "told" then p1 else if y = Str.ofString "figures" then p2 else if y = Str.ofString "k" then some (.int 2 tk) else if y = Str.ofString "heads" then some (.ref Dh) else if y = Str.ofString "insides" then some (.ref Di) else if y = Str.ofString "heard" then some (.ref Dq) else if y = Str.ofString "dress" then some (.int dress t7) else if y = Str.ofString "port" then some (.int port t5) else if y = Str.ofString "climbs" then some (.int climbs t4) else if y = Str.ofString "at" then some (.int at_ t3) else if y = Str.ofString "script" then some (.ref al) else none)) (N : News g L s.heap ((Dq, listOf #[.int port b0, .int port b1] nq) :: (Di, listOf #[.str x0 a0, .str x1 a1, .str x2 a2] n) :: (Dh, listOf #[.str (Str.ofString "229 (") v1, .str (Str.ofString "229 Extended ) (") v2, .str (Str.ofString "229(") v3] 0) :: R)) (hrep : RepOk (Str.ofString "229(" ++ x2 ++ Str.ofString ")" ++ Str.ofString ")") (2, port)) (hxl : x2.length ≤ 60) (hp0 : 0 ≤ port) (hp60 : port < 60) (hRq : ∀ q ∈ R, q.1 ≠ Dq) (hiq : @LT.lt Nat _ Di Dq) (hhi : @LT.lt Nat _ Dh Di) (l1 : @LT.lt Nat _ 160 L) (ret : ∀ (h' : Heap) (tk' : Nat) (R0 : Addr) (tb : Tok), Fr g L h' (fun y => if y = Str.ofString "told" then some (.ref R0) else if y = Str.ofString "figures" then p2 else if y = Str.ofString "k" then some (.int 2 tk) else if y = Str.ofString "heads" then some (.ref Dh) else if y = Str.ofString "insides" then some (.ref Di) else if y = Str.ofString "heard" then some (.ref Dq) else if y = Str.ofString "dress" then some (.int dress t7) else if y = Str.ofString "port" then some (.int port t5) else if y = Str.ofString "climbs" then some (.int climbs t4) else if y = Str.ofString "at" then some (.int at_ t3) else if y = Str.ofString "script" then some (.ref al) else none) → News g L h' ((Dq, listOf (#[.int port b0, .int port b1].push (.int port tb)) (nq + 1)) :: (Di, listOf #[.str x0 a0, .str x1 a1, .str x2 a2] n) :: (Dh, listOf #[.str (Str.ofString "229 (") v1, .str (Str.ofString "229 Extended ) (") v2, .str (Str.ofString "229(") v3] 0) :: R) → qk .next { s with heap := h', toks := tk' }) :
   wpAny (model PySem.Challenge.rw_ta0052_01.row.prog w) (ktrTop dp un gd (Str.ofString "law") (scopeOf (topStmt 22)) L a ccd (cellsFrom (L + 1) (scopeOf (topStmt 22)).names []) []) (execs (((forBody ((bodyOf (topStmt 22)).getD 12 (.Pass default))).take 5).drop 2) (envOfC (Str.ofString "law") (scopeOf (topStmt 22)) L a ccd)) qk ek s := by
  refine cutG fun Pc kc => ?_
  obtain ⟨sc, hsc⟩ : ∃ sc, sc = scopeOf (topStmt 22) := ⟨_, rfl⟩
  refine kc ?_
  clear kc Pc
  rw [← hsc]
  conv at hsc => rhs; whnf
  subst hsc
  revert X T; k_fill; intro X T
  change wpAny _ _ (execs [_, _, _] _) _ _ _
  k_unmd
  have i1 := portS w mean mg mb loose
  k_steps
  rename Fr _ _ _ _ => F8
  rename News _ _ _ _ => N8
  exact ret _ _ _ _ (fr7c F8) (news_tail (news_tail (news_tail N8)))
end
end
end
section
open _root_.PySem _root_.PySem.W _root_.PyProof.Rows
theorem fresh_30 : True := by (w_top off); exact trivial
open LC
noncomputable def J7 (Dq Di : Addr) (mark : Str) (port : Int) (base : Str → Option Value) (Z : List (Addr × Obj)) (i : Nat) (m : Str → Option Value) (news : List (Addr × Obj)) : Prop :=
  ∃ (o1 o2 o3 : Option Value) (oq oi : Obj), m = (fun y => if y = Str.ofString "told" then o1 else if y = Str.ofString "figures" then o2 else if y = Str.ofString "k" then o3 else base y) ∧ news = (Dq, oq) :: (Di, oi) :: Z ∧
    ((i = 0 ∧ ∃ n nq, oq = listOf #[] nq ∧ oi = listOf #[] n) ∨
     (i = 1 ∧ ∃ n nq b0 a0, oq = listOf #[.int port b0] nq ∧ oi = listOf #[.str (mark ++ Str.ofString "" ++ mark ++ Str.ofString "" ++ mark ++ Str.ofString (toString port) ++ mark) a0] n) ∨
     (i = 2 ∧ ∃ n nq b0 a0 b1 a1, oq = listOf #[.int port b0, .int port b1] nq ∧ oi = listOf #[.str (mark ++ Str.ofString "" ++ mark ++ Str.ofString "" ++ mark ++ Str.ofString (toString port) ++ mark) a0, .str (mark ++ Str.ofString "1" ++ mark ++ Str.ofString "h" ++ mark ++ (Str.ofString "00" ++ Str.ofString (toString port)) ++ mark) a1] n) ∨
     (i = 3 ∧ ∃ n nq b0 a0 b1 a1 b2 a2, oq = listOf #[.int port b0, .int port b1, .int port b2] nq ∧ oi = listOf #[.str (mark ++ Str.ofString "" ++ mark ++ Str.ofString "" ++ mark ++ Str.ofString (toString port) ++ mark) a0, .str (mark ++ Str.ofString "1" ++ mark ++ Str.ofString "h" ++ mark ++ (Str.ofString "00" ++ Str.ofString (toString port)) ++ mark) a1, .str (mark ++ Str.ofString "h 2" ++ mark ++ Str.ofString "b" ++ mark ++ (Str.ofString " +" ++ Str.ofString (toString port) ++ Str.ofString " ") ++ mark) a2] n))
theorem mp7 {f : Str → Option Value} (h1 : f (Str.ofString "told") = none) (h2 : f (Str.ofString "figures") = none) (h3 : f (Str.ofString "k") = none) (y : Str) : f y = (if y = Str.ofString "told" then none else if y = Str.ofString "figures" then none else if y = Str.ofString "k" then none else f y) := by
  by_cases e1 : y = Str.ofString "told"
  · rw [if_pos e1, e1, h1]
  · rw [if_neg e1]
    by_cases e2 : y = Str.ofString "figures"
    · rw [if_pos e2, e2, h2]
    · rw [if_neg e2]
      by_cases e3 : y = Str.ofString "k"
      · rw [if_pos e3, e3, h3]
      · rw [if_neg e3]
theorem len_num {port : Int} (h0 : 0 ≤ port) (h60 : port < 60) : (Str.ofString (toString port)).length ≤ 10 := KT.len_num h0 (by omega)
section
variable {g h : Heap} {L : Addr} {I Q D H e : Addr × Obj} {r : List (Addr × Obj)}
theorem news_p7b (N : News g L h (I :: Q :: D :: H :: e :: r)) : News g L h (D :: e :: I :: Q :: H :: r) := newsS N (by walk_at "my s")
theorem news_p7c (N : News g L h (D :: e :: I :: Q :: H :: r)) : News g L h (Q :: D :: H :: I :: e :: r) := newsS N (by walk_at "my s")
theorem news_p7d (N : News g L h (Q :: D :: H :: I :: e :: r)) : News g L h (I :: Q :: D :: H :: e :: r) := newsS N (by walk_at "my s")
end
section
noncomputable def lawS7.Q (s : Shared) (qk : Flow → Shared → Prop) (ek : Value → Shared → Prop) (R : List (Addr × Obj)) (o8 : Obj) (Dh Di Dq al : Addr) (mark : Str) (port climbs at_ dress : Int) (v1 v2 v3 t3 t4 t5 t6 t7 : Tok) : Prop :=
  ∀ (B : Below A₀ g [] g) (X : (hd.heap_1 w.params).In g) (T : Top topProg loose mean mg mb g) (C : CodeHd g 70 66) (C2 : CodeHd g 77 73) (C3 : CodeHd g 154 152) (hd9 : dp + 32 < recursionLimit) (hu9 : un + 300 < cLine) (F : Fr g L s.heap (fun y => if y = Str.ofString "heads" then some (.ref Dh) else if y = Str.ofString "insides" then some (.ref Di) else if y = Str.ofString "heard" then some (.ref Dq) else if y = Str.ofString "dress" then some (.int dress t7) else if y = Str.ofString "port" then some (.int port t5) else if y = Str.ofString "climbs" then some (.int climbs t4) else if y = Str.ofString "at" then some (.int at_ t3) else if y = Str.ofString "script" then some (.ref al) else none)) (N : News g L s.heap ((Dq, listOf #[] 0) :: (Di, listOf #[] 0) :: (Dh, listOf #[.str (Str.ofString "229 (") v1, .str (Str.ofString "229 Extended ) (") v2, .str (Str.ofString "229(") v3] 0) :: (L + 1 + 1 + 1 + 1 + 1 + 1 + 1 + 1, o8) :: R)) (e8 : o8.data = .cell (some (.str mark t6))) (hRh : ∀ q ∈ R, q.1 ≠ Dh) (hRi : ∀ q ∈ R, q.1 ≠ Di) (hRq : ∀ q ∈ R, q.1 ≠ Dq) (hlh : @LT.lt Nat _ (L + 1 + 1 + 1 + 1 + 1 + 1 + 1 + 1) Dh) (hli : @LT.lt Nat _ Dh Di) (hlq : @LT.lt Nat _ Di Dq) (hmk4 : mark = Str.ofString "|" ∨ mark = Str.ofString "!" ∨ mark = Str.ofString ";" ∨ mark = Str.ofString "~") (hp0 : 0 ≤ port) (hp60 : port < 60) (l1 : @LT.lt Nat _ 160 L) (ret : ∀ (h' : Heap) (tk' : Nat) (p1 p2 p3 : Option Value) (n nq : Nat) (b0 a0 b1 a1 b2 a2 : Tok), Fr g L h' (fun y => if y = Str.ofString "told" then p1 else if y = Str.ofString "figures" then p2 else if y = Str.ofString "k" then p3 else if y = Str.ofString "heads" then some (.ref Dh) else if y = Str.ofString "insides" then some (.ref Di) else if y = Str.ofString "heard" then some (.ref Dq) else if y = Str.ofString "dress" then some (.int dress t7) else if y = Str.ofString "port" then some (.int port t5) else if y = Str.ofString "climbs" then some (.int climbs t4) else if y = Str.ofString "at" then some (.int at_ t3) else if y = Str.ofString "script" then some (.ref al) else none) → News g L h' ((Dq, listOf #[.int port b0, .int port b1, .int port b2] nq) :: (Di, listOf #[.str (mark ++ Str.ofString "" ++ mark ++ Str.ofString "" ++ mark ++ Str.ofString (toString port) ++ mark) a0, .str (mark ++ Str.ofString "1" ++ mark ++ Str.ofString "h" ++ mark ++ (Str.ofString "00" ++ Str.ofString (toString port)) ++ mark) a1, .str (mark ++ Str.ofString "h 2" ++ mark ++ Str.ofString "b" ++ mark ++ (Str.ofString " +" ++ Str.ofString (toString port) ++ Str.ofString " ") ++ mark) a2] n) :: (Dh, listOf #[.str (Str.ofString "229 (") v1, .str (Str.ofString "229 Extended ) (") v2, .str (Str.ofString "229(") v3] 0) :: (L + 1 + 1 + 1 + 1 + 1 + 1 + 1 + 1, o8) :: R) → qk .next { s with heap := h', toks := tk' }),
   wpAny (model PySem.Challenge.rw_ta0052_01.row.prog w) (ktrTop dp un gd (Str.ofString "law") (scopeOf (topStmt 22)) L a ccd (cellsFrom (L + 1) (scopeOf (topStmt 22)).names []) []) (execs (((bodyOf (topStmt 22)).take 13).drop 12) (envOfC (Str.ofString "law") (scopeOf (topStmt 22)) L a ccd)) qk ek s
abbrev lawS7.T : Type := Shared × (Flow → Shared → Prop) × (Value → Shared → Prop) × (List (Addr × Obj)) × Obj × Addr × Addr × Addr × Addr × Str × Int × Int × Int × Int × Tok × Tok × Tok × Tok × Tok × Tok × Tok × Tok
theorem lawS7.ne : Nonempty lawS7.T := ⟨({}, fun _ _ => True, fun _ _ => True, [], default, 0, 0, 0, 0, Str.ofString "", 0, 0, 0, 0, 0, 0, 0, 0, 0, 0, 0, 0)⟩
noncomputable def lawS7.c : lawS7.T := @Classical.epsilon lawS7.T lawS7.ne fun c => ¬ lawS7.Q c.1 c.2.1 c.2.2.1 c.2.2.2.1 c.2.2.2.2.1 c.2.2.2.2.2.1 c.2.2.2.2.2.2.1 c.2.2.2.2.2.2.2.1 c.2.2.2.2.2.2.2.2.1 c.2.2.2.2.2.2.2.2.2.1 c.2.2.2.2.2.2.2.2.2.2.1 c.2.2.2.2.2.2.2.2.2.2.2.1 c.2.2.2.2.2.2.2.2.2.2.2.2.1 c.2.2.2.2.2.2.2.2.2.2.2.2.2.1 c.2.2.2.2.2.2.2.2.2.2.2.2.2.2.1 c.2.2.2.2.2.2.2.2.2.2.2.2.2.2.2.1 c.2.2.2.2.2.2.2.2.2.2.2.2.2.2.2.2.1 c.2.2.2.2.2.2.2.2.2.2.2.2.2.2.2.2.2.1 c.2.2.2.2.2.2.2.2.2.2.2.2.2.2.2.2.2.2.1 c.2.2.2.2.2.2.2.2.2.2.2.2.2.2.2.2.2.2.2.1 c.2.2.2.2.2.2.2.2.2.2.2.2.2.2.2.2.2.2.2.2.1 c.2.2.2.2.2.2.2.2.2.2.2.2.2.2.2.2.2.2.2.2.2
@[irreducible] noncomputable def lawS7K.s : Shared := lawS7.c.1
@[irreducible] noncomputable def lawS7K.qk : Flow → Shared → Prop := lawS7.c.2.1
@[irreducible] noncomputable def lawS7K.ek : Value → Shared → Prop := lawS7.c.2.2.1
@[irreducible] noncomputable def lawS7K.R : List (Addr × Obj) := lawS7.c.2.2.2.1
@[irreducible] noncomputable def lawS7K.o8 : Obj := lawS7.c.2.2.2.2.1
@[irreducible] noncomputable def lawS7K.Dh : Addr := lawS7.c.2.2.2.2.2.1
@[irreducible] noncomputable def lawS7K.Di : Addr := lawS7.c.2.2.2.2.2.2.1
@[irreducible] noncomputable def lawS7K.Dq : Addr := lawS7.c.2.2.2.2.2.2.2.1
@[irreducible] noncomputable def lawS7K.al : Addr := lawS7.c.2.2.2.2.2.2.2.2.1
@[irreducible] noncomputable def lawS7K.mark : Str := lawS7.c.2.2.2.2.2.2.2.2.2.1
@[irreducible] noncomputable def lawS7K.port : Int := lawS7.c.2.2.2.2.2.2.2.2.2.2.1
@[irreducible] noncomputable def lawS7K.climbs : Int := lawS7.c.2.2.2.2.2.2.2.2.2.2.2.1
@[irreducible] noncomputable def lawS7K.at_ : Int := lawS7.c.2.2.2.2.2.2.2.2.2.2.2.2.1
@[irreducible] noncomputable def lawS7K.dress : Int := lawS7.c.2.2.2.2.2.2.2.2.2.2.2.2.2.1
@[irreducible] noncomputable def lawS7K.v1 : Tok := lawS7.c.2.2.2.2.2.2.2.2.2.2.2.2.2.2.1
@[irreducible] noncomputable def lawS7K.v2 : Tok := lawS7.c.2.2.2.2.2.2.2.2.2.2.2.2.2.2.2.1
@[irreducible] noncomputable def lawS7K.v3 : Tok := lawS7.c.2.2.2.2.2.2.2.2.2.2.2.2.2.2.2.2.1
@[irreducible] noncomputable def lawS7K.t3 : Tok := lawS7.c.2.2.2.2.2.2.2.2.2.2.2.2.2.2.2.2.2.1
@[irreducible] noncomputable def lawS7K.t4 : Tok := lawS7.c.2.2.2.2.2.2.2.2.2.2.2.2.2.2.2.2.2.2.1
@[irreducible] noncomputable def lawS7K.t5 : Tok := lawS7.c.2.2.2.2.2.2.2.2.2.2.2.2.2.2.2.2.2.2.2.1
@[irreducible] noncomputable def lawS7K.t6 : Tok := lawS7.c.2.2.2.2.2.2.2.2.2.2.2.2.2.2.2.2.2.2.2.2.1
@[irreducible] noncomputable def lawS7K.t7 : Tok := lawS7.c.2.2.2.2.2.2.2.2.2.2.2.2.2.2.2.2.2.2.2.2.2
section
open lawS7K
theorem lawS7.at (B : Below A₀ g [] g) (X : (hd.heap_1 w.params).In g) (T : Top topProg loose mean mg mb g) (C : CodeHd g 70 66) (C2 : CodeHd g 77 73) (C3 : CodeHd g 154 152) (hd9 : dp + 32 < recursionLimit) (hu9 : un + 300 < cLine) (F : Fr g L s.heap (fun y => if y = Str.ofString "heads" then some (.ref Dh) else if y = Str.ofString "insides" then some (.ref Di) else if y = Str.ofString "heard" then some (.ref Dq) else if y = Str.ofString "dress" then some (.int dress t7) else if y = Str.ofString "port" then some (.int port t5) else if y = Str.ofString "climbs" then some (.int climbs t4) else if y = Str.ofString "at" then some (.int at_ t3) else if y = Str.ofString "script" then some (.ref al) else none)) (N : News g L s.heap ((Dq, listOf #[] 0) :: (Di, listOf #[] 0) :: (Dh, listOf #[.str (Str.ofString "229 (") v1, .str (Str.ofString "229 Extended ) (") v2, .str (Str.ofString "229(") v3] 0) :: (L + 1 + 1 + 1 + 1 + 1 + 1 + 1 + 1, o8) :: R)) (e8 : o8.data = .cell (some (.str mark t6))) (hRh : ∀ q ∈ R, q.1 ≠ Dh) (hRi : ∀ q ∈ R, q.1 ≠ Di) (hRq : ∀ q ∈ R, q.1 ≠ Dq) (hlh : @LT.lt Nat _ (L + 1 + 1 + 1 + 1 + 1 + 1 + 1 + 1) Dh) (hli : @LT.lt Nat _ Dh Di) (hlq : @LT.lt Nat _ Di Dq) (hmk4 : mark = Str.ofString "|" ∨ mark = Str.ofString "!" ∨ mark = Str.ofString ";" ∨ mark = Str.ofString "~") (hp0 : 0 ≤ port) (hp60 : port < 60) (l1 : @LT.lt Nat _ 160 L) (ret : ∀ (h' : Heap) (tk' : Nat) (p1 p2 p3 : Option Value) (n nq : Nat) (b0 a0 b1 a1 b2 a2 : Tok), Fr g L h' (fun y => if y = Str.ofString "told" then p1 else if y = Str.ofString "figures" then p2 else if y = Str.ofString "k" then p3 else if y = Str.ofString "heads" then some (.ref Dh) else if y = Str.ofString "insides" then some (.ref Di) else if y = Str.ofString "heard" then some (.ref Dq) else if y = Str.ofString "dress" then some (.int dress t7) else if y = Str.ofString "port" then some (.int port t5) else if y = Str.ofString "climbs" then some (.int climbs t4) else if y = Str.ofString "at" then some (.int at_ t3) else if y = Str.ofString "script" then some (.ref al) else none) → News g L h' ((Dq, listOf #[.int port b0, .int port b1, .int port b2] nq) :: (Di, listOf #[.str (mark ++ Str.ofString "" ++ mark ++ Str.ofString "" ++ mark ++ Str.ofString (toString port) ++ mark) a0, .str (mark ++ Str.ofString "1" ++ mark ++ Str.ofString "h" ++ mark ++ (Str.ofString "00" ++ Str.ofString (toString port)) ++ mark) a1, .str (mark ++ Str.ofString "h 2" ++ mark ++ Str.ofString "b" ++ mark ++ (Str.ofString " +" ++ Str.ofString (toString port) ++ Str.ofString " ") ++ mark) a2] n) :: (Dh, listOf #[.str (Str.ofString "229 (") v1, .str (Str.ofString "229 Extended ) (") v2, .str (Str.ofString "229(") v3] 0) :: (L + 1 + 1 + 1 + 1 + 1 + 1 + 1 + 1, o8) :: R) → qk .next { s with heap := h', toks := tk' }) :
   wpAny (model PySem.Challenge.rw_ta0052_01.row.prog w) (ktrTop dp un gd (Str.ofString "law") (scopeOf (topStmt 22)) L a ccd (cellsFrom (L + 1) (scopeOf (topStmt 22)).names []) []) (execs (((bodyOf (topStmt 22)).take 13).drop 12) (envOfC (Str.ofString "law") (scopeOf (topStmt 22)) L a ccd)) qk ek s := by
  refine cutG fun Pc kc => ?_
  obtain ⟨sc, hsc⟩ : ∃ sc, sc = scopeOf (topStmt 22) := ⟨_, rfl⟩
  refine kc ?_
  clear kc Pc
  rw [← hsc]
  conv at hsc => rhs; whnf
  subst hsc
  revert X T; k_fill; intro X T
  change wpAny _ _ (execs [_] _) _ _ _
  k_unmd
  have hmk : mark.length = 1 := by rcases hmk4 with h | h | h | h <;> rw [h] <;> decide +kernel
  have hnl := len_num hp0 hp60
  have hli8 : @LT.lt Nat _ (L + 1 + 1 + 1 + 1 + 1 + 1 + 1 + 1) Di := Nat.lt_trans hlh hli
  have ho8q : (L + 1 + 1 + 1 + 1 + 1 + 1 + 1 + 1) ≠ Dq := Nat.ne_of_lt (Nat.lt_trans hli8 hlq)
  dsimp only
  k_unmd
  try k_fold
  refine wpAny_execs_cons ?_
  refine' forK (h₀ := g) ((Dq, listOf #[] 0) :: (Di, listOf #[] 0) :: (Dh, listOf #[.str (Str.ofString "229 (") v1, .str (Str.ofString "229 Extended ) (") v2, .str (Str.ofString "229(") v3] 0) :: (L + 1 + 1 + 1 + 1 + 1 + 1 + 1 + 1, o8) :: R) (fun y => if y = Str.ofString "heads" then some (.ref Dh) else if y = Str.ofString "insides" then some (.ref Di) else if y = Str.ofString "heard" then some (.ref Dq) else if y = Str.ofString "dress" then some (.int dress t7) else if y = Str.ofString "port" then some (.int port t5) else if y = Str.ofString "climbs" then some (.int climbs t4) else if y = Str.ofString "at" then some (.int at_ t3) else if y = Str.ofString "script" then some (.ref al) else none) 0 3 (J7 Dq Di mark port (fun y => if y = Str.ofString "heads" then some (.ref Dh) else if y = Str.ofString "insides" then some (.ref Di) else if y = Str.ofString "heard" then some (.ref Dq) else if y = Str.ofString "dress" then some (.int dress t7) else if y = Str.ofString "port" then some (.int port t5) else if y = Str.ofString "climbs" then some (.int climbs t4) else if y = Str.ofString "at" then some (.int at_ t3) else if y = Str.ofString "script" then some (.ref al) else none) ((Dh, listOf #[.str (Str.ofString "229 (") v1, .str (Str.ofString "229 Extended ) (") v2, .str (Str.ofString "229(") v3] 0) :: (L + 1 + 1 + 1 + 1 + 1 + 1 + 1 + 1, o8) :: R)) ?hh ?hn ?h0 ?h1 ?hit ?J0 ?turn ?done ?hs
  case hh => with_unfolding_all rfl
  case hs => intro _; with_unfolding_all rfl
  case hn => omega
  case h0 => omega
  case h1 => omega
  case hit =>
    refine wpAny_stop ?_
    k_steps
    try unfold Stop
    exact ⟨_, _, _, _, _, _, _, rfl, by assumption, by omega, by assumption, by assumption, rfl⟩
  case J0 => exact ⟨none, none, none, _, _, funext fun y => mp7 (f := (fun y => if y = Str.ofString "heads" then some (.ref Dh) else if y = Str.ofString "insides" then some (.ref Di) else if y = Str.ofString "heard" then some (.ref Dq) else if y = Str.ofString "dress" then some (.int dress t7) else if y = Str.ofString "port" then some (.int port t5) else if y = Str.ofString "climbs" then some (.int climbs t4) else if y = Str.ofString "at" then some (.int at_ t3) else if y = Str.ofString "script" then some (.ref al) else none)) (by rfl) (by rfl) (by rfl) y, rfl, .inl ⟨rfl, _, _, rfl, rfl⟩⟩
  case turn =>
    intro i m₁ news₁ h tk I oI t E9 hi hJ F₁ N₁ hoff
    refine cutG fun Pc kc => ?_
    obtain ⟨p1, p2, p3, oq, oi, rfl, rfl, hJ⟩ := hJ
    refine kc ?_
    clear kc Pc
    have hoq : Dq ≠ I := hoff (Dq, oq) (.head _)
    have hoi : Di ≠ I := hoff (Di, oi) (.tail _ (.head _))
    have hoh : Dh ≠ I := hoff (Dh, _) (.tail _ (.tail _ (.head _)))
    have ho8 : (L + 1 + 1 + 1 + 1 + 1 + 1 + 1 + 1) ≠ I := hoff (_, o8) (.tail _ (.tail _ (.tail _ (.head _))))
    rcases hJ with hJ | hJ | hJ | hJ
    · refine cutG fun Pc kc => ?_
      obtain ⟨rfl, n, nq, rfl, rfl⟩ := hJ
      refine kc ?_
      clear kc Pc
      refine wpAny_assign_Name ?_
      refine' storeX_L F₁ N₁ ?_ (by rfl) (by rfl)
      intro h2 F2 N2
      have F3 := fr7k F2
      refine execs_app (xs := (forBody ((bodyOf (topStmt 22)).getD 12 (.Pass default))).take 1) (ys := (forBody ((bodyOf (topStmt 22)).getD 12 (.Pass default))).drop 1) ?_
      refine lawS7a0 _ _ _ _ Dh Di Dq al port climbs at_ dress t3 t4 t5 t7 _ _ _ B X T C C2 C3 hd9 hu9 F3 N2 hp0 hp60 hnl l1 ?_
      intro h3 tk3 tf F4 N4
      refine execs_app (xs := ((forBody ((bodyOf (topStmt 22)).getD 12 (.Pass default))).take 2).drop 1) (ys := (forBody ((bodyOf (topStmt 22)).getD 12 (.Pass default))).drop 2) ?_
      refine lawS7b0 _ _ _ ((I, oI) :: (Dq, _) :: (Dh, listOf #[.str (Str.ofString "229 (") v1, .str (Str.ofString "229 Extended ) (") v2, .str (Str.ofString "229(") v3] 0) :: R) o8 mark _ _ t6 _ Dh Di Dq al port climbs at_ dress t3 t4 t5 t7 _ _ B X T C C2 C3 hd9 hu9 F4 (news_p7b N4) e8 hmk (by first | omega | (simp only [PySem.Str.length_append, sl0, sl1, sl2, sl3, sl4, sl5, sl6, sl7, sl8, sl9, sl10, sl11, sl12]; omega)) ?_ hli8 l1 ?_
      · intro q hq
        simp only [List.mem_cons] at hq
        rcases hq with rfl | rfl | rfl | hq
        · exact Ne.symm hoi
        · exact Ne.symm (Nat.ne_of_lt hlq)
        · exact Nat.ne_of_lt hli
        · exact hRi q hq
      intro h4 tk4 ti F5 N5
      refine lawS7c0 _ _ _ ((I, oI) :: (L + 1 + 1 + 1 + 1 + 1 + 1 + 1 + 1, o8) :: R) _ _ v1 v2 v3 (mark ++ Str.ofString "" ++ mark ++ Str.ofString "" ++ mark ++ Str.ofString (toString port) ++ mark) ti Dh Di Dq al port climbs at_ dress t3 t4 t5 t7 _ _ _ B X T C C2 C3 hd9 hu9 F5 (news_p7c N5) (rep_num (k := 0) (by decide) hmk4 hp0 hp60) (by simp only [PySem.Str.length_append, sl0, sl1, sl2, sl3, sl4, sl5, sl6, sl7, sl8, sl9, sl10, sl11, sl12]; omega) hp0 hp60 ?_ hlq hli l1 ?_
      · intro q hq
        simp only [List.mem_cons] at hq
        rcases hq with rfl | rfl | hq
        · exact Ne.symm hoq
        · exact ho8q
        · exact hRq q hq
      intro h5 tk5 R0 tb F6 N6
      refine ⟨rfl, h5, tk5, _, _, rfl, F6, news_p7d N6, ⟨_, _, _, _, _, rfl, rfl, .inr (.inl ⟨rfl, _, _, _, _, rfl, rfl⟩)⟩, ?_⟩
      intro q hq
      simp only [List.mem_cons] at hq
      rcases hq with rfl | rfl | rfl | rfl | hq
      · exact hoq
      · exact hoi
      · exact hoh
      · exact ho8
      · exact hoff q (.tail _ (.tail _ (.tail _ (.tail _ hq))))
    · refine cutG fun Pc kc => ?_
      obtain ⟨rfl, n, nq, b0, a0, rfl, rfl⟩ := hJ
      refine kc ?_
      clear kc Pc
      refine wpAny_assign_Name ?_
      refine' storeX_L F₁ N₁ ?_ (by rfl) (by rfl)
      intro h2 F2 N2
      have F3 := fr7k F2
      refine execs_app (xs := (forBody ((bodyOf (topStmt 22)).getD 12 (.Pass default))).take 1) (ys := (forBody ((bodyOf (topStmt 22)).getD 12 (.Pass default))).drop 1) ?_
      refine lawS7a1 _ _ _ _ Dh Di Dq al port climbs at_ dress t3 t4 t5 t7 _ _ _ B X T C C2 C3 hd9 hu9 F3 N2 hp0 hp60 hnl l1 ?_
      intro h3 tk3 tf F4 N4
      refine execs_app (xs := ((forBody ((bodyOf (topStmt 22)).getD 12 (.Pass default))).take 2).drop 1) (ys := (forBody ((bodyOf (topStmt 22)).getD 12 (.Pass default))).drop 2) ?_
      refine lawS7b1 _ _ _ ((I, oI) :: (Dq, _) :: (Dh, listOf #[.str (Str.ofString "229 (") v1, .str (Str.ofString "229 Extended ) (") v2, .str (Str.ofString "229(") v3] 0) :: R) o8 mark _ _ t6 _ (mark ++ Str.ofString "" ++ mark ++ Str.ofString "" ++ mark ++ Str.ofString (toString port) ++ mark) a0 Dh Di Dq al port climbs at_ dress t3 t4 t5 t7 _ _ B X T C C2 C3 hd9 hu9 F4 (news_p7b N4) e8 hmk (by first | omega | (simp only [PySem.Str.length_append, sl0, sl1, sl2, sl3, sl4, sl5, sl6, sl7, sl8, sl9, sl10, sl11, sl12]; omega)) ?_ hli8 l1 ?_
      · intro q hq
        simp only [List.mem_cons] at hq
        rcases hq with rfl | rfl | rfl | hq
        · exact Ne.symm hoi
        · exact Ne.symm (Nat.ne_of_lt hlq)
        · exact Nat.ne_of_lt hli
        · exact hRi q hq
      intro h4 tk4 ti F5 N5
      refine lawS7c1 _ _ _ ((I, oI) :: (L + 1 + 1 + 1 + 1 + 1 + 1 + 1 + 1, o8) :: R) _ _ v1 v2 v3 (mark ++ Str.ofString "" ++ mark ++ Str.ofString "" ++ mark ++ Str.ofString (toString port) ++ mark) a0 (mark ++ Str.ofString "1" ++ mark ++ Str.ofString "h" ++ mark ++ (Str.ofString "00" ++ Str.ofString (toString port)) ++ mark) ti b0 Dh Di Dq al port climbs at_ dress t3 t4 t5 t7 _ _ _ B X T C C2 C3 hd9 hu9 F5 (news_p7c N5) (rep_num (k := 1) (by decide) hmk4 hp0 hp60) (by simp only [PySem.Str.length_append, sl0, sl1, sl2, sl3, sl4, sl5, sl6, sl7, sl8, sl9, sl10, sl11, sl12]; omega) hp0 hp60 ?_ hlq hli l1 ?_
      · intro q hq
        simp only [List.mem_cons] at hq
        rcases hq with rfl | rfl | hq
        · exact Ne.symm hoq
        · exact ho8q
        · exact hRq q hq
      intro h5 tk5 R0 tb F6 N6
      refine ⟨rfl, h5, tk5, _, _, rfl, F6, news_p7d N6, ⟨_, _, _, _, _, rfl, rfl, .inr (.inr (.inl ⟨rfl, _, _, _, _, _, _, rfl, rfl⟩))⟩, ?_⟩
      intro q hq
      simp only [List.mem_cons] at hq
      rcases hq with rfl | rfl | rfl | rfl | hq
      · exact hoq
      · exact hoi
      · exact hoh
      · exact ho8
      · exact hoff q (.tail _ (.tail _ (.tail _ (.tail _ hq))))
    · refine cutG fun Pc kc => ?_
      obtain ⟨rfl, n, nq, b0, a0, b1, a1, rfl, rfl⟩ := hJ
      refine kc ?_
      clear kc Pc
      refine wpAny_assign_Name ?_
      refine' storeX_L F₁ N₁ ?_ (by rfl) (by rfl)
      intro h2 F2 N2
      have F3 := fr7k F2
      refine execs_app (xs := (forBody ((bodyOf (topStmt 22)).getD 12 (.Pass default))).take 1) (ys := (forBody ((bodyOf (topStmt 22)).getD 12 (.Pass default))).drop 1) ?_
      refine lawS7a2 _ _ _ _ Dh Di Dq al port climbs at_ dress t3 t4 t5 t7 _ _ _ B X T C C2 C3 hd9 hu9 F3 N2 hp0 hp60 hnl l1 ?_
      intro h3 tk3 tf F4 N4
      refine execs_app (xs := ((forBody ((bodyOf (topStmt 22)).getD 12 (.Pass default))).take 2).drop 1) (ys := (forBody ((bodyOf (topStmt 22)).getD 12 (.Pass default))).drop 2) ?_
      refine lawS7b2 _ _ _ ((I, oI) :: (Dq, _) :: (Dh, listOf #[.str (Str.ofString "229 (") v1, .str (Str.ofString "229 Extended ) (") v2, .str (Str.ofString "229(") v3] 0) :: R) o8 mark _ _ t6 _ (mark ++ Str.ofString "" ++ mark ++ Str.ofString "" ++ mark ++ Str.ofString (toString port) ++ mark) a0 (mark ++ Str.ofString "1" ++ mark ++ Str.ofString "h" ++ mark ++ (Str.ofString "00" ++ Str.ofString (toString port)) ++ mark) a1 Dh Di Dq al port climbs at_ dress t3 t4 t5 t7 _ _ B X T C C2 C3 hd9 hu9 F4 (news_p7b N4) e8 hmk (by first | omega | (simp only [PySem.Str.length_append, sl0, sl1, sl2, sl3, sl4, sl5, sl6, sl7, sl8, sl9, sl10, sl11, sl12]; omega)) ?_ hli8 l1 ?_
      · intro q hq
        simp only [List.mem_cons] at hq
        rcases hq with rfl | rfl | rfl | hq
        · exact Ne.symm hoi
        · exact Ne.symm (Nat.ne_of_lt hlq)
        · exact Nat.ne_of_lt hli
        · exact hRi q hq
      intro h4 tk4 ti F5 N5
      refine lawS7c2 _ _ _ ((I, oI) :: (L + 1 + 1 + 1 + 1 + 1 + 1 + 1 + 1, o8) :: R) _ _ v1 v2 v3 (mark ++ Str.ofString "" ++ mark ++ Str.ofString "" ++ mark ++ Str.ofString (toString port) ++ mark) a0 (mark ++ Str.ofString "1" ++ mark ++ Str.ofString "h" ++ mark ++ (Str.ofString "00" ++ Str.ofString (toString port)) ++ mark) a1 (mark ++ Str.ofString "h 2" ++ mark ++ Str.ofString "b" ++ mark ++ (Str.ofString " +" ++ Str.ofString (toString port) ++ Str.ofString " ") ++ mark) ti b0 b1 Dh Di Dq al port climbs at_ dress t3 t4 t5 t7 _ _ _ B X T C C2 C3 hd9 hu9 F5 (news_p7c N5) (rep_num (k := 2) (by decide) hmk4 hp0 hp60) (by simp only [PySem.Str.length_append, sl0, sl1, sl2, sl3, sl4, sl5, sl6, sl7, sl8, sl9, sl10, sl11, sl12]; omega) hp0 hp60 ?_ hlq hli l1 ?_
      · intro q hq
        simp only [List.mem_cons] at hq
        rcases hq with rfl | rfl | hq
        · exact Ne.symm hoq
        · exact ho8q
        · exact hRq q hq
      intro h5 tk5 R0 tb F6 N6
      refine ⟨rfl, h5, tk5, _, _, rfl, F6, news_p7d N6, ⟨_, _, _, _, _, rfl, rfl, .inr (.inr (.inr ⟨rfl, _, _, _, _, _, _, _, _, rfl, rfl⟩))⟩, ?_⟩
      intro q hq
      simp only [List.mem_cons] at hq
      rcases hq with rfl | rfl | rfl | rfl | hq
      · exact hoq
      · exact hoi
      · exact hoh
      · exact ho8
      · exact hoff q (.tail _ (.tail _ (.tail _ (.tail _ hq))))
    · exact absurd hJ.1 (by omega)
  case done =>
    intro m₁ news₁ h tk hJ F₁ N₁
    refine cutG fun Pc kc => ?_
    obtain ⟨p1, p2, p3, oq, oi, rfl, rfl, hJ⟩ := hJ
    refine kc ?_
    clear kc Pc
    rcases hJ with hJ | hJ | hJ | hJ
    · exact absurd hJ.1 (by omega)
    · exact absurd hJ.1 (by omega)
    · exact absurd hJ.1 (by omega)
    · refine cutG fun Pc kc => ?_
      obtain ⟨_, n, nq, b0, a0, b1, a1, b2, a2, rfl, rfl⟩ := hJ
      refine kc ?_
      clear kc Pc
      exact wpAny_execs_nil (ret _ _ _ _ _ _ _ _ _ _ _ _ _ F₁ N₁)
end
theorem lawS7 (s : Shared) (qk : Flow → Shared → Prop) (ek : Value → Shared → Prop) (R : List (Addr × Obj)) (o8 : Obj) (Dh Di Dq al : Addr) (mark : Str) (port climbs at_ dress : Int) (v1 v2 v3 t3 t4 t5 t6 t7 : Tok) : lawS7.Q s qk ek R o8 Dh Di Dq al mark port climbs at_ dress v1 v2 v3 t3 t4 t5 t6 t7 := by
  apply Classical.byContradiction
  intro hn
  have e : ¬ lawS7.Q lawS7.c.1 lawS7.c.2.1 lawS7.c.2.2.1 lawS7.c.2.2.2.1 lawS7.c.2.2.2.2.1 lawS7.c.2.2.2.2.2.1 lawS7.c.2.2.2.2.2.2.1 lawS7.c.2.2.2.2.2.2.2.1 lawS7.c.2.2.2.2.2.2.2.2.1 lawS7.c.2.2.2.2.2.2.2.2.2.1 lawS7.c.2.2.2.2.2.2.2.2.2.2.1 lawS7.c.2.2.2.2.2.2.2.2.2.2.2.1 lawS7.c.2.2.2.2.2.2.2.2.2.2.2.2.1 lawS7.c.2.2.2.2.2.2.2.2.2.2.2.2.2.1 lawS7.c.2.2.2.2.2.2.2.2.2.2.2.2.2.2.1 lawS7.c.2.2.2.2.2.2.2.2.2.2.2.2.2.2.2.1 lawS7.c.2.2.2.2.2.2.2.2.2.2.2.2.2.2.2.2.1 lawS7.c.2.2.2.2.2.2.2.2.2.2.2.2.2.2.2.2.2.1 lawS7.c.2.2.2.2.2.2.2.2.2.2.2.2.2.2.2.2.2.2.1 lawS7.c.2.2.2.2.2.2.2.2.2.2.2.2.2.2.2.2.2.2.2.1 lawS7.c.2.2.2.2.2.2.2.2.2.2.2.2.2.2.2.2.2.2.2.2.1 lawS7.c.2.2.2.2.2.2.2.2.2.2.2.2.2.2.2.2.2.2.2.2.2 := Classical.epsilon_spec (p := fun c : lawS7.T => ¬ lawS7.Q c.1 c.2.1 c.2.2.1 c.2.2.2.1 c.2.2.2.2.1 c.2.2.2.2.2.1 c.2.2.2.2.2.2.1 c.2.2.2.2.2.2.2.1 c.2.2.2.2.2.2.2.2.1 c.2.2.2.2.2.2.2.2.2.1 c.2.2.2.2.2.2.2.2.2.2.1 c.2.2.2.2.2.2.2.2.2.2.2.1 c.2.2.2.2.2.2.2.2.2.2.2.2.1 c.2.2.2.2.2.2.2.2.2.2.2.2.2.1 c.2.2.2.2.2.2.2.2.2.2.2.2.2.2.1 c.2.2.2.2.2.2.2.2.2.2.2.2.2.2.2.1 c.2.2.2.2.2.2.2.2.2.2.2.2.2.2.2.2.1 c.2.2.2.2.2.2.2.2.2.2.2.2.2.2.2.2.2.1 c.2.2.2.2.2.2.2.2.2.2.2.2.2.2.2.2.2.2.1 c.2.2.2.2.2.2.2.2.2.2.2.2.2.2.2.2.2.2.2.1 c.2.2.2.2.2.2.2.2.2.2.2.2.2.2.2.2.2.2.2.2.1 c.2.2.2.2.2.2.2.2.2.2.2.2.2.2.2.2.2.2.2.2.2) ⟨(s, qk, ek, R, o8, Dh, Di, Dq, al, mark, port, climbs, at_, dress, v1, v2, v3, t3, t4, t5, t6, t7), hn⟩
  have h : lawS7.Q lawS7K.s lawS7K.qk lawS7K.ek lawS7K.R lawS7K.o8 lawS7K.Dh lawS7K.Di lawS7K.Dq lawS7K.al lawS7K.mark lawS7K.port lawS7K.climbs lawS7K.at_ lawS7K.dress lawS7K.v1 lawS7K.v2 lawS7K.v3 lawS7K.t3 lawS7K.t4 lawS7K.t5 lawS7K.t6 lawS7K.t7 := lawS7.at
  unfold lawS7K.s lawS7K.qk lawS7K.ek lawS7K.R lawS7K.o8 lawS7K.Dh lawS7K.Di lawS7K.Dq lawS7K.al lawS7K.mark lawS7K.port lawS7K.climbs lawS7K.at_ lawS7K.dress lawS7K.v1 lawS7K.v2 lawS7K.v3 lawS7K.t3 lawS7K.t4 lawS7K.t5 lawS7K.t6 lawS7K.t7 at h
  exact e h
end
end
section
open _root_.PySem _root_.PySem.W _root_.PyProof.Rows
theorem fresh_31 : True := by (w_top off); exact trivial
open LC
theorem news_u0 {g h : Heap} {L : Addr} {a b c : Addr × Obj} {r : List (Addr × Obj)} (N : News g L h (a :: b :: c :: r)) : News g L h (a :: r) := fun p hp => N p (by
  rcases List.mem_cons.mp hp with rfl | hp
  · exact .head _
  · exact .tail _ (.tail _ (.tail _ hp)))
section
theorem lawU0 (s : Shared) (qk : Flow → Shared → Prop) (ek : Value → Shared → Prop)
   (m : Str → Option Value) (R : List (Addr × Obj)) (Dn : Addr) (kn : Nat) (ys : List Value) (zs : List Int) (o7 : Obj) (o9 o10 : Obj) (gone : Nat) (tg : Tok) (w10 : Option Value)
    (B : Below A₀ g [] g) (X : (hd.heap_1 w.params).In g) (T : Top topProg loose mean mg mb g) (C : CodeHd g 70 66) (C2 : CodeHd g 77 73) (C3 : CodeHd g 154 152) (hd9 : dp + 32 < recursionLimit) (hu9 : un + 300 < cLine) (F : Fr g L s.heap m) (N : News g L s.heap ((Dn, listOf ys.toArray kn) :: (L + 1 + 1 + 1 + 1 + 1 + 1 + 1, o7) :: (L + 1 + 1 + 1 + 1 + 1 + 1 + 1 + 1 + 1, o9) :: (L + 1 + 1 + 1 + 1 + 1 + 1 + 1 + 1 + 1 + 1, o10) :: R)) (e7 : o7.data = .cell (some (.ref Dn))) (hI : IntsAre ys zs) (hz5 : 5 ≤ zs.length) (hz10 : zs.length ≤ 10) (e9 : o9.data = .cell (some (.int (gone : Int) tg))) (hg : gone < zs.length) (e10 : o10.data = .cell w10) (hR10 : ∀ q ∈ R, q.1 ≠ L + 1 + 1 + 1 + 1 + 1 + 1 + 1 + 1 + 1 + 1) (q10 : @Ne Nat Dn (L + 1 + 1 + 1 + 1 + 1 + 1 + 1 + 1 + 1 + 1)) (l1 : @LT.lt Nat _ 160 L) (ret : ∀ (h' : Heap) (tk' : Nat) (Dk : Addr) (ws : List Value) (o10' : Obj), Fr g L h' m → News g L h' ((Dk, listOf ws.toArray 0) :: (Dn, listOf ys.toArray kn) :: (L + 1 + 1 + 1 + 1 + 1 + 1 + 1, o7) :: (L + 1 + 1 + 1 + 1 + 1 + 1 + 1 + 1 + 1, o9) :: (L + 1 + 1 + 1 + 1 + 1 + 1 + 1 + 1 + 1 + 1, o10') :: R) → o10'.data = .cell (some (.ref Dk)) → IntsAre ws (zs.take gone ++ zs.drop (gone + 1)) → (∀ q ∈ ((Dn, listOf ys.toArray kn) :: (L + 1 + 1 + 1 + 1 + 1 + 1 + 1, o7) :: (L + 1 + 1 + 1 + 1 + 1 + 1 + 1 + 1 + 1, o9) :: (L + 1 + 1 + 1 + 1 + 1 + 1 + 1 + 1 + 1 + 1, o10) :: R), q.1 < Dk) → qk .next { s with heap := h', toks := tk' }) :
   wpAny (model PySem.Challenge.rw_ta0052_01.row.prog w) (ktrTop dp un gd (Str.ofString "law") (scopeOf (topStmt 22)) L a ccd (cellsFrom (L + 1) (scopeOf (topStmt 22)).names []) []) (execs (((forBody ((bodyOf (topStmt 22)).getD 13 (.Pass default))).take 1).drop 0) (envOfC (Str.ofString "law") (scopeOf (topStmt 22)) L a ccd)) qk ek s := by
  refine cutG fun Pc kc => ?_
  obtain ⟨sc, hsc⟩ : ∃ sc, sc = scopeOf (topStmt 22) := ⟨_, rfl⟩
  refine kc ?_
  clear kc Pc
  rw [← hsc]
  conv at hsc => rhs; whnf
  subst hsc
  revert X T; k_fill; intro X T
  change wpAny _ _ (execs [_] _) _ _ _
  k_unmd
  have hg0 : 0 ≤ (gone : Int) := by omega
  have hg1 : (gone : Int) < zs.length := by omega
  k_steps
  rename Fr _ _ _ _ => F8
  rename News _ _ _ _ => N8
  have lA := ‹_ ∧ _ ∧ _ ∧ _ ∧ _ ∧ _ ∧ AllLt _ R›
  refine ret _ _ _ _ _ F8 (news_u0 N8) (by assumption) ?_ (allLt_mem lA.2.2)
  rename IntsAre _ (_ ++ _) => hI8
  rw [Int.toNat_natCast, show ((gone : Int) + 1).toNat = gone + 1 by omega] at hI8
  exact hI8
end
end
section
open _root_.PySem _root_.PySem.W _root_.PyProof.Rows
theorem fresh_32 : True := by (w_top off); exact trivial
open LC
theorem iget : ∀ {vs : List Value} {ns : List Int}, IntsAre vs ns → ∀ {i : Nat} {v : Value}, vs[i]? = some v → ∃ t, v = .int (ns.getD i 0) t ∧ i < ns.length
  | _, _, .nil, _, _, h => nomatch h
  | _, _, .cons n t r, 0, v, h => ⟨t, (Option.some.inj h).symm, Nat.succ_pos _⟩
  | _, _, .cons n t r, i + 1, v, h => let ⟨t', e, hl⟩ := iget r (i := i) h; ⟨t', e, Nat.succ_lt_succ hl⟩
theorem strs_snoc {vs : List Value} {ys : List Str} (h : StrsAre vs ys) (y : Str) (t : Tok) : StrsAre (vs ++ [.str y t]) (ys ++ [y]) := by
  induction h with
  | nil => exact .cons _ _ .nil
  | cons a b _ ih => exact .cons _ _ ih
theorem take_snoc {α : Type} {l : List α} {i : Nat} (h : i < l.length) (d : α) : l.take (i + 1) = l.take i ++ [l.getD i d] := by
  rw [List.take_succ, List.getElem?_eq_getElem h, List.getD_eq_getElem?_getD, List.getElem?_eq_getElem h]
  rfl
theorem item_len (x : Str) (i : Int) : (Txt.item x i).length = 1 := rfl
noncomputable def txtV (alpha : Str) (cm : List Int) : Str := Txt.join (Str.ofString "") (cm.map (Txt.item alpha))
theorem txt_sum (alpha : Str) : ∀ cm : List Int, ((cm.map (Txt.item alpha)).map (·.length)).sum = cm.length
  | [] => rfl
  | a :: r => by
    rw [List.map_cons, List.map_cons, List.sum_cons, txt_sum alpha r, List.length_cons, item_len]; omega
section
local macro_rules | `(tactic| walk_at "call builtin:str.join") => `(tactic| refine stop_here ?_)
theorem lawU1 (s : Shared) (qk : Flow → Shared → Prop) (ek : Value → Shared → Prop)
   (m : Str → Option Value) (R : List (Addr × Obj)) (o6 o10 : Obj) (Dk : Addr) (kk : Nat) (ws : List Value) (cm : List Int) (kinds : Int) (alpha : Str) (ta : Tok)
    (B : Below A₀ g [] g) (X : (hd.heap_1 w.params).In g) (T : Top topProg loose mean mg mb g) (C : CodeHd g 70 66) (C2 : CodeHd g 77 73) (C3 : CodeHd g 154 152) (hd9 : dp + 32 < recursionLimit) (hu9 : un + 300 < cLine) (F : Fr g L s.heap m) (N : News g L s.heap ((Dk, listOf ws.toArray kk) :: (L + 1 + 1 + 1 + 1 + 1 + 1, o6) :: (L + 1 + 1 + 1 + 1 + 1 + 1 + 1 + 1 + 1 + 1, o10) :: R)) (hIc : IntsAre ws cm) (hcl : cm.length ≤ 9) (hcb : ∀ z ∈ cm, 0 ≤ z ∧ z < kinds) (e10 : o10.data = .cell (some (.ref Dk))) (l1 : @LT.lt Nat _ 160 L) (e6 : o6.data = .cell (some (.str alpha ta))) (hal : (alpha.length : Int) = kinds) (hk6 : kinds ≤ 6) (ret : ∀ (h' : Heap) (tk' : Nat) (tt : Tok), Fr g L h' (fun y => if y = Str.ofString "text" then some (.str (txtV alpha cm) tt) else m y) → News g L h' ((Dk, listOf ws.toArray kk) :: (L + 1 + 1 + 1 + 1 + 1 + 1, o6) :: (L + 1 + 1 + 1 + 1 + 1 + 1 + 1 + 1 + 1 + 1, o10) :: R) → qk .next { s with heap := h', toks := tk' }) :
   wpAny (model PySem.Challenge.rw_ta0052_01.row.prog w) (ktrTop dp un gd (Str.ofString "law") (scopeOf (topStmt 22)) L a ccd (cellsFrom (L + 1) (scopeOf (topStmt 22)).names []) []) (execs (((forBody ((bodyOf (topStmt 22)).getD 13 (.Pass default))).take 2).drop 1) (envOfC (Str.ofString "law") (scopeOf (topStmt 22)) L a ccd)) qk ek s := by
  refine cutG fun Pc kc => ?_
  obtain ⟨sc, hsc⟩ : ∃ sc, sc = scopeOf (topStmt 22) := ⟨_, rfl⟩
  refine kc ?_
  clear kc Pc
  rw [← hsc]
  conv at hsc => rhs; whnf
  subst hsc
  revert X T; k_fill; intro X T
  change wpAny _ _ (execs [_] _) _ _ _
  k_unmd
  have hlw := hIc.length
  k_steps
  unfold Stop
  rename Fr _ _ _ _ => F
  rename News _ _ _ _ => N
  refine' compKL [(Dk, listOf ws.toArray kk), (L + 1 + 1 + 1 + 1 + 1 + 1, o6), (L + 1 + 1 + 1 + 1 + 1 + 1 + 1 + 1 + 1 + 1, o10)] R ws (fun i vs ex => ex = [] ∧ StrsAre vs ((cm.take i).map (Txt.item alpha))) F ?hh ?hclos ?hcell ?hkind ?hnames ?hx ?hn ?hit ?J0 ?T ?hQ ?hs
  case hh => with_unfolding_all rfl
  case hclos => with_unfolding_all rfl
  case hcell => decide
  case hkind => with_unfolding_all rfl
  case hnames => decide
  case hx => with_unfolding_all rfl
  case hs => intro _; with_unfolding_all rfl
  case hn => omega
  case hit =>
    refine wpAny_stop ?_
    k_steps
    try unfold Stop
    refine ⟨_, kk, _, _, rfl, ?_, by assumption, by assumption, rfl⟩
    repeat (first | exact List.Mem.head _ | apply List.Mem.tail)
  case J0 => exact ⟨rfl, .nil⟩
  case T =>
    intro i9 ys9 ex9 v9 I9 oI9 C9 oC9 D9 m9 h9 tk9 E9 hi9 hJ9 hv9 hC9 hx9 F9 N9
    clear F N
    refine cutG fun Pc kc => ?_
    obtain ⟨t9, rfl, hi8⟩ := iget hIc hv9
    refine kc ?_
    clear kc Pc
    obtain ⟨rfl, hz9⟩ := hJ9
    obtain ⟨hb0, hb1⟩ := hcb (cm.getD i9 0) (by rw [List.getD_eq_getElem?_getD, List.getElem?_eq_getElem hi8]; exact List.getElem_mem hi8)
    have hb2 : cm.getD i9 0 < (alpha.length : Int) := by omega
    simp only [List.cons_append, List.nil_append] at N9
    refine wpAny_stop ?_
    k_steps
    unfold Stop
    rename News _ _ _ _ => N8
    refine ⟨_, _, [], rfl, by assumption, ?_, (fun q hq => nomatch hq), rfl, ?_⟩
    · first | exact N8 | exact news_tail N8 | exact news_tail (news_tail N8) | exact news_tail (news_tail (news_tail N8)) | exact news_tail (news_tail (news_tail (news_tail N8)))
    · rw [take_snoc hi8 0, List.map_append]
      exact strs_snoc hz9 _ _
  case hQ =>
    intro D vs ex h9 tk9 hJ9 F9 N9 hD9
    obtain ⟨rfl, hz⟩ := hJ9
    clear F N
    rw [hlw, List.take_length] at hz
    simp only [List.cons_append, List.nil_append] at N9 hD9
    k_steps
    unfold Stop
    refine join_list (ys := cm.map (Txt.item alpha)) (News.isList N9 (.head _)) hz (by rw [txt_sum, List.length_map]; show cm.length + cm.length * 0 ≤ 16777216; omega) ?_
    intro t8 k8
    k_steps
    rename Fr _ _ _ _ => F8
    rename News _ _ _ _ => N8
    exact ret _ _ _ F8 (news_tail N8)
end
end
section
open _root_.PySem _root_.PySem.W _root_.PyProof.Rows
theorem fresh_33 : True := by (w_top off); exact trivial
open LC
noncomputable def RespOk (r text : Str) : Prop := r.length ≤ 1000 ∧ 5 ≤ r.length ∧ (Txt.slice r none (some 3) != Str.ofString "257") = false ∧ (Txt.slice r (some 3) (some 5) != Str.ofString " \"") = false ∧ p257 (r.length - 5) r 5 (Str.ofString "") = text
theorem tail_len : ∀ x ∈ tail7, x.length ≤ 10 := by decide +kernel
theorem resp_ok (text tail : Str) (hl : text.length ≤ 9) (ht : tail ∈ tail7) : RespOk (Str.ofString "257 \"" ++ Txt.replace text (Str.ofString "\"") (Str.ofString "\"\"") ++ Str.ofString "\"" ++ tail) text := by
  refine ⟨?_, p7_ok text tail ht _ rfl⟩
  have h1 := replace_len text
  have h2 := tail_len tail ht
  rw [PySem.Str.length_append, PySem.Str.length_append, PySem.Str.length_append, show (Str.ofString "257 \"").length = 5 by decide +kernel, show (Str.ofString "\"").length = 1 by decide +kernel]
  omega
theorem parse_ok {w : World} {mean : ExcName → Option Value} {mg mb : Str → Option Value} {loose : List Str} {dp un : Nat} {gd : Option (List Code)} {cn : Str} {cs : Scope} {a : Addr} {ccd : Value} {cl : List (Str × Addr)} {outer : List Env} {A₀ : Around} {base h₀ : Heap} {L : Addr} {m : Str → Option Value} {s : Shared} {Q E : Value → Shared → Prop} {news : List (Addr × Obj)} {r text : Str} {t1 : Tok} (spc : P257 w mean mg mb loose) (hr : RespOk r text) (B : Below A₀ base outer h₀) (F : Fr h₀ L s.heap m) (X : (hd.heap_1 w.params).In h₀) (T : Top topProg loose mean mg mb h₀) (hk : cs.kind = .function) (N : News h₀ L s.heap news) (hd : dp + 4 < recursionLimit) (hu : un + 40 < cLine)
    (ret : ∀ (h' : Heap) (tk' : Nat) (t : Tok), Fr h₀ L h' m → News h₀ L h' news → Q (.str text t) { s with heap := h', toks := tk' }) : wpAny (model PySem.Challenge.rw_ta0052_01.row.prog w) (ktrTop dp un gd cn cs L a ccd cl outer) (call (.ref 143) [.str r t1]) Q E s :=
  P257.use spc B F X T hk N hr.1 hr.2.1 hr.2.2.1 hr.2.2.2.1 hd hu fun h' tk' t F' N' => by
    rw [hr.2.2.2.2]
    exact ret h' tk' t F' N'
section
local macro_rules | `(tactic| walk_at "binaryOp Add str str") => rowR `add_len "qI"
local macro_rules | `(tactic| walk_at "my q") => `(tactic| ((try simp only [PySem.Str.length_append, sl0, sl1, sl2, sl3, sl4, sl5, sl6, sl7, sl8, sl9, sl10, sl11, sl12, so0, so1, so2, so3, so4, sq0, sq1, sq2, sq3, sz1]); omega))
local macro_rules | `(tactic| walk_at "call ref") => rowR `parse_ok "sPaaaaraooI"
local macro_rules | `(tactic| walk_at "my p") => `(tactic| exact resp_ok _ _ (by assumption) (by k_mem))
theorem lawU2 (s : Shared) (qk : Flow → Shared → Prop) (ek : Value → Shared → Prop)
   (m : Str → Option Value) (R : List (Addr × Obj)) (o9 : Obj) (gone : Nat) (tg td tt : Tok) (dress : Int) (text : Str)
    (B : Below A₀ g [] g) (X : (hd.heap_1 w.params).In g) (T : Top topProg loose mean mg mb g) (C : CodeHd g 70 66) (C2 : CodeHd g 77 73) (C3 : CodeHd g 154 152) (hd9 : dp + 32 < recursionLimit) (hu9 : un + 300 < cLine) (F : Fr g L s.heap m) (N : News g L s.heap ((L + 1 + 1 + 1 + 1 + 1 + 1 + 1 + 1 + 1, o9) :: R)) (e9 : o9.data = .cell (some (.int (gone : Int) tg))) (hg : gone < 10) (hd0 : 0 ≤ dress) (hd3 : dress < 3) (hmd : m (Str.ofString "dress") = some (.int dress td)) (hmt : m (Str.ofString "text") = some (.str text tt)) (htl : text.length ≤ 9) (l1 : @LT.lt Nat _ 160 L) (ret : ∀ (h' : Heap) (tk' : Nat) (tl : Tok), Fr g L h' (fun y => if y = Str.ofString "told" then some (.str text tl) else m y) → News g L h' ((L + 1 + 1 + 1 + 1 + 1 + 1 + 1 + 1 + 1, o9) :: R) → qk .next { s with heap := h', toks := tk' }) :
   wpAny (model PySem.Challenge.rw_ta0052_01.row.prog w) (ktrTop dp un gd (Str.ofString "law") (scopeOf (topStmt 22)) L a ccd (cellsFrom (L + 1) (scopeOf (topStmt 22)).names []) []) (execs (((forBody ((bodyOf (topStmt 22)).getD 13 (.Pass default))).take 4).drop 2) (envOfC (Str.ofString "law") (scopeOf (topStmt 22)) L a ccd)) qk ek s := by
  refine cutG fun Pc kc => ?_
  obtain ⟨sc, hsc⟩ : ∃ sc, sc = scopeOf (topStmt 22) := ⟨_, rfl⟩
  refine kc ?_
  clear kc Pc
  rw [← hsc]
  conv at hsc => rhs; whnf
  subst hsc
  revert X T; k_fill; intro X T
  change wpAny _ _ (execs [_, _] _) _ _ _
  k_unmd
  have p7 := p257S w mean mg mb loose
  have hrl := replace_len text
  have hne : (text != text) = false := by simp
  have hf0 : 0 ≤ (dress + (gone : Int)).fmod 3 := Int.fmod_nonneg_of_pos _ (by omega)
  have hf1 : (dress + (gone : Int)).fmod 3 < 3 := Int.fmod_lt_of_pos _ (by omega)
  k_steps
  rcases (show (dress + (gone : Int)).fmod 3 = 0 ∨ (dress + (gone : Int)).fmod 3 = 1 ∨ (dress + (gone : Int)).fmod 3 = 2 by omega) with hq | hq | hq
  all_goals
    rw [hq]
    k_steps
    rename Fr _ _ _ _ => F8
    rename News _ _ _ _ => N8
    exact ret _ _ _ F8 (news_tail N8)
end
end
section
open _root_.PySem _root_.PySem.W _root_.PyProof.Rows
theorem fresh_34 : True := by (w_top off); exact trivial
open LC
noncomputable def eqRun (zs : List Int) (gone k : Nat) : Bool := decide ((zs.drop k).take (gone + 1 - k) = List.replicate (gone + 1 - k) (zs.getD gone 0))
noncomputable def firsts (zs : List Int) (gone i : Nat) : List Int := ((List.range i).filter (eqRun zs gone)).map Int.ofNat
theorem firsts0 (zs : List Int) (gone : Nat) : firsts zs gone 0 = [] := rfl
theorem firsts_yes {zs : List Int} {gone i : Nat} (h : eqRun zs gone i = true) : firsts zs gone (i + 1) = firsts zs gone i ++ [(i : Int)] := by
  unfold firsts
  rw [List.range_succ, List.filter_append, List.map_append, List.filter_cons_of_pos h]
  rfl
theorem firsts_no {zs : List Int} {gone i : Nat} (h : eqRun zs gone i = false) : firsts zs gone (i + 1) = firsts zs gone i := by
  unfold firsts
  rw [List.range_succ, List.filter_append, List.map_append, List.filter_cons_of_neg (by rw [h]; decide)]
  exact List.append_nil _
theorem flat_one {α : Type} (k : Nat) (a : α) : (List.replicate k [a]).flatten = List.replicate k a := by
  induction k with
  | zero => rfl
  | succ k ih => rw [List.replicate_succ, List.flatten_cons, ih, List.replicate_succ]; rfl
theorem eqRun_eq {zs : List Int} {gone i : Nat} (hg : gone < zs.length) (hi : i < gone + 1) : decide (List.take (min ((gone : Int) + 1).toNat zs.length - (i : Int).toNat) (List.drop (i : Int).toNat zs) = (List.replicate ((gone : Int) + 1 - (i : Int)).toNat [zs.getD (gone : Int).toNat 0]).flatten) = eqRun zs gone i := by
  unfold eqRun
  rw [flat_one, Int.toNat_natCast, Int.toNat_natCast, show ((gone : Int) + 1).toNat = gone + 1 by omega, show ((gone : Int) + 1 - (i : Int)).toNat = gone + 1 - i by omega, Nat.min_eq_left (by omega)]
theorem firsts_mem {zs : List Int} {gone : Nat} (hg : gone < zs.length) : (gone : Int) ∈ firsts zs gone (gone + 1) := by
  unfold firsts
  refine List.mem_map.mpr ⟨gone, List.mem_filter.mpr ⟨List.mem_range.mpr (by omega), ?_⟩, rfl⟩
  unfold eqRun
  rw [decide_eq_true_eq, show gone + 1 - gone = 1 by omega, List.drop_eq_getElem_cons hg, List.getD_eq_getElem?_getD, List.getElem?_eq_getElem hg]
  rfl
section
noncomputable def lawU4.R (s : Shared) (qk : Flow → Shared → Prop) (ek : Value → Shared → Prop) (m : Str → Option Value) (R : List (Addr × Obj)) (Dn : Addr) (kn : Nat) (ys : List Value) (zs : List Int) (o7 : Obj) (o9 : Obj) (gone : Nat) (tg : Tok) : Prop :=
  ∀ (B : Below A₀ g [] g) (X : (hd.heap_1 w.params).In g) (T : Top topProg loose mean mg mb g) (C : CodeHd g 70 66) (C2 : CodeHd g 77 73) (C3 : CodeHd g 154 152) (hd9 : dp + 32 < recursionLimit) (hu9 : un + 300 < cLine) (F : Fr g L s.heap m) (N : News g L s.heap ((Dn, listOf ys.toArray kn) :: (L + 1 + 1 + 1 + 1 + 1 + 1 + 1, o7) :: (L + 1 + 1 + 1 + 1 + 1 + 1 + 1 + 1 + 1, o9) :: R)) (e7 : o7.data = .cell (some (.ref Dn))) (hI : IntsAre ys zs) (hz5 : 5 ≤ zs.length) (hz10 : zs.length ≤ 10) (e9 : o9.data = .cell (some (.int (gone : Int) tg))) (hg : gone < zs.length) (l1 : @LT.lt Nat _ 160 L) (ret : ∀ (h' : Heap) (tk' : Nat) (f : Nat) (tf : Tok), f ≤ gone → eqRun zs gone f = true → (∀ k, k ≤ gone → eqRun zs gone k = true → f ≤ k) → Fr g L h' (fun y => if y = Str.ofString "first" then some (.int (f : Int) tf) else m y) → News g L h' ((Dn, listOf ys.toArray kn) :: (L + 1 + 1 + 1 + 1 + 1 + 1 + 1, o7) :: (L + 1 + 1 + 1 + 1 + 1 + 1 + 1 + 1 + 1, o9) :: R) → qk .next { s with heap := h', toks := tk' }),
   wpAny (model PySem.Challenge.rw_ta0052_01.row.prog w) (ktrTop dp un gd (Str.ofString "law") (scopeOf (topStmt 22)) L a ccd (cellsFrom (L + 1) (scopeOf (topStmt 22)).names []) []) (execs (((forBody ((bodyOf (topStmt 22)).getD 13 (.Pass default))).take 5).drop 4) (envOfC (Str.ofString "law") (scopeOf (topStmt 22)) L a ccd)) qk ek s
abbrev lawU4.T : Type := Shared × (Flow → Shared → Prop) × (Value → Shared → Prop) × (Str → Option Value) × (List (Addr × Obj)) × Addr × Nat × (List Value) × (List Int) × Obj × Obj × Nat × Tok
theorem lawU4.ne : Nonempty lawU4.T := ⟨({}, fun _ _ => True, fun _ _ => True, fun _ => none, [], 0, 0, [], [], default, default, 0, 0)⟩
noncomputable def lawU4.Q (c : lawU4.T) : Prop := lawU4.R c.1 c.2.1 c.2.2.1 c.2.2.2.1 c.2.2.2.2.1 c.2.2.2.2.2.1 c.2.2.2.2.2.2.1 c.2.2.2.2.2.2.2.1 c.2.2.2.2.2.2.2.2.1 c.2.2.2.2.2.2.2.2.2.1 c.2.2.2.2.2.2.2.2.2.2.1 c.2.2.2.2.2.2.2.2.2.2.2.1 c.2.2.2.2.2.2.2.2.2.2.2.2
noncomputable def lawU4.c : lawU4.T := Classical.epsilon (h := lawU4.ne) fun c => ¬ lawU4.Q c
namespace lawU4K
@[irreducible] noncomputable def s := lawU4.c.1
@[irreducible] noncomputable def qk := lawU4.c.2.1
@[irreducible] noncomputable def ek := lawU4.c.2.2.1
@[irreducible] noncomputable def m := lawU4.c.2.2.2.1
@[irreducible] noncomputable def R := lawU4.c.2.2.2.2.1
@[irreducible] noncomputable def Dn := lawU4.c.2.2.2.2.2.1
@[irreducible] noncomputable def kn := lawU4.c.2.2.2.2.2.2.1
@[irreducible] noncomputable def ys := lawU4.c.2.2.2.2.2.2.2.1
@[irreducible] noncomputable def zs := lawU4.c.2.2.2.2.2.2.2.2.1
@[irreducible] noncomputable def o7 := lawU4.c.2.2.2.2.2.2.2.2.2.1
@[irreducible] noncomputable def o9 := lawU4.c.2.2.2.2.2.2.2.2.2.2.1
@[irreducible] noncomputable def gone := lawU4.c.2.2.2.2.2.2.2.2.2.2.2.1
@[irreducible] noncomputable def tg := lawU4.c.2.2.2.2.2.2.2.2.2.2.2.2
theorem main : lawU4.R s qk ek m R Dn kn ys zs o7 o9 gone tg := by
  intro B X T C C2 C3 hd9 hu9 F N e7 hI hz5 hz10 e9 hg l1 ret
  refine cutG fun Pc kc => ?_
  obtain ⟨sc, hsc⟩ : ∃ sc, sc = scopeOf (topStmt 22) := ⟨_, rfl⟩
  refine kc ?_
  clear kc Pc
  rw [← hsc]
  conv at hsc => rhs; whnf
  subst hsc
  revert X T; k_fill; intro X T
  change wpAny _ _ (execs [_] _) _ _ _
  k_unmd
  have hg1 : (gone : Int) < zs.length := by omega
  k_steps
  unfold Stop
  rename Fr _ _ _ _ => F
  rename News _ _ _ _ => N
  refine' compTR [(Dn, listOf ys.toArray kn), (L + 1 + 1 + 1 + 1 + 1 + 1 + 1, o7), (L + 1 + 1 + 1 + 1 + 1 + 1 + 1 + 1 + 1, o9)] R 0 (gone + 1) (fun i vs ex => ex = [] ∧ IntsAre vs (firsts zs gone i)) F ?hh ?hclos ?hcell ?hkind ?hnames ?hx ?hn ?h0 ?h1 ?hit ?J0 ?T ?hQ ?hs
  case hh => with_unfolding_all rfl
  case hclos => with_unfolding_all rfl
  case hcell => decide
  case hkind => with_unfolding_all rfl
  case hnames => decide
  case hx => with_unfolding_all rfl
  case hs => intro _; with_unfolding_all rfl
  case hn => omega
  case h0 => omega
  case h1 => omega
  case hit =>
    refine wpAny_stop ?_
    k_steps
    try unfold Stop
    exact ⟨_, _, _, _, _, _, _, rfl, by assumption, by omega, by assumption, by assumption, rfl⟩
  case J0 => exact ⟨rfl, by rw [firsts0]; exact .nil⟩
  case T =>
    intro i9 ys9 ex9 v9 I9 oI9 C9 oC9 D9 m9 h9 tk9 E9 hi9 hJ9 hv9 hC9 hx9 F9 N9
    clear F N
    obtain ⟨t9, rfl⟩ := hv9
    obtain ⟨rfl, hz9⟩ := hJ9
    rw [Int.zero_add] at hx9
    have hb0 : 0 ≤ (i9 : Int) := by omega
    have hb1 : (i9 : Int) < zs.length := by omega
    have hb2 : (i9 : Int) ≤ (gone : Int) := by omega
    simp only [List.cons_append, List.nil_append] at N9
    refine wpAny_tests_one ?_
    refine wpAny_stop ?_
    k_steps
    unfold Stop
    rename Fr _ _ _ _ => F8
    rename News _ _ _ _ => N8
    refine ⟨⟨_, _, rfl, F8, news_tail (news_tail (news_tail N8))⟩, fun hok => ?_, fun hno => ?_⟩
    · rw [eqRun_eq hg hi9] at hok
      unfold EltB
      replace N8 := news_tail (news_tail (news_tail N8))
      refine wpAny_stop ?_
      k_steps
      unfold Stop
      refine ⟨_, _, [], rfl, F8, N8, (fun q hq => nomatch hq), rfl, ?_⟩
      rw [firsts_yes hok]
      exact IntsAre.append hz9 (.cons _ _ .nil)
    · rw [eqRun_eq hg hi9] at hno
      refine ⟨by first | rfl | trivial, ?_⟩
      rw [firsts_no hno]
      exact hz9
  case hQ =>
    intro D vs ex h9 tk9 hJ9 F9 N9 hD9
    obtain ⟨rfl, hz⟩ := hJ9
    clear F N
    simp only [List.cons_append, List.nil_append] at N9 hD9
    have hmem := firsts_mem hg
    have hne : firsts zs gone (gone + 1) ≠ [] := List.ne_nil_of_mem hmem
    k_steps
    refine min_list_N (by with_unfolding_all rfl) F9 N9 (News.isList N9 (.head _)) hz (List.length_pos_iff.mpr hne) ?_
    intro h8 M t8 tk8 F8 N8 hM hle
    k_steps
    rename Fr _ _ _ _ => F7
    rename News _ _ _ _ => N7
    refine cutG fun Pc kc => ?_
    obtain ⟨f, hf, rfl⟩ := List.mem_map.mp hM
    refine kc ?_
    clear kc Pc
    obtain ⟨hf1, hf2⟩ := List.mem_filter.mp hf
    rw [List.mem_range] at hf1
    refine ret _ _ f _ (by omega) hf2 (fun k hk1 hk2 => ?_) F7 (news_tail N7)
    have := hle (k : Int) (List.mem_map.mpr ⟨k, List.mem_filter.mpr ⟨List.mem_range.mpr (by omega), hk2⟩, rfl⟩)
    exact Int.ofNat_le.mp this
end lawU4K
theorem lawU4 (s : Shared) (qk : Flow → Shared → Prop) (ek : Value → Shared → Prop) (m : Str → Option Value) (R : List (Addr × Obj)) (Dn : Addr) (kn : Nat) (ys : List Value) (zs : List Int) (o7 : Obj) (o9 : Obj) (gone : Nat) (tg : Tok) : lawU4.R s qk ek m R Dn kn ys zs o7 o9 gone tg := shut lawU4.ne (Q := lawU4.Q) (by with_unfolding_all exact lawU4K.main) (s, qk, ek, m, R, Dn, kn, ys, zs, o7, o9, gone, tg)
end
end
section
open _root_.PySem _root_.PySem.W _root_.PyProof.Rows
theorem fresh_35 : True := by (w_top off); exact trivial
open LC
noncomputable def eqRunR (zs : List Int) (gone k : Nat) : Bool := decide ((zs.drop gone).take (k + 1 - gone) = List.replicate (k + 1 - gone) (zs.getD gone 0))
noncomputable def lasts (zs : List Int) (gone i : Nat) : List Int := ((List.range i).filter fun j => eqRunR zs gone (gone + j)).map fun j => Int.ofNat (gone + j)
theorem lasts0 (zs : List Int) (gone : Nat) : lasts zs gone 0 = [] := rfl
theorem lasts_yes {zs : List Int} {gone i : Nat} (h : eqRunR zs gone (gone + i) = true) : lasts zs gone (i + 1) = lasts zs gone i ++ [(gone : Int) + (i : Int)] := by
  unfold lasts
  rw [List.range_succ, List.filter_append, List.map_append, List.filter_cons_of_pos (p := fun j => eqRunR zs gone (gone + j)) h]
  rfl
theorem lasts_no {zs : List Int} {gone i : Nat} (h : eqRunR zs gone (gone + i) = false) : lasts zs gone (i + 1) = lasts zs gone i := by
  unfold lasts
  rw [List.range_succ, List.filter_append, List.map_append, List.filter_cons_of_neg (p := fun j => eqRunR zs gone (gone + j)) (by rw [h]; decide)]
  exact List.append_nil _
theorem eqRunR_eq {zs : List Int} {gone i : Nat} (hi : gone + i < zs.length) : decide (List.take (min ((gone : Int) + (i : Int) + 1).toNat zs.length - (gone : Int).toNat) (List.drop (gone : Int).toNat zs) = (List.replicate ((gone : Int) + (i : Int) + 1 - (gone : Int)).toNat [zs.getD (gone : Int).toNat 0]).flatten) = eqRunR zs gone (gone + i) := by
  unfold eqRunR
  rw [flat_one, Int.toNat_natCast, show ((gone : Int) + (i : Int) + 1).toNat = gone + i + 1 by omega, show ((gone : Int) + (i : Int) + 1 - (gone : Int)).toNat = gone + i + 1 - gone by omega, Nat.min_eq_left (by omega)]
theorem lasts_mem {zs : List Int} {gone n : Nat} (hg : gone < zs.length) (hn : 0 < n) : (gone : Int) ∈ lasts zs gone n := by
  unfold lasts
  refine List.mem_map.mpr ⟨0, List.mem_filter.mpr ⟨List.mem_range.mpr hn, ?_⟩, by simp⟩
  unfold eqRunR
  rw [decide_eq_true_eq, show gone + 0 + 1 - gone = 1 by omega, List.drop_eq_getElem_cons hg, List.getD_eq_getElem?_getD, List.getElem?_eq_getElem hg]
  rfl
section
noncomputable def lawU5.R (s : Shared) (qk : Flow → Shared → Prop) (ek : Value → Shared → Prop) (m : Str → Option Value) (R : List (Addr × Obj)) (Dn : Addr) (kn : Nat) (ys : List Value) (zs : List Int) (o7 : Obj) (o5 o9 : Obj) (gone : Nat) (tg ts : Tok) (size : Int) : Prop :=
  ∀ (B : Below A₀ g [] g) (X : (hd.heap_1 w.params).In g) (T : Top topProg loose mean mg mb g) (C : CodeHd g 70 66) (C2 : CodeHd g 77 73) (C3 : CodeHd g 154 152) (hd9 : dp + 32 < recursionLimit) (hu9 : un + 300 < cLine) (F : Fr g L s.heap m) (N : News g L s.heap ((Dn, listOf ys.toArray kn) :: (L + 1 + 1 + 1 + 1 + 1 + 1 + 1, o7) :: (L + 1 + 1 + 1 + 1 + 1 + 1 + 1 + 1 + 1, o9) :: (L + 1 + 1 + 1 + 1 + 1, o5) :: R)) (e7 : o7.data = .cell (some (.ref Dn))) (hI : IntsAre ys zs) (hz5 : 5 ≤ zs.length) (hz10 : zs.length ≤ 10) (e9 : o9.data = .cell (some (.int (gone : Int) tg))) (hg : gone < zs.length) (e5 : o5.data = .cell (some (.int size ts))) (hzl : (zs.length : Int) = size) (l1 : @LT.lt Nat _ 160 L) (ret : ∀ (h' : Heap) (tk' : Nat) (f : Nat) (tf : Tok), gone ≤ f → f < zs.length → eqRunR zs gone f = true → (∀ k, gone ≤ k → k < zs.length → eqRunR zs gone k = true → k ≤ f) → Fr g L h' (fun y => if y = Str.ofString "last" then some (.int (f : Int) tf) else m y) → News g L h' ((Dn, listOf ys.toArray kn) :: (L + 1 + 1 + 1 + 1 + 1 + 1 + 1, o7) :: (L + 1 + 1 + 1 + 1 + 1 + 1 + 1 + 1 + 1, o9) :: (L + 1 + 1 + 1 + 1 + 1, o5) :: R) → qk .next { s with heap := h', toks := tk' }),
   wpAny (model PySem.Challenge.rw_ta0052_01.row.prog w) (ktrTop dp un gd (Str.ofString "law") (scopeOf (topStmt 22)) L a ccd (cellsFrom (L + 1) (scopeOf (topStmt 22)).names []) []) (execs (((forBody ((bodyOf (topStmt 22)).getD 13 (.Pass default))).take 6).drop 5) (envOfC (Str.ofString "law") (scopeOf (topStmt 22)) L a ccd)) qk ek s
abbrev lawU5.T : Type := Shared × (Flow → Shared → Prop) × (Value → Shared → Prop) × (Str → Option Value) × (List (Addr × Obj)) × Addr × Nat × (List Value) × (List Int) × Obj × Obj × Obj × Nat × Tok × Tok × Int
theorem lawU5.ne : Nonempty lawU5.T := ⟨({}, fun _ _ => True, fun _ _ => True, fun _ => none, [], 0, 0, [], [], default, default, default, 0, 0, 0, 0)⟩
noncomputable def lawU5.Q (c : lawU5.T) : Prop := lawU5.R c.1 c.2.1 c.2.2.1 c.2.2.2.1 c.2.2.2.2.1 c.2.2.2.2.2.1 c.2.2.2.2.2.2.1 c.2.2.2.2.2.2.2.1 c.2.2.2.2.2.2.2.2.1 c.2.2.2.2.2.2.2.2.2.1 c.2.2.2.2.2.2.2.2.2.2.1 c.2.2.2.2.2.2.2.2.2.2.2.1 c.2.2.2.2.2.2.2.2.2.2.2.2.1 c.2.2.2.2.2.2.2.2.2.2.2.2.2.1 c.2.2.2.2.2.2.2.2.2.2.2.2.2.2.1 c.2.2.2.2.2.2.2.2.2.2.2.2.2.2.2
noncomputable def lawU5.c : lawU5.T := Classical.epsilon (h := lawU5.ne) fun c => ¬ lawU5.Q c
namespace lawU5K
@[irreducible] noncomputable def s := lawU5.c.1
@[irreducible] noncomputable def qk := lawU5.c.2.1
@[irreducible] noncomputable def ek := lawU5.c.2.2.1
@[irreducible] noncomputable def m := lawU5.c.2.2.2.1
@[irreducible] noncomputable def R := lawU5.c.2.2.2.2.1
@[irreducible] noncomputable def Dn := lawU5.c.2.2.2.2.2.1
@[irreducible] noncomputable def kn := lawU5.c.2.2.2.2.2.2.1
@[irreducible] noncomputable def ys := lawU5.c.2.2.2.2.2.2.2.1
@[irreducible] noncomputable def zs := lawU5.c.2.2.2.2.2.2.2.2.1
@[irreducible] noncomputable def o7 := lawU5.c.2.2.2.2.2.2.2.2.2.1
@[irreducible] noncomputable def o5 := lawU5.c.2.2.2.2.2.2.2.2.2.2.1
@[irreducible] noncomputable def o9 := lawU5.c.2.2.2.2.2.2.2.2.2.2.2.1
@[irreducible] noncomputable def gone := lawU5.c.2.2.2.2.2.2.2.2.2.2.2.2.1
@[irreducible] noncomputable def tg := lawU5.c.2.2.2.2.2.2.2.2.2.2.2.2.2.1
@[irreducible] noncomputable def ts := lawU5.c.2.2.2.2.2.2.2.2.2.2.2.2.2.2.1
@[irreducible] noncomputable def size := lawU5.c.2.2.2.2.2.2.2.2.2.2.2.2.2.2.2
theorem main : lawU5.R s qk ek m R Dn kn ys zs o7 o5 o9 gone tg ts size := by
  intro B X T C C2 C3 hd9 hu9 F N e7 hI hz5 hz10 e9 hg e5 hzl l1 ret
  refine cutG fun Pc kc => ?_
  obtain ⟨sc, hsc⟩ : ∃ sc, sc = scopeOf (topStmt 22) := ⟨_, rfl⟩
  refine kc ?_
  clear kc Pc
  rw [← hsc]
  conv at hsc => rhs; whnf
  subst hsc
  revert X T; k_fill; intro X T
  change wpAny _ _ (execs [_] _) _ _ _
  k_unmd
  have hg1 : (gone : Int) < zs.length := by omega
  k_steps
  unfold Stop
  rename Fr _ _ _ _ => F
  rename News _ _ _ _ => N
  refine' compTR [(Dn, listOf ys.toArray kn), (L + 1 + 1 + 1 + 1 + 1 + 1 + 1, o7), (L + 1 + 1 + 1 + 1 + 1 + 1 + 1 + 1 + 1, o9), (L + 1 + 1 + 1 + 1 + 1, o5)] R gone (zs.length - gone) (fun i vs ex => ex = [] ∧ IntsAre vs (lasts zs gone i)) F ?hh ?hclos ?hcell ?hkind ?hnames ?hx ?hn ?h0 ?h1 ?hit ?J0 ?T ?hQ ?hs
  case hh => with_unfolding_all rfl
  case hclos => with_unfolding_all rfl
  case hcell => decide
  case hkind => with_unfolding_all rfl
  case hnames => decide
  case hx => with_unfolding_all rfl
  case hs => intro _; with_unfolding_all rfl
  case hn => omega
  case h0 => omega
  case h1 => omega
  case hit =>
    refine wpAny_stop ?_
    k_steps
    try unfold Stop
    exact ⟨_, _, _, _, _, _, _, rfl, by assumption, by omega, by assumption, by assumption, rfl⟩
  case J0 => exact ⟨rfl, by rw [lasts0]; exact .nil⟩
  case T =>
    intro i9 ys9 ex9 v9 I9 oI9 C9 oC9 D9 m9 h9 tk9 E9 hi9 hJ9 hv9 hC9 hx9 F9 N9
    clear F N
    obtain ⟨t9, rfl⟩ := hv9
    obtain ⟨rfl, hz9⟩ := hJ9
    have hb0 : 0 ≤ (i9 : Int) := by omega
    have hb1 : (gone : Int) + (i9 : Int) < zs.length := by omega
    have hb2 : 0 ≤ (gone : Int) := by omega
    simp only [List.cons_append, List.nil_append] at N9
    refine wpAny_tests_one ?_
    refine wpAny_stop ?_
    k_steps
    unfold Stop
    rename Fr _ _ _ _ => F8
    rename News _ _ _ _ => N8
    refine ⟨⟨_, _, rfl, F8, news_tail (news_tail (news_tail N8))⟩, fun hok => ?_, fun hno => ?_⟩
    · rw [eqRunR_eq (by omega)] at hok
      unfold EltB
      replace N8 := news_tail (news_tail (news_tail N8))
      refine wpAny_stop ?_
      k_steps
      unfold Stop
      refine ⟨_, _, [], rfl, F8, N8, (fun q hq => nomatch hq), rfl, ?_⟩
      rw [lasts_yes hok]
      exact IntsAre.append hz9 (.cons _ _ .nil)
    · rw [eqRunR_eq (by omega)] at hno
      refine ⟨by first | rfl | trivial, ?_⟩
      rw [lasts_no hno]
      exact hz9
  case hQ =>
    intro D vs ex h9 tk9 hJ9 F9 N9 hD9
    obtain ⟨rfl, hz⟩ := hJ9
    clear F N
    simp only [List.cons_append, List.nil_append] at N9 hD9
    have hmem := lasts_mem (n := zs.length - gone) hg (by omega)
    have hne : lasts zs gone (zs.length - gone) ≠ [] := List.ne_nil_of_mem hmem
    k_steps
    refine max_list_N (by with_unfolding_all rfl) F9 N9 (News.isList N9 (.head _)) hz (List.length_pos_iff.mpr hne) ?_
    intro h8 M t8 tk8 F8 N8 hM hle
    k_steps
    rename Fr _ _ _ _ => F7
    rename News _ _ _ _ => N7
    refine cutG fun Pc kc => ?_
    obtain ⟨f, hf, rfl⟩ := List.mem_map.mp hM
    refine kc ?_
    clear kc Pc
    obtain ⟨hf1, hf2⟩ := List.mem_filter.mp hf
    rw [List.mem_range] at hf1
    refine ret _ _ (gone + f) _ (by omega) (by omega) hf2 (fun k hk0 hk1 hk2 => ?_) F7 (news_tail N7)
    have := hle (k : Int) (List.mem_map.mpr ⟨k - gone, List.mem_filter.mpr ⟨List.mem_range.mpr (by omega), by rw [show gone + (k - gone) = k by omega]; exact hk2⟩, by rw [show gone + (k - gone) = k by omega]; rfl⟩)
    exact Int.ofNat_le.mp this
end lawU5K
theorem lawU5 (s : Shared) (qk : Flow → Shared → Prop) (ek : Value → Shared → Prop) (m : Str → Option Value) (R : List (Addr × Obj)) (Dn : Addr) (kn : Nat) (ys : List Value) (zs : List Int) (o7 : Obj) (o5 o9 : Obj) (gone : Nat) (tg ts : Tok) (size : Int) : lawU5.R s qk ek m R Dn kn ys zs o7 o5 o9 gone tg ts size := shut lawU5.ne (Q := lawU5.Q) (by with_unfolding_all exact lawU5K.main) (s, qk, ek, m, R, Dn, kn, ys, zs, o7, o5, o9, gone, tg, ts, size)
end
end
section
open _root_.PySem _root_.PySem.W _root_.PyProof.Rows
theorem fresh_36 : True := by (w_top off); exact trivial
open LC
theorem rint_succ (n : Nat) : rangeInts 0 1 (n + 1) = rangeInts 0 1 n ++ [(n : Int)] := by
  unfold rangeInts
  rw [List.range_succ, List.map_append]
  simp
theorem news_tx {g h : Heap} {L : Addr} {l I C D : Addr × Obj} (nd ex R : List (Addr × Obj)) (N : News g L h (l :: I :: C :: D :: (nd ++ (ex ++ R)))) : News g L h (I :: C :: D :: (nd ++ (([l] ++ ex) ++ R))) := newsS N (by walk_at "my s")
noncomputable def JP (cm : List Int) (lo : List (Addr × Obj)) (i : Nat) (vs : List Value) (ex : List (Addr × Obj)) : Prop :=
  ∃ ts, (∀ p ∈ ts, p ∈ ex) ∧ vs = ts.map (fun p => Value.ref p.1) ∧ RowsAre ts ((rangeInts 0 1 i).map fun k => [cm.getD k.toNat 0, k]) ∧ ∀ q ∈ ex, ∀ r ∈ lo, @LT.lt Nat _ r.1 q.1
theorem jp_snoc {cm : List Int} {lo : List (Addr × Obj)} {i : Nat} {vs : List Value} {ex : List (Addr × Obj)} (h : JP cm lo i vs ex) {l : Addr} {t u : Tok} (hl : ∀ r ∈ lo, @LT.lt Nat _ r.1 l) :
    JP cm lo (i + 1) (vs ++ [.ref l]) ([(l, listOf #[.int (cm.getD i 0) t, .int (i : Int) u] 0)] ++ ex) := by
  refine cutG fun Pc kc => ?_
  obtain ⟨ts, h1, rfl, h2, h3⟩ := h
  refine kc ?_
  clear kc Pc
  refine ⟨ts ++ [(l, listOf #[.int (cm.getD i 0) t, .int (i : Int) u] 0)], ?_, ?_, ?_, ?_⟩
  · intro p hp
    rcases List.mem_append.mp hp with hp | hp
    · exact List.mem_append_right _ (h1 p hp)
    · exact List.mem_append_left _ hp
  · rw [List.map_append]; rfl
  · rw [rint_succ, List.map_append]
    exact Paired.snoc h2 ⟨rfl, _, _, rfl, .cons _ _ (.cons _ _ .nil)⟩
  · intro q hq r hr
    rcases List.mem_append.mp hq with hq | hq
    · rw [List.mem_singleton.mp hq]; exact hl r hr
    · exact h3 q hq r hr
section
noncomputable def lawU6.R (s : Shared) (qk : Flow → Shared → Prop) (ek : Value → Shared → Prop) (m : Str → Option Value) (R : List (Addr × Obj)) (o5 o10 o11 : Obj) (Dk : Addr) (kk : Nat) (ws : List Value) (cm : List Int) (ts : Tok) (size : Int) (w11 : Option Value) : Prop :=
  ∀ (B : Below A₀ g [] g) (X : (hd.heap_1 w.params).In g) (T : Top topProg loose mean mg mb g) (C : CodeHd g 70 66) (C2 : CodeHd g 77 73) (C3 : CodeHd g 154 152) (hd9 : dp + 32 < recursionLimit) (hu9 : un + 300 < cLine) (F : Fr g L s.heap m) (N : News g L s.heap ((Dk, listOf ws.toArray kk) :: (L + 1 + 1 + 1 + 1 + 1 + 1 + 1 + 1 + 1 + 1, o10) :: (L + 1 + 1 + 1 + 1 + 1, o5) :: (L + 1 + 1 + 1 + 1 + 1 + 1 + 1 + 1 + 1 + 1 + 1, o11) :: R)) (hIc : IntsAre ws cm) (hcl : (cm.length : Int) + 1 = size) (hs10 : size ≤ 10) (e5 : o5.data = .cell (some (.int size ts))) (e10 : o10.data = .cell (some (.ref Dk))) (e11 : o11.data = .cell w11) (hR11 : ∀ q ∈ R, q.1 ≠ L + 1 + 1 + 1 + 1 + 1 + 1 + 1 + 1 + 1 + 1 + 1) (q11 : @Ne Nat Dk (L + 1 + 1 + 1 + 1 + 1 + 1 + 1 + 1 + 1 + 1 + 1)) (l1 : @LT.lt Nat _ 160 L) (ret : ∀ (h' : Heap) (tk' : Nat) (Dp : Addr) (k : Nat) (tp ex : List (Addr × Obj)) (o11' : Obj), Fr g L h' m → News g L h' ((Dp, listOf (tp.map fun p => Value.ref p.1).toArray k) :: (Dk, listOf ws.toArray kk) :: (L + 1 + 1 + 1 + 1 + 1 + 1 + 1 + 1 + 1 + 1, o10) :: (L + 1 + 1 + 1 + 1 + 1, o5) :: (L + 1 + 1 + 1 + 1 + 1 + 1 + 1 + 1 + 1 + 1 + 1, o11') :: (ex ++ R)) → o11'.data = .cell (some (.ref Dp)) → RowsAre tp ((rangeInts 0 1 cm.length).map fun k => [cm.getD k.toNat 0, k]) → (∀ p ∈ tp, p ∈ ex) → (∀ q ∈ ex, ∀ r ∈ ([(Dk, listOf ws.toArray kk), (L + 1 + 1 + 1 + 1 + 1 + 1 + 1 + 1 + 1 + 1, o10), (L + 1 + 1 + 1 + 1 + 1, o5), (L + 1 + 1 + 1 + 1 + 1 + 1 + 1 + 1 + 1 + 1 + 1, o11)] ++ R : List (Addr × Obj)), @LT.lt Nat _ r.1 q.1) → (∀ q ∈ ((Dk, listOf ws.toArray kk) :: (L + 1 + 1 + 1 + 1 + 1 + 1 + 1 + 1 + 1 + 1, o10) :: (L + 1 + 1 + 1 + 1 + 1, o5) :: (L + 1 + 1 + 1 + 1 + 1 + 1 + 1 + 1 + 1 + 1 + 1, o11) :: (ex ++ R)), q.1 ≠ Dp) → qk .next { s with heap := h', toks := tk' }),
   wpAny (model PySem.Challenge.rw_ta0052_01.row.prog w) (ktrTop dp un gd (Str.ofString "law") (scopeOf (topStmt 22)) L a ccd (cellsFrom (L + 1) (scopeOf (topStmt 22)).names []) []) (execs (((forBody ((bodyOf (topStmt 22)).getD 13 (.Pass default))).take 7).drop 6) (envOfC (Str.ofString "law") (scopeOf (topStmt 22)) L a ccd)) qk ek s
abbrev lawU6.T : Type := Shared × (Flow → Shared → Prop) × (Value → Shared → Prop) × (Str → Option Value) × (List (Addr × Obj)) × Obj × Obj × Obj × Addr × Nat × (List Value) × (List Int) × Tok × Int × (Option Value)
theorem lawU6.ne : Nonempty lawU6.T := ⟨({}, fun _ _ => True, fun _ _ => True, fun _ => none, [], default, default, default, 0, 0, [], [], 0, 0, none)⟩
noncomputable def lawU6.Q (c : lawU6.T) : Prop := lawU6.R c.1 c.2.1 c.2.2.1 c.2.2.2.1 c.2.2.2.2.1 c.2.2.2.2.2.1 c.2.2.2.2.2.2.1 c.2.2.2.2.2.2.2.1 c.2.2.2.2.2.2.2.2.1 c.2.2.2.2.2.2.2.2.2.1 c.2.2.2.2.2.2.2.2.2.2.1 c.2.2.2.2.2.2.2.2.2.2.2.1 c.2.2.2.2.2.2.2.2.2.2.2.2.1 c.2.2.2.2.2.2.2.2.2.2.2.2.2.1 c.2.2.2.2.2.2.2.2.2.2.2.2.2.2
noncomputable def lawU6.c : lawU6.T := Classical.epsilon (h := lawU6.ne) fun c => ¬ lawU6.Q c
namespace lawU6K
@[irreducible] noncomputable def s := lawU6.c.1
@[irreducible] noncomputable def qk := lawU6.c.2.1
@[irreducible] noncomputable def ek := lawU6.c.2.2.1
@[irreducible] noncomputable def m := lawU6.c.2.2.2.1
@[irreducible] noncomputable def R := lawU6.c.2.2.2.2.1
@[irreducible] noncomputable def o5 := lawU6.c.2.2.2.2.2.1
@[irreducible] noncomputable def o10 := lawU6.c.2.2.2.2.2.2.1
@[irreducible] noncomputable def o11 := lawU6.c.2.2.2.2.2.2.2.1
@[irreducible] noncomputable def Dk := lawU6.c.2.2.2.2.2.2.2.2.1
@[irreducible] noncomputable def kk := lawU6.c.2.2.2.2.2.2.2.2.2.1
@[irreducible] noncomputable def ws := lawU6.c.2.2.2.2.2.2.2.2.2.2.1
@[irreducible] noncomputable def cm := lawU6.c.2.2.2.2.2.2.2.2.2.2.2.1
@[irreducible] noncomputable def ts := lawU6.c.2.2.2.2.2.2.2.2.2.2.2.2.1
@[irreducible] noncomputable def size := lawU6.c.2.2.2.2.2.2.2.2.2.2.2.2.2.1
@[irreducible] noncomputable def w11 := lawU6.c.2.2.2.2.2.2.2.2.2.2.2.2.2.2
theorem main : lawU6.R s qk ek m R o5 o10 o11 Dk kk ws cm ts size w11 := by
  intro B X T C C2 C3 hd9 hu9 F N hIc hcl hs10 e5 e10 e11 hR11 q11 l1 ret
  refine cutG fun Pc kc => ?_
  obtain ⟨sc, hsc⟩ : ∃ sc, sc = scopeOf (topStmt 22) := ⟨_, rfl⟩
  refine kc ?_
  clear kc Pc
  rw [← hsc]
  conv at hsc => rhs; whnf
  subst hsc
  revert X T; k_fill; intro X T
  change wpAny _ _ (execs [_] _) _ _ _
  k_unmd
  k_steps
  unfold Stop
  rename Fr _ _ _ _ => F
  rename News _ _ _ _ => N
  refine wpAny_Assign_Name ?_ (by with_unfolding_all rfl)
  refine' compKR [(Dk, listOf ws.toArray kk), (L + 1 + 1 + 1 + 1 + 1 + 1 + 1 + 1 + 1 + 1, o10), (L + 1 + 1 + 1 + 1 + 1, o5), (L + 1 + 1 + 1 + 1 + 1 + 1 + 1 + 1 + 1 + 1 + 1, o11)] R 0 cm.length (JP cm ([(Dk, listOf ws.toArray kk), (L + 1 + 1 + 1 + 1 + 1 + 1 + 1 + 1 + 1 + 1, o10), (L + 1 + 1 + 1 + 1 + 1, o5), (L + 1 + 1 + 1 + 1 + 1 + 1 + 1 + 1 + 1 + 1 + 1, o11)] ++ R)) F ?hh ?hclos ?hcell ?hkind ?hnames ?hx ?hn ?h0 ?h1 ?hit ?J0 ?T ?hQ ?hs
  case hh => with_unfolding_all rfl
  case hclos => with_unfolding_all rfl
  case hcell => decide
  case hkind => with_unfolding_all rfl
  case hnames => decide
  case hx => with_unfolding_all rfl
  case hs => intro _; with_unfolding_all rfl
  case hn => omega
  case h0 => omega
  case h1 => omega
  case hit =>
    refine wpAny_stop ?_
    k_steps
    try unfold Stop
    exact ⟨_, _, _, _, _, _, _, rfl, by assumption, by omega, by assumption, by assumption, rfl⟩
  case J0 => exact ⟨[], (fun p hp => nomatch hp), rfl, .nil, fun q hq => nomatch hq⟩
  case T =>
    intro i9 ys9 ex9 v9 I9 oI9 C9 oC9 D9 m9 h9 tk9 E9 hi9 hJ9 hv9 hC9 hx9 F9 N9
    clear F N
    obtain ⟨t9, rfl⟩ := hv9
    rw [Int.zero_add] at hx9
    have hb0 : 0 ≤ (i9 : Int) := by omega
    have hb1 : (i9 : Int) < cm.length := by omega
    simp only [List.cons_append, List.nil_append] at N9
    refine wpAny_stop ?_
    k_steps
    unfold Stop
    rename News _ _ _ _ => N8
    have lA := ‹_ ∧ _ ∧ _ ∧ _ ∧ _ ∧ _ ∧ _ ∧ AllLt _ (ex9 ++ R)›
    refine ⟨_, _, [_], rfl, by assumption, news_tx [(Dk, listOf ws.toArray kk), (L + 1 + 1 + 1 + 1 + 1 + 1 + 1 + 1 + 1 + 1, o10), (L + 1 + 1 + 1 + 1 + 1, o5), (L + 1 + 1 + 1 + 1 + 1 + 1 + 1 + 1 + 1 + 1 + 1, o11)] ex9 R N8, ?_, jp_snoc hJ9 ?_⟩
    · intro q hq
      rw [List.mem_singleton.mp hq]
      exact ⟨Nat.ne_of_gt lA.1, Nat.ne_of_gt lA.2.1, Nat.ne_of_gt lA.2.2.1⟩
    · intro r hr
      have lB := allLt_mem lA.2.2.2.2.2.2.2
      simp only [List.mem_cons, List.mem_append, List.not_mem_nil, or_false] at hr
      rcases hr with (rfl | rfl | rfl | rfl) | hr
      · exact lA.2.2.2.1
      · exact lA.2.2.2.2.1
      · exact lA.2.2.2.2.2.1
      · exact lA.2.2.2.2.2.2.1
      · exact lB r (List.mem_append_right _ hr)
  case hQ =>
    intro D vs ex h9 tk9 hJ9 F9 N9 hD9
    refine cutG fun Pc kc => ?_
    obtain ⟨tp, hp1, rfl, hp2, hp3⟩ := hJ9
    refine kc ?_
    clear kc Pc
    clear F N
    simp only [List.cons_append, List.nil_append] at N9 hD9
    have q9 : @Ne Nat D (L + 1 + 1 + 1 + 1 + 1 + 1 + 1 + 1 + 1 + 1 + 1) := (hD9 (L + 1 + 1 + 1 + 1 + 1 + 1 + 1 + 1 + 1 + 1 + 1, o11) (by simp)).symm
    have hRx : ∀ q ∈ ex ++ R, q.1 ≠ L + 1 + 1 + 1 + 1 + 1 + 1 + 1 + 1 + 1 + 1 + 1 := fun q hq => by
      rcases List.mem_append.mp hq with hq | hq
      · exact Nat.ne_of_gt (hp3 q hq (L + 1 + 1 + 1 + 1 + 1 + 1 + 1 + 1 + 1 + 1 + 1, o11) (by simp))
      · exact hR11 q hq
    k_steps
    rename Fr _ _ _ _ => F8
    rename News _ _ _ _ => N8
    rename _ = Data.cell (some (Value.ref D)) => d8
    exact ret _ _ D _ tp ex _ F8 N8 d8 hp2 hp1 hp3 hD9
end lawU6K
theorem lawU6 (s : Shared) (qk : Flow → Shared → Prop) (ek : Value → Shared → Prop) (m : Str → Option Value) (R : List (Addr × Obj)) (o5 o10 o11 : Obj) (Dk : Addr) (kk : Nat) (ws : List Value) (cm : List Int) (ts : Tok) (size : Int) (w11 : Option Value) : lawU6.R s qk ek m R o5 o10 o11 Dk kk ws cm ts size w11 := shut lawU6.ne (Q := lawU6.Q) (by with_unfolding_all exact lawU6K.main) (s, qk, ek, m, R, o5, o10, o11, Dk, kk, ws, cm, ts, size, w11)
end
end
section
open _root_.PySem _root_.PySem.W _root_.PyProof.Rows
theorem fresh_37 : True := by (w_top off); exact trivial
open LC
local macro_rules | `(tactic| k_lt $h) => `(tactic| (replace $h := allLt_of $h; simp only [AllLt, and_true] at $h:ident))
local macro_rules | `(tactic| k_ne) => `(tactic| (refine neN ?_; (try dsimp only); omega))
section
variable {prog : Program} {w : World} {A : Around} {E : Value → Shared → Prop} {s : Shared} {h₀ : Heap} {L l : Addr} {m : Str → Option Value} {news : List (Addr × Obj)} {value slice : PySem.Expr} {vs : List Value} {k : Nat} {y : Int} {ty : Tok} {Q : Value → Shared → Prop}
theorem pick_upto (h : 0 ≤ y) : slicePick vs.toArray none (some y) none = (vs.take y.toNat).toArray := by
  have e : sliceBounds none (some y) none vs.toArray.size = (((0 : Nat) : Int), ((min y.toNat vs.toArray.size : Nat) : Int), 1) := by
    simp only [sliceBounds, Option.getD_none, show (1 : Int) > 0 by decide, if_true, if_neg (show ¬ (y < 0) by omega)]
    congr 1
    congr 1
    omega
  rw [kmk_pick_nat _ e]
  show ((vs.drop 0).take (min y.toNat vs.toArray.size - 0)).toArray = _
  rw [List.drop_zero, Nat.sub_zero, List.size_toArray, kmk_take_min]
theorem pick_from (h : 0 ≤ y) : slicePick vs.toArray (some y) none none = (vs.drop y.toNat).toArray := by
  have e : sliceBounds (some y) none none vs.toArray.size = (((min y.toNat vs.toArray.size : Nat) : Int), ((vs.toArray.size : Nat) : Int), 1) := by
    simp only [sliceBounds, Option.getD_none, show (1 : Int) > 0 by decide, if_true, if_neg (show ¬ (y < 0) by omega)]
    congr 1
    omega
  rw [kmk_pick_nat _ e]
  show ((vs.drop (min y.toNat vs.toArray.size)).take (vs.toArray.size - min y.toNat vs.toArray.size)).toArray = _
  rw [List.size_toArray, List.take_of_length_le (by rw [List.length_drop]; exact Nat.le_refl _)]
  by_cases hy : y.toNat ≤ vs.length
  · rw [Nat.min_eq_left hy]
  · rw [Nat.min_eq_right (by omega), List.drop_of_length_le (Nat.le_refl _), List.drop_of_length_le (by omega)]
theorem sl_upto (F : Fr h₀ L s.heap m) (N : News h₀ L s.heap news) (hl : (l, listOf vs.toArray k) ∈ news) (h0 : 0 ≤ y) (hz : vs.length ≤ 1000)
    (h : ∀ D h', Fr h₀ L h' m → News h₀ L h' ((D, listOf (vs.take y.toNat).toArray 0) :: news) → (∀ p ∈ news, p.1 < D) → Q (.ref D) { s with heap := h' })
    (hs : subscripted slice false (.ref l) (.ref s.heap.objs.size) = operate [.ref s.heap.objs.size, .ref l] (getItem (.ref l) (.ref s.heap.objs.size))) (ht : ∀ r, letTemporaryGo value (.ref l) r = pure ()) :
    wpAny (model prog w) A (subscriptTail value slice (.ref l) (.ref s.heap.objs.size)) Q E { s with heap := s.heap.push { cls := .type "slice", data := .fields #[.none, .int y ty, .none] } } :=
  kmk_slice F N (⟨_, (N _ hl).1, rfl, k, rfl⟩ : s.heap.IsList l vs.toArray) IsPart.none (IsPart.int _ _) (fun D h' F' N' l1 => h D h' F' (pick_upto h0 ▸ N') l1) hs ht (by rw [List.size_toArray, sizeLine_eq]; omega)
theorem sl_from (F : Fr h₀ L s.heap m) (N : News h₀ L s.heap news) (hl : (l, listOf vs.toArray k) ∈ news) (h0 : 0 ≤ y) (hz : vs.length ≤ 1000)
    (h : ∀ D h', Fr h₀ L h' m → News h₀ L h' ((D, listOf (vs.drop y.toNat).toArray 0) :: news) → (∀ p ∈ news, p.1 < D) → Q (.ref D) { s with heap := h' })
    (hs : subscripted slice false (.ref l) (.ref s.heap.objs.size) = operate [.ref s.heap.objs.size, .ref l] (getItem (.ref l) (.ref s.heap.objs.size))) (ht : ∀ r, letTemporaryGo value (.ref l) r = pure ()) :
    wpAny (model prog w) A (subscriptTail value slice (.ref l) (.ref s.heap.objs.size)) Q E { s with heap := s.heap.push { cls := .type "slice", data := .fields #[.int y ty, .none, .none] } } :=
  kmk_slice F N (⟨_, (N _ hl).1, rfl, k, rfl⟩ : s.heap.IsList l vs.toArray) (IsPart.int _ _) IsPart.none (fun D h' F' N' l1 => h D h' F' (pick_from h0 ▸ N') l1) hs ht (by rw [List.size_toArray, sizeLine_eq]; omega)
theorem add_gen {b : Addr} {ws : List Value} {k2 : Nat} (F : Fr h₀ L s.heap m) (N : News h₀ L s.heap news) (hl : (l, listOf vs.toArray k) ∈ news) (hb : (b, listOf ws.toArray k2) ∈ news) (hz : vs.length + ws.length ≤ 1000)
    (h : ∀ D h', Fr h₀ L h' m → News h₀ L h' ((D, listOf (vs ++ ws).toArray 0) :: news) → (∀ p ∈ news, p.1 < D) → Q (.ref D) { s with heap := h' }) : wpAny (model prog w) A (binaryOp .Add (.ref l) (.ref b)) Q E s :=
  add_lists (hsz := by rw [sizeLine_eq]; omega) F N ⟨_, (N _ hl).1, rfl, k, rfl⟩ ⟨_, (N _ hb).1, rfl, k2, rfl⟩ fun h' F' N' => h _ h' F' N' fun p hp => Heap.lt_size (N p hp).1
end
theorem news_t7 {g h : Heap} {L : Addr} {a x1 x2 x3 t x4 I C D : Addr × Obj} (nd ex R : List (Addr × Obj)) (N : News g L h (a :: x1 :: x2 :: x3 :: t :: x4 :: I :: C :: D :: (nd ++ (ex ++ R)))) : News g L h (I :: C :: D :: (nd ++ (([a, t] ++ ex) ++ R))) := newsS N (by walk_at "my s")
theorem jl_lo {A T : Addr × Obj} {nd ex R : List (Addr × Obj)} (hA : ∀ q ∈ nd ++ (ex ++ R), q.1 < A.1) (hT : ∀ q ∈ nd ++ (ex ++ R), q.1 < T.1) (h : ∀ q ∈ ex, ∀ r ∈ nd ++ R, @LT.lt Nat _ r.1 q.1) : ∀ q ∈ [A, T] ++ ex, ∀ r ∈ nd ++ R, @LT.lt Nat _ r.1 q.1 := by
  have up : ∀ r ∈ nd ++ R, r ∈ nd ++ (ex ++ R) := fun r hr => by
    rcases List.mem_append.mp hr with hr | hr
    · exact List.mem_append_left _ hr
    · exact List.mem_append_right _ (List.mem_append_right _ hr)
  intro q hq r hr
  rcases List.mem_append.mp hq with hq | hq
  · rcases List.mem_cons.mp hq with rfl | hq
    · exact hA r (up r hr)
    · rw [List.mem_singleton.mp hq]; exact hT r (up r hr)
  · exact h q hq r hr
noncomputable abbrev objA (vs : List Value) (f : Nat) (T : Addr) : Obj := listOf (List.toArray (vs.take f ++ [Value.ref T] ++ vs.drop f)) 0
noncomputable abbrev objT (lost : Int) (t u : Tok) : Obj := listOf #[.int lost t, .int (-1) u] 0
noncomputable def JL (vs : List Value) (lost : Int) (f l : Nat) (lo : List (Addr × Obj)) (i : Nat) (us : List Value) (ex : List (Addr × Obj)) : Prop :=
  ((i = 0 ∧ us = [] ∧ ex = []) ∨ (i = 1 ∧ ∃ A1 T1 t1 u1, us = [.ref A1] ∧ ex = [(A1, objA vs f T1), (T1, objT lost t1 u1)]) ∨
    (i = 2 ∧ ∃ A1 T1 t1 u1 A2 T2 t2 u2, us = [.ref A1, .ref A2] ∧ ex = [(A2, objA vs l T2), (T2, objT lost t2 u2), (A1, objA vs f T1), (T1, objT lost t1 u1)])) ∧ ∀ q ∈ ex, ∀ r ∈ lo, @LT.lt Nat _ r.1 q.1
section
local macro_rules | `(tactic| walk_at "subscriptTail Name Slice ref ref") => rowR `sl_from "aamoY>ut....LI"
local macro_rules | `(tactic| walk_at "subscriptTail Name Slice ref ref") => rowR `sl_upto "aamoY>ut....LI"
local macro_rules | `(tactic| walk_at "binaryOp Add ref ref") => rowR `add_gen "aammY....LI"
noncomputable def lawU7.R (s : Shared) (qk : Flow → Shared → Prop) (ek : Value → Shared → Prop) (m : Str → Option Value) (R tp : List (Addr × Obj)) (o11 : Obj) (Dp : Addr) (kp : Nat) (Dn : Addr) (kn : Nat) (ys : List Value) (zs : List Int) (o7 : Obj) (o9 : Obj) (gone f l : Nat) (tg tf tl : Tok) : Prop :=
  ∀ (B : Below A₀ g [] g) (X : (hd.heap_1 w.params).In g) (T : Top topProg loose mean mg mb g) (C : CodeHd g 70 66) (C2 : CodeHd g 77 73) (C3 : CodeHd g 154 152) (hd9 : dp + 32 < recursionLimit) (hu9 : un + 300 < cLine) (F : Fr g L s.heap m) (N : News g L s.heap ((Dp, listOf (tp.map fun p => Value.ref p.1).toArray kp) :: (L + 1 + 1 + 1 + 1 + 1 + 1 + 1 + 1 + 1 + 1 + 1, o11) :: (Dn, listOf ys.toArray kn) :: (L + 1 + 1 + 1 + 1 + 1 + 1 + 1, o7) :: (L + 1 + 1 + 1 + 1 + 1 + 1 + 1 + 1 + 1, o9) :: R)) (e7 : o7.data = .cell (some (.ref Dn))) (hI : IntsAre ys zs) (hz5 : 5 ≤ zs.length) (hz10 : zs.length ≤ 10) (e9 : o9.data = .cell (some (.int (gone : Int) tg))) (hg : gone < zs.length) (e11 : o11.data = .cell (some (.ref Dp))) (htp : tp.length + 1 = zs.length) (hf : f < zs.length) (hl9 : l < zs.length) (hmf : m (Str.ofString "first") = some (.int (f : Int) tf)) (hml : m (Str.ofString "last") = some (.int (l : Int) tl)) (l1 : @LT.lt Nat _ 160 L) (ret : ∀ (h' : Heap) (tk' : Nat) (Dl : Addr) (k : Nat) (A1 T1 : Addr) (t1 u1 : Tok) (A2 T2 : Addr) (t2 u2 : Tok), Fr g L h' (fun y => if y = Str.ofString "laid" then some (.ref Dl) else m y) → News g L h' ((Dl, listOf #[.ref A1, .ref A2] k) :: ([(Dp, listOf (tp.map fun p => Value.ref p.1).toArray kp), (L + 1 + 1 + 1 + 1 + 1 + 1 + 1 + 1 + 1 + 1 + 1, o11), (Dn, listOf ys.toArray kn), (L + 1 + 1 + 1 + 1 + 1 + 1 + 1, o7), (L + 1 + 1 + 1 + 1 + 1 + 1 + 1 + 1 + 1, o9)] ++ ([(A2, objA (tp.map fun p => Value.ref p.1) l T2), (T2, objT (zs.getD gone 0) t2 u2), (A1, objA (tp.map fun p => Value.ref p.1) f T1), (T1, objT (zs.getD gone 0) t1 u1)] ++ R))) → (∀ q ∈ ([(A2, objA (tp.map fun p => Value.ref p.1) l T2), (T2, objT (zs.getD gone 0) t2 u2), (A1, objA (tp.map fun p => Value.ref p.1) f T1), (T1, objT (zs.getD gone 0) t1 u1)] : List (Addr × Obj)), ∀ r ∈ ([(Dp, listOf (tp.map fun p => Value.ref p.1).toArray kp), (L + 1 + 1 + 1 + 1 + 1 + 1 + 1 + 1 + 1 + 1 + 1, o11), (Dn, listOf ys.toArray kn), (L + 1 + 1 + 1 + 1 + 1 + 1 + 1, o7), (L + 1 + 1 + 1 + 1 + 1 + 1 + 1 + 1 + 1, o9)] ++ R), @LT.lt Nat _ r.1 q.1) → (∀ q ∈ ([(Dp, listOf (tp.map fun p => Value.ref p.1).toArray kp), (L + 1 + 1 + 1 + 1 + 1 + 1 + 1 + 1 + 1 + 1 + 1, o11), (Dn, listOf ys.toArray kn), (L + 1 + 1 + 1 + 1 + 1 + 1 + 1, o7), (L + 1 + 1 + 1 + 1 + 1 + 1 + 1 + 1 + 1, o9)] ++ ([(A2, objA (tp.map fun p => Value.ref p.1) l T2), (T2, objT (zs.getD gone 0) t2 u2), (A1, objA (tp.map fun p => Value.ref p.1) f T1), (T1, objT (zs.getD gone 0) t1 u1)] ++ R) : List (Addr × Obj)), q.1 ≠ Dl) → qk .next { s with heap := h', toks := tk' }),
   wpAny (model PySem.Challenge.rw_ta0052_01.row.prog w) (ktrTop dp un gd (Str.ofString "law") (scopeOf (topStmt 22)) L a ccd (cellsFrom (L + 1) (scopeOf (topStmt 22)).names []) []) (execs (((forBody ((bodyOf (topStmt 22)).getD 13 (.Pass default))).take 8).drop 7) (envOfC (Str.ofString "law") (scopeOf (topStmt 22)) L a ccd)) qk ek s
abbrev lawU7.T : Type := Shared × (Flow → Shared → Prop) × (Value → Shared → Prop) × (Str → Option Value) × (List (Addr × Obj)) × (List (Addr × Obj)) × Obj × Addr × Nat × Addr × Nat × (List Value) × (List Int) × Obj × Obj × Nat × Nat × Nat × Tok × Tok × Tok
theorem lawU7.ne : Nonempty lawU7.T := ⟨({}, fun _ _ => True, fun _ _ => True, fun _ => none, [], [], default, 0, 0, 0, 0, [], [], default, default, 0, 0, 0, 0, 0, 0)⟩
noncomputable def lawU7.Q (c : lawU7.T) : Prop := lawU7.R c.1 c.2.1 c.2.2.1 c.2.2.2.1 c.2.2.2.2.1 c.2.2.2.2.2.1 c.2.2.2.2.2.2.1 c.2.2.2.2.2.2.2.1 c.2.2.2.2.2.2.2.2.1 c.2.2.2.2.2.2.2.2.2.1 c.2.2.2.2.2.2.2.2.2.2.1 c.2.2.2.2.2.2.2.2.2.2.2.1 c.2.2.2.2.2.2.2.2.2.2.2.2.1 c.2.2.2.2.2.2.2.2.2.2.2.2.2.1 c.2.2.2.2.2.2.2.2.2.2.2.2.2.2.1 c.2.2.2.2.2.2.2.2.2.2.2.2.2.2.2.1 c.2.2.2.2.2.2.2.2.2.2.2.2.2.2.2.2.1 c.2.2.2.2.2.2.2.2.2.2.2.2.2.2.2.2.2.1 c.2.2.2.2.2.2.2.2.2.2.2.2.2.2.2.2.2.2.1 c.2.2.2.2.2.2.2.2.2.2.2.2.2.2.2.2.2.2.2.1 c.2.2.2.2.2.2.2.2.2.2.2.2.2.2.2.2.2.2.2.2
noncomputable def lawU7.c : lawU7.T := Classical.epsilon (h := lawU7.ne) fun c => ¬ lawU7.Q c
namespace lawU7K
@[irreducible] noncomputable def s := lawU7.c.1
@[irreducible] noncomputable def qk := lawU7.c.2.1
@[irreducible] noncomputable def ek := lawU7.c.2.2.1
@[irreducible] noncomputable def m := lawU7.c.2.2.2.1
@[irreducible] noncomputable def R := lawU7.c.2.2.2.2.1
@[irreducible] noncomputable def tp := lawU7.c.2.2.2.2.2.1
@[irreducible] noncomputable def o11 := lawU7.c.2.2.2.2.2.2.1
@[irreducible] noncomputable def Dp := lawU7.c.2.2.2.2.2.2.2.1
@[irreducible] noncomputable def kp := lawU7.c.2.2.2.2.2.2.2.2.1
@[irreducible] noncomputable def Dn := lawU7.c.2.2.2.2.2.2.2.2.2.1
@[irreducible] noncomputable def kn := lawU7.c.2.2.2.2.2.2.2.2.2.2.1
@[irreducible] noncomputable def ys := lawU7.c.2.2.2.2.2.2.2.2.2.2.2.1
@[irreducible] noncomputable def zs := lawU7.c.2.2.2.2.2.2.2.2.2.2.2.2.1
@[irreducible] noncomputable def o7 := lawU7.c.2.2.2.2.2.2.2.2.2.2.2.2.2.1
@[irreducible] noncomputable def o9 := lawU7.c.2.2.2.2.2.2.2.2.2.2.2.2.2.2.1
@[irreducible] noncomputable def gone := lawU7.c.2.2.2.2.2.2.2.2.2.2.2.2.2.2.2.1
@[irreducible] noncomputable def f := lawU7.c.2.2.2.2.2.2.2.2.2.2.2.2.2.2.2.2.1
@[irreducible] noncomputable def l := lawU7.c.2.2.2.2.2.2.2.2.2.2.2.2.2.2.2.2.2.1
@[irreducible] noncomputable def tg := lawU7.c.2.2.2.2.2.2.2.2.2.2.2.2.2.2.2.2.2.2.1
@[irreducible] noncomputable def tf := lawU7.c.2.2.2.2.2.2.2.2.2.2.2.2.2.2.2.2.2.2.2.1
@[irreducible] noncomputable def tl := lawU7.c.2.2.2.2.2.2.2.2.2.2.2.2.2.2.2.2.2.2.2.2
theorem main : lawU7.R s qk ek m R tp o11 Dp kp Dn kn ys zs o7 o9 gone f l tg tf tl := by
  intro B X T C C2 C3 hd9 hu9 F N e7 hI hz5 hz10 e9 hg e11 htp hf hl9 hmf hml l1 ret
  refine cutG fun Pc kc => ?_
  obtain ⟨sc, hsc⟩ : ∃ sc, sc = scopeOf (topStmt 22) := ⟨_, rfl⟩
  refine kc ?_
  clear kc Pc
  rw [← hsc]
  conv at hsc => rhs; whnf
  subst hsc
  revert X T; k_fill; intro X T
  change wpAny _ _ (execs [_] _) _ _ _
  k_unmd
  k_steps
  unfold Stop
  rename Fr _ _ _ _ => F
  rename News _ _ _ _ => N
  refine' compTA [(Dp, listOf (tp.map fun p => Value.ref p.1).toArray kp), (L + 1 + 1 + 1 + 1 + 1 + 1 + 1 + 1 + 1 + 1 + 1, o11), (Dn, listOf ys.toArray kn), (L + 1 + 1 + 1 + 1 + 1 + 1 + 1, o7), (L + 1 + 1 + 1 + 1 + 1 + 1 + 1 + 1 + 1, o9)] R #[.int (f : Int) tf, .int (l : Int) tl] (JL (tp.map fun p => Value.ref p.1) (zs.getD gone 0) f l ([(Dp, listOf (tp.map fun p => Value.ref p.1).toArray kp), (L + 1 + 1 + 1 + 1 + 1 + 1 + 1 + 1 + 1 + 1 + 1, o11), (Dn, listOf ys.toArray kn), (L + 1 + 1 + 1 + 1 + 1 + 1 + 1, o7), (L + 1 + 1 + 1 + 1 + 1 + 1 + 1 + 1 + 1, o9)] ++ R)) F ?hLe ?hsw ?hh ?hclos ?hcell ?hkind ?hnames ?hx ?hy ?hp ?hn ?hit ?J0 ?T ?hQ ?hs
  case hLe => rfl
  case hsw => with_unfolding_all rfl
  case hh => with_unfolding_all rfl
  case hclos => with_unfolding_all rfl
  case hcell => decide
  case hkind => with_unfolding_all rfl
  case hnames => decide
  case hx => with_unfolding_all rfl
  case hy => rfl
  case hp => rfl
  case hn => show 2 ≤ 1000; omega
  case hs => intro _; with_unfolding_all rfl
  case hit =>
    refine wpAny_stop ?_
    k_steps
    try unfold Stop
    exact ⟨_, _, _, _, rfl, by assumption, by assumption, rfl⟩
  case J0 => exact ⟨.inl ⟨rfl, rfl, rfl⟩, fun q hq => nomatch hq⟩
  case T =>
    intro tq i9 ys9 ex9 v9 I9 oI9 C9 oC9 D9 m9 h9 tk9 E9 hi9 hJ9 hv9 hC9 hx9 F9 N9
    clear F N
    obtain ⟨hJ9, hlo⟩ := hJ9
    simp only [List.cons_append, List.nil_append] at N9
    have hg1 : (gone : Int) < zs.length := by omega
    rcases hJ9 with ⟨rfl, rfl, rfl⟩ | ⟨rfl, A1, T1, t1, u1, rfl, rfl⟩ | ⟨rfl, _⟩
    · obtain rfl : Value.int (f : Int) tf = v9 := Option.some.inj hv9
      refine wpAny_tests_nil ⟨⟨_, _, rfl, F9, N9⟩, fun _ => ?_, fun e => nomatch e⟩
      unfold EltB
      refine wpAny_stop ?_
      k_steps
      unfold Stop
      rename News _ _ _ _ => N8
      have lA := ‹_ ∧ _ ∧ _ ∧ _ ∧ _ ∧ _ ∧ _ ∧ _ ∧ _ ∧ _ ∧ AllLt _ _›
      have lB := ‹_ ∧ _ ∧ _ ∧ _ ∧ _ ∧ _ ∧ _ ∧ _ ∧ _ ∧ _ ∧ _ ∧ _ ∧ _ ∧ _ ∧ AllLt _ _›
      simp only [Int.toNat_natCast] at N8
      refine ⟨_, _, [_, _], rfl, by assumption, news_t7 (tq :: [(Dp, listOf (tp.map fun p => Value.ref p.1).toArray kp), (L + 1 + 1 + 1 + 1 + 1 + 1 + 1 + 1 + 1 + 1 + 1, o11), (Dn, listOf ys.toArray kn), (L + 1 + 1 + 1 + 1 + 1 + 1 + 1, o7), (L + 1 + 1 + 1 + 1 + 1 + 1 + 1 + 1 + 1, o9)]) _ R N8, ?_, .inr (.inl ⟨rfl, _, _, _, _, rfl, rfl⟩), jl_lo (nd := [(Dp, listOf (tp.map fun p => Value.ref p.1).toArray kp), (L + 1 + 1 + 1 + 1 + 1 + 1 + 1 + 1 + 1 + 1 + 1, o11), (Dn, listOf ys.toArray kn), (L + 1 + 1 + 1 + 1 + 1 + 1 + 1, o7), (L + 1 + 1 + 1 + 1 + 1 + 1 + 1 + 1 + 1, o9)]) (allLt_mem lB.2.2.2.2.2.2.2.2.2) (allLt_mem lA.2.2.2.2.2) hlo⟩
      intro q hq
      rcases List.mem_cons.mp hq with rfl | hq
      · exact ⟨Nat.ne_of_gt lB.2.2.2.2.2.1, Nat.ne_of_gt lB.2.2.2.2.2.2.1, Nat.ne_of_gt lB.2.2.2.2.2.2.2.1⟩
      · rw [List.mem_singleton.mp hq]
        exact ⟨Nat.ne_of_gt lA.2.1, Nat.ne_of_gt lA.2.2.1, Nat.ne_of_gt lA.2.2.2.1⟩
    · obtain rfl : Value.int (l : Int) tl = v9 := Option.some.inj hv9
      refine wpAny_tests_nil ⟨⟨_, _, rfl, F9, N9⟩, fun _ => ?_, fun e => nomatch e⟩
      unfold EltB
      refine wpAny_stop ?_
      k_steps
      unfold Stop
      rename News _ _ _ _ => N8
      have lA := ‹_ ∧ _ ∧ _ ∧ _ ∧ _ ∧ _ ∧ _ ∧ _ ∧ _ ∧ _ ∧ AllLt _ _›
      have lB := ‹_ ∧ _ ∧ _ ∧ _ ∧ _ ∧ _ ∧ _ ∧ _ ∧ _ ∧ _ ∧ _ ∧ _ ∧ _ ∧ _ ∧ AllLt _ _›
      simp only [Int.toNat_natCast] at N8
      refine ⟨_, _, [_, _], rfl, by assumption, news_t7 (tq :: [(Dp, listOf (tp.map fun p => Value.ref p.1).toArray kp), (L + 1 + 1 + 1 + 1 + 1 + 1 + 1 + 1 + 1 + 1 + 1, o11), (Dn, listOf ys.toArray kn), (L + 1 + 1 + 1 + 1 + 1 + 1 + 1, o7), (L + 1 + 1 + 1 + 1 + 1 + 1 + 1 + 1 + 1, o9)]) _ R N8, ?_, .inr (.inr ⟨rfl, _, _, _, _, _, _, _, _, rfl, rfl⟩), jl_lo (nd := [(Dp, listOf (tp.map fun p => Value.ref p.1).toArray kp), (L + 1 + 1 + 1 + 1 + 1 + 1 + 1 + 1 + 1 + 1 + 1, o11), (Dn, listOf ys.toArray kn), (L + 1 + 1 + 1 + 1 + 1 + 1 + 1, o7), (L + 1 + 1 + 1 + 1 + 1 + 1 + 1 + 1 + 1, o9)]) (allLt_mem lB.2.2.2.2.2.2.2.2.2) (allLt_mem lA.2.2.2.2.2) hlo⟩
      intro q hq
      rcases List.mem_cons.mp hq with rfl | hq
      · exact ⟨Nat.ne_of_gt lB.2.2.2.2.2.1, Nat.ne_of_gt lB.2.2.2.2.2.2.1, Nat.ne_of_gt lB.2.2.2.2.2.2.2.1⟩
      · rw [List.mem_singleton.mp hq]
        exact ⟨Nat.ne_of_gt lA.2.1, Nat.ne_of_gt lA.2.2.1, Nat.ne_of_gt lA.2.2.2.1⟩
    · exact absurd hi9 (by show ¬ (2 < 2); omega)
  case hQ =>
    intro D us ex h9 tk9 hJ9 F9 N9 hD9
    obtain ⟨hJ9, hlo⟩ := hJ9
    rcases hJ9 with ⟨h, _⟩ | ⟨h, _⟩ | ⟨_, A1, T1, t1, u1, A2, T2, t2, u2, rfl, rfl⟩
    · exact absurd h (by show ¬ (2 = 0); omega)
    · exact absurd h (by show ¬ (2 = 1); omega)
    · exact wpAny_execs_nil (ret _ _ D _ A1 T1 t1 u1 A2 T2 t2 u2 F9 N9 hlo hD9)
end lawU7K
theorem lawU7 (s : Shared) (qk : Flow → Shared → Prop) (ek : Value → Shared → Prop) (m : Str → Option Value) (R tp : List (Addr × Obj)) (o11 : Obj) (Dp : Addr) (kp : Nat) (Dn : Addr) (kn : Nat) (ys : List Value) (zs : List Int) (o7 : Obj) (o9 : Obj) (gone f l : Nat) (tg tf tl : Tok) : lawU7.R s qk ek m R tp o11 Dp kp Dn kn ys zs o7 o9 gone f l tg tf tl := shut lawU7.ne (Q := lawU7.Q) (by with_unfolding_all exact lawU7K.main) (s, qk, ek, m, R, tp, o11, Dp, kp, Dn, kn, ys, zs, o7, o9, gone, f, l, tg, tf, tl)
end
end
section
open _root_.PySem _root_.PySem.W _root_.PyProof.Rows
theorem fresh_38 : True := by (w_top off); exact trivial
open LC
theorem news_t8 {g h : Heap} {L : Addr} {a x1 n x2 x3 : Addr × Obj} {r : List (Addr × Obj)} (N : News g L h (a :: x1 :: n :: x2 :: x3 :: r)) : News g L h (a :: n :: r) := newsS N (by walk_at "my s")
section
local macro_rules | `(tactic| walk_at "subscriptTail Name Slice ref ref") => rowR `sl_from "aamoY>ut....LI"
local macro_rules | `(tactic| walk_at "subscriptTail Name Slice ref ref") => rowR `sl_upto "aamoY>ut....LI"
local macro_rules | `(tactic| walk_at "binaryOp Add ref ref") => rowR `add_gen "aammY....LI"
theorem lawU8 (s : Shared) (qk : Flow → Shared → Prop) (ek : Value → Shared → Prop)
   (m : Str → Option Value) (R : List (Addr × Obj)) (o4 o5 : Obj) (Dl A1 A2 : Addr) (kl : Nat) (Dn : Addr) (kn : Nat) (ys : List Value) (zs : List Int) (o7 : Obj) (kinds size cb : Int) (tk ts tc : Tok)
    (B : Below A₀ g [] g) (X : (hd.heap_1 w.params).In g) (T : Top topProg loose mean mg mb g) (C : CodeHd g 70 66) (C2 : CodeHd g 77 73) (C3 : CodeHd g 154 152) (hd9 : dp + 32 < recursionLimit) (hu9 : un + 300 < cLine) (F : Fr g L s.heap m) (N : News g L s.heap ((Dl, listOf #[.ref A1, .ref A2] kl) :: (Dn, listOf ys.toArray kn) :: (L + 1 + 1 + 1 + 1 + 1 + 1 + 1, o7) :: (L + 1 + 1 + 1 + 1, o4) :: (L + 1 + 1 + 1 + 1 + 1, o5) :: R)) (e7 : o7.data = .cell (some (.ref Dn))) (hI : IntsAre ys zs) (hz5 : 5 ≤ zs.length) (hz10 : zs.length ≤ 10) (e4 : o4.data = .cell (some (.int kinds tk))) (e5 : o5.data = .cell (some (.int size ts))) (hk2 : 2 ≤ kinds) (hk6 : kinds ≤ 6) (hs5 : 5 ≤ size) (hs10 : size ≤ 10) (hsm0 : 0 ≤ zs.sum) (hsm : zs.sum ≤ 60) (hcb0 : 0 ≤ cb) (hcb : cb ≤ 60) (hml : m (Str.ofString "laid") = some (.ref Dl)) (hmc : m (Str.ofString "climbs") = some (.int cb tc)) (l1 : @LT.lt Nat _ 160 L) (ret : ∀ (h' : Heap) (tk' : Nat) (Dd Nn : Addr) (v1 v2 : Tok), Fr g L h' (fun y => if y = Str.ofString "due" then some (.ref Dd) else m y) → News g L h' ((Dd, listOf #[.int (zs.sum.fdiv kinds) v1, .int (cb.fdiv size) v2, .ref A1, .ref A2, .ref Nn] 0) :: (Nn, listOf #[.none, .none] 0) :: (Dl, listOf #[.ref A1, .ref A2] kl) :: (Dn, listOf ys.toArray kn) :: (L + 1 + 1 + 1 + 1 + 1 + 1 + 1, o7) :: (L + 1 + 1 + 1 + 1, o4) :: (L + 1 + 1 + 1 + 1 + 1, o5) :: R) → (∀ q ∈ ((Nn, listOf #[.none, .none] 0) :: (Dl, listOf #[.ref A1, .ref A2] kl) :: (Dn, listOf ys.toArray kn) :: (L + 1 + 1 + 1 + 1 + 1 + 1 + 1, o7) :: (L + 1 + 1 + 1 + 1, o4) :: (L + 1 + 1 + 1 + 1 + 1, o5) :: R), q.1 < Dd) → (∀ q ∈ ((Dl, listOf #[.ref A1, .ref A2] kl) :: (Dn, listOf ys.toArray kn) :: (L + 1 + 1 + 1 + 1 + 1 + 1 + 1, o7) :: (L + 1 + 1 + 1 + 1, o4) :: (L + 1 + 1 + 1 + 1 + 1, o5) :: R), q.1 < Nn) → qk .next { s with heap := h', toks := tk' }) :
   wpAny (model PySem.Challenge.rw_ta0052_01.row.prog w) (ktrTop dp un gd (Str.ofString "law") (scopeOf (topStmt 22)) L a ccd (cellsFrom (L + 1) (scopeOf (topStmt 22)).names []) []) (execs (((forBody ((bodyOf (topStmt 22)).getD 13 (.Pass default))).take 9).drop 8) (envOfC (Str.ofString "law") (scopeOf (topStmt 22)) L a ccd)) qk ek s := by
  refine cutG fun Pc kc => ?_
  obtain ⟨sc, hsc⟩ : ∃ sc, sc = scopeOf (topStmt 22) := ⟨_, rfl⟩
  refine kc ?_
  clear kc Pc
  rw [← hsc]
  conv at hsc => rhs; whnf
  subst hsc
  revert X T; k_fill; intro X T
  change wpAny _ _ (execs [_] _) _ _ _
  k_unmd
  k_steps
  rename Fr _ _ _ _ => F8
  rename News _ _ _ _ => N8
  have lB := ‹_ ∧ _ ∧ _ ∧ _ ∧ _ ∧ _ ∧ _ ∧ _ ∧ _ ∧ AllLt _ R›
  have lA := ‹_ ∧ _ ∧ _ ∧ _ ∧ _ ∧ _ ∧ _ ∧ AllLt _ R›
  refine ret _ _ _ _ _ _ F8 (news_t8 N8) ?_ ?_
  · intro q hq
    rcases List.mem_cons.mp hq with rfl | hq
    · exact lB.2.1
    · exact allLt_mem (show AllLt _ (((Dl, listOf #[.ref A1, .ref A2] kl) :: (Dn, listOf ys.toArray kn) :: (L + 1 + 1 + 1 + 1 + 1 + 1 + 1, o7) :: (L + 1 + 1 + 1 + 1, o4) :: (L + 1 + 1 + 1 + 1 + 1, o5) :: R)) from lB.2.2.2.2) q hq
  · exact allLt_mem (show AllLt _ (((Dl, listOf #[.ref A1, .ref A2] kl) :: (Dn, listOf ys.toArray kn) :: (L + 1 + 1 + 1 + 1 + 1 + 1 + 1, o7) :: (L + 1 + 1 + 1 + 1, o4) :: (L + 1 + 1 + 1 + 1 + 1, o5) :: R)) from lA.2.2)
end
end
section
open _root_.PySem _root_.PySem.W _root_.PyProof.Rows
theorem fresh_39 : True := by (w_top off); exact trivial
open LC
theorem glued_go : ∀ (r : List Str) (acc : Array Nat), (r.foldl (fun acc p => acc ++ (Str.ofString "").cps ++ p.cps) acc).toList = acc.toList ++ (r.map fun p => p.cps.toList).flatten
  | [], acc => by simp
  | p :: r, acc => by
    rw [List.foldl_cons, glued_go r, List.map_cons, List.flatten_cons, Array.toList_append, Array.toList_append, show (Str.ofString "").cps.toList = [] by decide +kernel]
    simp
theorem glued_list (ps : List Str) : (Txt.join (Str.ofString "") ps).cps.toList = (ps.map fun p => p.cps.toList).flatten := by
  cases ps with
  | nil => rfl
  | cons p r =>
    show (r.foldl (fun acc p => acc ++ (Str.ofString "").cps ++ p.cps) p.cps).toList = _
    rw [glued_go, List.map_cons, List.flatten_cons]
theorem three_at {port dress : Int} (h0 : 0 ≤ dress) (h3 : dress < 3) : [port, port, port].getD dress.toNat 0 = port := by
  rcases (show dress = 0 ∨ dress = 1 ∨ dress = 2 by omega) with rfl | rfl | rfl <;> rfl
theorem news_u9 {g h : Heap} {L : Addr} {d a b c e f : Addr × Obj} {r : List (Addr × Obj)} (N : News g L h (d :: a :: b :: c :: e :: f :: r)) : News g L h ([a, b, c, e, f, d] ++ r) := newsS N (by walk_at "my s")
theorem news_u9b {g h : Heap} {L : Addr} {d a b c e f : Addr × Obj} {lg r : List (Addr × Obj)} (N : News g L h ([a, b, c, e, f, d] ++ lg ++ r)) : News g L h ([a, b, c, e, f] ++ (lg ++ r)) := newsS N (by walk_at "my s")
theorem off_u9 {a c d e : Addr} (h : a ∉ [66, 73, c, d, 152]) (n : a ≠ e) : a ∉ [66, 73, c, d, 152, e] := by
  simp only [List.mem_cons, List.not_mem_nil, or_false, not_or] at h ⊢
  exact ⟨h.1, h.2.1, h.2.2.1, h.2.2.2.1, h.2.2.2.2, n⟩
theorem unt_u9 {un : Nat} {d : PyData} (h : un + 300 < cLine) (hd : d.depth ≤ 9) : un + min d.depth d.depth < cLine := by rw [Nat.min_self]; omega
noncomputable def sgn (alpha : Str) (z : Int) : Nat := (Txt.item alpha z).cps.getD 0 0
theorem txt_cps (alpha : Str) (cm : List Int) : (txtV alpha cm).cps.toList = cm.map (sgn alpha) := by
  unfold txtV
  rw [glued_list, List.map_map]
  induction cm with
  | nil => rfl
  | cons a r ih => rw [List.map_cons, List.flatten_cons, ih]; rfl
theorem txt_len (alpha : Str) (cm : List Int) : (txtV alpha cm).length = cm.length := by
  show (txtV alpha cm).cps.size = _
  rw [← Array.length_toList, txt_cps, List.length_map]
theorem txt_sign {alpha : Str} {cm : List Int} {i : Nat} {v : Value} (h : SignAt (txtV alpha cm) i v) : ∃ u, v = .str (Txt.item alpha (cm.getD i 0)) u := by
  refine cutG fun Pc kc => ?_
  obtain ⟨c, u, hc, rfl⟩ := h
  refine kc ?_
  clear kc Pc
  rw [← Array.getElem?_toList, txt_cps, List.getElem?_map] at hc
  rw [List.getD_eq_getElem?_getD]
  cases hi : cm[i]? with
  | none => rw [hi] at hc; cases hc
  | some z =>
    rw [hi] at hc
    obtain rfl : sgn alpha z = c := Option.some.inj hc
    exact ⟨u, rfl⟩
theorem idx_sign {prog : Program} {w : World} {A : Around} {E : Value → Shared → Prop} {s : Shared} {alpha x : Str} {t u : Tok} {z : Int} {Q : Value → Shared → Prop} (hA : A.handled = none) (h : Txt.find alpha x = z) (h0 : 0 ≤ z) (hQ : ∀ t k, Q (.int z t) { s with toks := k }) : wpAny (model prog w) A (call (.builtin "str.index") [.str alpha t, .str x u]) Q E s := by
  refine index_or hA (fun e _ => ?_) fun _ _ => h ▸ hQ _ _
  rw [h] at e
  omega
theorem fresh_40 : True := by (w_top off); first | (walk1; done) | trivial
section
local macro_rules | `(tactic| walk_at "call builtin:str.index") => rowR `idx_sign "rss.."
local macro_rules | `(tactic| walk_at "call ref") => `(tactic| refine stop_here ?_)
local macro_rules | `(tactic| walk_at "compareOp NotEq ref ref") => `(tactic| (k_here; refine stop_here ?_))
theorem lawU9 (s : Shared) (qk : Flow → Shared → Prop) (ek : Value → Shared → Prop)
   (m : Str → Option Value) (R codes : List (Addr × Obj)) (o4 o6 : Obj) (Dq Dd : Addr) (kq : Nat) (hs : List Value) (c1 c2 : Addr) (oc1 oc2 : Obj) (p1 p2 p5 : Array Value) (cm : List Int) (kinds port dress : Int) (tk td ta tt : Tok) (alpha : Str) (dd : PyData)
    (B : Below A₀ g [] g) (X : (hd.heap_1 w.params).In g) (T : Top topProg loose mean mg mb g) (C : CodeHd g 70 66) (C2 : CodeHd g 77 73) (C3 : CodeHd g 154 152) (hd9 : dp + 32 < recursionLimit) (hu9 : un + 300 < cLine) (F : Fr g L s.heap m) (N : News g L s.heap ((66, tabObj p1) :: (73, tabObj p2) :: (c1, oc1) :: (c2, oc2) :: (152, tabObj p5) :: (L + 1 + 1 + 1 + 1 + 1 + 1, o6) :: (Dq, listOf hs.toArray kq) :: (L + 1 + 1 + 1 + 1, o4) :: R)) (e4 : o4.data = .cell (some (.int kinds tk))) (e6 : o6.data = .cell (some (.str alpha ta))) (hal : (alpha.length : Int) = kinds) (hk6 : kinds ≤ 6) (hk2 : 2 ≤ kinds) (hp0 : 0 ≤ port) (hp60 : port < 60) (hd0 : 0 ≤ dress) (hd3 : dress < 3) (hIq : IntsAre hs [port, port, port]) (hcl4 : 4 ≤ cm.length) (hcl : cm.length ≤ 9) (hcb : ∀ z ∈ cm, 0 ≤ z ∧ z < kinds) (hix : ∀ z : Int, 0 ≤ z → z < kinds → Txt.find alpha (Txt.item alpha z) = z) (hmt : m (Str.ofString "told") = some (.str (txtV alpha cm) tt)) (hmd : m (Str.ofString "dress") = some (.int dress td)) (hmu : m (Str.ofString "due") = some (.ref Dd)) (hmh : m (Str.ofString "heard") = some (.ref Dq)) (hdue : ∀ h9 : Heap, News g L h9 R → ∃ as, Reads h9 (.ref Dd) dd as) (hcan : dd.canLay0 = true) (hdep : dd.depth ≤ 9) (hpure : mendR ((port.fmod kinds - cm.sum).fdiv kinds) ((port.fmod kinds - cm.sum).fmod kinds) (port.fdiv kinds) cm = dd) (hoff : ∀ q ∈ ((L + 1 + 1 + 1 + 1 + 1 + 1, o6) :: (Dq, listOf hs.toArray kq) :: (L + 1 + 1 + 1 + 1, o4) :: R), q.1 ∉ [66, 73, c1, c2, 152]) (CO : ∀ q ∈ codes, q ∈ R) (LTB : LamTab lamQ p5 codes) (S1 : TabSt 85 4 "_int2digits.<locals>.inner" p1 [(c1, oc1)]) (S2 : TabSt 100 4 "_digits2int.<locals>.inner" p2 [(c2, oc2)]) (hc1 : @LT.lt Nat _ 160 c1) (hc2 : @LT.lt Nat _ 160 c2) (l1 : @LT.lt Nat _ 160 L) (ret : ∀ (h' : Heap) (tk' : Nat) (lg : List (Addr × Obj)) (ps' : Array Value) (c1' c2' : Addr) (oc1' oc2' : Obj) (p1' p2' : Array Value), Fr g L h' m → News g L h' ([(66, tabObj p1'), (73, tabObj p2'), (c1', oc1'), (c2', oc2'), (152, tabObj ps')] ++ (lg ++ ((L + 1 + 1 + 1 + 1 + 1 + 1, o6) :: (Dq, listOf hs.toArray kq) :: (L + 1 + 1 + 1 + 1, o4) :: R))) → (∀ q ∈ lg ++ ((L + 1 + 1 + 1 + 1 + 1 + 1, o6) :: (Dq, listOf hs.toArray kq) :: (L + 1 + 1 + 1 + 1, o4) :: R), q.1 ∉ [66, 73, c1', c2', 152]) → (∀ q ∈ lg, ∀ r ∈ ((L + 1 + 1 + 1 + 1 + 1 + 1, o6) :: (Dq, listOf hs.toArray kq) :: (L + 1 + 1 + 1 + 1, o4) :: R), @Ne Nat q.1 r.1) → LamTab lamQ ps' (lg ++ codes) → TabSt 85 4 "_int2digits.<locals>.inner" p1' [(c1', oc1')] → TabSt 100 4 "_digits2int.<locals>.inner" p2' [(c2', oc2')] → @LT.lt Nat _ 160 c1' → @LT.lt Nat _ 160 c2' → qk .next { s with heap := h', toks := tk' }) :
   wpAny (model PySem.Challenge.rw_ta0052_01.row.prog w) (ktrTop dp un gd (Str.ofString "law") (scopeOf (topStmt 22)) L a ccd (cellsFrom (L + 1) (scopeOf (topStmt 22)).names []) []) (execs (((forBody ((bodyOf (topStmt 22)).getD 13 (.Pass default))).take 10).drop 9) (envOfC (Str.ofString "law") (scopeOf (topStmt 22)) L a ccd)) qk ek s := by
  refine cutG fun Pc kc => ?_
  obtain ⟨sc, hsc⟩ : ∃ sc, sc = scopeOf (topStmt 22) := ⟨_, rfl⟩
  refine kc ?_
  clear kc Pc
  rw [← hsc]
  conv at hsc => rhs; whnf
  subst hsc
  revert X T; k_fill; intro X T
  change wpAny _ _ (execs [_] _) _ _ _
  k_unmd
  have ms := mendS w mean mg mb loose
  have htl : (txtV alpha cm).length = cm.length := txt_len alpha cm
  k_steps
  unfold Stop
  rename Fr _ _ _ _ => F
  rename News _ _ _ _ => N
  refine' compTS [(66, tabObj p1), (73, tabObj p2), (c1, oc1), (c2, oc2), (152, tabObj p5), (L + 1 + 1 + 1 + 1 + 1 + 1, o6), (Dq, listOf hs.toArray kq), (L + 1 + 1 + 1 + 1, o4)] R (txtV alpha cm) (fun i vs ex => ex = [] ∧ IntsAre vs (cm.take i)) F ?hh ?hclos ?hcell ?hkind ?hnames ?hx ?hn ?hit ?J0 ?T ?hQ ?hs
  case hh => with_unfolding_all rfl
  case hclos => with_unfolding_all rfl
  case hcell => decide
  case hkind => with_unfolding_all rfl
  case hnames => decide
  case hx => with_unfolding_all rfl
  case hs => intro _; with_unfolding_all rfl
  case hn => omega
  case hit =>
    refine wpAny_stop ?_
    k_steps
    try unfold Stop
    exact ⟨_, _, _, rfl, by assumption, by assumption, rfl⟩
  case J0 => exact ⟨rfl, .nil⟩
  case T =>
    intro i9 ys9 ex9 v9 I9 oI9 C9 oC9 D9 m9 h9 tk9 E9 hi9 hJ9 hv9 hC9 hx9 F9 N9
    clear F N
    obtain ⟨u9, rfl⟩ := txt_sign hv9
    obtain ⟨rfl, hz9⟩ := hJ9
    have hi8 : i9 < cm.length := by omega
    obtain ⟨hb0, hb1⟩ := hcb (cm.getD i9 0) (by rw [List.getD_eq_getElem?_getD, List.getElem?_eq_getElem hi8]; exact List.getElem_mem hi8)
    have hfx := hix _ hb0 hb1
    simp only [List.cons_append, List.nil_append] at N9
    refine wpAny_tests_nil ⟨⟨_, _, rfl, F9, N9⟩, fun _ => ?_, fun e => nomatch e⟩
    unfold EltB
    refine wpAny_stop ?_
    k_steps
    unfold Stop
    rename Fr _ _ _ _ => F8
    rename News _ _ _ _ => N8
    refine ⟨_, _, [], rfl, F8, N8, (fun q hq => nomatch hq), rfl, ?_⟩
    rw [take_snoc hi8 0]
    exact IntsAre.append hz9 (.cons _ _ .nil)
  case hQ =>
    intro D vs ex h9 tk9 hJ9 F9 N9 hD9 hLD
    obtain ⟨rfl, hz⟩ := hJ9
    clear F N
    rw [htl, List.take_length] at hz
    simp only [List.cons_append, List.nil_append] at N9 hD9
    k_steps
    unfold Stop
    rename Fr _ _ _ _ => F9
    rename News _ _ _ _ => N9
    rw [three_at hd0 hd3]
    refine MendX.use ms (p1 := p1) (p2 := p2) (p5 := p5) (c1 := c1) (c2 := c2) (oc1 := oc1) (oc2 := oc2) (codes := codes) (rest := ((L + 1 + 1 + 1 + 1 + 1 + 1, o6) :: (Dq, listOf hs.toArray kq) :: (L + 1 + 1 + 1 + 1, o4) :: R)) (ns := cm) (vs := vs) (kk := vs.length) B F9 X T rfl (news_u9 N9) C C2 C3 ?uP hc1 hc2 ?ua ?u1 ?u2 S1 S2 ?uO LTB hz hk2 hk6 hcl4 hcl hcb hp0 hp60 ?ud ?uu ?ur
    case uP => exact fun q hq => off_u9 (hoff q hq) (hD9 q (by repeat first | exact hq | apply List.Mem.tail))
    case ua => omega
    case u1 => exact Ne.symm (hD9 (c1, oc1) (by simp))
    case u2 => exact Ne.symm (hD9 (c2, oc2) (by simp))
    case uO => exact fun q hq => by repeat first | exact CO q hq | apply List.Mem.tail
    case ud => omega
    case uu => omega
    case ur =>
      intro h8 tk8 R0 lg ps' fp c1' c2' oc1' oc2' p1' p2' F8 N8 hz1 hz1' hz2 hz3 hz4 hz5 hz6 hz7
      rw [hpure] at hz3
      have N7 := news_u9b N8
      obtain ⟨as, hrd⟩ := hdue h8 fun q hq => N7 q (by
        refine List.mem_append_right _ (List.mem_append_right _ ?_)
        repeat first | exact hq | apply List.Mem.tail)
      k_steps
      unfold Stop
      refine SeqAt.compareNe_reads hz3 hrd hcan hcan (unt_u9 hu9 hdep) ?_
      rw [SeqAt.eqv_refl dd hcan]
      k_steps
      refine ret h8 tk8 lg ps' c1' c2' oc1' oc2' p1' p2' (by assumption) N7 hz1 hz1' hz2 hz4 hz5 hz6 hz7
end
end
section
open _root_.PySem _root_.PySem.W _root_.PyProof.Rows
open LC
theorem execs_seg {M : Model} {A : Around} {E : Value → Shared → Prop} {env : Env} {l : List Stmt} {i j : Nat} {s : Shared} {Q : Flow → Shared → Prop} (hij : i ≤ j) (h : wpAny M A (execs ((l.take j).drop i) env) (fun fl s' => match fl with | .next => wpAny M A (execs (l.drop j) env) Q E s' | fl => Q fl s') E s) : wpAny M A (execs (l.drop i) env) Q E s := by
  have e : l.drop i = (l.take j).drop i ++ l.drop j := by
    conv => lhs; rw [← List.take_append_drop j l]
    rw [List.drop_append, List.length_take]
    by_cases hl : j ≤ l.length
    · rw [Nat.min_eq_left hl, Nat.sub_eq_zero_of_le hij, List.drop_zero]
    · rw [List.drop_of_length_le (i := j) (by omega), List.drop_nil]
  rw [e]
  exact execs_app h
theorem news_sub {g h : Heap} {L : Addr} {l l' : List (Addr × Obj)} (N : News g L h l) (hs : ∀ p ∈ l', p ∈ l) : News g L h l' := fun p hp => N p (hs p hp)
theorem set_eq {m : Str → Option Value} {x : Str} {u : Option Value} : (fun y => if y = x then u else m y) x = u := if_pos rfl
noncomputable abbrev sixN : List Str := [Str.ofString "text", Str.ofString "told", Str.ofString "first", Str.ofString "last", Str.ofString "laid", Str.ofString "due"]
theorem off_t5 {a c1 c2 : Addr} {oc1 oc2 : Obj} {p1 p2 p5 : Array Value} (h : ∀ r ∈ ([(66, tabObj p1), (73, tabObj p2), (c1, oc1), (c2, oc2), (152, tabObj p5)] : List (Addr × Obj)), @LT.lt Nat _ r.1 a) : a ∉ [66, 73, c1, c2, 152] := by
  intro hm
  simp only [List.mem_cons, List.not_mem_nil, or_false] at hm
  rcases hm with e | e | e | e | e
  · exact absurd (h (66, tabObj p1) (by simp)) (by rw [e]; exact Nat.lt_irrefl _)
  · exact absurd (h (73, tabObj p2) (by simp)) (by rw [e]; exact Nat.lt_irrefl _)
  · exact absurd (h (c1, oc1) (by simp)) (by rw [e]; exact Nat.lt_irrefl _)
  · exact absurd (h (c2, oc2) (by simp)) (by rw [e]; exact Nat.lt_irrefl _)
  · exact absurd (h (152, tabObj p5) (by simp)) (by rw [e]; exact Nat.lt_irrefl _)
noncomputable def rowD (cm : List Int) (lost : Int) (f : Nat) : PyData := .list ((pairsP cm).take f ++ [.list [.int lost, .int (-1)]] ++ (pairsP cm).drop f)
noncomputable def dueD (zs : List Int) (kinds size cb : Int) (gone f l : Nat) : PyData := .list [.int (zs.sum.fdiv kinds), .int (cb.fdiv size), rowD (zs.take gone ++ zs.drop (gone + 1)) (zs.getD gone 0) f, rowD (zs.take gone ++ zs.drop (gone + 1)) (zs.getD gone 0) l, .list [.none, .none]]
theorem lay_of : ∀ {l : List PyData}, (∀ x ∈ l, x.canLay0 = true) → PyData.canLayAll0 l = true
  | [], _ => rfl
  | x :: l, h => by rw [PyData.canLayAll0, h x (.head _), lay_of fun y hy => h y (.tail _ hy)]; rfl
theorem dep_of {k : Nat} : ∀ {l : List PyData}, (∀ x ∈ l, x.depth ≤ k) → PyData.depthAll l ≤ k
  | [], _ => Nat.zero_le _
  | x :: l, h => by rw [PyData.depthAll]; exact Nat.max_le.mpr ⟨h x (.head _), dep_of fun y hy => h y (.tail _ hy)⟩
theorem pairs_of {cm : List Int} {x : PyData} (h : x ∈ pairsP cm) : x.canLay0 = true ∧ x.depth ≤ 1 := by
  refine cutG fun Pc kc => ?_
  obtain ⟨i, _, rfl⟩ := List.mem_map.mp h
  refine kc ?_
  clear kc Pc
  exact ⟨rfl, Nat.le_refl _⟩
theorem rowD_of {cm : List Int} {lost : Int} {f : Nat} : (rowD cm lost f).canLay0 = true ∧ (rowD cm lost f).depth ≤ 2 := by
  have h : ∀ x ∈ (pairsP cm).take f ++ [.list [.int lost, .int (-1)]] ++ (pairsP cm).drop f, x.canLay0 = true ∧ x.depth ≤ 1 := by
    intro x hx
    rcases List.mem_append.mp hx with hx | hx
    · rcases List.mem_append.mp hx with hx | hx
      · exact pairs_of (List.mem_of_mem_take hx)
      · rw [List.mem_singleton.mp hx]; exact ⟨rfl, Nat.le_refl _⟩
    · exact pairs_of (List.mem_of_mem_drop hx)
  refine ⟨?_, ?_⟩
  · rw [rowD, PyData.canLay0]; exact lay_of fun x hx => (h x hx).1
  · rw [rowD, PyData.depth]; exact Nat.succ_le_succ (dep_of fun x hx => (h x hx).2)
theorem dueD_lay (zs : List Int) (kinds size cb : Int) (gone f l : Nat) : (dueD zs kinds size cb gone f l).canLay0 = true := by
  rw [dueD, PyData.canLay0]
  refine lay_of fun x hx => ?_
  simp only [List.mem_cons, List.not_mem_nil, or_false] at hx
  rcases hx with rfl | rfl | rfl | rfl | rfl
  · rfl
  · rfl
  · exact rowD_of.1
  · exact rowD_of.1
  · rfl
theorem dueD_dep (zs : List Int) (kinds size cb : Int) (gone f l : Nat) : (dueD zs kinds size cb gone f l).depth ≤ 9 := by
  rw [dueD, PyData.depth]
  refine Nat.succ_le_succ (Nat.le_trans (dep_of (k := 2) fun x hx => ?_) (by omega))
  simp only [List.mem_cons, List.not_mem_nil, or_false] at hx
  rcases hx with rfl | rfl | rfl | rfl | rfl
  · exact Nat.zero_le _
  · exact Nat.zero_le _
  · exact rowD_of.2
  · exact rowD_of.2
  · show 1 ≤ 2; omega
/-- what the addresses of the loop's ledger keep apart -/
noncomputable def OffU (L c1 c2 : Addr) (Z : List (Addr × Obj)) : Prop := (∀ q ∈ Z, q.1 ∉ [66, 73, c1, c2, 152] ∧ q.1 ≠ L + 1 + 1 + 1 + 1 + 1 + 1 + 1 + 1 + 1 ∧ q.1 ≠ L + 1 + 1 + 1 + 1 + 1 + 1 + 1 + 1 + 1 + 1 ∧ q.1 ≠ L + 1 + 1 + 1 + 1 + 1 + 1 + 1 + 1 + 1 + 1 + 1) ∧ (∀ q ∈ [L + 1 + 1 + 1 + 1 + 1 + 1 + 1 + 1 + 1, L + 1 + 1 + 1 + 1 + 1 + 1 + 1 + 1 + 1 + 1, L + 1 + 1 + 1 + 1 + 1 + 1 + 1 + 1 + 1 + 1 + 1], q ∉ [66, 73, c1, c2, 152])
theorem cut_len {zs : List Int} {gone : Nat} (hg : gone < zs.length) : ((zs.take gone ++ zs.drop (gone + 1))).length + 1 = zs.length := by
  rw [List.length_append, List.length_take, List.length_drop, Nat.min_eq_left (by omega)]; omega
theorem cut_mem {zs : List Int} {gone : Nat} {z : Int} (h : z ∈ (zs.take gone ++ zs.drop (gone + 1))) : z ∈ zs := by
  rcases List.mem_append.mp h with h | h
  · exact List.mem_of_mem_take h
  · exact List.mem_of_mem_drop h
theorem RA.rowD {g h : Heap} {L A T : Addr} {l tp : List (Addr × Obj)} {cm : List Int} {lost : Int} {f : Nat} {t u : Tok} (N : News g L h l) (hA : (A, objA (tp.map fun p => Value.ref p.1) f T) ∈ l) (hT : (T, objT lost t u) ∈ l) (htp : ∀ p ∈ tp, p ∈ l) (hr : RowsAre tp ((rangeInts 0 1 cm.length).map fun k => [cm.getD k.toNat 0, k])) : ∃ as, Reads h (.ref A) (rowD cm lost f) as := by
  have hp : RA h (tp.map fun p => Value.ref p.1) (pairsP cm) := RA.pairs hr fun p hp => (N p (htp p hp)).1
  refine RA.list N hA ?_
  exact RA.append (hp.drop f) (RA.append (.cons (RA.list N hT RA.two) .nil) (hp.take f))
theorem off_sub {L c1 c2 : Addr} {Z : List (Addr × Obj)} (O : OffU L c1 c2 Z) (l1 : @LT.lt Nat _ 160 L) {k : Addr} (hk : k = L + 1 + 1 + 1 + 1 + 1 + 1 + 1 + 1 + 1 ∨ k = L + 1 + 1 + 1 + 1 + 1 + 1 + 1 + 1 + 1 + 1 ∨ k = L + 1 + 1 + 1 + 1 + 1 + 1 + 1 + 1 + 1 + 1 + 1) {oc1 oc2 : Obj} {p1 p2 p5 : Array Value} : ∀ q ∈ ([(66, tabObj p1), (73, tabObj p2), (c1, oc1), (c2, oc2), (152, tabObj p5)] : List (Addr × Obj)), q.1 ≠ k := by
  have h : k ∉ [66, 73, c1, c2, 152] := O.2 k (by rcases hk with rfl | rfl | rfl <;> simp)
  simp only [List.mem_cons, List.not_mem_nil, or_false, not_or] at h
  intro q hq e
  simp only [List.mem_cons, List.not_mem_nil, or_false] at hq
  rcases hq with rfl | rfl | rfl | rfl | rfl
  · exact h.1 e.symm
  · exact h.2.1 e.symm
  · exact h.2.2.1 e.symm
  · exact h.2.2.2.1 e.symm
  · exact h.2.2.2.2 e.symm
noncomputable def lawU.R (s : Shared) (qk : Flow → Shared → Prop) (ek : Value → Shared → Prop) (m : Str → Option Value) (Z codes : List (Addr × Obj)) (o4 o5 o6 o7 o9 o10 o11 : Obj) (Dn : Addr) (kn : Nat) (ys : List Value) (zs : List Int) (Dq : Addr) (kq : Nat) (hs : List Value) (c1 c2 : Addr) (oc1 oc2 : Obj) (p1 p2 p5 : Array Value) (kinds port dress size cb : Int) (tk td ta ts tc tg : Tok) (alpha : Str) (gone : Nat) (w10 w11 : Option Value) : Prop :=
  ∀ (B : Below A₀ g [] g) (X : (hd.heap_1 w.params).In g) (T : Top topProg loose mean mg mb g) (C : CodeHd g 70 66) (C2 : CodeHd g 77 73) (C3 : CodeHd g 154 152) (hd9 : dp + 32 < recursionLimit) (hu9 : un + 300 < cLine) (F : Fr g L s.heap m) (N : News g L s.heap ([(66, tabObj p1), (73, tabObj p2), (c1, oc1), (c2, oc2), (152, tabObj p5)] ++ (L + 1 + 1 + 1 + 1 + 1 + 1 + 1 + 1 + 1, o9) :: (L + 1 + 1 + 1 + 1 + 1 + 1 + 1 + 1 + 1 + 1, o10) :: (L + 1 + 1 + 1 + 1 + 1 + 1 + 1 + 1 + 1 + 1 + 1, o11) :: Z)) (z4 : (L + 1 + 1 + 1 + 1, o4) ∈ Z) (z5 : (L + 1 + 1 + 1 + 1 + 1, o5) ∈ Z) (z6 : (L + 1 + 1 + 1 + 1 + 1 + 1, o6) ∈ Z) (z7 : (L + 1 + 1 + 1 + 1 + 1 + 1 + 1, o7) ∈ Z) (zn : (Dn, listOf ys.toArray kn) ∈ Z) (zq : (Dq, listOf hs.toArray kq) ∈ Z) (O : OffU L c1 c2 Z) (CO : ∀ q ∈ codes, q ∈ Z) (e4 : o4.data = .cell (some (.int kinds tk))) (e5 : o5.data = .cell (some (.int size ts))) (e6 : o6.data = .cell (some (.str alpha ta))) (e7 : o7.data = .cell (some (.ref Dn))) (e9 : o9.data = .cell (some (.int (gone : Int) tg))) (e10 : o10.data = .cell w10) (e11 : o11.data = .cell w11) (hI : IntsAre ys zs) (hz5 : 5 ≤ zs.length) (hz10 : zs.length ≤ 10) (hg : gone < zs.length) (hzl : (zs.length : Int) = size) (hzb : ∀ z ∈ zs, 0 ≤ z ∧ z < kinds) (hal : (alpha.length : Int) = kinds) (hk2 : 2 ≤ kinds) (hk6 : kinds ≤ 6) (hp0 : 0 ≤ port) (hp60 : port < 60) (hd0 : 0 ≤ dress) (hd3 : dress < 3) (hIq : IntsAre hs [port, port, port]) (hix : ∀ z : Int, 0 ≤ z → z < kinds → Txt.find alpha (Txt.item alpha z) = z) (hsm0 : 0 ≤ zs.sum) (hsm : zs.sum ≤ 60) (hcb0 : 0 ≤ cb) (hcb : cb ≤ 60) (hmd : m (Str.ofString "dress") = some (.int dress td)) (hmh : m (Str.ofString "heard") = some (.ref Dq)) (hmc : m (Str.ofString "climbs") = some (.int cb tc)) (LTB : LamTab lamQ p5 codes) (S1 : TabSt 85 4 "_int2digits.<locals>.inner" p1 [(c1, oc1)]) (S2 : TabSt 100 4 "_digits2int.<locals>.inner" p2 [(c2, oc2)]) (hc1 : @LT.lt Nat _ 160 c1) (hc2 : @LT.lt Nat _ 160 c2) (l1 : @LT.lt Nat _ 160 L) (hpure : ∀ f l : Nat, f ≤ gone → eqRun zs gone f = true → (∀ k, k ≤ gone → eqRun zs gone k = true → f ≤ k) → gone ≤ l → l < zs.length → eqRunR zs gone l = true → (∀ k, gone ≤ k → k < zs.length → eqRunR zs gone k = true → k ≤ l) →
     mendR ((port.fmod kinds - ((zs.take gone ++ zs.drop (gone + 1))).sum).fdiv kinds) ((port.fmod kinds - ((zs.take gone ++ zs.drop (gone + 1))).sum).fmod kinds) (port.fdiv kinds) (zs.take gone ++ zs.drop (gone + 1)) = dueD zs kinds size cb gone f l) (ret : ∀ (h' : Heap) (tk' : Nat) (m' : Str → Option Value) (lg : List (Addr × Obj)) (p1' p2' p5' : Array Value) (c1' c2' : Addr) (oc1' oc2' o10' o11' : Obj) (w10' w11' : Option Value), Fr g L h' m' → (∀ x, x ∉ sixN → m' x = m x) → News g L h' ([(66, tabObj p1'), (73, tabObj p2'), (c1', oc1'), (c2', oc2'), (152, tabObj p5')] ++ (L + 1 + 1 + 1 + 1 + 1 + 1 + 1 + 1 + 1, o9) :: (L + 1 + 1 + 1 + 1 + 1 + 1 + 1 + 1 + 1 + 1, o10') :: (L + 1 + 1 + 1 + 1 + 1 + 1 + 1 + 1 + 1 + 1 + 1, o11') :: (lg ++ Z)) → OffU L c1' c2' (lg ++ Z) → o10'.data = .cell w10' → o11'.data = .cell w11' → LamTab lamQ p5' (lg ++ codes) → TabSt 85 4 "_int2digits.<locals>.inner" p1' [(c1', oc1')] → TabSt 100 4 "_digits2int.<locals>.inner" p2' [(c2', oc2')] → @LT.lt Nat _ 160 c1' → @LT.lt Nat _ 160 c2' →
     (∀ q ∈ lg, ∀ r ∈ Z, @Ne Nat q.1 r.1) → (∀ r ∈ Z, @Ne Nat c1' r.1 ∧ @Ne Nat c2' r.1) → qk .next { s with heap := h', toks := tk' }),
   wpAny (model PySem.Challenge.rw_ta0052_01.row.prog w) (ktrTop dp un gd (Str.ofString "law") (scopeOf (topStmt 22)) L a ccd (cellsFrom (L + 1) (scopeOf (topStmt 22)).names []) []) (execs (forBody ((bodyOf (topStmt 22)).getD 13 (.Pass default))) (envOfC (Str.ofString "law") (scopeOf (topStmt 22)) L a ccd)) qk ek s
abbrev lawU.T : Type := Shared × (Flow → Shared → Prop) × (Value → Shared → Prop) × (Str → Option Value) × (List (Addr × Obj)) × (List (Addr × Obj)) × Obj × Obj × Obj × Obj × Obj × Obj × Obj × Addr × Nat × (List Value) × (List Int) × Addr × Nat × (List Value) × Addr × Addr × Obj × Obj × (Array Value) × (Array Value) × (Array Value) × Int × Int × Int × Int × Int × Tok × Tok × Tok × Tok × Tok × Tok × Str × Nat × (Option Value) × (Option Value)
theorem lawU.ne : Nonempty lawU.T := ⟨({}, fun _ _ => True, fun _ _ => True, fun _ => none, [], [], default, default, default, default, default, default, default, 0, 0, [], [], 0, 0, [], 0, 0, default, default, #[], #[], #[], 0, 0, 0, 0, 0, 0, 0, 0, 0, 0, 0, Str.ofString "", 0, none, none)⟩
noncomputable def lawU.Q (c : lawU.T) : Prop := lawU.R c.1 c.2.1 c.2.2.1 c.2.2.2.1 c.2.2.2.2.1 c.2.2.2.2.2.1 c.2.2.2.2.2.2.1 c.2.2.2.2.2.2.2.1 c.2.2.2.2.2.2.2.2.1 c.2.2.2.2.2.2.2.2.2.1 c.2.2.2.2.2.2.2.2.2.2.1 c.2.2.2.2.2.2.2.2.2.2.2.1 c.2.2.2.2.2.2.2.2.2.2.2.2.1 c.2.2.2.2.2.2.2.2.2.2.2.2.2.1 c.2.2.2.2.2.2.2.2.2.2.2.2.2.2.1 c.2.2.2.2.2.2.2.2.2.2.2.2.2.2.2.1 c.2.2.2.2.2.2.2.2.2.2.2.2.2.2.2.2.1 c.2.2.2.2.2.2.2.2.2.2.2.2.2.2.2.2.2.1 c.2.2.2.2.2.2.2.2.2.2.2.2.2.2.2.2.2.2.1 c.2.2.2.2.2.2.2.2.2.2.2.2.2.2.2.2.2.2.2.1 c.2.2.2.2.2.2.2.2.2.2.2.2.2.2.2.2.2.2.2.2.1 c.2.2.2.2.2.2.2.2.2.2.2.2.2.2.2.2.2.2.2.2.2.1 c.2.2.2.2.2.2.2.2.2.2.2.2.2.2.2.2.2.2.2.2.2.2.1 c.2.2.2.2.2.2.2.2.2.2.2.2.2.2.2.2.2.2.2.2.2.2.2.1 c.2.2.2.2.2.2.2.2.2.2.2.2.2.2.2.2.2.2.2.2.2.2.2.2.1 c.2.2.2.2.2.2.2.2.2.2.2.2.2.2.2.2.2.2.2.2.2.2.2.2.2.1 c.2.2.2.2.2.2.2.2.2.2.2.2.2.2.2.2.2.2.2.2.2.2.2.2.2.2.1 c.2.2.2.2.2.2.2.2.2.2.2.2.2.2.2.2.2.2.2.2.2.2.2.2.2.2.2.1 c.2.2.2.2.2.2.2.2.2.2.2.2.2.2.2.2.2.2.2.2.2.2.2.2.2.2.2.2.1 c.2.2.2.2.2.2.2.2.2.2.2.2.2.2.2.2.2.2.2.2.2.2.2.2.2.2.2.2.2.1 c.2.2.2.2.2.2.2.2.2.2.2.2.2.2.2.2.2.2.2.2.2.2.2.2.2.2.2.2.2.2.1 c.2.2.2.2.2.2.2.2.2.2.2.2.2.2.2.2.2.2.2.2.2.2.2.2.2.2.2.2.2.2.2.1 c.2.2.2.2.2.2.2.2.2.2.2.2.2.2.2.2.2.2.2.2.2.2.2.2.2.2.2.2.2.2.2.2.1 c.2.2.2.2.2.2.2.2.2.2.2.2.2.2.2.2.2.2.2.2.2.2.2.2.2.2.2.2.2.2.2.2.2.1 c.2.2.2.2.2.2.2.2.2.2.2.2.2.2.2.2.2.2.2.2.2.2.2.2.2.2.2.2.2.2.2.2.2.2.1 c.2.2.2.2.2.2.2.2.2.2.2.2.2.2.2.2.2.2.2.2.2.2.2.2.2.2.2.2.2.2.2.2.2.2.2.1 c.2.2.2.2.2.2.2.2.2.2.2.2.2.2.2.2.2.2.2.2.2.2.2.2.2.2.2.2.2.2.2.2.2.2.2.2.1 c.2.2.2.2.2.2.2.2.2.2.2.2.2.2.2.2.2.2.2.2.2.2.2.2.2.2.2.2.2.2.2.2.2.2.2.2.2.1 c.2.2.2.2.2.2.2.2.2.2.2.2.2.2.2.2.2.2.2.2.2.2.2.2.2.2.2.2.2.2.2.2.2.2.2.2.2.2.1 c.2.2.2.2.2.2.2.2.2.2.2.2.2.2.2.2.2.2.2.2.2.2.2.2.2.2.2.2.2.2.2.2.2.2.2.2.2.2.2.1 c.2.2.2.2.2.2.2.2.2.2.2.2.2.2.2.2.2.2.2.2.2.2.2.2.2.2.2.2.2.2.2.2.2.2.2.2.2.2.2.2.1 c.2.2.2.2.2.2.2.2.2.2.2.2.2.2.2.2.2.2.2.2.2.2.2.2.2.2.2.2.2.2.2.2.2.2.2.2.2.2.2.2.2
noncomputable def lawU.c : lawU.T := Classical.epsilon (h := lawU.ne) fun c => ¬ lawU.Q c
namespace lawUK
@[irreducible] noncomputable def s := lawU.c.1
@[irreducible] noncomputable def qk := lawU.c.2.1
@[irreducible] noncomputable def ek := lawU.c.2.2.1
@[irreducible] noncomputable def m := lawU.c.2.2.2.1
@[irreducible] noncomputable def Z := lawU.c.2.2.2.2.1
@[irreducible] noncomputable def codes := lawU.c.2.2.2.2.2.1
@[irreducible] noncomputable def o4 := lawU.c.2.2.2.2.2.2.1
@[irreducible] noncomputable def o5 := lawU.c.2.2.2.2.2.2.2.1
@[irreducible] noncomputable def o6 := lawU.c.2.2.2.2.2.2.2.2.1
@[irreducible] noncomputable def o7 := lawU.c.2.2.2.2.2.2.2.2.2.1
@[irreducible] noncomputable def o9 := lawU.c.2.2.2.2.2.2.2.2.2.2.1
@[irreducible] noncomputable def o10 := lawU.c.2.2.2.2.2.2.2.2.2.2.2.1
@[irreducible] noncomputable def o11 := lawU.c.2.2.2.2.2.2.2.2.2.2.2.2.1
@[irreducible] noncomputable def Dn := lawU.c.2.2.2.2.2.2.2.2.2.2.2.2.2.1
@[irreducible] noncomputable def kn := lawU.c.2.2.2.2.2.2.2.2.2.2.2.2.2.2.1
@[irreducible] noncomputable def ys := lawU.c.2.2.2.2.2.2.2.2.2.2.2.2.2.2.2.1
@[irreducible] noncomputable def zs := lawU.c.2.2.2.2.2.2.2.2.2.2.2.2.2.2.2.2.1
@[irreducible] noncomputable def Dq := lawU.c.2.2.2.2.2.2.2.2.2.2.2.2.2.2.2.2.2.1
@[irreducible] noncomputable def kq := lawU.c.2.2.2.2.2.2.2.2.2.2.2.2.2.2.2.2.2.2.1
@[irreducible] noncomputable def hs := lawU.c.2.2.2.2.2.2.2.2.2.2.2.2.2.2.2.2.2.2.2.1
@[irreducible] noncomputable def c1 := lawU.c.2.2.2.2.2.2.2.2.2.2.2.2.2.2.2.2.2.2.2.2.1
@[irreducible] noncomputable def c2 := lawU.c.2.2.2.2.2.2.2.2.2.2.2.2.2.2.2.2.2.2.2.2.2.1
@[irreducible] noncomputable def oc1 := lawU.c.2.2.2.2.2.2.2.2.2.2.2.2.2.2.2.2.2.2.2.2.2.2.1
@[irreducible] noncomputable def oc2 := lawU.c.2.2.2.2.2.2.2.2.2.2.2.2.2.2.2.2.2.2.2.2.2.2.2.1
@[irreducible] noncomputable def p1 := lawU.c.2.2.2.2.2.2.2.2.2.2.2.2.2.2.2.2.2.2.2.2.2.2.2.2.1
@[irreducible] noncomputable def p2 := lawU.c.2.2.2.2.2.2.2.2.2.2.2.2.2.2.2.2.2.2.2.2.2.2.2.2.2.1
@[irreducible] noncomputable def p5 := lawU.c.2.2.2.2.2.2.2.2.2.2.2.2.2.2.2.2.2.2.2.2.2.2.2.2.2.2.1
@[irreducible] noncomputable def kinds := lawU.c.2.2.2.2.2.2.2.2.2.2.2.2.2.2.2.2.2.2.2.2.2.2.2.2.2.2.2.1
@[irreducible] noncomputable def port := lawU.c.2.2.2.2.2.2.2.2.2.2.2.2.2.2.2.2.2.2.2.2.2.2.2.2.2.2.2.2.1
@[irreducible] noncomputable def dress := lawU.c.2.2.2.2.2.2.2.2.2.2.2.2.2.2.2.2.2.2.2.2.2.2.2.2.2.2.2.2.2.1
@[irreducible] noncomputable def size := lawU.c.2.2.2.2.2.2.2.2.2.2.2.2.2.2.2.2.2.2.2.2.2.2.2.2.2.2.2.2.2.2.1
@[irreducible] noncomputable def cb := lawU.c.2.2.2.2.2.2.2.2.2.2.2.2.2.2.2.2.2.2.2.2.2.2.2.2.2.2.2.2.2.2.2.1
@[irreducible] noncomputable def tk := lawU.c.2.2.2.2.2.2.2.2.2.2.2.2.2.2.2.2.2.2.2.2.2.2.2.2.2.2.2.2.2.2.2.2.1
@[irreducible] noncomputable def td := lawU.c.2.2.2.2.2.2.2.2.2.2.2.2.2.2.2.2.2.2.2.2.2.2.2.2.2.2.2.2.2.2.2.2.2.1
@[irreducible] noncomputable def ta := lawU.c.2.2.2.2.2.2.2.2.2.2.2.2.2.2.2.2.2.2.2.2.2.2.2.2.2.2.2.2.2.2.2.2.2.2.1
@[irreducible] noncomputable def ts := lawU.c.2.2.2.2.2.2.2.2.2.2.2.2.2.2.2.2.2.2.2.2.2.2.2.2.2.2.2.2.2.2.2.2.2.2.2.1
@[irreducible] noncomputable def tc := lawU.c.2.2.2.2.2.2.2.2.2.2.2.2.2.2.2.2.2.2.2.2.2.2.2.2.2.2.2.2.2.2.2.2.2.2.2.2.1
@[irreducible] noncomputable def tg := lawU.c.2.2.2.2.2.2.2.2.2.2.2.2.2.2.2.2.2.2.2.2.2.2.2.2.2.2.2.2.2.2.2.2.2.2.2.2.2.1
@[irreducible] noncomputable def alpha := lawU.c.2.2.2.2.2.2.2.2.2.2.2.2.2.2.2.2.2.2.2.2.2.2.2.2.2.2.2.2.2.2.2.2.2.2.2.2.2.2.1
@[irreducible] noncomputable def gone := lawU.c.2.2.2.2.2.2.2.2.2.2.2.2.2.2.2.2.2.2.2.2.2.2.2.2.2.2.2.2.2.2.2.2.2.2.2.2.2.2.2.1
@[irreducible] noncomputable def w10 := lawU.c.2.2.2.2.2.2.2.2.2.2.2.2.2.2.2.2.2.2.2.2.2.2.2.2.2.2.2.2.2.2.2.2.2.2.2.2.2.2.2.2.1
@[irreducible] noncomputable def w11 := lawU.c.2.2.2.2.2.2.2.2.2.2.2.2.2.2.2.2.2.2.2.2.2.2.2.2.2.2.2.2.2.2.2.2.2.2.2.2.2.2.2.2.2
theorem main : lawU.R s qk ek m Z codes o4 o5 o6 o7 o9 o10 o11 Dn kn ys zs Dq kq hs c1 c2 oc1 oc2 p1 p2 p5 kinds port dress size cb tk td ta ts tc tg alpha gone w10 w11 := by
  intro B X T C C2 C3 hd9 hu9 F N z4 z5 z6 z7 zn zq O CO e4 e5 e6 e7 e9 e10 e11 hI hz5 hz10 hg hzl hzb hal hk2 hk6 hp0 hp60 hd0 hd3 hIq hix hsm0 hsm hcb0 hcb hmd hmh hmc LTB S1 S2 hc1 hc2 l1 hpure ret
  have hcl := cut_len hg
  have hcm : ∀ z ∈ (zs.take gone ++ zs.drop (gone + 1)), 0 ≤ z ∧ z < kinds := fun z hz => hzb z (cut_mem hz)
  have nt10 := fun q hq => off_sub (oc1 := oc1) (oc2 := oc2) (p1 := p1) (p2 := p2) (p5 := p5) O l1 (k := L + 1 + 1 + 1 + 1 + 1 + 1 + 1 + 1 + 1 + 1) (.inr (.inl rfl)) q hq
  have nt11 := fun q hq => off_sub (oc1 := oc1) (oc2 := oc2) (p1 := p1) (p2 := p2) (p5 := p5) O l1 (k := L + 1 + 1 + 1 + 1 + 1 + 1 + 1 + 1 + 1 + 1 + 1) (.inr (.inr rfl)) q hq
  have n0_10 : ∀ q ∈ ([(66, tabObj p1), (73, tabObj p2), (c1, oc1), (c2, oc2), (152, tabObj p5)] ++ (L + 1 + 1 + 1 + 1 + 1 + 1 + 1 + 1 + 1, o9) :: Z), q.1 ≠ L + 1 + 1 + 1 + 1 + 1 + 1 + 1 + 1 + 1 + 1 := fun q hq => by
    rcases List.mem_append.mp hq with hq | hq
    · exact nt10 q hq
    · rcases List.mem_cons.mp hq with rfl | hq
      · exact Nat.ne_of_lt (Nat.lt_succ_self _)
      · exact (O.1 q hq).2.2.1
  have n0_11 : ∀ q ∈ ([(66, tabObj p1), (73, tabObj p2), (c1, oc1), (c2, oc2), (152, tabObj p5)] ++ (L + 1 + 1 + 1 + 1 + 1 + 1 + 1 + 1 + 1, o9) :: Z), q.1 ≠ L + 1 + 1 + 1 + 1 + 1 + 1 + 1 + 1 + 1 + 1 + 1 := fun q hq => by
    rcases List.mem_append.mp hq with hq | hq
    · exact nt11 q hq
    · rcases List.mem_cons.mp hq with rfl | hq
      · exact Nat.ne_of_lt (Nat.lt_succ_of_lt (Nat.lt_succ_self _))
      · exact (O.1 q hq).2.2.2
  have N0 : News g L s.heap ((L + 1 + 1 + 1 + 1 + 1 + 1 + 1 + 1 + 1 + 1, o10) :: (L + 1 + 1 + 1 + 1 + 1 + 1 + 1 + 1 + 1 + 1 + 1, o11) :: ([(66, tabObj p1), (73, tabObj p2), (c1, oc1), (c2, oc2), (152, tabObj p5)] ++ (L + 1 + 1 + 1 + 1 + 1 + 1 + 1 + 1 + 1, o9) :: Z)) := news_sub N (by
    walk_at "my s")
  show wpAny _ _ (execs ((forBody ((bodyOf (topStmt 22)).getD 13 (.Pass default))).drop 0) _) _ _ _
  refine execs_seg (i := 0) (j := 1) (by decide) ?_
  refine lawU0 _ _ _ m ((L + 1 + 1 + 1 + 1 + 1 + 1 + 1 + 1 + 1 + 1 + 1, o11) :: ([(66, tabObj p1), (73, tabObj p2), (c1, oc1), (c2, oc2), (152, tabObj p5)] ++ (L + 1 + 1 + 1 + 1 + 1 + 1 + 1 + 1 + 1, o9) :: Z)) Dn kn ys zs o7 o9 o10 gone tg w10 B X T C C2 C3 hd9 hu9 F (newsS N0 (by walk_at "my s")) e7 hI hz5 hz10 e9 hg e10 (neC (Nat.ne_of_gt (Nat.lt_succ_self _)) (n0_10)) (O.1 _ zn).2.2.1 l1 ?_
  intro h1 tk1 Dk ws o10b F1 N1 e10b hIc lo1
  show wpAny _ _ (execs ((forBody ((bodyOf (topStmt 22)).getD 13 (.Pass default))).drop 1) _) _ _ _
  replace N1 : News g L h1 ((Dk, listOf ws.toArray 0) :: (L + 1 + 1 + 1 + 1 + 1 + 1 + 1 + 1 + 1 + 1, o10b) :: (L + 1 + 1 + 1 + 1 + 1 + 1 + 1 + 1 + 1 + 1 + 1, o11) :: ([(66, tabObj p1), (73, tabObj p2), (c1, oc1), (c2, oc2), (152, tabObj p5)] ++ (L + 1 + 1 + 1 + 1 + 1 + 1 + 1 + 1 + 1, o9) :: Z)) := newsS N1 (by walk_at "my s")
  have nk11 : @Ne Nat Dk (L + 1 + 1 + 1 + 1 + 1 + 1 + 1 + 1 + 1 + 1 + 1) := Nat.ne_of_gt (lo1 (L + 1 + 1 + 1 + 1 + 1 + 1 + 1 + 1 + 1 + 1 + 1, o11) (.tail _ (.tail _ (.tail _ (.tail _ (.head _))))))
  refine execs_seg (i := 1) (j := 2) (by decide) ?_
  refine lawU1 _ _ _ m ((Dk, listOf ws.toArray 0) :: (L + 1 + 1 + 1 + 1 + 1 + 1 + 1 + 1 + 1 + 1, o10b) :: (L + 1 + 1 + 1 + 1 + 1 + 1 + 1 + 1 + 1 + 1 + 1, o11) :: ([(66, tabObj p1), (73, tabObj p2), (c1, oc1), (c2, oc2), (152, tabObj p5)] ++ (L + 1 + 1 + 1 + 1 + 1 + 1 + 1 + 1 + 1, o9) :: Z)) o6 o10b Dk 0 ws (zs.take gone ++ zs.drop (gone + 1)) kinds alpha ta B X T C C2 C3 hd9 hu9 F1 (newsS N1 (by walk_at "my s")) hIc (by omega) hcm e10b l1 e6 hal hk6 ?_
  intro h2 tk2 tt F2 N2
  show wpAny _ _ (execs ((forBody ((bodyOf (topStmt 22)).getD 13 (.Pass default))).drop 2) _) _ _ _
  replace N2 := news_tail (news_tail (news_tail N2))
  refine execs_seg (i := 2) (j := 4) (by decide) ?_
  refine lawU2 _ _ _ _ ((Dk, listOf ws.toArray 0) :: (L + 1 + 1 + 1 + 1 + 1 + 1 + 1 + 1 + 1 + 1, o10b) :: (L + 1 + 1 + 1 + 1 + 1 + 1 + 1 + 1 + 1 + 1 + 1, o11) :: ([(66, tabObj p1), (73, tabObj p2), (c1, oc1), (c2, oc2), (152, tabObj p5)] ++ (L + 1 + 1 + 1 + 1 + 1 + 1 + 1 + 1 + 1, o9) :: Z)) o9 gone tg td tt dress (txtV alpha (zs.take gone ++ zs.drop (gone + 1))) B X T C C2 C3 hd9 hu9 F2 (newsS N2 (by walk_at "my s")) e9 (by omega) hd0 hd3 (by repeat (first | exact hmd | refine (if_neg (by decide +kernel)).trans ?_ | exact if_pos rfl)) set_eq (by rw [txt_len]; omega) l1 ?_
  intro h3 tk3 tl F3 N3
  show wpAny _ _ (execs ((forBody ((bodyOf (topStmt 22)).getD 13 (.Pass default))).drop 4) _) _ _ _
  replace N3 := news_tail N3
  refine execs_seg (i := 4) (j := 5) (by decide) ?_
  refine lawU4 _ _ _ _ ((Dk, listOf ws.toArray 0) :: (L + 1 + 1 + 1 + 1 + 1 + 1 + 1 + 1 + 1 + 1, o10b) :: (L + 1 + 1 + 1 + 1 + 1 + 1 + 1 + 1 + 1 + 1 + 1, o11) :: ([(66, tabObj p1), (73, tabObj p2), (c1, oc1), (c2, oc2), (152, tabObj p5)] ++ (L + 1 + 1 + 1 + 1 + 1 + 1 + 1 + 1 + 1, o9) :: Z)) Dn kn ys zs o7 o9 gone tg B X T C C2 C3 hd9 hu9 F3 (newsS N3 (by walk_at "my s")) e7 hI hz5 hz10 e9 hg l1 ?_
  intro h4 tk4 f tf hf1 hf2 hf3 F4 N4
  show wpAny _ _ (execs ((forBody ((bodyOf (topStmt 22)).getD 13 (.Pass default))).drop 5) _) _ _ _
  replace N4 := news_tail (news_tail (news_tail N4))
  refine execs_seg (i := 5) (j := 6) (by decide) ?_
  refine lawU5 _ _ _ _ ((Dk, listOf ws.toArray 0) :: (L + 1 + 1 + 1 + 1 + 1 + 1 + 1 + 1 + 1 + 1, o10b) :: (L + 1 + 1 + 1 + 1 + 1 + 1 + 1 + 1 + 1 + 1 + 1, o11) :: ([(66, tabObj p1), (73, tabObj p2), (c1, oc1), (c2, oc2), (152, tabObj p5)] ++ (L + 1 + 1 + 1 + 1 + 1 + 1 + 1 + 1 + 1, o9) :: Z)) Dn kn ys zs o7 o5 o9 gone tg ts size B X T C C2 C3 hd9 hu9 F4 (newsS N4 (by walk_at "my s")) e7 hI hz5 hz10 e9 hg e5 hzl l1 ?_
  intro h5 tk5 l tl5 hl1 hl2 hl3 hl4 F5 N5
  show wpAny _ _ (execs ((forBody ((bodyOf (topStmt 22)).getD 13 (.Pass default))).drop 6) _) _ _ _
  replace N5 := news_tail (news_tail (news_tail (news_tail N5)))
  refine execs_seg (i := 6) (j := 7) (by decide) ?_
  refine lawU6 _ _ _ _ ((Dk, listOf ws.toArray 0) :: (L + 1 + 1 + 1 + 1 + 1 + 1 + 1 + 1 + 1 + 1, o10b) :: ([(66, tabObj p1), (73, tabObj p2), (c1, oc1), (c2, oc2), (152, tabObj p5)] ++ (L + 1 + 1 + 1 + 1 + 1 + 1 + 1 + 1 + 1, o9) :: Z)) o5 o10b o11 Dk 0 ws (zs.take gone ++ zs.drop (gone + 1)) ts size w11 B X T C C2 C3 hd9 hu9 F5 (newsS N5 (by walk_at "my s")) hIc (by omega) (by omega) e5 e10b e11 (List.forall_mem_cons.mpr ⟨nk11, neC (Nat.ne_of_lt (Nat.lt_succ_self _)) (n0_11)⟩) nk11 l1 ?_
  intro h6 tk6 Dp kp tp ex o11b F6 N6 e11b hrows hpx lo6 hDp
  show wpAny _ _ (execs ((forBody ((bodyOf (topStmt 22)).getD 13 (.Pass default))).drop 7) _) _ _ _
  replace N6 : News g L h6 ((Dp, listOf (tp.map fun p => Value.ref p.1).toArray kp) :: (L + 1 + 1 + 1 + 1 + 1 + 1 + 1 + 1 + 1 + 1 + 1, o11b) :: (ex ++ ((Dk, listOf ws.toArray 0) :: (L + 1 + 1 + 1 + 1 + 1 + 1 + 1 + 1 + 1 + 1, o10b) :: ([(66, tabObj p1), (73, tabObj p2), (c1, oc1), (c2, oc2), (152, tabObj p5)] ++ (L + 1 + 1 + 1 + 1 + 1 + 1 + 1 + 1 + 1, o9) :: Z)))) := newsS N6 (by walk_at "my s")
  have htp : tp.length + 1 = zs.length := by rw [rows_len hrows]; exact hcl
  refine execs_seg (i := 7) (j := 8) (by decide) ?_
  refine lawU7 _ _ _ _ ((Dp, listOf (tp.map fun p => Value.ref p.1).toArray kp) :: (L + 1 + 1 + 1 + 1 + 1 + 1 + 1 + 1 + 1 + 1 + 1, o11b) :: (ex ++ ((Dk, listOf ws.toArray 0) :: (L + 1 + 1 + 1 + 1 + 1 + 1 + 1 + 1 + 1 + 1, o10b) :: ([(66, tabObj p1), (73, tabObj p2), (c1, oc1), (c2, oc2), (152, tabObj p5)] ++ (L + 1 + 1 + 1 + 1 + 1 + 1 + 1 + 1 + 1, o9) :: Z)))) tp o11b Dp kp Dn kn ys zs o7 o9 gone f l tg tf tl5 B X T C C2 C3 hd9 hu9 F6 (newsS N6 (by walk_at "my s")) e7 hI hz5 hz10 e9 hg e11b htp (by omega) hl2 (by repeat (first | exact if_pos rfl | refine (if_neg (by decide +kernel)).trans ?_ | exact if_pos rfl)) set_eq l1 ?_
  intro h7 tk7 Dl kl A1 T1 t1 u1 A2 T2 t2 u2 F7 N7 lo7 hDl
  show wpAny _ _ (execs ((forBody ((bodyOf (topStmt 22)).getD 13 (.Pass default))).drop 8) _) _ _ _
  replace N7 : News g L h7 ((Dl, listOf #[.ref A1, .ref A2] kl) :: ([(A2, objA (tp.map fun p => Value.ref p.1) l T2), (T2, objT (zs.getD gone 0) t2 u2), (A1, objA (tp.map fun p => Value.ref p.1) f T1), (T1, objT (zs.getD gone 0) t1 u1)] ++ ((Dp, listOf (tp.map fun p => Value.ref p.1).toArray kp) :: (L + 1 + 1 + 1 + 1 + 1 + 1 + 1 + 1 + 1 + 1 + 1, o11b) :: (ex ++ ((Dk, listOf ws.toArray 0) :: (L + 1 + 1 + 1 + 1 + 1 + 1 + 1 + 1 + 1 + 1, o10b) :: ([(66, tabObj p1), (73, tabObj p2), (c1, oc1), (c2, oc2), (152, tabObj p5)] ++ (L + 1 + 1 + 1 + 1 + 1 + 1 + 1 + 1 + 1, o9) :: Z)))))) := newsS N7 (by walk_at "my s")
  refine execs_seg (i := 8) (j := 9) (by decide) ?_
  refine lawU8 _ _ _ _ ((Dl, listOf #[.ref A1, .ref A2] kl) :: ([(A2, objA (tp.map fun p => Value.ref p.1) l T2), (T2, objT (zs.getD gone 0) t2 u2), (A1, objA (tp.map fun p => Value.ref p.1) f T1), (T1, objT (zs.getD gone 0) t1 u1)] ++ ((Dp, listOf (tp.map fun p => Value.ref p.1).toArray kp) :: (L + 1 + 1 + 1 + 1 + 1 + 1 + 1 + 1 + 1 + 1 + 1, o11b) :: (ex ++ ((Dk, listOf ws.toArray 0) :: (L + 1 + 1 + 1 + 1 + 1 + 1 + 1 + 1 + 1 + 1, o10b) :: ([(66, tabObj p1), (73, tabObj p2), (c1, oc1), (c2, oc2), (152, tabObj p5)] ++ (L + 1 + 1 + 1 + 1 + 1 + 1 + 1 + 1 + 1, o9) :: Z)))))) o4 o5 Dl A1 A2 kl Dn kn ys zs o7 kinds size cb tk ts tc B X T C C2 C3 hd9 hu9 F7 (newsS N7 (by walk_at "my s")) e7 hI hz5 hz10 e4 e5 hk2 hk6 (by omega) (by omega) hsm0 hsm hcb0 hcb set_eq (by repeat (first | exact hmc | refine (if_neg (by decide +kernel)).trans ?_ | exact if_pos rfl)) l1 ?_
  intro h8 tk8 Dd Nn v1 v2 F8 N8 loD loN
  show wpAny _ _ (execs ((forBody ((bodyOf (topStmt 22)).getD 13 (.Pass default))).drop 9) _) _ _ _
  replace N8 : News g L h8 ((Dd, listOf #[.int (zs.sum.fdiv kinds) v1, .int (cb.fdiv size) v2, .ref A1, .ref A2, .ref Nn] 0) :: (Nn, listOf #[.none, .none] 0) :: ((Dl, listOf #[.ref A1, .ref A2] kl) :: ([(A2, objA (tp.map fun p => Value.ref p.1) l T2), (T2, objT (zs.getD gone 0) t2 u2), (A1, objA (tp.map fun p => Value.ref p.1) f T1), (T1, objT (zs.getD gone 0) t1 u1)] ++ ((Dp, listOf (tp.map fun p => Value.ref p.1).toArray kp) :: (L + 1 + 1 + 1 + 1 + 1 + 1 + 1 + 1 + 1 + 1 + 1, o11b) :: (ex ++ ((Dk, listOf ws.toArray 0) :: (L + 1 + 1 + 1 + 1 + 1 + 1 + 1 + 1 + 1 + 1, o10b) :: ([(66, tabObj p1), (73, tabObj p2), (c1, oc1), (c2, oc2), (152, tabObj p5)] ++ (L + 1 + 1 + 1 + 1 + 1 + 1 + 1 + 1 + 1, o9) :: Z))))))) := newsS N8 (by walk_at "my s")
  have t5L0 : ∀ r ∈ ([(66, tabObj p1), (73, tabObj p2), (c1, oc1), (c2, oc2), (152, tabObj p5)] : List (Addr × Obj)), r ∈ ([(66, tabObj p1), (73, tabObj p2), (c1, oc1), (c2, oc2), (152, tabObj p5)] ++ (L + 1 + 1 + 1 + 1 + 1 + 1 + 1 + 1 + 1, o9) :: Z) := fun r hr => List.mem_append_left _ hr
  have t5R6 : ∀ r ∈ ([(66, tabObj p1), (73, tabObj p2), (c1, oc1), (c2, oc2), (152, tabObj p5)] : List (Addr × Obj)), r ∈ ((Dk, listOf ws.toArray 0) :: (L + 1 + 1 + 1 + 1 + 1 + 1 + 1 + 1 + 1 + 1, o10b) :: ([(66, tabObj p1), (73, tabObj p2), (c1, oc1), (c2, oc2), (152, tabObj p5)] ++ (L + 1 + 1 + 1 + 1 + 1 + 1 + 1 + 1 + 1, o9) :: Z)) := fun r hr => (.tail _ (.tail _ ((t5L0 r hr))))
  have t5L6 : ∀ r ∈ ([(66, tabObj p1), (73, tabObj p2), (c1, oc1), (c2, oc2), (152, tabObj p5)] : List (Addr × Obj)), r ∈ ((Dp, listOf (tp.map fun p => Value.ref p.1).toArray kp) :: (L + 1 + 1 + 1 + 1 + 1 + 1 + 1 + 1 + 1 + 1 + 1, o11b) :: (ex ++ ((Dk, listOf ws.toArray 0) :: (L + 1 + 1 + 1 + 1 + 1 + 1 + 1 + 1 + 1 + 1, o10b) :: ([(66, tabObj p1), (73, tabObj p2), (c1, oc1), (c2, oc2), (152, tabObj p5)] ++ (L + 1 + 1 + 1 + 1 + 1 + 1 + 1 + 1 + 1, o9) :: Z)))) := fun r hr => (.tail _ (.tail _ ((List.mem_append_right _ (t5R6 r hr)))))
  have t5L7 : ∀ r ∈ ([(66, tabObj p1), (73, tabObj p2), (c1, oc1), (c2, oc2), (152, tabObj p5)] : List (Addr × Obj)), r ∈ ((Dl, listOf #[.ref A1, .ref A2] kl) :: ([(A2, objA (tp.map fun p => Value.ref p.1) l T2), (T2, objT (zs.getD gone 0) t2 u2), (A1, objA (tp.map fun p => Value.ref p.1) f T1), (T1, objT (zs.getD gone 0) t1 u1)] ++ ((Dp, listOf (tp.map fun p => Value.ref p.1).toArray kp) :: (L + 1 + 1 + 1 + 1 + 1 + 1 + 1 + 1 + 1 + 1 + 1, o11b) :: (ex ++ ((Dk, listOf ws.toArray 0) :: (L + 1 + 1 + 1 + 1 + 1 + 1 + 1 + 1 + 1 + 1, o10b) :: ([(66, tabObj p1), (73, tabObj p2), (c1, oc1), (c2, oc2), (152, tabObj p5)] ++ (L + 1 + 1 + 1 + 1 + 1 + 1 + 1 + 1 + 1, o9) :: Z)))))) := fun r hr => (.tail _ ((List.mem_append_right _ (t5L6 r hr))))
  have offD : Dd ∉ [66, 73, c1, c2, 152] := off_t5 fun r hr => loD r (.tail _ (.tail _ (.tail _ (.tail _ (.tail _ (.tail _ ((t5L7 r hr))))))))
  have offN : Nn ∉ [66, 73, c1, c2, 152] := off_t5 fun r hr => loN r (.tail _ (.tail _ (.tail _ (.tail _ (.tail _ ((t5L7 r hr)))))))
  have off4 : ∀ q ∈ ([(A2, objA (tp.map fun p => Value.ref p.1) l T2), (T2, objT (zs.getD gone 0) t2 u2), (A1, objA (tp.map fun p => Value.ref p.1) f T1), (T1, objT (zs.getD gone 0) t1 u1)] : List (Addr × Obj)), q.1 ∉ [66, 73, c1, c2, 152] := fun q hq => off_t5 fun r hr => lo7 q hq r (List.mem_append_right _ (t5L6 r hr))
  have offX : ∀ q ∈ ex, q.1 ∉ [66, 73, c1, c2, 152] := fun q hq => off_t5 fun r hr => lo6 q hq r (List.mem_append_right _ (t5R6 r hr))
  have off9 : ∀ q ∈ ((Dd, listOf #[.int (zs.sum.fdiv kinds) v1, .int (cb.fdiv size) v2, .ref A1, .ref A2, .ref Nn] 0) :: (Nn, listOf #[.none, .none] 0) :: ([(A2, objA (tp.map fun p => Value.ref p.1) l T2), (T2, objT (zs.getD gone 0) t2 u2), (A1, objA (tp.map fun p => Value.ref p.1) f T1), (T1, objT (zs.getD gone 0) t1 u1)] ++ (ex ++ ((L + 1 + 1 + 1 + 1 + 1 + 1 + 1 + 1 + 1, o9) :: (L + 1 + 1 + 1 + 1 + 1 + 1 + 1 + 1 + 1 + 1, o10b) :: (L + 1 + 1 + 1 + 1 + 1 + 1 + 1 + 1 + 1 + 1 + 1, o11b) :: Z)))), q.1 ∉ [66, 73, c1, c2, 152] := by
    refine List.forall_mem_cons.mpr ⟨offD, List.forall_mem_cons.mpr ⟨offN, fun q hq => ?_⟩⟩
    rcases List.mem_append.mp hq with hq | hq
    · exact off4 q hq
    · rcases List.mem_append.mp hq with hq | hq
      · exact offX q hq
      · rcases List.mem_cons.mp hq with rfl | hq
        · exact O.2 _ (by simp)
        · rcases List.mem_cons.mp hq with rfl | hq
          · exact O.2 _ (by simp)
          · rcases List.mem_cons.mp hq with rfl | hq
            · exact O.2 _ (by simp)
            · exact (O.1 q hq).1
  have sub9 : ∀ q ∈ ((Dd, listOf #[.int (zs.sum.fdiv kinds) v1, .int (cb.fdiv size) v2, .ref A1, .ref A2, .ref Nn] 0) :: (Nn, listOf #[.none, .none] 0) :: ([(A2, objA (tp.map fun p => Value.ref p.1) l T2), (T2, objT (zs.getD gone 0) t2 u2), (A1, objA (tp.map fun p => Value.ref p.1) f T1), (T1, objT (zs.getD gone 0) t1 u1)] ++ (ex ++ ((L + 1 + 1 + 1 + 1 + 1 + 1 + 1 + 1 + 1, o9) :: (L + 1 + 1 + 1 + 1 + 1 + 1 + 1 + 1 + 1 + 1, o10b) :: (L + 1 + 1 + 1 + 1 + 1 + 1 + 1 + 1 + 1 + 1 + 1, o11b) :: Z)))), q ∈ ((Dd, listOf #[.int (zs.sum.fdiv kinds) v1, .int (cb.fdiv size) v2, .ref A1, .ref A2, .ref Nn] 0) :: (Nn, listOf #[.none, .none] 0) :: ((Dl, listOf #[.ref A1, .ref A2] kl) :: ([(A2, objA (tp.map fun p => Value.ref p.1) l T2), (T2, objT (zs.getD gone 0) t2 u2), (A1, objA (tp.map fun p => Value.ref p.1) f T1), (T1, objT (zs.getD gone 0) t1 u1)] ++ ((Dp, listOf (tp.map fun p => Value.ref p.1).toArray kp) :: (L + 1 + 1 + 1 + 1 + 1 + 1 + 1 + 1 + 1 + 1 + 1, o11b) :: (ex ++ ((Dk, listOf ws.toArray 0) :: (L + 1 + 1 + 1 + 1 + 1 + 1 + 1 + 1 + 1 + 1, o10b) :: ([(66, tabObj p1), (73, tabObj p2), (c1, oc1), (c2, oc2), (152, tabObj p5)] ++ (L + 1 + 1 + 1 + 1 + 1 + 1 + 1 + 1 + 1, o9) :: Z))))))) := by
    refine List.forall_mem_cons.mpr ⟨.head _, List.forall_mem_cons.mpr ⟨.tail _ (.head _), fun q hq => ?_⟩⟩
    refine .tail _ (.tail _ (.tail _ ?_))
    rcases List.mem_append.mp hq with hq | hq
    · exact List.mem_append_left _ hq
    · refine List.mem_append_right _ ?_
      rcases List.mem_append.mp hq with hq | hq
      · exact .tail _ (.tail _ (List.mem_append_left _ hq))
      · rcases List.mem_cons.mp hq with rfl | hq
        · exact (.tail _ (.tail _ ((List.mem_append_right _ (.tail _ (.tail _ ((List.mem_append_right _ (.head _)))))))))
        · rcases List.mem_cons.mp hq with rfl | hq
          · exact .tail _ (.tail _ (List.mem_append_right _ (.tail _ (.head _))))
          · rcases List.mem_cons.mp hq with rfl | hq
            · exact .tail _ (.head _)
            · exact (.tail _ (.tail _ ((List.mem_append_right _ (.tail _ (.tail _ ((List.mem_append_right _ (.tail _ hq)))))))))
  refine execs_seg (i := 9) (j := 10) (by decide) ?_
  refine lawU9 _ _ _ _ ((Dd, listOf #[.int (zs.sum.fdiv kinds) v1, .int (cb.fdiv size) v2, .ref A1, .ref A2, .ref Nn] 0) :: (Nn, listOf #[.none, .none] 0) :: ([(A2, objA (tp.map fun p => Value.ref p.1) l T2), (T2, objT (zs.getD gone 0) t2 u2), (A1, objA (tp.map fun p => Value.ref p.1) f T1), (T1, objT (zs.getD gone 0) t1 u1)] ++ (ex ++ ((L + 1 + 1 + 1 + 1 + 1 + 1 + 1 + 1 + 1, o9) :: (L + 1 + 1 + 1 + 1 + 1 + 1 + 1 + 1 + 1 + 1, o10b) :: (L + 1 + 1 + 1 + 1 + 1 + 1 + 1 + 1 + 1 + 1 + 1, o11b) :: Z)))) codes o4 o6 Dq Dd kq hs c1 c2 oc1 oc2 p1 p2 p5 (zs.take gone ++ zs.drop (gone + 1)) kinds port dress tk td ta tl alpha (dueD zs kinds size cb gone f l) B X T C C2 C3 hd9 hu9 F8 (newsS N8 (by walk_at "my s")) e4 e6 hal hk6 hk2 hp0 hp60 hd0 hd3 hIq (by omega) (by omega) hcm hix (by repeat (first | exact if_pos rfl | refine (if_neg (by decide +kernel)).trans ?_ | exact if_pos rfl)) (by repeat (first | exact hmd | refine (if_neg (by decide +kernel)).trans ?_ | exact if_pos rfl)) set_eq (by repeat (first | exact hmh | refine (if_neg (by decide +kernel)).trans ?_ | exact if_pos rfl)) (fun h9 N9 => RA.list N9 (.head _) (.cons ⟨_, .int _ _⟩ (.cons ⟨_, .int _ _⟩ (.cons (RA.rowD N9 (.tail _ (.tail _ ((List.mem_append_left _ (by repeat (first | exact List.Mem.head _ | apply List.Mem.tail)))))) (.tail _ (.tail _ ((List.mem_append_left _ (by repeat (first | exact List.Mem.head _ | apply List.Mem.tail)))))) (fun p hp => (.tail _ (.tail _ ((List.mem_append_right _ (List.mem_append_left _ (hpx p hp))))))) hrows) (.cons (RA.rowD N9 (.tail _ (.tail _ ((List.mem_append_left _ (by repeat (first | exact List.Mem.head _ | apply List.Mem.tail)))))) (.tail _ (.tail _ ((List.mem_append_left _ (by repeat (first | exact List.Mem.head _ | apply List.Mem.tail)))))) (fun p hp => (.tail _ (.tail _ ((List.mem_append_right _ (List.mem_append_left _ (hpx p hp))))))) hrows) (.cons (RA.list N9 (.tail _ (.head _)) RA.nones) .nil)))))) (dueD_lay _ _ _ _ _ _ _) (dueD_dep _ _ _ _ _ _ _) (hpure f l hf1 hf2 hf3 hl1 hl2 hl3 hl4) (List.forall_mem_cons.mpr ⟨(O.1 _ z6).1, List.forall_mem_cons.mpr ⟨(O.1 _ zq).1, List.forall_mem_cons.mpr ⟨(O.1 _ z4).1, off9⟩⟩⟩) (fun q hq => (.tail _ (.tail _ ((List.mem_append_right _ (List.mem_append_right _ (.tail _ (.tail _ (.tail _ ((CO q hq))))))))))) LTB S1 S2 hc1 hc2 l1 ?_
  intro h9 tk9 lg p5' c1' c2' oc1' oc2' p1' p2' F9 N9 hx1 hx2 hx3 hx4 hx5 hx6 hx7
  show wpAny _ _ (execs ((forBody ((bodyOf (topStmt 22)).getD 13 (.Pass default))).drop 10) _) _ _ _
  rw [show (forBody ((bodyOf (topStmt 22)).getD 13 (.Pass default))).drop 10 = [] from rfl]
  refine wpAny_execs_nil ?_
  have in9 : ∀ q ∈ (L + 1 + 1 + 1 + 1 + 1 + 1 + 1 + 1 + 1, o9) :: (L + 1 + 1 + 1 + 1 + 1 + 1 + 1 + 1 + 1 + 1, o10b) :: (L + 1 + 1 + 1 + 1 + 1 + 1 + 1 + 1 + 1 + 1 + 1, o11b) :: Z, q ∈ (L + 1 + 1 + 1 + 1 + 1 + 1, o6) :: (Dq, listOf hs.toArray kq) :: (L + 1 + 1 + 1 + 1, o4) :: ((Dd, listOf #[.int (zs.sum.fdiv kinds) v1, .int (cb.fdiv size) v2, .ref A1, .ref A2, .ref Nn] 0) :: (Nn, listOf #[.none, .none] 0) :: ([(A2, objA (tp.map fun p => Value.ref p.1) l T2), (T2, objT (zs.getD gone 0) t2 u2), (A1, objA (tp.map fun p => Value.ref p.1) f T1), (T1, objT (zs.getD gone 0) t1 u1)] ++ (ex ++ ((L + 1 + 1 + 1 + 1 + 1 + 1 + 1 + 1 + 1, o9) :: (L + 1 + 1 + 1 + 1 + 1 + 1 + 1 + 1 + 1 + 1, o10b) :: (L + 1 + 1 + 1 + 1 + 1 + 1 + 1 + 1 + 1 + 1 + 1, o11b) :: Z)))) := fun q hq => (.tail _ (.tail _ (.tail _ (.tail _ (.tail _ ((List.mem_append_right _ (List.mem_append_right _ hq))))))))
  have o9' := hx1 (L + 1 + 1 + 1 + 1 + 1 + 1 + 1 + 1 + 1, o9) (List.mem_append_right _ (in9 _ (.head _)))
  have o10' := hx1 (L + 1 + 1 + 1 + 1 + 1 + 1 + 1 + 1 + 1 + 1, o10b) (List.mem_append_right _ (in9 _ (.tail _ (.head _))))
  have o11' := hx1 (L + 1 + 1 + 1 + 1 + 1 + 1 + 1 + 1 + 1 + 1 + 1, o11b) (List.mem_append_right _ (in9 _ (.tail _ (.tail _ (.head _)))))
  refine ret h9 tk9 _ lg p1' p2' p5' c1' c2' oc1' oc2' o10b o11b _ _ F9 ?_ ?_ ⟨?_, ?_⟩ e10b e11b hx3 hx4 hx5 hx6 hx7 ?_ ?_
  · intro x hx
    have k : ∀ z ∈ sixN, x ≠ z := fun z hz e => hx (by rw [e]; exact hz)
    rw [if_neg (k (Str.ofString "due") (by repeat (first | exact List.Mem.head _ | apply List.Mem.tail))), if_neg (k (Str.ofString "laid") (by repeat (first | exact List.Mem.head _ | apply List.Mem.tail))), if_neg (k (Str.ofString "last") (by repeat (first | exact List.Mem.head _ | apply List.Mem.tail))), if_neg (k (Str.ofString "first") (by repeat (first | exact List.Mem.head _ | apply List.Mem.tail))), if_neg (k (Str.ofString "told") (by repeat (first | exact List.Mem.head _ | apply List.Mem.tail))), if_neg (k (Str.ofString "text") (by repeat (first | exact List.Mem.head _ | apply List.Mem.tail)))]
  · refine news_sub N9 fun q hq => ?_
    rcases List.mem_append.mp hq with hq | hq
    · exact List.mem_append_left _ hq
    · refine List.mem_append_right _ ?_
      rcases List.mem_cons.mp hq with rfl | hq
      · exact List.mem_append_right _ (in9 _ (.head _))
      · rcases List.mem_cons.mp hq with rfl | hq
        · exact List.mem_append_right _ (in9 _ (.tail _ (.head _)))
        · rcases List.mem_cons.mp hq with rfl | hq
          · exact List.mem_append_right _ (in9 _ (.tail _ (.tail _ (.head _))))
          · rcases List.mem_append.mp hq with hq | hq
            · exact List.mem_append_left _ hq
            · exact List.mem_append_right _ (in9 _ (.tail _ (.tail _ (.tail _ hq))))
  · intro q hq
    rcases List.mem_append.mp hq with hq | hq
    · exact ⟨hx1 q (List.mem_append_left _ hq), hx2 q hq _ (in9 _ (.head _)), hx2 q hq _ (in9 _ (.tail _ (.head _))), hx2 q hq _ (in9 _ (.tail _ (.tail _ (.head _))))⟩
    · exact ⟨hx1 q (List.mem_append_right _ (in9 _ (.tail _ (.tail _ (.tail _ hq))))), (O.1 q hq).2⟩
  · intro q hq
    simp only [List.mem_cons, List.not_mem_nil, or_false] at hq
    rcases hq with rfl | rfl | rfl
    · exact o9'
    · exact o10'
    · exact o11'
  · exact fun q hq r hr => hx2 q hq r (in9 _ (.tail _ (.tail _ (.tail _ hr))))
  · intro r hr
    have h := hx1 r (List.mem_append_right _ (in9 _ (.tail _ (.tail _ (.tail _ hr)))))
    simp only [List.mem_cons, List.not_mem_nil, or_false, not_or] at h
    exact ⟨Ne.symm h.2.2.1, Ne.symm h.2.2.2.1⟩
end lawUK
theorem lawU (s : Shared) (qk : Flow → Shared → Prop) (ek : Value → Shared → Prop) (m : Str → Option Value) (Z codes : List (Addr × Obj)) (o4 o5 o6 o7 o9 o10 o11 : Obj) (Dn : Addr) (kn : Nat) (ys : List Value) (zs : List Int) (Dq : Addr) (kq : Nat) (hs : List Value) (c1 c2 : Addr) (oc1 oc2 : Obj) (p1 p2 p5 : Array Value) (kinds port dress size cb : Int) (tk td ta ts tc tg : Tok) (alpha : Str) (gone : Nat) (w10 w11 : Option Value) : lawU.R s qk ek m Z codes o4 o5 o6 o7 o9 o10 o11 Dn kn ys zs Dq kq hs c1 c2 oc1 oc2 p1 p2 p5 kinds port dress size cb tk td ta ts tc tg alpha gone w10 w11 := shut lawU.ne (Q := lawU.Q) (by with_unfolding_all exact lawUK.main) (s, qk, ek, m, Z, codes, o4, o5, o6, o7, o9, o10, o11, Dn, kn, ys, zs, Dq, kq, hs, c1, c2, oc1, oc2, p1, p2, p5, kinds, port, dress, size, cb, tk, td, ta, ts, tc, tg, alpha, gone, w10, w11)
end
section
open _root_.PySem _root_.PySem.W _root_.PyProof.Rows
theorem fresh_41 : True := by (w_top off); exact trivial
open LC
/-- the loop's state between two turns -/
noncomputable def J8 (L : Addr) (m₀ : Str → Option Value) (Z codes : List (Addr × Obj)) (o5 : Obj) (I : Nat) (m : Str → Option Value) (news : List (Addr × Obj)) : Prop :=
  ∃ (lg : List (Addr × Obj)) (p1 p2 p5 : Array Value) (c1 c2 : Addr) (oc1 oc2 o9 o10 o11 : Obj) (w9 w10 w11 : Option Value), (∀ x, x ∉ sixN → m x = m₀ x) ∧ news = ((L + 1 + 1 + 1 + 1 + 1, o5) :: ([(66, tabObj p1), (73, tabObj p2), (c1, oc1), (c2, oc2), (152, tabObj p5)] ++ (L + 1 + 1 + 1 + 1 + 1 + 1 + 1 + 1 + 1, o9) :: (L + 1 + 1 + 1 + 1 + 1 + 1 + 1 + 1 + 1 + 1, o10) :: (L + 1 + 1 + 1 + 1 + 1 + 1 + 1 + 1 + 1 + 1 + 1, o11) :: (lg ++ Z))) ∧ OffU L c1 c2 (lg ++ Z) ∧
    o9.data = .cell w9 ∧ o10.data = .cell w10 ∧ o11.data = .cell w11 ∧ LamTab lamQ p5 (lg ++ codes) ∧ TabSt 85 4 "_int2digits.<locals>.inner" p1 [(c1, oc1)] ∧ TabSt 100 4 "_digits2int.<locals>.inner" p2 [(c2, oc2)] ∧ @LT.lt Nat _ 160 c1 ∧ @LT.lt Nat _ 160 c2
theorem dress_out : Str.ofString "dress" ∉ sixN := by decide +kernel
theorem heard_out : Str.ofString "heard" ∉ sixN := by decide +kernel
theorem climbs_out : Str.ofString "climbs" ∉ sixN := by decide +kernel
section
theorem lawS8 (s : Shared) (qk : Flow → Shared → Prop) (ek : Value → Shared → Prop)
   (m : Str → Option Value) (Z codes : List (Addr × Obj)) (o4 o5 o6 o7 o9 o10 o11 : Obj) (Dn : Addr) (kn : Nat) (ys : List Value) (zs : List Int) (Dq : Addr) (kq : Nat) (hs : List Value) (c1 c2 : Addr) (oc1 oc2 : Obj) (p1 p2 p5 : Array Value) (kinds port dress size cb : Int) (tk td ta ts tc : Tok) (alpha : Str) (w9 w10 w11 : Option Value)
    (B : Below A₀ g [] g) (X : (hd.heap_1 w.params).In g) (T : Top topProg loose mean mg mb g) (C : CodeHd g 70 66) (C2 : CodeHd g 77 73) (C3 : CodeHd g 154 152) (hd9 : dp + 32 < recursionLimit) (hu9 : un + 300 < cLine) (F : Fr g L s.heap m) (N : News g L s.heap ((L + 1 + 1 + 1 + 1 + 1, o5) :: ([(66, tabObj p1), (73, tabObj p2), (c1, oc1), (c2, oc2), (152, tabObj p5)] ++ (L + 1 + 1 + 1 + 1 + 1 + 1 + 1 + 1 + 1, o9) :: (L + 1 + 1 + 1 + 1 + 1 + 1 + 1 + 1 + 1 + 1, o10) :: (L + 1 + 1 + 1 + 1 + 1 + 1 + 1 + 1 + 1 + 1 + 1, o11) :: Z))) (e4 : o4.data = .cell (some (.int kinds tk))) (e5 : o5.data = .cell (some (.int size ts))) (e6 : o6.data = .cell (some (.str alpha ta))) (e7 : o7.data = .cell (some (.ref Dn))) (e9 : o9.data = .cell w9) (e10 : o10.data = .cell w10) (e11 : o11.data = .cell w11) (hI : IntsAre ys zs) (hz5 : 5 ≤ zs.length) (hz10 : zs.length ≤ 10) (hzl : (zs.length : Int) = size) (hzb : ∀ z ∈ zs, 0 ≤ z ∧ z < kinds) (hal : (alpha.length : Int) = kinds) (hk2 : 2 ≤ kinds) (hk6 : kinds ≤ 6) (hp0 : 0 ≤ port) (hp60 : port < 60) (hd0 : 0 ≤ dress) (hd3 : dress < 3) (hIq : IntsAre hs [port, port, port]) (hix : ∀ z : Int, 0 ≤ z → z < kinds → Txt.find alpha (Txt.item alpha z) = z) (hsm0 : 0 ≤ zs.sum) (hsm : zs.sum ≤ 60) (hcb0 : 0 ≤ cb) (hcb : cb ≤ 60) (hmd : m (Str.ofString "dress") = some (.int dress td)) (hmh : m (Str.ofString "heard") = some (.ref Dq)) (hmc : m (Str.ofString "climbs") = some (.int cb tc)) (LTB : LamTab lamQ p5 codes) (S1 : TabSt 85 4 "_int2digits.<locals>.inner" p1 [(c1, oc1)]) (S2 : TabSt 100 4 "_digits2int.<locals>.inner" p2 [(c2, oc2)]) (hc1 : @LT.lt Nat _ 160 c1) (hc2 : @LT.lt Nat _ 160 c2) (l1 : @LT.lt Nat _ 160 L) (z4 : (L + 1 + 1 + 1 + 1, o4) ∈ Z) (z5 : (L + 1 + 1 + 1 + 1 + 1, o5) ∈ Z) (z6 : (L + 1 + 1 + 1 + 1 + 1 + 1, o6) ∈ Z) (z7 : (L + 1 + 1 + 1 + 1 + 1 + 1 + 1, o7) ∈ Z) (zn : (Dn, listOf ys.toArray kn) ∈ Z) (zq : (Dq, listOf hs.toArray kq) ∈ Z) (O : OffU L c1 c2 Z) (CO : ∀ q ∈ codes, q ∈ Z) (hpure : ∀ gone f l : Nat, gone < zs.length → f ≤ gone → eqRun zs gone f = true → (∀ k, k ≤ gone → eqRun zs gone k = true → f ≤ k) → gone ≤ l → l < zs.length → eqRunR zs gone l = true → (∀ k, gone ≤ k → k < zs.length → eqRunR zs gone k = true → k ≤ l) → mendR ((port.fmod kinds - ((zs.take gone ++ zs.drop (gone + 1))).sum).fdiv kinds) ((port.fmod kinds - ((zs.take gone ++ zs.drop (gone + 1))).sum).fmod kinds) (port.fdiv kinds) (zs.take gone ++ zs.drop (gone + 1)) = dueD zs kinds size cb gone f l) (ret : ∀ (h' : Heap) (tk' : Nat) (m' : Str → Option Value) (news' : List (Addr × Obj)), Fr g L h' m' → News g L h' news' → J8 L m Z codes o5 zs.length m' news' → qk .next { s with heap := h', toks := tk' }) :
   wpAny (model PySem.Challenge.rw_ta0052_01.row.prog w) (ktrTop dp un gd (Str.ofString "law") (scopeOf (topStmt 22)) L a ccd (cellsFrom (L + 1) (scopeOf (topStmt 22)).names []) []) (execs (((bodyOf (topStmt 22)).take 14).drop 13) (envOfC (Str.ofString "law") (scopeOf (topStmt 22)) L a ccd)) qk ek s := by
  refine cutG fun Pc kc => ?_
  obtain ⟨sc, hsc⟩ : ∃ sc, sc = scopeOf (topStmt 22) := ⟨_, rfl⟩
  refine kc ?_
  clear kc Pc
  rw [← hsc]
  conv at hsc => rhs; whnf
  subst hsc
  revert X T; k_fill; intro X T
  change wpAny _ _ (execs [_] _) _ _ _
  k_unmd
  dsimp only
  k_unmd
  try k_fold
  refine wpAny_execs_cons ?_
  refine' forK (h₀ := g) ((L + 1 + 1 + 1 + 1 + 1, o5) :: ([(66, tabObj p1), (73, tabObj p2), (c1, oc1), (c2, oc2), (152, tabObj p5)] ++ (L + 1 + 1 + 1 + 1 + 1 + 1 + 1 + 1 + 1, o9) :: (L + 1 + 1 + 1 + 1 + 1 + 1 + 1 + 1 + 1 + 1, o10) :: (L + 1 + 1 + 1 + 1 + 1 + 1 + 1 + 1 + 1 + 1 + 1, o11) :: Z)) m 0 zs.length (J8 L m Z codes o5) ?hh ?hn ?h0 ?h1 ?hit ?J0 ?turn ?done ?hs
  case hh => with_unfolding_all rfl
  case hs => intro _; with_unfolding_all rfl
  case hn => omega
  case h0 => omega
  case h1 => omega
  case hit =>
    clear hpure
    refine wpAny_stop ?_
    k_steps
    try unfold Stop
    exact ⟨_, _, _, _, _, _, _, rfl, by assumption, by omega, by assumption, by assumption, rfl⟩
  case J0 => exact ⟨[], p1, p2, p5, c1, c2, oc1, oc2, o9, o10, o11, w9, w10, w11, fun _ _ => rfl, rfl, O, e9, e10, e11, LTB, S1, S2, hc1, hc2⟩
  case done =>
    intro m₁ news₁ h tk2 hJ F₁ N₁
    exact wpAny_execs_nil (ret _ _ _ _ F₁ N₁ hJ)
  case turn =>
    intro i m₁ news₁ h tk2 I oI t E9 hi hJ F₁ N₁ hoff
    refine cutG fun Pc kc => ?_
    obtain ⟨lg, p1, p2, p5, c1, c2, oc1, oc2, o9, o10, o11, w9, w10, w11, hm, rfl, O, e9, e10, e11, LTB, S1, S2, hc1, hc2⟩ := hJ
    refine kc ?_
    clear kc Pc
    clear N F
    have hI9 : L + 1 + 1 + 1 + 1 + 1 + 1 + 1 + 1 + 1 ≠ I := hoff (L + 1 + 1 + 1 + 1 + 1 + 1 + 1 + 1 + 1, o9) (.tail _ (List.mem_append_right _ (.head _)))
    have hI10 : L + 1 + 1 + 1 + 1 + 1 + 1 + 1 + 1 + 1 + 1 ≠ I := hoff (L + 1 + 1 + 1 + 1 + 1 + 1 + 1 + 1 + 1 + 1, o10) (.tail _ (List.mem_append_right _ (.tail _ (.head _))))
    have hI11 : L + 1 + 1 + 1 + 1 + 1 + 1 + 1 + 1 + 1 + 1 + 1 ≠ I := hoff (L + 1 + 1 + 1 + 1 + 1 + 1 + 1 + 1 + 1 + 1 + 1, o11) (.tail _ (List.mem_append_right _ (.tail _ (.tail _ (.head _)))))
    have hIZ : ∀ q ∈ lg ++ Z, q.1 ≠ I := fun q hq => hoff q (.tail _ (List.mem_append_right _ (.tail _ (.tail _ (.tail _ hq)))))
    have h5I : L + 1 + 1 + 1 + 1 + 1 ≠ I := hoff (L + 1 + 1 + 1 + 1 + 1, o5) (.head _)
    have hIT : I ∉ [66, 73, c1, c2, 152] := by
      have t := fun q hq => hoff q (.tail _ (List.mem_append_left _ hq))
      intro hq
      simp only [List.mem_cons, List.not_mem_nil, or_false] at hq
      rcases hq with e | e | e | e | e
      · exact t (66, tabObj p1) (by simp) e.symm
      · exact t (73, tabObj p2) (by simp) e.symm
      · exact t (c1, oc1) (by simp) e.symm
      · exact t (c2, oc2) (by simp) e.symm
      · exact t (152, tabObj p5) (by simp) e.symm
    have N2 : News g L h ((L + 1 + 1 + 1 + 1 + 1 + 1 + 1 + 1 + 1, o9) :: ((I, oI) :: ([(66, tabObj p1), (73, tabObj p2), (c1, oc1), (c2, oc2), (152, tabObj p5)] ++ (L + 1 + 1 + 1 + 1 + 1 + 1 + 1 + 1 + 1 + 1, o10) :: (L + 1 + 1 + 1 + 1 + 1 + 1 + 1 + 1 + 1 + 1 + 1, o11) :: (lg ++ Z)))) := news_sub N₁ (by
      walk_at "my s")
    refine wpAny_assign_Name ?_
    refine' storeX_C F₁ N2 (c := L + 1 + 1 + 1 + 1 + 1 + 1 + 1 + 1 + 1) (v₀ := w9) ?sl (UpdF.head ?sh) e9 ?_
    case sl => first | rfl | with_unfolding_all rfl
    case sh =>
      refine neC (Ne.symm hI9) (fun q hq => ?_)
      rcases List.mem_append.mp hq with hq | hq
      · exact off_sub O l1 (.inl rfl) q hq
      · rcases List.mem_cons.mp hq with rfl | hq
        · exact Nat.ne_of_gt (Nat.lt_succ_self _)
        · rcases List.mem_cons.mp hq with rfl | hq
          · exact Nat.ne_of_gt (Nat.lt_succ_of_lt (Nat.lt_succ_self _))
          · exact (O.1 q hq).2.1
    intro h2 o9n F2 N3 e9n
    rw [Int.zero_add] at e9n
    have O2 : OffU L c1 c2 ((I, oI) :: (lg ++ Z)) := ⟨List.forall_mem_cons.mpr ⟨⟨hIT, Ne.symm hI9, Ne.symm hI10, Ne.symm hI11⟩, O.1⟩, O.2⟩
    have up : ∀ q ∈ Z, q ∈ (I, oI) :: (lg ++ Z) := fun q hq => .tail _ (List.mem_append_right _ hq)
    refine lawU _ _ _ m₁ ((I, oI) :: (lg ++ Z)) (lg ++ codes) o4 o5 o6 o7 o9n o10 o11 Dn kn ys zs Dq kq hs c1 c2 oc1 oc2 p1 p2 p5 kinds port dress size cb tk td ta ts tc t alpha i w10 w11 B X T C C2 C3 hd9 hu9 F2 (news_sub N3 ?sn)
      (up _ z4) (up _ z5) (up _ z6) (up _ z7) (up _ zn) (up _ zq) O2 ?sc e4 e5 e6 e7 e9n e10 e11 hI hz5 hz10 hi hzl hzb hal hk2 hk6 hp0 hp60 hd0 hd3 hIq hix hsm0 hsm hcb0 hcb ((hm _ dress_out).trans hmd) ((hm _ heard_out).trans hmh) ((hm _ climbs_out).trans hmc) LTB S1 S2 hc1 hc2 l1 (fun f l => hpure i f l hi) ?_
    case sn =>
      walk_at "my s"
    case sc =>
      intro q hq
      rcases List.mem_append.mp hq with hq | hq
      · exact .tail _ (List.mem_append_left _ hq)
      · exact up _ (CO q hq)
    intro h9 tk9 m9 lg9 p1' p2' p5' c1' c2' oc1' oc2' o10' o11' w10' w11' F9 hm9 N9 O9 e10' e11' LTB' S1' S2' hc1' hc2' hl1 hl2
    refine ⟨rfl, h9, tk9, m9, _, rfl, F9, news_sub N9 ?sm, ⟨lg9 ++ lg, p1', p2', p5', c1', c2', oc1', oc2', o9n, o10', o11', _, w10', w11', fun x hx => (hm9 x hx).trans (hm x hx), rfl, ?so, e9n, e10', e11', by rw [List.append_assoc]; exact LTB', S1', S2', hc1', hc2'⟩, ?si⟩
    case sm =>
      walk_at "my s"
    case so =>
      refine ⟨fun q hq => O9.1 q ?_, O9.2⟩
      rw [List.append_assoc] at hq
      rcases List.mem_append.mp hq with hq | hq
      · exact List.mem_append_left _ hq
      · exact List.mem_append_right _ (.tail _ hq)
    case si =>
      refine List.forall_mem_cons.mpr ⟨h5I, fun q hq => ?_⟩
      have ht := fun q hq => hoff q (.tail _ (List.mem_append_left _ hq))
      rcases List.mem_append.mp hq with hq | hq
      · simp only [List.mem_cons, List.not_mem_nil, or_false] at hq
        rcases hq with rfl | rfl | rfl | rfl | rfl
        · exact ht (66, tabObj p1) (by simp)
        · exact ht (73, tabObj p2) (by simp)
        · exact (hl2 (I, oI) (.head _)).1
        · exact (hl2 (I, oI) (.head _)).2
        · exact ht (152, tabObj p5) (by simp)
      · rcases List.mem_cons.mp hq with rfl | hq
        · exact hI9
        · rcases List.mem_cons.mp hq with rfl | hq
          · exact hI10
          · rcases List.mem_cons.mp hq with rfl | hq
            · exact hI11
            · rw [List.append_assoc] at hq
              rcases List.mem_append.mp hq with hq | hq
              · exact hl1 q hq (I, oI) (.head _)
              · exact hIZ q hq
end
end
section
open _root_.PySem _root_.PySem.W _root_.PyProof.Rows
theorem fresh_42 : True := by (w_top off); exact trivial
open LC
theorem allLt_of {l : List (Addr × Obj)} {D : Addr} {p : Addr × Obj} (hp : p ∈ l) (h : AllLt D l) : @LT.lt Nat _ p.1 D := allLt_mem h p hp
theorem news_t9 {g h : Heap} {L : Addr} {b d x : Addr × Obj} {r : List (Addr × Obj)} (N : News g L h (b :: d :: x :: r)) : News g L h (d :: r) := newsS N (by walk_at "my s")
theorem item_k {prog : Program} {w : World} {A : Around} {E : Value → Shared → Prop} {s : Shared} {h₀ : Heap} {L l : Addr} {news : List (Addr × Obj)} {value slice : PySem.Expr} {vs : List Value} {n : Nat} {y : Int} {u : Tok} {x : Value} {Q : Value → Shared → Prop} (N : News h₀ L s.heap news) (hl : (l, listOf vs.toArray n) ∈ news)
    (h0 : 0 ≤ y) (hx : vs[y.toNat]? = some x) (hfit : y < 2 ^ 63) (h : Q x s)
    (hs : subscripted slice false (.ref l) (.int y u) = operate [.ref l, .int y u] (getItem (.ref l) (.int y u))) (hg : ∀ r, letTemporaryGo value (.ref l) r = pure ()) :
    wpAny (model prog w) A (subscriptTail value slice (.ref l) (.int y u)) Q E s := item_listL ⟨_, (N _ hl).1, rfl, n, rfl⟩ h0 hfit hx h hs hg
theorem ext2 {prog : Program} {w : World} {A : Around} {E : Value → Shared → Prop} {s : Shared} {h₀ : Heap} {L D b : Addr} {m : Str → Option Value} {rest : List (Addr × Obj)} {xs ys : List Value} {n n2 : Nat} {Q : Value → Shared → Prop} (F : Fr h₀ L s.heap m) (N : News h₀ L s.heap ((b, listOf ys.toArray n2) :: (D, listOf xs.toArray n) :: rest)) (hb : b ≠ D) (hr : ∀ p ∈ rest, p.1 ≠ D) (hz : xs.length + ys.length ≤ 1000)
    (h : ∀ h' n', Fr h₀ L h' m → News h₀ L h' ((b, listOf ys.toArray n2) :: (D, listOf (xs ++ ys).toArray n') :: rest) → Q .none { s with heap := h' }) : wpAny (model prog w) A (call (.builtin "list.extend") [.ref D, .ref b]) Q E s :=
  extend_in (own := [(b, listOf ys.toArray n2)]) F N (fun p hp => by rw [List.mem_singleton.mp hp]; exact hb) hr (N _ (.head _)).1 h (by rw [sizeLine_eq, List.size_toArray]; omega)
noncomputable def oddT (hx ins mark t : Str) : List Str := [Str.ofString "227" ++ Txt.slice hx (some 3) none ++ ins ++ Str.ofString ")", Str.ofString "229 " ++ ins ++ Str.ofString ")", Str.ofString "229 272)", hx ++ ins, hx ++ ins ++ mark] ++ [hx ++ ins ++ Str.ofString "x)", hx ++ mark ++ ins ++ Str.ofString ")", hx ++ Txt.mul mark 2 ++ t ++ mark ++ Str.ofString ")", hx ++ Str.ofString ")"]
section
local macro_rules | `(tactic| walk_at "subscriptTail Name Name ref int") => rowR `item_k "amoso>uv"
local macro_rules | `(tactic| walk_at "call builtin:list.extend") => `(tactic| refine stop_here ?_)
local macro_rules | `(tactic| walk_at "binaryOp Add str str") => rowR `add_len "qI"
local macro_rules | `(tactic| walk_at "my q") => `(tactic| ((try simp only [PySem.Str.length_append, sl0, sl1, sl2, sl3, sl4, sl5, sl6, sl7, sl8, sl9, sl10, sl11, sl12, so0, so1, so2, so3, so4, sq0, sq1, sq2, sq3, sz1]); omega))
noncomputable def lawS9.R (s : Shared) (qk : Flow → Shared → Prop) (ek : Value → Shared → Prop) (m : Str → Option Value) (R : List (Addr × Obj)) (Dh Di : Addr) (kh ki : Nat) (vs us : List Value) (o8 o12 o13 : Obj) (mark hdx ins : Str) (dress port : Int) (t8 td tp th ti : Tok) (w12 w13 : Option Value) : Prop :=
  ∀ (B : Below A₀ g [] g) (X : (hd.heap_1 w.params).In g) (T : Top topProg loose mean mg mb g) (C : CodeHd g 70 66) (C2 : CodeHd g 77 73) (C3 : CodeHd g 154 152) (hd9 : dp + 32 < recursionLimit) (hu9 : un + 300 < cLine) (F : Fr g L s.heap m) (N : News g L s.heap ((Dh, listOf vs.toArray kh) :: (Di, listOf us.toArray ki) :: (L + 1 + 1 + 1 + 1 + 1 + 1 + 1 + 1, o8) :: (L + 1 + 1 + 1 + 1 + 1 + 1 + 1 + 1 + 1 + 1 + 1 + 1, o12) :: (L + 1 + 1 + 1 + 1 + 1 + 1 + 1 + 1 + 1 + 1 + 1 + 1 + 1, o13) :: R)) (e8 : o8.data = .cell (some (.str mark t8))) (e12 : o12.data = .cell w12) (e13 : o13.data = .cell w13) (hd0 : 0 ≤ dress) (hd3 : dress < 3) (hv : vs[dress.toNat]? = some (.str hdx th)) (hu : us[dress.toNat]? = some (.str ins ti)) (hmk : mark.length = 1) (hm2 : (Txt.mul mark 2).length = 2) (hhl : hdx.length ≤ 20) (hil : ins.length ≤ 40) (hp0 : 0 ≤ port) (hp60 : port < 60) (hnl : (Str.ofString (toString port)).length ≤ 10) (hR12 : ∀ q ∈ R, q.1 ≠ L + 1 + 1 + 1 + 1 + 1 + 1 + 1 + 1 + 1 + 1 + 1 + 1) (hR13 : ∀ q ∈ R, q.1 ≠ L + 1 + 1 + 1 + 1 + 1 + 1 + 1 + 1 + 1 + 1 + 1 + 1 + 1) (hlh : @LT.lt Nat _ (L + 1 + 1 + 1 + 1 + 1 + 1 + 1 + 1 + 1 + 1 + 1 + 1 + 1) Dh) (hli : @LT.lt Nat _ (L + 1 + 1 + 1 + 1 + 1 + 1 + 1 + 1 + 1 + 1 + 1 + 1 + 1) Di) (hmd : m (Str.ofString "dress") = some (.int dress td)) (hmp : m (Str.ofString "port") = some (.int port tp)) (hmh : m (Str.ofString "heads") = some (.ref Dh)) (hmi : m (Str.ofString "insides") = some (.ref Di)) (l1 : @LT.lt Nat _ 160 L) (ret : ∀ (h' : Heap) (tk' : Nat) (Do : Addr) (n : Nat) (ws : List Value) (o12' o13' : Obj), Fr g L h' (fun y => if y = Str.ofString "inside" then some (.str ins ti) else m y) → News g L h' ((Do, listOf ws.toArray n) :: ((Dh, listOf vs.toArray kh) :: (Di, listOf us.toArray ki) :: (L + 1 + 1 + 1 + 1 + 1 + 1 + 1 + 1, o8) :: (L + 1 + 1 + 1 + 1 + 1 + 1 + 1 + 1 + 1 + 1 + 1 + 1, o12') :: (L + 1 + 1 + 1 + 1 + 1 + 1 + 1 + 1 + 1 + 1 + 1 + 1 + 1, o13') :: R)) → StrsAre ws (oddT hdx ins mark (Str.ofString (toString port))) → o12'.data = .cell (some (.str hdx th)) → o13'.data = .cell (some (.ref Do)) → (∀ q ∈ ((Dh, listOf vs.toArray kh) :: (Di, listOf us.toArray ki) :: (L + 1 + 1 + 1 + 1 + 1 + 1 + 1 + 1, o8) :: (L + 1 + 1 + 1 + 1 + 1 + 1 + 1 + 1 + 1 + 1 + 1 + 1, o12) :: (L + 1 + 1 + 1 + 1 + 1 + 1 + 1 + 1 + 1 + 1 + 1 + 1 + 1, o13) :: R), q.1 < Do) → qk .next { s with heap := h', toks := tk' }),
   wpAny (model PySem.Challenge.rw_ta0052_01.row.prog w) (ktrTop dp un gd (Str.ofString "law") (scopeOf (topStmt 22)) L a ccd (cellsFrom (L + 1) (scopeOf (topStmt 22)).names []) []) (execs (((bodyOf (topStmt 22)).take 17).drop 14) (envOfC (Str.ofString "law") (scopeOf (topStmt 22)) L a ccd)) qk ek s
abbrev lawS9.T : Type := Shared × (Flow → Shared → Prop) × (Value → Shared → Prop) × (Str → Option Value) × (List (Addr × Obj)) × Addr × Addr × Nat × Nat × (List Value) × (List Value) × Obj × Obj × Obj × Str × Str × Str × Int × Int × Tok × Tok × Tok × Tok × Tok × (Option Value) × (Option Value)
theorem lawS9.ne : Nonempty lawS9.T := ⟨({}, fun _ _ => True, fun _ _ => True, fun _ => none, [], 0, 0, 0, 0, [], [], default, default, default, Str.ofString "", Str.ofString "", Str.ofString "", 0, 0, 0, 0, 0, 0, 0, none, none)⟩
noncomputable def lawS9.Q (c : lawS9.T) : Prop := lawS9.R c.1 c.2.1 c.2.2.1 c.2.2.2.1 c.2.2.2.2.1 c.2.2.2.2.2.1 c.2.2.2.2.2.2.1 c.2.2.2.2.2.2.2.1 c.2.2.2.2.2.2.2.2.1 c.2.2.2.2.2.2.2.2.2.1 c.2.2.2.2.2.2.2.2.2.2.1 c.2.2.2.2.2.2.2.2.2.2.2.1 c.2.2.2.2.2.2.2.2.2.2.2.2.1 c.2.2.2.2.2.2.2.2.2.2.2.2.2.1 c.2.2.2.2.2.2.2.2.2.2.2.2.2.2.1 c.2.2.2.2.2.2.2.2.2.2.2.2.2.2.2.1 c.2.2.2.2.2.2.2.2.2.2.2.2.2.2.2.2.1 c.2.2.2.2.2.2.2.2.2.2.2.2.2.2.2.2.2.1 c.2.2.2.2.2.2.2.2.2.2.2.2.2.2.2.2.2.2.1 c.2.2.2.2.2.2.2.2.2.2.2.2.2.2.2.2.2.2.2.1 c.2.2.2.2.2.2.2.2.2.2.2.2.2.2.2.2.2.2.2.2.1 c.2.2.2.2.2.2.2.2.2.2.2.2.2.2.2.2.2.2.2.2.2.1 c.2.2.2.2.2.2.2.2.2.2.2.2.2.2.2.2.2.2.2.2.2.2.1 c.2.2.2.2.2.2.2.2.2.2.2.2.2.2.2.2.2.2.2.2.2.2.2.1 c.2.2.2.2.2.2.2.2.2.2.2.2.2.2.2.2.2.2.2.2.2.2.2.2.1 c.2.2.2.2.2.2.2.2.2.2.2.2.2.2.2.2.2.2.2.2.2.2.2.2.2
noncomputable def lawS9.c : lawS9.T := Classical.epsilon (h := lawS9.ne) fun c => ¬ lawS9.Q c
namespace lawS9K
@[irreducible] noncomputable def s := lawS9.c.1
@[irreducible] noncomputable def qk := lawS9.c.2.1
@[irreducible] noncomputable def ek := lawS9.c.2.2.1
@[irreducible] noncomputable def m := lawS9.c.2.2.2.1
@[irreducible] noncomputable def R := lawS9.c.2.2.2.2.1
@[irreducible] noncomputable def Dh := lawS9.c.2.2.2.2.2.1
@[irreducible] noncomputable def Di := lawS9.c.2.2.2.2.2.2.1
@[irreducible] noncomputable def kh := lawS9.c.2.2.2.2.2.2.2.1
@[irreducible] noncomputable def ki := lawS9.c.2.2.2.2.2.2.2.2.1
@[irreducible] noncomputable def vs := lawS9.c.2.2.2.2.2.2.2.2.2.1
@[irreducible] noncomputable def us := lawS9.c.2.2.2.2.2.2.2.2.2.2.1
@[irreducible] noncomputable def o8 := lawS9.c.2.2.2.2.2.2.2.2.2.2.2.1
@[irreducible] noncomputable def o12 := lawS9.c.2.2.2.2.2.2.2.2.2.2.2.2.1
@[irreducible] noncomputable def o13 := lawS9.c.2.2.2.2.2.2.2.2.2.2.2.2.2.1
@[irreducible] noncomputable def mark := lawS9.c.2.2.2.2.2.2.2.2.2.2.2.2.2.2.1
@[irreducible] noncomputable def hdx := lawS9.c.2.2.2.2.2.2.2.2.2.2.2.2.2.2.2.1
@[irreducible] noncomputable def ins := lawS9.c.2.2.2.2.2.2.2.2.2.2.2.2.2.2.2.2.1
@[irreducible] noncomputable def dress := lawS9.c.2.2.2.2.2.2.2.2.2.2.2.2.2.2.2.2.2.1
@[irreducible] noncomputable def port := lawS9.c.2.2.2.2.2.2.2.2.2.2.2.2.2.2.2.2.2.2.1
@[irreducible] noncomputable def t8 := lawS9.c.2.2.2.2.2.2.2.2.2.2.2.2.2.2.2.2.2.2.2.1
@[irreducible] noncomputable def td := lawS9.c.2.2.2.2.2.2.2.2.2.2.2.2.2.2.2.2.2.2.2.2.1
@[irreducible] noncomputable def tp := lawS9.c.2.2.2.2.2.2.2.2.2.2.2.2.2.2.2.2.2.2.2.2.2.1
@[irreducible] noncomputable def th := lawS9.c.2.2.2.2.2.2.2.2.2.2.2.2.2.2.2.2.2.2.2.2.2.2.1
@[irreducible] noncomputable def ti := lawS9.c.2.2.2.2.2.2.2.2.2.2.2.2.2.2.2.2.2.2.2.2.2.2.2.1
@[irreducible] noncomputable def w12 := lawS9.c.2.2.2.2.2.2.2.2.2.2.2.2.2.2.2.2.2.2.2.2.2.2.2.2.1
@[irreducible] noncomputable def w13 := lawS9.c.2.2.2.2.2.2.2.2.2.2.2.2.2.2.2.2.2.2.2.2.2.2.2.2.2
theorem main : lawS9.R s qk ek m R Dh Di kh ki vs us o8 o12 o13 mark hdx ins dress port t8 td tp th ti w12 w13 := by
  intro B X T C C2 C3 hd9 hu9 F N e8 e12 e13 hd0 hd3 hv hu hmk hm2 hhl hil hp0 hp60 hnl hR12 hR13 hlh hli hmd hmp hmh hmi l1 ret
  refine cutG fun Pc kc => ?_
  obtain ⟨sc, hsc⟩ : ∃ sc, sc = scopeOf (topStmt 22) := ⟨_, rfl⟩
  refine kc ?_
  clear kc Pc
  rw [← hsc]
  conv at hsc => rhs; whnf
  subst hsc
  revert X T; k_fill; intro X T
  change wpAny _ _ (execs [_, _, _] _) _ _ _
  k_unmd
  k_steps
  unfold Stop
  rename Fr _ _ _ _ => F8
  rename News _ _ _ _ => N8
  have lA := ‹_ ∧ _ ∧ _ ∧ _ ∧ _ ∧ _ ∧ AllLt _ R›
  have lB := ‹_ ∧ _ ∧ _ ∧ _ ∧ _ ∧ _ ∧ _ ∧ AllLt _ R›
  refine ext2 F8 N8 (Nat.ne_of_gt lB.1) (fun p hp => Nat.ne_of_lt (allLt_of hp lA)) (by show 5 + 4 ≤ 1000; omega) ?_
  intro h7 n7 F7 N7
  k_steps
  rename Fr _ _ _ _ => F6
  rename News _ _ _ _ => N6
  refine ret _ _ _ _ _ _ _ F6 (news_t9 N6) ?sA (by assumption) (by assumption) ?sl
  case sA => repeat (first | exact .nil | apply StrsAre.cons)
  case sl => exact fun q hq => allLt_of hq lA.2
end lawS9K
theorem lawS9 (s : Shared) (qk : Flow → Shared → Prop) (ek : Value → Shared → Prop) (m : Str → Option Value) (R : List (Addr × Obj)) (Dh Di : Addr) (kh ki : Nat) (vs us : List Value) (o8 o12 o13 : Obj) (mark hdx ins : Str) (dress port : Int) (t8 td tp th ti : Tok) (w12 w13 : Option Value) : lawS9.R s qk ek m R Dh Di kh ki vs us o8 o12 o13 mark hdx ins dress port t8 td tp th ti w12 w13 := shut lawS9.ne (Q := lawS9.Q) (by with_unfolding_all exact lawS9K.main) (s, qk, ek, m, R, Dh, Di, kh, ki, vs, us, o8, o12, o13, mark, hdx, ins, dress, port, t8, td, tp, th, ti, w12, w13)
end
end
section
open _root_.PySem _root_.PySem.W _root_.PyProof.Rows
theorem fresh_43 : True := by (w_top off); exact trivial
open LC
inductive TagsAre : List (Addr × Obj) → List (Str × Str) → Prop
  | nil : TagsAre [] []
  | cons {D : Addr} {x y : Str} {t u : Tok} {k : Nat} {tp : List (Addr × Obj)} {xs : List (Str × Str)} : TagsAre tp xs → TagsAre ((D, listOf #[.str x t, .str y u] k) :: tp) ((x, y) :: xs)
theorem TagsAre.snoc {D : Addr} {x y : Str} {t u : Tok} {k : Nat} : ∀ {tp : List (Addr × Obj)} {xs : List (Str × Str)}, TagsAre tp xs → TagsAre (tp ++ [(D, listOf #[.str x t, .str y u] k)]) (xs ++ [(x, y)])
  | _, _, .nil => .cons .nil
  | _, _, .cons r => .cons (TagsAre.snoc r)
noncomputable def tagsD (xs : List (Str × Str)) : List PyData := xs.map fun p => .list [.str p.1, .str p.2]
theorem TagsAre.reads {g h : Heap} {L : Addr} {l : List (Addr × Obj)} (N : News g L h l) : ∀ {tp : List (Addr × Obj)} {xs : List (Str × Str)}, TagsAre tp xs → (∀ p ∈ tp, p ∈ l) → RA h (tp.map fun p => Value.ref p.1) (tagsD xs)
  | _, _, .nil, _ => .nil
  | _, _, .cons r, hp => .cons (RA.list N (hp _ (.head _)) (.cons ⟨_, .str _ _⟩ (.cons ⟨_, .str _ _⟩ .nil))) (TagsAre.reads N r fun p h => hp p (.tail _ h))
noncomputable def tagAt (xs : List Str) (k : Nat) : Str × Str := (if k = 0 then Str.ofString "reply" else Str.ofString "proto", xs.getD k PySem.Str.empty)
noncomputable def tagsTo (xs : List Str) (i : Nat) : List (Str × Str) := (List.range i).map (tagAt xs)
theorem tags_snoc (xs : List Str) (i : Nat) : tagsTo xs (i + 1) = tagsTo xs i ++ [tagAt xs i] := by
  unfold tagsTo
  rw [List.range_succ, List.map_append]
  rfl
noncomputable def JT (xs : List Str) (i : Nat) (us : List Value) (ex : List (Addr × Obj)) : Prop := ∃ tp, us = (tp.map fun p => Value.ref p.1) ∧ (∀ p ∈ tp, p ∈ ex) ∧ TagsAre tp (tagsTo xs i)
theorem jt_snoc {xs : List Str} {i : Nat} {us : List Value} {ex : List (Addr × Obj)} {D : Addr} {x y : Str} {t u : Tok} {k : Nat} (h : JT xs i us ex) (hx : tagAt xs i = (x, y)) : JT xs (i + 1) (us ++ [.ref D]) ([(D, listOf #[.str x t, .str y u] k)] ++ ex) := by
  refine cutG fun Pc kc => ?_
  obtain ⟨tp, rfl, hp, ht⟩ := h
  refine kc ?_
  clear kc Pc
  refine ⟨tp ++ [(D, listOf #[.str x t, .str y u] k)], by simp, fun p hq => ?_, ?_⟩
  · rcases List.mem_append.mp hq with hq | hq
    · exact List.mem_append_right _ (hp p hq)
    · exact List.mem_append_left _ hq
  · rw [tags_snoc, hx]
    exact ht.snoc
theorem sget : ∀ {vs : List Value} {ns : List Str}, StrsAre vs ns → ∀ {i : Nat} {v : Value}, vs[i]? = some v → ∃ t, v = .str (ns.getD i PySem.Str.empty) t
  | _, _, .nil, _, _, h => nomatch h
  | _, _, .cons n t r, 0, v, h => ⟨t, (Option.some.inj h).symm⟩
  | _, _, .cons n t r, i + 1, v, h => sget r (i := i) h
theorem tagsD_lay {xs : List (Str × Str)} (h : ∀ p ∈ xs, PyData.strOk p.1 = true ∧ PyData.strOk p.2 = true) : (PyData.list (tagsD xs)).canLay0 = true ∧ (PyData.list (tagsD xs)).depth ≤ 9 := by
  have e : ∀ x ∈ tagsD xs, x.canLay0 = true ∧ x.depth ≤ 1 := fun x hx => by
    refine cutG fun Pc kc => ?_
    obtain ⟨p, hp, rfl⟩ := List.mem_map.mp hx
    refine kc ?_
    clear kc Pc
    refine ⟨?_, Nat.le_refl _⟩
    rw [PyData.canLay0, PyData.canLayAll0, PyData.canLayAll0, PyData.canLayAll0, PyData.canLay0, PyData.canLay0, (h p hp).1, (h p hp).2]; rfl
  refine ⟨?_, ?_⟩
  · rw [PyData.canLay0]; exact lay_of fun x hx => (e x hx).1
  · rw [PyData.depth]; exact Nat.succ_le_succ (Nat.le_trans (dep_of fun x hx => (e x hx).2) (by omega))
theorem tags_ok {xs : List Str} (h : ∀ i, i < 9 → PyData.strOk (xs.getD i PySem.Str.empty) = true) : ∀ p ∈ tagsTo xs 9, PyData.strOk p.1 = true ∧ PyData.strOk p.2 = true := fun p hp => by
  refine cutG fun Pc kc => ?_
  obtain ⟨i, hi, rfl⟩ := List.mem_map.mp hp
  refine kc ?_
  clear kc Pc
  refine ⟨?_, h i (List.mem_range.mp hi)⟩
  unfold tagAt
  by_cases e : i = 0
  · rw [if_pos e]; exact (by decide +kernel : PyData.strOk (Str.ofString "reply") = true)
  · rw [if_neg e]; exact (by decide +kernel : PyData.strOk (Str.ofString "proto") = true)
theorem news_tx1 {g h : Heap} {L : Addr} {a I C D : Addr × Obj} (nd ex R : List (Addr × Obj)) (N : News g L h (a :: I :: C :: D :: (nd ++ (ex ++ R)))) : News g L h (I :: C :: D :: (nd ++ (([a] ++ ex) ++ R))) := newsS N (by walk_at "my s")
section
local macro_rules | `(tactic| walk_at "call ref") => `(tactic| refine stop_here ?_)
local macro_rules | `(tactic| walk_at "compareOp NotEq ref ref") => `(tactic| (k_here; refine stop_here ?_))
theorem lawS10 (s : Shared) (qk : Flow → Shared → Prop) (ek : Value → Shared → Prop)
   (m : Str → Option Value) (R : List (Addr × Obj)) (Do : Addr) (n : Nat) (ws : List Value) (xs : List Str) (o13 : Obj)
    (B : Below A₀ g [] g) (X : (hd.heap_1 w.params).In g) (T : Top topProg loose mean mg mb g) (C : CodeHd g 70 66) (C2 : CodeHd g 77 73) (C3 : CodeHd g 154 152) (hd9 : dp + 32 < recursionLimit) (hu9 : un + 300 < cLine) (F : Fr g L s.heap m) (N : News g L s.heap ((Do, listOf ws.toArray n) :: (L + 1 + 1 + 1 + 1 + 1 + 1 + 1 + 1 + 1 + 1 + 1 + 1 + 1, o13) :: R)) (e13 : o13.data = .cell (some (.ref Do))) (hws : StrsAre ws xs) (hxl : xs.length = 9) (hrep : ∀ i, i < 9 → RepOk (xs.getD i PySem.Str.empty) (if decide (i = 0) = true then (0, 0) else (1, 0))) (hso : ∀ i, i < 9 → PyData.strOk (xs.getD i PySem.Str.empty) = true) (hlo : @LT.lt Nat _ (L + 1 + 1 + 1 + 1 + 1 + 1 + 1 + 1 + 1 + 1 + 1 + 1 + 1) Do) (l1 : @LT.lt Nat _ 160 L) (ret : ∀ (h' : Heap) (tk' : Nat), Fr g L h' m → News g L h' ((Do, listOf ws.toArray n) :: (L + 1 + 1 + 1 + 1 + 1 + 1 + 1 + 1 + 1 + 1 + 1 + 1 + 1, o13) :: R) → qk .next { s with heap := h', toks := tk' }) :
   wpAny (model PySem.Challenge.rw_ta0052_01.row.prog w) (ktrTop dp un gd (Str.ofString "law") (scopeOf (topStmt 22)) L a ccd (cellsFrom (L + 1) (scopeOf (topStmt 22)).names []) []) (execs (((bodyOf (topStmt 22)).take 18).drop 17) (envOfC (Str.ofString "law") (scopeOf (topStmt 22)) L a ccd)) qk ek s := by
  refine cutG fun Pc kc => ?_
  obtain ⟨sc, hsc⟩ : ∃ sc, sc = scopeOf (topStmt 22) := ⟨_, rfl⟩
  refine kc ?_
  clear kc Pc
  rw [← hsc]
  conv at hsc => rhs; whnf
  subst hsc
  revert X T; k_fill; intro X T
  change wpAny _ _ (execs [_] _) _ _ _
  k_unmd
  have i1 := portS w mean mg mb loose
  have hwl := hws.length
  k_steps
  unfold Stop
  rename Fr _ _ _ _ => F
  rename News _ _ _ _ => N
  refine' compKL [(Do, listOf ws.toArray n), (L + 1 + 1 + 1 + 1 + 1 + 1 + 1 + 1 + 1 + 1 + 1 + 1 + 1, o13)] R ws (JT xs) F ?hh ?hclos ?hcell ?hkind ?hnames ?hx ?hn ?hit ?J0 ?T ?hQ ?hs
  case hh => with_unfolding_all rfl
  case hclos => with_unfolding_all rfl
  case hcell => decide
  case hkind => with_unfolding_all rfl
  case hnames => decide
  case hx => with_unfolding_all rfl
  case hs => intro _; with_unfolding_all rfl
  case hn => omega
  case hit =>
    refine wpAny_stop ?_
    k_steps
    try unfold Stop
    refine ⟨_, n, _, _, rfl, ?_, by assumption, by assumption, rfl⟩
    repeat (first | exact List.Mem.head _ | apply List.Mem.tail)
  case J0 => exact ⟨[], rfl, (fun p hp => nomatch hp), .nil⟩
  case T =>
    intro i9 ys9 ex9 v9 I9 oI9 C9 oC9 D9 m9 h9 tk9 E9 hi9 hJ9 hv9 hC9 hx9 F9 N9
    clear F N
    obtain ⟨t9, rfl⟩ := sget hws hv9
    have hi8 : i9 < 9 := by omega
    simp only [List.cons_append, List.nil_append] at N9
    refine wpAny_stop ?_
    k_steps
    unfold Stop
    refine port_bad (b := decide (i9 = 0)) i1 B F9 X T rfl N9 (hrep i9 hi8) (by omega) (by omega) ?_
    intro h8 tk8 R0 ta k F8 N8 l8
    refine ⟨_, _, [_], rfl, F8, news_tx1 [(Do, listOf ws.toArray n), (L + 1 + 1 + 1 + 1 + 1 + 1 + 1 + 1 + 1 + 1 + 1 + 1 + 1, o13)] ex9 R N8, ?_, jt_snoc hJ9 ?_⟩
    · intro q hq
      rw [List.mem_singleton.mp hq]
      exact ⟨Nat.ne_of_gt (l8 _ (.head _)), Nat.ne_of_gt (l8 _ (.tail _ (.head _))), Nat.ne_of_gt (l8 _ (.tail _ (.tail _ (.head _))))⟩
    · unfold tagAt
      by_cases e : i9 = 0
      · rw [if_pos e, if_pos (by simpa using e)]
      · rw [if_neg e, if_neg (by simpa using e)]
  case hQ =>
    intro D1 ys1 ex1 h9 tk9 hJ9 F9 N9 hD9
    refine cutG fun Pc kc => ?_
    obtain ⟨tp1, rfl, hp1, ht1⟩ := hJ9
    refine kc ?_
    clear kc Pc
    clear F N
    simp only [List.cons_append, List.nil_append] at N9 hD9
    k_steps
    unfold Stop
    rename Fr _ _ _ _ => F
    rename News _ _ _ _ => N
    refine' compKR [(D1, listOf (tp1.map fun p => Value.ref p.1).toArray (tp1.map fun p => Value.ref p.1).length), (Do, listOf ws.toArray n), (L + 1 + 1 + 1 + 1 + 1 + 1 + 1 + 1 + 1 + 1 + 1 + 1 + 1, o13)] (ex1 ++ R) 0 9 (JT xs) F ?hh ?hclos ?hcell ?hkind ?hnames ?hx ?hn ?h0 ?h1 ?hit ?J0 ?T ?hQ ?hs
    case hh => with_unfolding_all rfl
    case hclos => with_unfolding_all rfl
    case hcell => decide
    case hkind => with_unfolding_all rfl
    case hnames => decide
    case hx => with_unfolding_all rfl
    case hs => intro _; with_unfolding_all rfl
    case hn => omega
    case h0 => omega
    case h1 => omega
    case hit =>
      refine wpAny_stop ?_
      k_steps
      try unfold Stop
      exact ⟨_, _, _, _, _, _, _, rfl, by assumption, by omega, by assumption, by assumption, rfl⟩
    case J0 => exact ⟨[], rfl, (fun p hp => nomatch hp), .nil⟩
    case T =>
      intro i9 ys9 ex9 v9 I9 oI9 C9 oC9 D9 m9 h9 tk9 E9 hi9 hJ9 hv9 hC9 hx9 F9 N9
      clear F N
      obtain ⟨t9, rfl⟩ := hv9
      rw [Int.zero_add] at hx9
      simp only [List.cons_append, List.nil_append] at N9
      refine wpAny_stop ?_
      k_steps
      all_goals
        unfold Stop
        rename News _ _ _ _ => N8
        have l8 := ‹_ ∧ _ ∧ _ ∧ _ ∧ _ ∧ _ ∧ AllLt _ (ex9 ++ (ex1 ++ R))›
        refine ⟨_, _, [_], rfl, by assumption, news_tx1 [(D1, listOf (tp1.map fun p => Value.ref p.1).toArray (tp1.map fun p => Value.ref p.1).length), (Do, listOf ws.toArray n), (L + 1 + 1 + 1 + 1 + 1 + 1 + 1 + 1 + 1 + 1 + 1 + 1 + 1, o13)] ex9 (ex1 ++ R) N8, ?_, jt_snoc hJ9 ?_⟩
      · intro q hq
        rw [List.mem_singleton.mp hq]
        exact ⟨Nat.ne_of_gt l8.1, Nat.ne_of_gt l8.2.1, Nat.ne_of_gt l8.2.2.1⟩
      · unfold tagAt
        rw [if_neg (by omega)]
        rfl
      · intro q hq
        rw [List.mem_singleton.mp hq]
        exact ⟨Nat.ne_of_gt l8.1, Nat.ne_of_gt l8.2.1, Nat.ne_of_gt l8.2.2.1⟩
      · unfold tagAt
        rw [if_pos (by omega)]
        rfl
    case hQ =>
      intro D2 ys2 ex2 h8 tk8 hJ8 F8 N8 hD8
      refine cutG fun Pc kc => ?_
      obtain ⟨tp2, rfl, hp2, ht2⟩ := hJ8
      refine kc ?_
      clear kc Pc
      clear F N
      rw [hwl, hxl] at ht1
      have r1 := RA.list N8 (a := D1) (vs := tp1.map fun p => Value.ref p.1) (.tail _ (.head _)) (ht1.reads N8 fun p hp => .tail _ (List.mem_append_right _ (List.mem_append_right _ (List.mem_append_left _ (hp1 p hp)))))
      have r2 := RA.list N8 (a := D2) (vs := tp2.map fun p => Value.ref p.1) (.head _) (ht2.reads N8 fun p hp => .tail _ (List.mem_append_right _ (List.mem_append_left _ (hp2 p hp))))
      obtain ⟨as1, r1⟩ := r1
      obtain ⟨as2, r2⟩ := r2
      have hlay := tagsD_lay (xs := tagsTo xs 9) (tags_ok hso)
      k_steps
      unfold Stop
      refine SeqAt.compareNe_reads r1 r2 hlay.1 hlay.1 (unt_u9 hu9 hlay.2) ?_
      rw [SeqAt.eqv_refl _ hlay.1]
      k_steps
      rename Fr _ _ _ _ => F7
      exact ret _ _ F7 (news_sub N8 fun p hp => by
        refine .tail _ ?_
        rcases List.mem_cons.mp hp with rfl | hp
        · exact List.mem_append_left _ (.tail _ (.head _))
        · rcases List.mem_cons.mp hp with rfl | hp
          · exact List.mem_append_left _ (.tail _ (.tail _ (.head _)))
          · exact List.mem_append_right _ (List.mem_append_right _ (List.mem_append_right _ hp)))
end
end
end
section
open _root_.PySem _root_.PySem.W _root_.PyProof.Rows
noncomputable def alphaB : Bool := (List.range 7).all fun k => (List.range k).all fun a => decide (k < 2) || (decide ((alphaV ((k : Nat) : Int) ((a : Nat) : Int)).length = k) && (List.range k).all fun z => decide (Txt.find (alphaV ((k : Nat) : Int) ((a : Nat) : Int)) (Txt.item (alphaV ((k : Nat) : Int) ((a : Nat) : Int)) ((z : Nat) : Int)) = ((z : Nat) : Int)))
theorem alphaB_ok : alphaB = true := by decide +kernel
theorem alpha_all {k a : Nat} (hk : k < 7) (hk2 : 2 ≤ k) (ha : a < k) : (alphaV ((k : Nat) : Int) ((a : Nat) : Int)).length = k ∧ ∀ z, z < k → Txt.find (alphaV ((k : Nat) : Int) ((a : Nat) : Int)) (Txt.item (alphaV ((k : Nat) : Int) ((a : Nat) : Int)) ((z : Nat) : Int)) = ((z : Nat) : Int) := by
  have h := List.all_eq_true.mp (List.all_eq_true.mp alphaB_ok k (List.mem_range.mpr hk)) a (List.mem_range.mpr ha)
  rw [Bool.or_eq_true, decide_eq_true_eq, Bool.and_eq_true, decide_eq_true_eq] at h
  rcases h with h | ⟨h1, h2⟩
  · omega
  · exact ⟨h1, fun z hz => of_decide_eq_true (List.all_eq_true.mp h2 z (List.mem_range.mpr hz))⟩
theorem alpha_find {kinds at_ : Int} (hk2 : 2 ≤ kinds) (hk6 : kinds ≤ 6) (ha0 : 0 ≤ at_) (hak : at_ < kinds) : ((alphaV kinds at_).length : Int) = kinds ∧ ∀ z : Int, 0 ≤ z → z < kinds → Txt.find (alphaV kinds at_) (Txt.item (alphaV kinds at_) z) = z := by
  obtain ⟨k, rfl⟩ := Int.eq_ofNat_of_zero_le (show 0 ≤ kinds by omega)
  obtain ⟨a, rfl⟩ := Int.eq_ofNat_of_zero_le ha0
  have h := alpha_all (k := k) (a := a) (by omega) (by omega) (by omega)
  refine ⟨by omega, fun z h0 h1 => ?_⟩
  obtain ⟨z, rfl⟩ := Int.eq_ofNat_of_zero_le h0
  exact h.2 z (by omega)
abbrev Mark4 (mark : Str) : Prop := mark = Str.ofString "|" ∨ mark = Str.ofString "!" ∨ mark = Str.ofString ";" ∨ mark = Str.ofString "~"
theorem mark_two {mark : Str} (h : Mark4 mark) : Txt.mul mark 2 = mark ++ mark ∧ (Txt.mul mark 2).length = 2 ∧ mark.length = 1 := by
  rcases h with rfl | rfl | rfl | rfl <;> decide +kernel
theorem odd_get {mark t : Str} {k i : Nat} (hm : Mark4 mark) (hi : i < 9) : (oddT (headV k) (insV mark t k) mark t).getD i PySem.Str.empty = oddV mark t k i := by
  unfold oddT
  rw [(mark_two hm).1]
  rcases (show i = 0 ∨ i = 1 ∨ i = 2 ∨ i = 3 ∨ i = 4 ∨ i = 5 ∨ i = 6 ∨ i = 7 ∨ i = 8 by omega) with rfl | rfl | rfl | rfl | rfl | rfl | rfl | rfl | rfl <;> rfl
theorem odd_len {hx ins mark t : Str} : (oddT hx ins mark t).length = 9 := rfl
theorem odd_rep {mark : Str} {k i : Nat} {port : Int} (hk : k < 3) (hm : Mark4 mark) (h0 : 0 ≤ port) (h60 : port < 60) (hi : i < 9) : RepOk ((oddT (headV k) (insV mark (Str.ofString (toString port)) k) mark (Str.ofString (toString port))).getD i PySem.Str.empty) (if decide (i = 0) = true then (0, 0) else (1, 0)) := by
  rw [odd_get hm hi]
  have h := rep_odd hk hm h0 h60 hi
  by_cases e : i = 0
  · rw [if_pos e] at h; rw [if_pos (decide_eq_true e)]; exact h
  · rw [if_neg e] at h; rw [if_neg (by simpa using e)]; exact h
theorem odd_ok {mark : Str} {k i : Nat} {port : Int} (hk : k < 3) (hm : Mark4 mark) (h0 : 0 ≤ port) (h60 : port < 60) (hi : i < 9) : PyData.strOk ((oddT (headV k) (insV mark (Str.ofString (toString port)) k) mark (Str.ofString (toString port))).getD i PySem.Str.empty) = true := by
  rw [odd_get hm hi]
  obtain ⟨p, rfl⟩ := Int.eq_ofNat_of_zero_le h0
  have hp : p < 60 := by omega
  have hml : mark.cps.toList ∈ markL := by rcases hm with rfl | rfl | rfl | rfl <;> decide +kernel
  have hok : oddB i = true := by
    rcases (show i = 0 ∨ i = 1 ∨ i = 2 ∨ i = 3 ∨ i = 4 ∨ i = 5 ∨ i = 6 ∨ i = 7 ∨ i = 8 by omega) with rfl | rfl | rfl | rfl | rfl | rfl | rfl | rfl | rfl
    · exact odd0
    · exact odd1
    · exact odd2
    · exact odd3
    · exact odd4
    · exact odd5
    · exact odd6
    · exact odd7
    · exact odd8
  have h1 := List.all_eq_true.mp (List.all_eq_true.mp (List.all_eq_true.mp hok k (List.mem_range.mpr hk)) _ hml) p (List.mem_range.mpr hp)
  simp only [Bool.and_eq_true, decide_eq_true_eq] at h1
  have h2 : (oddV mark (Str.ofString (toString ((p : Nat) : Int))) k i).cps.toList = oddL mark.cps.toList (dg p) k i := by rw [odd_L _ _ k hk i, num_L p hp]
  unfold PyData.strOk
  rw [← Array.all_toList, h2]
  refine List.all_eq_true.mpr fun d hd => ?_
  have h3 := of_decide_eq_true (List.all_eq_true.mp h1.2.2.1 d hd)
  exact decide_eq_true (by omega)
theorem ins_len {mark : Str} {k : Nat} {port : Int} (hm : Mark4 mark) (h0 : 0 ≤ port) (h60 : port < 60) : (insV mark (Str.ofString (toString port)) k).length ≤ 40 := by
  have h1 := (mark_two hm).2.2
  have h2 := len_num h0 h60
  match k with
  | 0 => show (mark ++ Str.ofString "" ++ mark ++ Str.ofString "" ++ mark ++ Str.ofString (toString port) ++ mark).length ≤ 40
         simp only [PySem.Str.length_append, show (Str.ofString "").length = 0 by decide +kernel]; omega
  | 1 => show (mark ++ Str.ofString "1" ++ mark ++ Str.ofString "h" ++ mark ++ (Str.ofString "00" ++ Str.ofString (toString port)) ++ mark).length ≤ 40
         simp only [PySem.Str.length_append, show (Str.ofString "1").length = 1 by decide +kernel, show (Str.ofString "h").length = 1 by decide +kernel, show (Str.ofString "00").length = 2 by decide +kernel]; omega
  | _ + 2 => show (mark ++ Str.ofString "h 2" ++ mark ++ Str.ofString "b" ++ mark ++ (Str.ofString " +" ++ Str.ofString (toString port) ++ Str.ofString " ") ++ mark).length ≤ 40
             simp only [PySem.Str.length_append, show (Str.ofString "h 2").length = 3 by decide +kernel, show (Str.ofString "b").length = 1 by decide +kernel, show (Str.ofString " +").length = 2 by decide +kernel, show (Str.ofString " ").length = 1 by decide +kernel]; omega
theorem head_len (k : Nat) : (headV k).length ≤ 20 := by
  match k with
  | 0 => decide +kernel
  | 1 => decide +kernel
  | _ + 2 => exact (by decide +kernel : (Str.ofString "229(").length ≤ 20)
end
section
open _root_.PySem _root_.PySem.W _root_.PyProof.Rows
theorem bis_at {p : Nat → Bool} : ∀ (k : Nat) {lo hi T : Int}, 0 ≤ lo → lo ≤ T → T ≤ hi → hi - lo ≤ (k : Int) → (∀ i : Nat, lo ≤ i → (i : Int) < T → p i = true) → (∀ i : Nat, T ≤ i → (i : Int) < hi → p i = false) → bis p k lo hi = T
  | 0, lo, hi, T, h0, h1, h2, hk, _, _ => by show lo = T; omega
  | k + 1, lo, hi, T, h0, h1, h2, hk, ht, hf => by
    show (if lo < hi then (if p ((lo + hi).fdiv 2).toNat then bis p k ((lo + hi).fdiv 2 + 1) hi else bis p k lo ((lo + hi).fdiv 2)) else lo) = T
    have e9 : (lo + hi).fdiv 2 = (lo + hi) / 2 := Int.fdiv_eq_ediv_of_nonneg _ (by decide)
    by_cases hl : lo < hi
    · rw [if_pos hl, e9]
      have ec : ((((lo + hi) / 2).toNat : Nat) : Int) = (lo + hi) / 2 := Int.toNat_of_nonneg (by omega)
      by_cases hm : (lo + hi) / 2 < T
      · rw [ht _ (by rw [ec]; omega) (by rw [ec]; exact hm), if_pos rfl]
        exact bis_at k (by omega) (by omega) h2 (by omega) (fun i h h' => ht i (by omega) h') hf
      · rw [hf _ (by rw [ec]; omega) (by rw [ec]; omega), if_neg (by decide)]
        exact bis_at k h0 h1 (by omega) (by omega) ht (fun i h h' => hf i h (by omega))
    · rw [if_neg hl]; omega
theorem cut_at {P : Nat → Bool} : ∀ (n : Nat), (∀ i, i + 1 < n → P (i + 1) = true → P i = true) → ∃ T, T ≤ n ∧ (∀ i, i < T → P i = true) ∧ (∀ i, T ≤ i → i < n → P i = false)
  | 0, _ => ⟨0, Nat.le_refl _, fun _ h => absurd h (Nat.not_lt_zero _), fun _ _ h => absurd h (Nat.not_lt_zero _)⟩
  | n + 1, hm => by
    refine cutG fun Pc kc => ?_
    obtain ⟨T, hT, h1, h2⟩ := cut_at n fun i h => hm i (by omega)
    refine kc ?_
    clear kc Pc
    by_cases hTn : T = n
    · subst hTn
      cases hp : P T with
      | true => exact ⟨T + 1, Nat.le_refl _, fun i h => by rcases Nat.lt_succ_iff_lt_or_eq.mp h with h | rfl; exact h1 i h; exact hp, fun i h h' => absurd h' (by omega)⟩
      | false => exact ⟨T, Nat.le_succ _, h1, fun i h h' => by rw [show i = T by omega]; exact hp⟩
    · refine ⟨T, by omega, h1, fun i h h' => ?_⟩
      by_cases hi : i < n
      · exact h2 i h hi
      · have e : i = n := by omega
        subst e
        cases hp : P i with
        | false => rfl
        | true =>
          refine cutG fun Pc kc => ?_
          obtain ⟨j, hj⟩ : ∃ j, j + 1 = i := ⟨i - 1, by omega⟩
          refine kc ?_
          clear kc Pc
          have h3 := hm j (by omega) (by rw [hj]; exact hp)
          rw [h2 j (by omega) (by omega)] at h3
          cases h3
noncomputable def sF (s : Nat → Int) : Nat → Int
  | 0 => 0
  | n + 1 => sF s n + s n
noncomputable def wF (s : Nat → Int) : Nat → Int
  | 0 => 0
  | n + 1 => wF s n + (1 + n) * s n
section
variable {s t : Nat → Int} {e : Nat}
theorem sF_congr : ∀ {n : Nat}, (∀ i, i < n → t i = s i) → sF t n = sF s n
  | 0, _ => rfl
  | n + 1, h => by show sF t n + t n = sF s n + s n; rw [sF_congr fun i hi => h i (by omega), h n (by omega)]
theorem wF_congr : ∀ {n : Nat}, (∀ i, i < n → t i = s i) → wF t n = wF s n
  | 0, _ => rfl
  | n + 1, h => by show wF t n + (1 + n) * t n = wF s n + (1 + n) * s n; rw [wF_congr fun i hi => h i (by omega), h n (by omega)]
theorem sF_cut (h1 : ∀ i, i < e → t i = s i) : ∀ (d : Nat), (∀ i, e ≤ i → i < e + d → t i = s (i + 1)) → sF s (e + 1 + d) = sF t (e + d) + s e
  | 0, _ => by show sF s e + s e = sF t e + s e; rw [sF_congr h1]
  | d + 1, h2 => by
    have := sF_cut h1 d fun i h h' => h2 i h (by omega)
    show sF s (e + 1 + d) + s (e + 1 + d) = sF t (e + d) + t (e + d) + s e
    rw [this, h2 (e + d) (by omega) (by omega), show e + d + 1 = e + 1 + d by omega]
    omega
theorem wF_cut (h1 : ∀ i, i < e → t i = s i) : ∀ (d : Nat), (∀ i, e ≤ i → i < e + d → t i = s (i + 1)) → wF s (e + 1 + d) = wF t (e + d) + (1 + e) * s e + (sF s (e + 1 + d) - sF s (e + 1))
  | 0, _ => by show wF s e + (1 + e) * s e = wF t e + (1 + e) * s e + (sF s (e + 1) - sF s (e + 1)); rw [wF_congr h1]; omega
  | d + 1, h2 => by
    have := wF_cut h1 d fun i h h' => h2 i h (by omega)
    show wF s (e + 1 + d) + (1 + ((e + 1 + d : Nat) : Int)) * s (e + 1 + d) = wF t (e + d) + (1 + ((e + d : Nat) : Int)) * t (e + d) + (1 + e) * s e + (sF s (e + 1 + d) + s (e + 1 + d) - sF s (e + 1))
    rw [this, h2 (e + d) (by omega) (by omega), show e + d + 1 = e + 1 + d by omega]
    have e3 : (1 + ((e + 1 + d : Nat) : Int)) * s (e + 1 + d) = (1 + ((e + d : Nat) : Int)) * s (e + 1 + d) + s (e + 1 + d) := by
      rw [show (1 + ((e + 1 + d : Nat) : Int)) = (1 + ((e + d : Nat) : Int)) + 1 by omega, Int.add_mul, Int.one_mul]
    rw [e3]
    omega
theorem sF_bd (h : ∀ i, s i = 0 ∨ s i = 1) : ∀ (a d : Nat), sF s a ≤ sF s (a + d) ∧ sF s (a + d) ≤ sF s a + d
  | a, 0 => ⟨Int.le_refl _, by show sF s a ≤ sF s a + 0; omega⟩
  | a, d + 1 => by
    have h1 := sF_bd h a d
    have h2 := h (a + d)
    show sF s a ≤ sF s (a + d) + s (a + d) ∧ sF s (a + d) + s (a + d) ≤ sF s a + ((d + 1 : Nat) : Int)
    omega
end
/-- a filtered range's sum -/
theorem range_wsum (P : Int → Bool) (g : Int → Int) (a : Int) (s : Nat → Int) : ∀ n : Nat, (∀ i : Nat, i < n → (P (a + i) = true → s i = 1) ∧ (P (a + i) = false → s i = 0) ∧ g (a + i) = 1 + (i : Int)) → (((rangeInts a 1 n).filter P).map g).sum = wF s n
  | 0, _ => rfl
  | n + 1, h => by
    have ih := range_wsum P g a s n fun i hi => h i (by omega)
    have e : rangeInts a 1 (n + 1) = rangeInts a 1 n ++ [a + (n : Nat) * 1] := by simp [rangeInts, List.range_succ]
    refine cutG fun Pc kc => ?_
    obtain ⟨h1, h2, h3⟩ := h n (by omega)
    refine kc ?_
    clear kc Pc
    rw [e, List.filter_append, List.map_append, List.sum_append, ih, Int.mul_one]
    show wF s n + _ = wF s n + (1 + n) * s n
    congr 1
    cases hp : P (a + n) with
    | true => rw [List.filter_cons_of_pos hp, List.filter_nil, List.map_cons, List.map_nil, List.sum_cons, List.sum_nil, h1 hp, h3]; omega
    | false => rw [List.filter_cons_of_neg (by rw [hp]; decide), List.filter_nil, List.map_nil, List.sum_nil, h2 hp]; omega
noncomputable def gF (l : List Int) (i : Nat) : Int := l.getD i 0
noncomputable def tF (l : List Int) (i : Nat) : Int := S1 (gF l i) (gF l (i + 1))
theorem climbV_w (zs : List Int) : climbV zs = wF (tF zs) (zs.length - 1) := by
  unfold climbV
  refine range_wsum _ _ _ _ _ fun i hi => ?_
  have e1 : (1 + (i : Int) - 1).toNat = i := by omega
  have e2 : (1 + (i : Int)).toNat = i + 1 := by omega
  rw [e1, e2]
  refine ⟨fun h => if_pos (of_decide_eq_true h), fun h => if_neg (of_decide_eq_false h), rfl⟩
theorem stp_get (ns : List Int) {i : Nat} (hi : i + 1 < ns.length) : (stp ns)[i]? = some (tF ns i) := by
  unfold stp
  rw [List.getElem?_map, rangeInts_get (by omega), Option.map_some, show (0 + (i : Nat) * 1 : Int).toNat = i by omega, show (0 + (i : Nat) * 1 + 1 : Int).toNat = i + 1 by omega]
  congr 1
  unfold tF S1 gF
  by_cases h : ns.getD i 0 ≤ ns.getD (i + 1) 0
  · rw [if_pos (decide_eq_true h), if_pos h]
  · rw [if_neg (by simpa using h), if_neg h]
theorem climbP_w (ns : List Int) : climbP ns = wF (tF ns) (ns.length - 1) := by
  unfold climbP
  refine range_wsum _ _ _ _ _ fun i hi => ?_
  have e1 : (0 + (i : Int)).toNat = i := by omega
  have e2 : (stp ns).getD i 0 = tF ns i := by rw [List.getD_eq_getElem?_getD, stp_get ns (by omega)]; rfl
  rw [e1, e2]
  refine ⟨fun h => by simpa using h, fun h => ?_, by omega⟩
  have := S1_or (gF ns i) (gF ns (i + 1))
  have h' : tF ns i ≠ 1 := by simpa using h
  unfold tF at h' ⊢
  omega
theorem take_next {α : Type} {l : List α} {i : Nat} {x : α} (h : l[i]? = some x) : l.take (i + 1) = l.take i ++ [x] := by
  rw [List.take_succ, h]
  rfl
theorem stp_sumF (ns : List Int) : (stp ns).sum = sF (tF ns) (ns.length - 1) := by
  have h : ∀ k, k ≤ ns.length - 1 → ((stp ns).take k).sum = sF (tF ns) k := by
    intro k
    induction k with
    | zero => intro _; rfl
    | succ k ih =>
      intro hk
      rw [take_next (stp_get ns (i := k) (by omega)), List.sum_append, ih (by omega), List.sum_cons, List.sum_nil]
      show _ = sF (tF ns) k + tF ns k
      omega
  have := h (ns.length - 1) (Nat.le_refl _)
  rwa [List.take_of_length_le (by rw [stp_len]; exact Nat.le_refl _)] at this
/-- how many steps of the kind w stand ahead of a place -/
noncomputable def cF (ns : List Int) (w : Int) (k : Nat) : Nat := ((stp ns).take k).count w
theorem cF_succ (ns : List Int) (w : Int) {k : Nat} (hk : k + 1 < ns.length) : cF ns w (k + 1) = cF ns w k + (if tF ns k = w then 1 else 0) := by
  unfold cF
  rw [take_next (stp_get ns hk), List.count_append]
  congr 1
  by_cases h : tF ns k = w
  · rw [if_pos h, List.count_cons, h]; simp
  · rw [if_neg h, List.count_cons]; simp [h]
theorem cF_one (ns : List Int) : ∀ k, k ≤ ns.length - 1 → ((cF ns 1 k : Nat) : Int) = sF (tF ns) k
  | 0, _ => by unfold cF; rfl
  | k + 1, h => by
    have ih := cF_one ns k (by omega)
    have h2 : tF ns k = 0 ∨ tF ns k = 1 := S1_or _ _
    rw [cF_succ ns 1 (by omega)]
    show _ = sF (tF ns) k + tF ns k
    by_cases h1 : tF ns k = 1
    · rw [if_pos h1, h1]; omega
    · rw [if_neg h1]; omega
theorem cF_zero (ns : List Int) : ∀ k, k ≤ ns.length - 1 → ((cF ns 0 k : Nat) : Int) = k - sF (tF ns) k
  | 0, _ => by unfold cF; rfl
  | k + 1, h => by
    have ih := cF_zero ns k (by omega)
    have h2 : tF ns k = 0 ∨ tF ns k = 1 := S1_or _ _
    rw [cF_succ ns 0 (by omega)]
    show _ = ((k + 1 : Nat) : Int) - (sF (tF ns) k + tF ns k)
    by_cases h1 : tF ns k = 0
    · rw [if_pos h1, h1]; omega
    · rw [if_neg h1]; omega
end
section
open _root_.PySem _root_.PySem.W _root_.PyProof.Rows
theorem S1_mid (x y w : Int) : S1 x w = S1 x y ∨ S1 x w = S1 y w := by
  unfold S1
  by_cases h1 : x ≤ w <;> by_cases h2 : x ≤ y <;> by_cases h3 : y ≤ w <;> simp [h1, h2, h3] <;> omega
theorem lost_step {n p : Nat} {c z : Nat → Int} (hn : 1 ≤ n) (hp : p ≤ n) (c1 : ∀ i, i < p → c i = z i) (c2 : ∀ i, p ≤ i → c i = z (i + 1)) :
    ∃ e, e < n ∧ (e = p ∨ e + 1 = p) ∧ (∀ i, i + 1 < n → i < e → S1 (c i) (c (i + 1)) = S1 (z i) (z (i + 1))) ∧ (∀ i, i + 1 < n → e ≤ i → S1 (c i) (c (i + 1)) = S1 (z (i + 1)) (z (i + 2))) := by
  by_cases h0 : p = 0
  · subst h0
    exact ⟨0, hn, .inl rfl, fun i _ h => absurd h (Nat.not_lt_zero _), fun i _ _ => by rw [c2 i (Nat.zero_le _), c2 (i + 1) (Nat.zero_le _)]⟩
  refine cutG fun Pc kc => ?_
  obtain ⟨q, rfl⟩ : ∃ q, p = q + 1 := ⟨p - 1, by omega⟩
  refine kc ?_
  clear kc Pc
  by_cases h1 : q + 1 = n
  · exact ⟨q, by omega, .inr rfl, fun i _ h => by rw [c1 i (by omega), c1 (i + 1) (by omega)], fun i h h' => by omega⟩
  rcases S1_mid (z q) (z (q + 1)) (z (q + 2)) with h | h
  · refine ⟨q + 1, by omega, .inl rfl, fun i hi he => ?_, fun i hi he => by rw [c2 i he, c2 (i + 1) (by omega)]⟩
    by_cases e : i = q
    · subst e; rw [c1 i (by omega), c2 (i + 1) (Nat.le_refl _)]; exact h
    · rw [c1 i (by omega), c1 (i + 1) (by omega)]
  · refine ⟨q, by omega, .inr rfl, fun i hi he => by rw [c1 i (by omega), c1 (i + 1) (by omega)], fun i hi he => ?_⟩
    by_cases e : i = q
    · subst e; rw [c1 i (by omega), c2 (i + 1) (Nat.le_refl _)]; exact h
    · rw [c2 i (by omega), c2 (i + 1) (by omega)]
theorem gF_lo {zs : List Int} {gone i : Nat} (hg : gone < zs.length) (hi : i < gone) : gF (zs.take gone ++ zs.drop (gone + 1)) i = gF zs i := by
  unfold gF
  rw [List.getD_eq_getElem?_getD, List.getD_eq_getElem?_getD, List.getElem?_append_left (by rw [List.length_take]; omega), List.getElem?_take_of_lt hi]
theorem gF_hi {zs : List Int} {gone i : Nat} (hg : gone < zs.length) (hi : gone ≤ i) : gF (zs.take gone ++ zs.drop (gone + 1)) i = gF zs (i + 1) := by
  unfold gF
  rw [List.getD_eq_getElem?_getD, List.getD_eq_getElem?_getD, List.getElem?_append_right (by rw [List.length_take]; omega), List.getElem?_drop, List.length_take, Nat.min_eq_left (by omega), show gone + 1 + (i - gone) = i + 1 by omega]
theorem run_iff {zs : List Int} {a m : Nat} {x : Int} (h : a + m ≤ zs.length) : ((zs.drop a).take m = List.replicate m x) ↔ ∀ i, a ≤ i → i < a + m → gF zs i = x := by
  constructor
  · intro e i h0 h1
    have e2 : ((zs.drop a).take m)[i - a]? = (List.replicate m x)[i - a]? := by rw [e]
    rw [List.getElem?_take_of_lt (by omega), List.getElem?_drop, show a + (i - a) = i by omega, List.getElem?_replicate_of_lt (by omega)] at e2
    unfold gF
    rw [List.getD_eq_getElem?_getD, e2]; rfl
  · intro hx
    refine List.ext_getElem? fun j => ?_
    by_cases hj : j < m
    · rw [List.getElem?_take_of_lt hj, List.getElem?_drop, List.getElem?_replicate_of_lt hj, List.getElem?_eq_getElem (by omega)]
      have := hx (a + j) (by omega) (by omega)
      unfold gF at this
      rw [List.getD_eq_getElem?_getD, List.getElem?_eq_getElem (by omega)] at this
      exact congrArg some this
    · rw [List.getElem?_eq_none (by rw [List.length_take, List.length_drop]; omega), List.getElem?_eq_none (by rw [List.length_replicate]; omega)]
theorem eqRun_iff {zs : List Int} {gone k : Nat} (hg : gone < zs.length) (hk : k ≤ gone) : eqRun zs gone k = true ↔ ∀ i, k ≤ i → i ≤ gone → gF zs i = gF zs gone := by
  unfold eqRun
  rw [decide_eq_true_eq, run_iff (by omega)]
  exact ⟨fun h i h0 h1 => h i h0 (by omega), fun h i h0 h1 => h i h0 (by omega)⟩
theorem eqRunR_iff {zs : List Int} {gone k : Nat} (hk : gone ≤ k) (hl : k < zs.length) : eqRunR zs gone k = true ↔ ∀ i, gone ≤ i → i ≤ k → gF zs i = gF zs gone := by
  unfold eqRunR
  rw [decide_eq_true_eq, run_iff (by omega)]
  exact ⟨fun h i h0 h1 => h i h0 (by omega), fun h i h0 h1 => h i h0 (by omega)⟩
theorem runs_of {zs : List Int} {gone f l : Nat} (hg : gone < zs.length) (f1 : f ≤ gone) (f2 : eqRun zs gone f = true) (f3 : ∀ k, k ≤ gone → eqRun zs gone k = true → f ≤ k) (l1 : gone ≤ l) (l2 : l < zs.length) (l3 : eqRunR zs gone l = true) (l4 : ∀ k, gone ≤ k → k < zs.length → eqRunR zs gone k = true → k ≤ l) :
    Runs (zs.length - 1) gone (gF (zs.take gone ++ zs.drop (gone + 1))) (gF zs) f l where
  fp := f1
  fe i h0 h1 := by rw [gF_lo hg h1]; exact (eqRun_iff hg f1).mp f2 i h0 (by omega)
  fx q hq e := by
    rw [gF_lo hg (by omega)] at e
    have := f3 q (by omega) ((eqRun_iff hg (by omega)).mpr fun i h0 h1 => by
      by_cases hi : i = q
      · rw [hi]; exact e
      · exact (eqRun_iff hg f1).mp f2 i (by omega) h1)
    omega
  pl := l1
  ln := by omega
  le i h0 h1 := by rw [gF_hi hg h0]; exact (eqRunR_iff l1 l2).mp l3 (i + 1) (by omega) (by omega)
  lx hl e := by
    rw [gF_hi hg l1] at e
    have := l4 (l + 1) (by omega) (by omega) ((eqRunR_iff (by omega) (by omega)).mpr fun i h0 h1 => by
      by_cases hi : i = l + 1
      · rw [hi]; exact e
      · exact (eqRunR_iff l1 l2).mp l3 i h0 (by omega))
    omega
theorem fm_back {P D m : Int} (h0 : 0 ≤ D) (h1 : D < m) : ((P + D).fmod m - P).fmod m = D ∧ ((P + D).fmod m - P).fdiv m = -((P + D).fdiv m) := by
  have hm : 0 ≤ m := by omega
  have e : (P + D).fmod m - P = D + m * (-((P + D).fdiv m)) := by
    have := Int.mul_fdiv_add_fmod (P + D) m
    rw [Int.mul_neg]
    omega
  rw [e]
  generalize (P + D).fdiv m = q
  rw [Int.fmod_eq_emod_of_nonneg _ hm, Int.fdiv_eq_ediv_of_nonneg _ hm, Int.add_mul_emod_self_left, Int.add_mul_ediv_left _ _ (by omega), Int.emod_eq_of_lt h0 h1, Int.ediv_eq_zero_of_lt h0 h1]
  exact ⟨rfl, by omega⟩
theorem port_parts {q k r : Int} (h0 : 0 ≤ r) (h1 : r < k) : (q * k + r).fdiv k = q ∧ (q * k + r).fmod k = r := by
  rw [show q * k + r = r + k * q by rw [Int.mul_comm, Int.add_comm], Int.fmod_eq_emod_of_nonneg _ (by omega), Int.fdiv_eq_ediv_of_nonneg _ (by omega), Int.add_mul_emod_self_left, Int.add_mul_ediv_left _ _ (by omega), Int.emod_eq_of_lt h0 h1, Int.ediv_eq_zero_of_lt h0 h1]
  exact ⟨by omega, rfl⟩
theorem insP_nat {α : Type} (l : List α) {k : Nat} (y : α) (h : k ≤ l.length) : insP l (k : Int) y = l.take k ++ [y] ++ l.drop k := by
  unfold insP
  rw [Int.toNat_natCast, Nat.min_eq_left h, List.append_assoc]
  rfl
theorem cut_sum {zs : List Int} {gone : Nat} (hg : gone < zs.length) : zs.sum = (zs.take gone ++ zs.drop (gone + 1)).sum + gF zs gone := by
  conv => lhs; rw [← List.take_append_drop gone zs, List.drop_eq_getElem_cons hg]
  rw [List.sum_append, List.sum_append, List.sum_cons]
  have : gF zs gone = zs[gone] := by unfold gF; rw [List.getD_eq_getElem?_getD, List.getElem?_eq_getElem hg]; rfl
  rw [this]
  omega
theorem keyP_in {way lo : Int} {ns : List Int} {i : Nat} (hi : i < ns.length) : keyP way lo ns i = if way = 1 then gF ns i else -gF ns i := by
  unfold keyP gF
  rw [List.getD_eq_getElem?_getD, List.getElem?_append_left hi, List.getD_eq_getElem?_getD]
theorem keyP_end {way lo : Int} {ns : List Int} : keyP way lo ns ns.length = if way = 1 then lo else -lo := by
  unfold keyP
  rw [List.getD_eq_getElem?_getD, List.getElem?_append_right (Nat.le_refl _), Nat.sub_self]
  rfl
theorem cut_way {zs : List Int} {gone e : Nat} (hg : gone < zs.length) (hz : 2 ≤ zs.length) (he : e < zs.length - 1)
    (t1 : ∀ i, i + 1 < zs.length - 1 → i < e → tF (zs.take gone ++ zs.drop (gone + 1)) i = tF zs i) (t2 : ∀ i, i + 1 < zs.length - 1 → e ≤ i → tF (zs.take gone ++ zs.drop (gone + 1)) i = tF zs (i + 1)) :
    ∃ D, climbV zs = climbP (zs.take gone ++ zs.drop (gone + 1)) + D ∧ 0 ≤ D ∧ D < zs.length ∧
      (tF zs e = 0 → D ≤ (stp (zs.take gone ++ zs.drop (gone + 1))).sum ∧ (stp (zs.take gone ++ zs.drop (gone + 1))).sum - D = ((cF (zs.take gone ++ zs.drop (gone + 1)) 1 e : Nat) : Int)) ∧
      (tF zs e = 1 → ¬ D ≤ (stp (zs.take gone ++ zs.drop (gone + 1))).sum ∧ D - (stp (zs.take gone ++ zs.drop (gone + 1))).sum - 1 = ((cF (zs.take gone ++ zs.drop (gone + 1)) 0 e : Nat) : Int)) := by
  have hcl : (zs.take gone ++ zs.drop (gone + 1)).length + 1 = zs.length := cut_len hg
  generalize hcm : zs.take gone ++ zs.drop (gone + 1) = cm at *
  refine cutG fun Pc kc => ?_
  obtain ⟨d, hd⟩ : ∃ d, zs.length - 1 = e + 1 + d := ⟨zs.length - 1 - (e + 1), by omega⟩
  refine kc ?_
  clear kc Pc
  have a1 : ∀ i, i < e → tF cm i = tF zs i := fun i h => t1 i (by omega) h
  have a2 : ∀ i, e ≤ i → i < e + d → tF cm i = tF zs (i + 1) := fun i h h' => t2 i (by omega) h
  have w1 := wF_cut a1 d a2
  have w2 := sF_cut a1 d a2
  have hb : ∀ i, tF zs i = 0 ∨ tF zs i = 1 := fun i => S1_or _ _
  have b1 := sF_bd hb 0 e
  have b2 := sF_bd hb (e + 1) d
  rw [Nat.zero_add] at b1
  have z0 : sF (tF zs) 0 = 0 := rfl
  have s1 : sF (tF zs) (e + 1) = sF (tF zs) e + tF zs e := rfl
  have k1 := cF_one cm e (by omega)
  have k0 := cF_zero cm e (by omega)
  rw [sF_congr a1] at k1 k0
  rw [climbV_w, climbP_w, stp_sumF, show cm.length - 1 = e + d by omega, hd, w1]
  refine ⟨(1 + e) * tF zs e + (sF (tF zs) (e + 1 + d) - sF (tF zs) (e + 1)), by omega, ?_, ?_, fun h => ?_, fun h => ?_⟩
  · rcases hb e with h | h <;> rw [h] at * <;> omega
  · rcases hb e with h | h <;> rw [h] at * <;> omega
  · rw [h] at *; omega
  · rw [h] at *; omega
end
section
open _root_.PySem _root_.PySem.W _root_.PyProof.Rows
/-- Tenengolts: by its port and the row without the lost sign, the mending finds the two rows that are the name -/
theorem pure_law {zs : List Int} {kinds : Int} (hz5 : 5 ≤ zs.length) (hk2 : 2 ≤ kinds) (hzb : ∀ z ∈ zs, 0 ≤ z ∧ z < kinds) (gone f l : Nat) (hg : gone < zs.length) (f1 : f ≤ gone) (f2 : eqRun zs gone f = true) (f3 : ∀ k, k ≤ gone → eqRun zs gone k = true → f ≤ k) (l1 : gone ≤ l) (l2 : l < zs.length) (l3 : eqRunR zs gone l = true) (l4 : ∀ k, gone ≤ k → k < zs.length → eqRunR zs gone k = true → k ≤ l) :
    mendR (((portP zs zs.length kinds).fmod kinds - (zs.take gone ++ zs.drop (gone + 1)).sum).fdiv kinds) (((portP zs zs.length kinds).fmod kinds - (zs.take gone ++ zs.drop (gone + 1)).sum).fmod kinds) ((portP zs zs.length kinds).fdiv kinds) (zs.take gone ++ zs.drop (gone + 1)) = dueD zs kinds zs.length (climbV zs) gone f l := by
  have W := runs_of hg f1 f2 f3 l1 l2 l3 l4
  have hcl : (zs.take gone ++ zs.drop (gone + 1)).length + 1 = zs.length := cut_len hg
  have hsum := cut_sum hg
  have c1 : ∀ i, i < gone → gF (zs.take gone ++ zs.drop (gone + 1)) i = gF zs i := fun i h => gF_lo hg h
  have c2 : ∀ i, gone ≤ i → gF (zs.take gone ++ zs.drop (gone + 1)) i = gF zs (i + 1) := fun i h => gF_hi hg h
  refine cutG fun Pc kc => ?_
  obtain ⟨e, he, hpe, t1, t2⟩ := lost_step (n := zs.length - 1) (p := gone) (by omega) (by omega) c1 c2
  refine kc ?_
  clear kc Pc
  refine cutG fun Pc kc => ?_
  obtain ⟨D, hD, hD0, hD1, hw0, hw1⟩ := cut_way hg (by omega) he t1 t2
  refine kc ?_
  clear kc Pc
  have hlost : 0 ≤ gF zs gone ∧ gF zs gone < kinds := by
    unfold gF
    rw [List.getD_eq_getElem?_getD, List.getElem?_eq_getElem hg]
    exact hzb _ (List.getElem_mem hg)
  have r0 : 0 ≤ zs.sum.fmod kinds := Int.fmod_nonneg_of_pos _ (by omega)
  have r1 : zs.sum.fmod kinds < kinds := Int.fmod_lt_of_pos _ (by omega)
  have hpp : (portP zs zs.length kinds).fdiv kinds = (climbV zs).fmod zs.length ∧ (portP zs zs.length kinds).fmod kinds = zs.sum.fmod kinds := port_parts r0 r1
  have hm : ((zs.sum).fmod kinds - (zs.take gone ++ zs.drop (gone + 1)).sum).fmod kinds = gF zs gone ∧ ((zs.sum).fmod kinds - (zs.take gone ++ zs.drop (gone + 1)).sum).fdiv kinds = -(zs.sum.fdiv kinds) := by
    have := fm_back (P := (zs.take gone ++ zs.drop (gone + 1)).sum) hlost.1 hlost.2
    rwa [← hsum] at this
  have hc : ((climbV zs).fmod zs.length - climbP (zs.take gone ++ zs.drop (gone + 1))).fmod zs.length = D ∧ ((climbV zs).fmod zs.length - climbP (zs.take gone ++ zs.drop (gone + 1))).fdiv zs.length = -((climbV zs).fdiv zs.length) := by
    have := fm_back (P := climbP (zs.take gone ++ zs.drop (gone + 1))) hD0 hD1
    rwa [← hD] at this
  rw [hpp.1, hpp.2, hm.1, hm.2]
  have hgz : zs.getD gone 0 = gF zs gone := rfl
  unfold dueD
  rw [hgz]
  generalize hcm : zs.take gone ++ zs.drop (gone + 1) = cm at *
  have hn : ((cm.length : Int) + 1) = (zs.length : Int) := by omega
  have hb : tF zs e = 0 ∨ tF zs e = 1 := S1_or _ _
  have hlack : lackP ((climbV zs).fmod zs.length) cm = D := by unfold lackP; rw [hn]; exact hc.1
  have hway : wayP ((climbV zs).fmod zs.length) cm = tF zs e := by
    unfold wayP
    rw [hlack]
    rcases hb with h | h
    · rw [if_pos (hw0 h).1, h]
    · rw [if_neg (hw1 h).1, h]
  have hah : aheadP ((climbV zs).fmod zs.length) cm = ((cF cm (1 - tF zs e) e : Nat) : Int) := by
    unfold aheadP
    rw [hlack, hn, hc.1]
    rcases hb with h | h
    · rw [if_pos (hw0 h).1, h]; exact (hw0 h).2
    · rw [if_neg (hw1 h).1, h]; exact (hw1 h).2
  have hlen : cm.length = zs.length - 1 := by omega
  have mono : ∀ i, i + 1 < cm.length → cF cm (1 - tF zs e) i ≤ cF cm (1 - tF zs e) (i + 1) := fun i h => by rw [cF_succ cm _ h]; exact Nat.le_add_right _ _
  refine cutG fun Pc kc => ?_
  obtain ⟨B, hB, hB1, hB2⟩ := cut_at (P := fun i => decide (((cF cm (1 - tF zs e) i : Nat) : Int) < ((cF cm (1 - tF zs e) e : Nat) : Int))) cm.length (fun i h hp => by
    have := mono i h
    rw [decide_eq_true_eq] at hp ⊢
    omega)
  refine kc ?_
  clear kc Pc
  refine cutG fun Pc kc => ?_
  obtain ⟨H, hH, hH1, hH2⟩ := cut_at (P := fun i => !decide (((cF cm (1 - tF zs e) e : Nat) : Int) < ((cF cm (1 - tF zs e) i : Nat) : Int))) cm.length (fun i h hp => by
    have := mono i h
    rw [Bool.not_eq_true', decide_eq_false_iff_not] at hp ⊢
    omega)
  refine kc ?_
  clear kc Pc
  have K : Core (zs.length - 1) gone e (gF cm) (gF zs) (cF cm (1 - tF zs e)) (tF zs e) (cF cm (1 - tF zs e) e) B H :=
    { hp := by omega, he := he, hpe := hpe, c1 := c1, c2 := c2, t1 := t1, t2 := t2, hb := rfl, hA := rfl, hB := by omega, hH := by omega
      hC := fun i h => cF_succ cm _ (by omega)
      hB1 := fun i h => by have := hB1 i h; rw [decide_eq_true_eq] at this; omega
      hB2 := fun i h h' => by have := hB2 i h (by omega); rw [decide_eq_false_iff_not] at this; omega
      hH1 := fun i h => by have := hH1 i h; rw [Bool.not_eq_true', decide_eq_false_iff_not] at this; omega
      hH2 := fun i h h' => by have := hH2 i h (by omega); rw [Bool.not_eq_false', decide_eq_true_eq] at this; omega }
  have hcutL : cutL (stp cm) (tF zs e) ((cF cm (1 - tF zs e) e : Nat) : Int) cm.length = (B : Int) :=
    bis_at _ (Int.le_refl _) (by omega) (by omega) (by omega) (fun i _ h => hB1 i (by omega)) (fun i h h' => hB2 i (by omega) (by omega))
  have hcutR : cutR (stp cm) (tF zs e) ((cF cm (1 - tF zs e) e : Nat) : Int) cm.length = (H : Int) :=
    bis_at _ (Int.le_refl _) (by omega) (by omega) (by omega) (fun i _ h => hH1 i (by omega)) (fun i h h' => hH2 i (by omega) (by omega))
  have hBf := K.Bf W
  have hlH := K.lH W
  have hfl : f ≤ l := Nat.le_trans f1 l1
  have hpl : gone ≤ l := l1
  have hposL : posL (tF zs e) (gF zs gone) cm (B : Int) (H : Int) = (f : Int) := by
    unfold posL
    refine bis_at _ (by omega) (by omega) (by omega) (by omega) (fun i h h' => ?_) (fun i h h' => ?_)
    · rw [decide_eq_true_eq, keyP_in (by omega), keyP_end]
      rcases hb with h0 | h0
      · rw [h0, if_neg (by decide), if_neg (by decide)]
        have := K.Z1 h0 (i := i) (by omega) (by omega)
        omega
      · rw [h0, if_pos rfl, if_pos rfl]
        exact K.L1 W h0 (by omega) (by omega)
    · rw [decide_eq_false_iff_not, keyP_in (by omega), keyP_end]
      rcases hb with h0 | h0
      · have e0 := K.f0 W h0
        rw [h0, if_neg (by decide), if_neg (by decide)]
        have := K.Z2 h0 (i := i) (by omega) (by omega)
        omega
      · rw [h0, if_pos rfl, if_pos rfl]
        have := K.L2 W h0 (i := i) (by omega) (by omega)
        omega
  have hposR : posR (tF zs e) (gF zs gone) cm (B : Int) (H : Int) = (l : Int) := by
    unfold posR
    refine bis_at _ (by omega) (by omega) (by omega) (by omega) (fun i h h' => ?_) (fun i h h' => ?_)
    · rw [Bool.not_eq_true', decide_eq_false_iff_not, keyP_end, keyP_in (by omega)]
      rcases hb with h0 | h0
      · have e0 := K.l0 W h0
        rw [h0, if_neg (by decide), if_neg (by decide)]
        have := K.Z1 h0 (i := i) (by omega) (by omega)
        omega
      · rw [h0, if_pos rfl, if_pos rfl]
        have := K.R1 W h0 (i := i) (by omega) (by omega)
        omega
    · rw [Bool.not_eq_false', decide_eq_true_eq, keyP_end, keyP_in (by omega)]
      rcases hb with h0 | h0
      · have e0 := K.l0 W h0
        rw [h0, if_neg (by decide), if_neg (by decide)]
        have := K.Z2 h0 (i := i) (by omega) (by omega)
        omega
      · rw [h0, if_pos rfl, if_pos rfl]
        exact K.R2 W h0 (by omega) (by omega)
  have hpr : (pairsP cm).length = cm.length := by unfold pairsP; rw [List.length_map, rangeInts_length]
  unfold mendR mendT
  rw [hway, hah, hcutL, hcutR, hposL, hposR, hn, hc.2, Int.neg_neg, Int.neg_neg, insP_nat _ _ (by omega), insP_nat _ _ (by omega)]
  rfl
end
section
open _root_.PySem _root_.PySem.W _root_.PyProof.Rows
open LC
theorem ints_c {n : Nat} {ys : List Value} {zs : List Int} (h : IntsAre ys zs) (hl : zs.length = n + 1) : ∃ z u r q, ys = .int z u :: r ∧ IntsAre r q ∧ q.length = n := by
  cases h with
  | nil => cases hl
  | cons z u h => exact ⟨z, u, _, _, rfl, h, Nat.succ.inj hl⟩
theorem ints5 {ys : List Value} {zs : List Int} (h : IntsAre ys zs) (hl : zs.length = 5) : ∃ z0 z1 z2 z3 z4 u0 u1 u2 u3 u4, ys = [.int z0 u0, .int z1 u1, .int z2 u2, .int z3 u3, .int z4 u4] := by
  refine cutG fun Pc kc => ?_
  obtain ⟨z0, u0, r0, q0, e0, h, hl⟩ := ints_c h hl
  obtain ⟨z1, u1, r1, q1, e1, h, hl⟩ := ints_c h hl
  obtain ⟨z2, u2, r2, q2, e2, h, hl⟩ := ints_c h hl
  obtain ⟨z3, u3, r3, q3, e3, h, hl⟩ := ints_c h hl
  obtain ⟨z4, u4, r4, q4, e4, h, hl⟩ := ints_c h hl
  cases h with
  | cons => cases hl
  | nil => exact kc ⟨z0, z1, z2, z3, z4, u0, u1, u2, u3, u4, by rw [e0, e1, e2, e3, e4]⟩
theorem not5 {x c1 c2 : Addr} (h1 : @Ne Nat x 66) (h2 : @Ne Nat x 73) (h3 : @Ne Nat x c1) (h4 : @Ne Nat x c2) (h5 : @Ne Nat x 152) : x ∉ [66, 73, c1, c2, 152] := by
  simp only [List.mem_cons, List.not_mem_nil, or_false, not_or]
  exact ⟨h1, h2, h3, h4, h5⟩
theorem head_at {v1 v2 v3 : Tok} {k : Nat} (h : k < 3) : ∃ t, ([.str (headV 0) v1, .str (headV 1) v2, .str (headV 2) v3] : List Value)[((k : Nat) : Int).toNat]? = some (.str (headV k) t) := by
  rw [Int.toNat_natCast]
  rcases (show k = 0 ∨ k = 1 ∨ k = 2 by omega) with rfl | rfl | rfl <;> exact ⟨_, rfl⟩
theorem ins_at {mark t : Str} {a0 a1 a2 : Tok} {k : Nat} (h : k < 3) : ∃ u, ([.str (insV mark t 0) a0, .str (insV mark t 1) a1, .str (insV mark t 2) a2] : List Value)[((k : Nat) : Int).toNat]? = some (.str (insV mark t k) u) := by
  rw [Int.toNat_natCast]
  rcases (show k = 0 ∨ k = 1 ∨ k = 2 by omega) with rfl | rfl | rfl <;> exact ⟨_, rfl⟩
theorem sum_bd {zs : List Int} {kinds : Int} (h : ∀ z ∈ zs, 0 ≤ z ∧ z < kinds) (hl : zs.length ≤ 10) (hk : kinds ≤ 6) : 0 ≤ zs.sum ∧ zs.sum ≤ 60 := by
  have e : ∀ l : List Int, (∀ z ∈ l, 0 ≤ z ∧ z < kinds) → 0 ≤ l.sum ∧ l.sum ≤ 5 * (l.length : Int) := by
    intro l
    induction l with
    | nil => intro _; exact ⟨Int.le_refl _, Int.le_refl _⟩
    | cons a l ih =>
      intro h
      have h1 := h a (.head _)
      have h2 := ih fun z hz => h z (.tail _ hz)
      rw [List.sum_cons, List.length_cons]
      omega
  have := e zs h
  omega
theorem lamTab0 : LamTab lamQ #[] [] := ⟨trivial, fun pos cv h => nomatch h⟩
theorem climb_bd (zs : List Int) (hl : zs.length ≤ 10) : 0 ≤ climbV zs ∧ climbV zs ≤ 60 := by
  rw [climbV_w]
  have h : ∀ n, 0 ≤ wF (tF zs) n ∧ wF (tF zs) n ≤ wF (fun _ => 1) n := by
    intro n
    induction n with
    | zero => exact ⟨Int.le_refl _, Int.le_refl _⟩
    | succ n ih =>
      have h2 : tF zs n = 0 ∨ tF zs n = 1 := S1_or _ _
      show 0 ≤ wF (tF zs) n + (1 + (n : Int)) * tF zs n ∧ wF (tF zs) n + (1 + (n : Int)) * tF zs n ≤ wF (fun _ => 1) n + (1 + (n : Int)) * 1
      rcases h2 with h2 | h2 <;> rw [h2] <;> omega
  have h9 := h (zs.length - 1)
  refine ⟨h9.1, Int.le_trans h9.2 ?_⟩
  have hl' : zs.length - 1 < 10 := by omega
  generalize zs.length - 1 = n at hl'
  have : ∀ n, n < 10 → wF (fun _ => 1) n ≤ 60 := by decide
  exact this n hl'
theorem tk18 {l : List Stmt} {j : Nat} (h : j ≤ 18) : (l.take 18).take j = l.take j := by rw [List.take_take, Nat.min_eq_left h]
theorem lawBody (s : Shared) (qk : Flow → Shared → Prop) (ek : Value → Shared → Prop)
   (o1 o2 o3 o4 o5 o6 o7 o8 o9 o10 o11 o12 o13 : Obj) (al : Addr) (vs : List Value) (ns : List Int)
    (B : Below A₀ g [] g) (X : (hd.heap_1 w.params).In g) (T : Top topProg loose mean mg mb g) (C : CodeHd g 70 66) (C2 : CodeHd g 77 73) (C3 : CodeHd g 154 152) (hd9 : dp + 32 < recursionLimit) (hu9 : un + 300 < cLine) (F0 : Fr g L s.heap (fun y => if y = Str.ofString "script" then some (.ref al) else none)) (N0 : News g L s.heap ((L + 1 + 1 + 1 + 1 + 1 + 1 + 1 + 1 + 1 + 1 + 1 + 1 + 1, o13) :: (L + 1 + 1 + 1 + 1 + 1 + 1 + 1 + 1 + 1 + 1 + 1 + 1, o12) :: (L + 1 + 1 + 1 + 1 + 1 + 1 + 1 + 1 + 1 + 1 + 1, o11) :: (L + 1 + 1 + 1 + 1 + 1 + 1 + 1 + 1 + 1 + 1, o10) :: (L + 1 + 1 + 1 + 1 + 1 + 1 + 1 + 1 + 1, o9) :: (L + 1 + 1 + 1 + 1 + 1 + 1 + 1 + 1, o8) :: (L + 1 + 1 + 1 + 1 + 1 + 1 + 1, o7) :: (L + 1 + 1 + 1 + 1 + 1 + 1, o6) :: (L + 1 + 1 + 1 + 1 + 1, o5) :: (L + 1 + 1 + 1 + 1, o4) :: (L + 1 + 1 + 1, o3) :: (L + 1 + 1, o2) :: (L + 1, o1) :: (66, tabObj #[]) :: (73, tabObj #[]) :: (152, tabObj #[]) :: []))
   (e1 : o1.data = .cell none) (e2 : o2.data = .cell none) (e3 : o3.data = .cell none) (e4 : o4.data = .cell none) (e5 : o5.data = .cell none) (e6 : o6.data = .cell none) (e7 : o7.data = .cell none) (e8 : o8.data = .cell none) (e9 : o9.data = .cell none) (e10 : o10.data = .cell none) (e11 : o11.data = .cell none) (e12 : o12.data = .cell none) (e13 : o13.data = .cell none) (hal : g.IsList al vs.toArray) (hI : IntsAre vs ns) (hlen : ns.length ≤ 63) (l1 : @LT.lt Nat _ 160 L)
   (ret : ∀ (h' : Heap) (tk' : Nat) (m' : Str → Option Value) (o8' o12' : Obj) (k : Nat) (mark : Str) (t8 t12 : Tok) (p1 p2 p5 : Array Value), k < 3 → Mark4 mark → Fr g L h' m' → News g L h' [(L + 1 + 1 + 1 + 1 + 1 + 1 + 1 + 1, o8'), (L + 1 + 1 + 1 + 1 + 1 + 1 + 1 + 1 + 1 + 1 + 1 + 1, o12'), (66, tabObj p1), (73, tabObj p2), (152, tabObj p5)] → o8'.data = .cell (some (.str mark t8)) → o12'.data = .cell (some (.str (headV k) t12)) → qk .next { s with heap := h', toks := tk' }) :
   wpAny (model PySem.Challenge.rw_ta0052_01.row.prog w) (ktrTop dp un gd (Str.ofString "law") (scopeOf (topStmt 22)) L a ccd (cellsFrom (L + 1) (scopeOf (topStmt 22)).names []) []) (execs ((bodyOf (topStmt 22)).take 18) (envOfC (Str.ofString "law") (scopeOf (topStmt 22)) L a ccd)) qk ek s := by
  show wpAny _ _ (execs (((bodyOf (topStmt 22)).take 18).drop 0) _) _ _ _
  refine execs_seg (l := (bodyOf (topStmt 22)).take 18) (i := 0) (j := 2) (by decide) ?_
  rw [tk18 (by decide)]
  refine lawS0 _ _ _ [(66, tabObj #[]), (73, tabObj #[]), (152, tabObj #[]), (L + 1 + 1 + 1, o3), (L + 1 + 1 + 1 + 1, o4), (L + 1 + 1 + 1 + 1 + 1, o5), (L + 1 + 1 + 1 + 1 + 1 + 1, o6), (L + 1 + 1 + 1 + 1 + 1 + 1 + 1, o7), (L + 1 + 1 + 1 + 1 + 1 + 1 + 1 + 1, o8), (L + 1 + 1 + 1 + 1 + 1 + 1 + 1 + 1 + 1, o9), (L + 1 + 1 + 1 + 1 + 1 + 1 + 1 + 1 + 1 + 1, o10), (L + 1 + 1 + 1 + 1 + 1 + 1 + 1 + 1 + 1 + 1 + 1, o11), (L + 1 + 1 + 1 + 1 + 1 + 1 + 1 + 1 + 1 + 1 + 1 + 1, o12), (L + 1 + 1 + 1 + 1 + 1 + 1 + 1 + 1 + 1 + 1 + 1 + 1 + 1, o13)] o1 o2 al vs ns B X T C C2 C3 hd9 hu9 F0 (news_pick N0 [11, 12, 13, 14, 15, 10, 9, 8, 7, 6, 5, 4, 3, 2, 1, 0]) e1 e2 (neC (by show @Ne Nat (66) (L + 1); k_ne) (neC (by show @Ne Nat (73) (L + 1); k_ne) (neC (by show @Ne Nat (152) (L + 1); k_ne) (neC (by show @Ne Nat (L + 1 + 1 + 1) (L + 1); k_ne) (neC (by show @Ne Nat (L + 1 + 1 + 1 + 1) (L + 1); k_ne) (neC (by show @Ne Nat (L + 1 + 1 + 1 + 1 + 1) (L + 1); k_ne) (neC (by show @Ne Nat (L + 1 + 1 + 1 + 1 + 1 + 1) (L + 1); k_ne) (neC (by show @Ne Nat (L + 1 + 1 + 1 + 1 + 1 + 1 + 1) (L + 1); k_ne) (neC (by show @Ne Nat (L + 1 + 1 + 1 + 1 + 1 + 1 + 1 + 1) (L + 1); k_ne) (neC (by show @Ne Nat (L + 1 + 1 + 1 + 1 + 1 + 1 + 1 + 1 + 1) (L + 1); k_ne) (neC (by show @Ne Nat (L + 1 + 1 + 1 + 1 + 1 + 1 + 1 + 1 + 1 + 1) (L + 1); k_ne) (neC (by show @Ne Nat (L + 1 + 1 + 1 + 1 + 1 + 1 + 1 + 1 + 1 + 1 + 1) (L + 1); k_ne) (neC (by show @Ne Nat (L + 1 + 1 + 1 + 1 + 1 + 1 + 1 + 1 + 1 + 1 + 1 + 1) (L + 1); k_ne) (neC (by show @Ne Nat (L + 1 + 1 + 1 + 1 + 1 + 1 + 1 + 1 + 1 + 1 + 1 + 1 + 1) (L + 1); k_ne) ne0)))))))))))))) (neC (by show @Ne Nat (66) (L + 1 + 1); k_ne) (neC (by show @Ne Nat (73) (L + 1 + 1); k_ne) (neC (by show @Ne Nat (152) (L + 1 + 1); k_ne) (neC (by show @Ne Nat (L + 1 + 1 + 1) (L + 1 + 1); k_ne) (neC (by show @Ne Nat (L + 1 + 1 + 1 + 1) (L + 1 + 1); k_ne) (neC (by show @Ne Nat (L + 1 + 1 + 1 + 1 + 1) (L + 1 + 1); k_ne) (neC (by show @Ne Nat (L + 1 + 1 + 1 + 1 + 1 + 1) (L + 1 + 1); k_ne) (neC (by show @Ne Nat (L + 1 + 1 + 1 + 1 + 1 + 1 + 1) (L + 1 + 1); k_ne) (neC (by show @Ne Nat (L + 1 + 1 + 1 + 1 + 1 + 1 + 1 + 1) (L + 1 + 1); k_ne) (neC (by show @Ne Nat (L + 1 + 1 + 1 + 1 + 1 + 1 + 1 + 1 + 1) (L + 1 + 1); k_ne) (neC (by show @Ne Nat (L + 1 + 1 + 1 + 1 + 1 + 1 + 1 + 1 + 1 + 1) (L + 1 + 1); k_ne) (neC (by show @Ne Nat (L + 1 + 1 + 1 + 1 + 1 + 1 + 1 + 1 + 1 + 1 + 1) (L + 1 + 1); k_ne) (neC (by show @Ne Nat (L + 1 + 1 + 1 + 1 + 1 + 1 + 1 + 1 + 1 + 1 + 1 + 1) (L + 1 + 1); k_ne) (neC (by show @Ne Nat (L + 1 + 1 + 1 + 1 + 1 + 1 + 1 + 1 + 1 + 1 + 1 + 1 + 1) (L + 1 + 1); k_ne) ne0)))))))))))))) hal hI hlen l1 ?_
  intro h1 tk1 Ds Do ws o1b o2b t1 t2 t3 t4 t5 F1 N1 e1b e2b hIw ltR0 lt2s ltso
  show wpAny _ _ (execs (((bodyOf (topStmt 22)).take 18).drop 2) _) _ _ _
  have lts := fun q hq => (ltR0 q hq).1
  have lto := fun q hq => (ltR0 q hq).2
  refine execs_seg (l := (bodyOf (topStmt 22)).take 18) (i := 2) (j := 3) (by decide) ?_
  rw [tk18 (by decide)]
  refine lawS1 _ _ _ [(66, tabObj #[]), (73, tabObj #[]), (152, tabObj #[]), (L + 1 + 1 + 1 + 1, o4), (L + 1 + 1 + 1 + 1 + 1, o5), (L + 1 + 1 + 1 + 1 + 1 + 1, o6), (L + 1 + 1 + 1 + 1 + 1 + 1 + 1, o7), (L + 1 + 1 + 1 + 1 + 1 + 1 + 1 + 1, o8), (L + 1 + 1 + 1 + 1 + 1 + 1 + 1 + 1 + 1, o9), (L + 1 + 1 + 1 + 1 + 1 + 1 + 1 + 1 + 1 + 1, o10), (L + 1 + 1 + 1 + 1 + 1 + 1 + 1 + 1 + 1 + 1 + 1, o11), (L + 1 + 1 + 1 + 1 + 1 + 1 + 1 + 1 + 1 + 1 + 1 + 1, o12), (L + 1 + 1 + 1 + 1 + 1 + 1 + 1 + 1 + 1 + 1 + 1 + 1 + 1, o13), (L + 1, o1b), (L + 1 + 1, o2b)] o1b o2b o3 Do Ds t1 t2 t3 t4 t5 al ws (ns.take 60) B X T C C2 C3 hd9 hu9 F1 (news_pick N1 [0, 1, 2, 3, 7, 4, 5, 6, 8, 9, 10, 11, 12, 13, 14, 15, 16, 17, 3, 2]) e1b e2b e3 (neC (by show @Ne Nat (66) (L + 1 + 1 + 1); k_ne) (neC (by show @Ne Nat (73) (L + 1 + 1 + 1); k_ne) (neC (by show @Ne Nat (152) (L + 1 + 1 + 1); k_ne) (neC (by show @Ne Nat (L + 1 + 1 + 1 + 1) (L + 1 + 1 + 1); k_ne) (neC (by show @Ne Nat (L + 1 + 1 + 1 + 1 + 1) (L + 1 + 1 + 1); k_ne) (neC (by show @Ne Nat (L + 1 + 1 + 1 + 1 + 1 + 1) (L + 1 + 1 + 1); k_ne) (neC (by show @Ne Nat (L + 1 + 1 + 1 + 1 + 1 + 1 + 1) (L + 1 + 1 + 1); k_ne) (neC (by show @Ne Nat (L + 1 + 1 + 1 + 1 + 1 + 1 + 1 + 1) (L + 1 + 1 + 1); k_ne) (neC (by show @Ne Nat (L + 1 + 1 + 1 + 1 + 1 + 1 + 1 + 1 + 1) (L + 1 + 1 + 1); k_ne) (neC (by show @Ne Nat (L + 1 + 1 + 1 + 1 + 1 + 1 + 1 + 1 + 1 + 1) (L + 1 + 1 + 1); k_ne) (neC (by show @Ne Nat (L + 1 + 1 + 1 + 1 + 1 + 1 + 1 + 1 + 1 + 1 + 1) (L + 1 + 1 + 1); k_ne) (neC (by show @Ne Nat (L + 1 + 1 + 1 + 1 + 1 + 1 + 1 + 1 + 1 + 1 + 1 + 1) (L + 1 + 1 + 1); k_ne) (neC (by show @Ne Nat (L + 1 + 1 + 1 + 1 + 1 + 1 + 1 + 1 + 1 + 1 + 1 + 1 + 1) (L + 1 + 1 + 1); k_ne) (neC (by show @Ne Nat (L + 1) (L + 1 + 1 + 1); k_ne) (neC (by show @Ne Nat (L + 1 + 1) (L + 1 + 1 + 1); k_ne) ne0))))))))))))))) (lto (L + 1 + 1 + 1, o3) (.tail _ (.tail _ (.tail _ (.head _))))) (lts (L + 1 + 1 + 1, o3) (.tail _ (.tail _ (.tail _ (.head _))))) hIw (by rw [List.length_take]; omega) l1 ?_
  intro h2 tk2 Dc kc ys5 zs5 o3b F2 N2 e3b hI5 hl5 nR1 nR1b
  show wpAny _ _ (execs (((bodyOf (topStmt 22)).take 18).drop 3) _) _ _ _
  refine cutG fun Pc kc => ?_
  obtain ⟨z0, z1, z2, z3, z4, u0, u1, u2, u3, u4, rfl⟩ := ints5 hI5 hl5
  refine kc ?_
  clear kc Pc
  refine execs_seg (l := (bodyOf (topStmt 22)).take 18) (i := 3) (j := 6) (by decide) ?_
  rw [tk18 (by decide)]
  refine lawS2 _ _ _ [(66, tabObj #[]), (73, tabObj #[]), (152, tabObj #[]), (L + 1 + 1 + 1 + 1 + 1 + 1, o6), (L + 1 + 1 + 1 + 1 + 1 + 1 + 1, o7), (L + 1 + 1 + 1 + 1 + 1 + 1 + 1 + 1, o8), (L + 1 + 1 + 1 + 1 + 1 + 1 + 1 + 1 + 1, o9), (L + 1 + 1 + 1 + 1 + 1 + 1 + 1 + 1 + 1 + 1, o10), (L + 1 + 1 + 1 + 1 + 1 + 1 + 1 + 1 + 1 + 1 + 1, o11), (L + 1 + 1 + 1 + 1 + 1 + 1 + 1 + 1 + 1 + 1 + 1 + 1, o12), (L + 1 + 1 + 1 + 1 + 1 + 1 + 1 + 1 + 1 + 1 + 1 + 1 + 1, o13), (L + 1, o1b), (L + 1 + 1, o2b)] o3b o4 o5 Dc al kc z0 z1 z2 z3 z4 u0 u1 u2 u3 u4 B X T C C2 C3 hd9 hu9 F2 (news_pick N2 [0, 1, 5, 6, 2, 3, 4, 7, 8, 9, 10, 11, 12, 13, 14, 15, 16]) e3b e4 e5 (neC (by show @Ne Nat (66) (L + 1 + 1 + 1 + 1); k_ne) (neC (by show @Ne Nat (73) (L + 1 + 1 + 1 + 1); k_ne) (neC (by show @Ne Nat (152) (L + 1 + 1 + 1 + 1); k_ne) (neC (by show @Ne Nat (L + 1 + 1 + 1 + 1 + 1 + 1) (L + 1 + 1 + 1 + 1); k_ne) (neC (by show @Ne Nat (L + 1 + 1 + 1 + 1 + 1 + 1 + 1) (L + 1 + 1 + 1 + 1); k_ne) (neC (by show @Ne Nat (L + 1 + 1 + 1 + 1 + 1 + 1 + 1 + 1) (L + 1 + 1 + 1 + 1); k_ne) (neC (by show @Ne Nat (L + 1 + 1 + 1 + 1 + 1 + 1 + 1 + 1 + 1) (L + 1 + 1 + 1 + 1); k_ne) (neC (by show @Ne Nat (L + 1 + 1 + 1 + 1 + 1 + 1 + 1 + 1 + 1 + 1) (L + 1 + 1 + 1 + 1); k_ne) (neC (by show @Ne Nat (L + 1 + 1 + 1 + 1 + 1 + 1 + 1 + 1 + 1 + 1 + 1) (L + 1 + 1 + 1 + 1); k_ne) (neC (by show @Ne Nat (L + 1 + 1 + 1 + 1 + 1 + 1 + 1 + 1 + 1 + 1 + 1 + 1) (L + 1 + 1 + 1 + 1); k_ne) (neC (by show @Ne Nat (L + 1 + 1 + 1 + 1 + 1 + 1 + 1 + 1 + 1 + 1 + 1 + 1 + 1) (L + 1 + 1 + 1 + 1); k_ne) (neC (by show @Ne Nat (L + 1) (L + 1 + 1 + 1 + 1); k_ne) (neC (by show @Ne Nat (L + 1 + 1) (L + 1 + 1 + 1 + 1); k_ne) ne0))))))))))))) (neC (by show @Ne Nat (66) (L + 1 + 1 + 1 + 1 + 1); k_ne) (neC (by show @Ne Nat (73) (L + 1 + 1 + 1 + 1 + 1); k_ne) (neC (by show @Ne Nat (152) (L + 1 + 1 + 1 + 1 + 1); k_ne) (neC (by show @Ne Nat (L + 1 + 1 + 1 + 1 + 1 + 1) (L + 1 + 1 + 1 + 1 + 1); k_ne) (neC (by show @Ne Nat (L + 1 + 1 + 1 + 1 + 1 + 1 + 1) (L + 1 + 1 + 1 + 1 + 1); k_ne) (neC (by show @Ne Nat (L + 1 + 1 + 1 + 1 + 1 + 1 + 1 + 1) (L + 1 + 1 + 1 + 1 + 1); k_ne) (neC (by show @Ne Nat (L + 1 + 1 + 1 + 1 + 1 + 1 + 1 + 1 + 1) (L + 1 + 1 + 1 + 1 + 1); k_ne) (neC (by show @Ne Nat (L + 1 + 1 + 1 + 1 + 1 + 1 + 1 + 1 + 1 + 1) (L + 1 + 1 + 1 + 1 + 1); k_ne) (neC (by show @Ne Nat (L + 1 + 1 + 1 + 1 + 1 + 1 + 1 + 1 + 1 + 1 + 1) (L + 1 + 1 + 1 + 1 + 1); k_ne) (neC (by show @Ne Nat (L + 1 + 1 + 1 + 1 + 1 + 1 + 1 + 1 + 1 + 1 + 1 + 1) (L + 1 + 1 + 1 + 1 + 1); k_ne) (neC (by show @Ne Nat (L + 1 + 1 + 1 + 1 + 1 + 1 + 1 + 1 + 1 + 1 + 1 + 1 + 1) (L + 1 + 1 + 1 + 1 + 1); k_ne) (neC (by show @Ne Nat (L + 1) (L + 1 + 1 + 1 + 1 + 1); k_ne) (neC (by show @Ne Nat (L + 1 + 1) (L + 1 + 1 + 1 + 1 + 1); k_ne) ne0))))))))))))) (Ne.symm (nR1 (L + 1 + 1 + 1 + 1, o4) (.tail _ (.tail _ (.tail _ (.head _)))))) (Ne.symm (nR1 (L + 1 + 1 + 1 + 1 + 1, o5) (.tail _ (.tail _ (.tail _ (.tail _ (.head _))))))) l1 ?_
  intro h3 tk3 kinds size at_ o4b o5b s1 s2 s3 hk2 hk6 hs5 hs10 ha0 hak F3 N3 e4b e5b
  show wpAny _ _ (execs (((bodyOf (topStmt 22)).take 18).drop 6) _) _ _ _
  refine execs_seg (l := (bodyOf (topStmt 22)).take 18) (i := 6) (j := 7) (by decide) ?_
  rw [tk18 (by decide)]
  refine lawS3 _ _ _ [(Dc, listOf #[.int z0 u0, .int z1 u1, .int z2 u2, .int z3 u3, .int z4 u4] kc), (L + 1 + 1 + 1, o3b), (L + 1 + 1 + 1 + 1 + 1, o5b), (66, tabObj #[]), (73, tabObj #[]), (152, tabObj #[]), (L + 1 + 1 + 1 + 1 + 1 + 1 + 1, o7), (L + 1 + 1 + 1 + 1 + 1 + 1 + 1 + 1, o8), (L + 1 + 1 + 1 + 1 + 1 + 1 + 1 + 1 + 1, o9), (L + 1 + 1 + 1 + 1 + 1 + 1 + 1 + 1 + 1 + 1, o10), (L + 1 + 1 + 1 + 1 + 1 + 1 + 1 + 1 + 1 + 1 + 1, o11), (L + 1 + 1 + 1 + 1 + 1 + 1 + 1 + 1 + 1 + 1 + 1 + 1, o12), (L + 1 + 1 + 1 + 1 + 1 + 1 + 1 + 1 + 1 + 1 + 1 + 1 + 1, o13), (L + 1, o1b), (L + 1 + 1, o2b)] o4b o6 al kinds at_ s1 s3 B X T C C2 C3 hd9 hu9 F3 (news_pick N3 [2, 7, 0, 1, 3, 4, 5, 6, 8, 9, 10, 11, 12, 13, 14, 15, 16]) e4b e6 (neC ((Ne.symm (nR1 (L + 1 + 1 + 1 + 1 + 1 + 1, o6) (.tail _ (.tail _ (.tail _ (.tail _ (.tail _ (.head _))))))))) ((neC (by show @Ne Nat (L + 1 + 1 + 1) (L + 1 + 1 + 1 + 1 + 1 + 1); k_ne) (neC (by show @Ne Nat (L + 1 + 1 + 1 + 1 + 1) (L + 1 + 1 + 1 + 1 + 1 + 1); k_ne) (neC (by show @Ne Nat (66) (L + 1 + 1 + 1 + 1 + 1 + 1); k_ne) (neC (by show @Ne Nat (73) (L + 1 + 1 + 1 + 1 + 1 + 1); k_ne) (neC (by show @Ne Nat (152) (L + 1 + 1 + 1 + 1 + 1 + 1); k_ne) (neC (by show @Ne Nat (L + 1 + 1 + 1 + 1 + 1 + 1 + 1) (L + 1 + 1 + 1 + 1 + 1 + 1); k_ne) (neC (by show @Ne Nat (L + 1 + 1 + 1 + 1 + 1 + 1 + 1 + 1) (L + 1 + 1 + 1 + 1 + 1 + 1); k_ne) (neC (by show @Ne Nat (L + 1 + 1 + 1 + 1 + 1 + 1 + 1 + 1 + 1) (L + 1 + 1 + 1 + 1 + 1 + 1); k_ne) (neC (by show @Ne Nat (L + 1 + 1 + 1 + 1 + 1 + 1 + 1 + 1 + 1 + 1) (L + 1 + 1 + 1 + 1 + 1 + 1); k_ne) (neC (by show @Ne Nat (L + 1 + 1 + 1 + 1 + 1 + 1 + 1 + 1 + 1 + 1 + 1) (L + 1 + 1 + 1 + 1 + 1 + 1); k_ne) (neC (by show @Ne Nat (L + 1 + 1 + 1 + 1 + 1 + 1 + 1 + 1 + 1 + 1 + 1 + 1) (L + 1 + 1 + 1 + 1 + 1 + 1); k_ne) (neC (by show @Ne Nat (L + 1 + 1 + 1 + 1 + 1 + 1 + 1 + 1 + 1 + 1 + 1 + 1 + 1) (L + 1 + 1 + 1 + 1 + 1 + 1); k_ne) (neC (by show @Ne Nat (L + 1) (L + 1 + 1 + 1 + 1 + 1 + 1); k_ne) (neC (by show @Ne Nat (L + 1 + 1) (L + 1 + 1 + 1 + 1 + 1 + 1); k_ne) ne0)))))))))))))))) hk2 hk6 ha0 hak l1 ?_
  intro h4 tk4 o6b s4 F4 N4 e6b
  show wpAny _ _ (execs (((bodyOf (topStmt 22)).take 18).drop 7) _) _ _ _
  refine execs_seg (l := (bodyOf (topStmt 22)).take 18) (i := 7) (j := 8) (by decide) ?_
  rw [tk18 (by decide)]
  refine lawS4 _ _ _ [(L + 1 + 1 + 1 + 1 + 1 + 1, o6b), (66, tabObj #[]), (73, tabObj #[]), (152, tabObj #[]), (L + 1 + 1 + 1 + 1 + 1 + 1 + 1 + 1, o8), (L + 1 + 1 + 1 + 1 + 1 + 1 + 1 + 1 + 1, o9), (L + 1 + 1 + 1 + 1 + 1 + 1 + 1 + 1 + 1 + 1, o10), (L + 1 + 1 + 1 + 1 + 1 + 1 + 1 + 1 + 1 + 1 + 1, o11), (L + 1 + 1 + 1 + 1 + 1 + 1 + 1 + 1 + 1 + 1 + 1 + 1, o12), (L + 1 + 1 + 1 + 1 + 1 + 1 + 1 + 1 + 1 + 1 + 1 + 1 + 1, o13), (L + 1, o1b), (L + 1 + 1, o2b)] o3b o4b o5b o7 Dc al kc z0 z1 z2 z3 z4 kinds size at_ u0 u1 u2 u3 u4 s1 s2 s3 B X T C C2 C3 hd9 hu9 F4 (news_pick N4 [2, 3, 0, 4, 8, 1, 5, 6, 7, 9, 10, 11, 12, 13, 14, 15, 16]) e3b e4b e5b e7 (neC (by show @Ne Nat (L + 1 + 1 + 1 + 1 + 1 + 1) (L + 1 + 1 + 1 + 1 + 1 + 1 + 1); k_ne) (neC (by show @Ne Nat (66) (L + 1 + 1 + 1 + 1 + 1 + 1 + 1); k_ne) (neC (by show @Ne Nat (73) (L + 1 + 1 + 1 + 1 + 1 + 1 + 1); k_ne) (neC (by show @Ne Nat (152) (L + 1 + 1 + 1 + 1 + 1 + 1 + 1); k_ne) (neC (by show @Ne Nat (L + 1 + 1 + 1 + 1 + 1 + 1 + 1 + 1) (L + 1 + 1 + 1 + 1 + 1 + 1 + 1); k_ne) (neC (by show @Ne Nat (L + 1 + 1 + 1 + 1 + 1 + 1 + 1 + 1 + 1) (L + 1 + 1 + 1 + 1 + 1 + 1 + 1); k_ne) (neC (by show @Ne Nat (L + 1 + 1 + 1 + 1 + 1 + 1 + 1 + 1 + 1 + 1) (L + 1 + 1 + 1 + 1 + 1 + 1 + 1); k_ne) (neC (by show @Ne Nat (L + 1 + 1 + 1 + 1 + 1 + 1 + 1 + 1 + 1 + 1 + 1) (L + 1 + 1 + 1 + 1 + 1 + 1 + 1); k_ne) (neC (by show @Ne Nat (L + 1 + 1 + 1 + 1 + 1 + 1 + 1 + 1 + 1 + 1 + 1 + 1) (L + 1 + 1 + 1 + 1 + 1 + 1 + 1); k_ne) (neC (by show @Ne Nat (L + 1 + 1 + 1 + 1 + 1 + 1 + 1 + 1 + 1 + 1 + 1 + 1 + 1) (L + 1 + 1 + 1 + 1 + 1 + 1 + 1); k_ne) (neC (by show @Ne Nat (L + 1) (L + 1 + 1 + 1 + 1 + 1 + 1 + 1); k_ne) (neC (by show @Ne Nat (L + 1 + 1) (L + 1 + 1 + 1 + 1 + 1 + 1 + 1); k_ne) ne0)))))))))))) (Ne.symm (nR1 (L + 1 + 1 + 1 + 1 + 1 + 1 + 1, o7) (.tail _ (.tail _ (.tail _ (.tail _ (.tail _ (.tail _ (.head _))))))))) hk2 hk6 hs5 hs10 l1 ?_
  intro h5 tk5 Dn kn ys zs o7b F5 N5 e7b hIn hzl hzb nDn
  show wpAny _ _ (execs (((bodyOf (topStmt 22)).take 18).drop 8) _) _ _ _
  refine execs_seg (l := (bodyOf (topStmt 22)).take 18) (i := 8) (j := 10) (by decide) ?_
  rw [tk18 (by decide)]
  refine lawS5 _ _ _ [(Dc, listOf #[.int z0 u0, .int z1 u1, .int z2 u2, .int z3 u3, .int z4 u4] kc), (L + 1 + 1 + 1, o3b), (L + 1 + 1 + 1 + 1 + 1 + 1, o6b), (66, tabObj #[]), (73, tabObj #[]), (152, tabObj #[]), (L + 1 + 1 + 1 + 1 + 1 + 1 + 1 + 1, o8), (L + 1 + 1 + 1 + 1 + 1 + 1 + 1 + 1 + 1, o9), (L + 1 + 1 + 1 + 1 + 1 + 1 + 1 + 1 + 1 + 1, o10), (L + 1 + 1 + 1 + 1 + 1 + 1 + 1 + 1 + 1 + 1 + 1, o11), (L + 1 + 1 + 1 + 1 + 1 + 1 + 1 + 1 + 1 + 1 + 1 + 1, o12), (L + 1 + 1 + 1 + 1 + 1 + 1 + 1 + 1 + 1 + 1 + 1 + 1 + 1, o13), (L + 1, o1b), (L + 1 + 1, o2b)] o4b o5b o7b Dn al kn ys zs kinds size at_ s1 s2 s3 B X T C C2 C3 hd9 hu9 F5 (news_pick N5 [0, 3, 4, 5, 1, 2, 6, 7, 8, 9, 10, 11, 12, 13, 14, 15, 16, 17]) e4b e5b e7b hIn hzl hzb hk2 hk6 hs5 hs10 l1 ?_
  intro h6 tk6 s5 s6 F6 N6
  show wpAny _ _ (execs (((bodyOf (topStmt 22)).take 18).drop 10) _) _ _ _
  obtain ⟨hp0, hp60⟩ := port_bd (zs := zs) hs5 hs10 hk2 hk6
  have hcl := climb_bd zs (by omega)
  refine execs_seg (l := (bodyOf (topStmt 22)).take 18) (i := 10) (j := 12) (by decide) ?_
  rw [tk18 (by decide)]
  refine lawS6 _ _ _ [(Dn, listOf ys.toArray kn), (L + 1 + 1 + 1 + 1, o4b), (L + 1 + 1 + 1 + 1 + 1, o5b), (L + 1 + 1 + 1 + 1 + 1 + 1 + 1, o7b), (L + 1 + 1 + 1 + 1 + 1 + 1, o6b), (66, tabObj #[]), (73, tabObj #[]), (152, tabObj #[]), (L + 1 + 1 + 1 + 1 + 1 + 1 + 1 + 1 + 1, o9), (L + 1 + 1 + 1 + 1 + 1 + 1 + 1 + 1 + 1 + 1, o10), (L + 1 + 1 + 1 + 1 + 1 + 1 + 1 + 1 + 1 + 1 + 1, o11), (L + 1 + 1 + 1 + 1 + 1 + 1 + 1 + 1 + 1 + 1 + 1 + 1, o12), (L + 1 + 1 + 1 + 1 + 1 + 1 + 1 + 1 + 1 + 1 + 1 + 1 + 1, o13), (L + 1, o1b), (L + 1 + 1, o2b)] o3b o8 Dc al kc z0 z1 z2 z3 z4 (portP zs size kinds) (climbV zs) at_ u0 u1 u2 u3 u4 s3 s5 s6 B X T C C2 C3 hd9 hu9 F6 (news_pick N6 [4, 5, 10, 0, 1, 2, 3, 6, 7, 8, 9, 11, 12, 13, 14, 15, 16, 17]) e3b e8 (neC ((Ne.symm (nDn (L + 1 + 1 + 1 + 1 + 1 + 1 + 1 + 1, o8) (.tail _ (.tail _ (.tail _ (.tail _ (.tail _ (.tail _ (.tail _ (.tail _ (.tail _ (.head _))))))))))))) ((neC (by show @Ne Nat (L + 1 + 1 + 1 + 1) (L + 1 + 1 + 1 + 1 + 1 + 1 + 1 + 1); k_ne) (neC (by show @Ne Nat (L + 1 + 1 + 1 + 1 + 1) (L + 1 + 1 + 1 + 1 + 1 + 1 + 1 + 1); k_ne) (neC (by show @Ne Nat (L + 1 + 1 + 1 + 1 + 1 + 1 + 1) (L + 1 + 1 + 1 + 1 + 1 + 1 + 1 + 1); k_ne) (neC (by show @Ne Nat (L + 1 + 1 + 1 + 1 + 1 + 1) (L + 1 + 1 + 1 + 1 + 1 + 1 + 1 + 1); k_ne) (neC (by show @Ne Nat (66) (L + 1 + 1 + 1 + 1 + 1 + 1 + 1 + 1); k_ne) (neC (by show @Ne Nat (73) (L + 1 + 1 + 1 + 1 + 1 + 1 + 1 + 1); k_ne) (neC (by show @Ne Nat (152) (L + 1 + 1 + 1 + 1 + 1 + 1 + 1 + 1); k_ne) (neC (by show @Ne Nat (L + 1 + 1 + 1 + 1 + 1 + 1 + 1 + 1 + 1) (L + 1 + 1 + 1 + 1 + 1 + 1 + 1 + 1); k_ne) (neC (by show @Ne Nat (L + 1 + 1 + 1 + 1 + 1 + 1 + 1 + 1 + 1 + 1) (L + 1 + 1 + 1 + 1 + 1 + 1 + 1 + 1); k_ne) (neC (by show @Ne Nat (L + 1 + 1 + 1 + 1 + 1 + 1 + 1 + 1 + 1 + 1 + 1) (L + 1 + 1 + 1 + 1 + 1 + 1 + 1 + 1); k_ne) (neC (by show @Ne Nat (L + 1 + 1 + 1 + 1 + 1 + 1 + 1 + 1 + 1 + 1 + 1 + 1) (L + 1 + 1 + 1 + 1 + 1 + 1 + 1 + 1); k_ne) (neC (by show @Ne Nat (L + 1 + 1 + 1 + 1 + 1 + 1 + 1 + 1 + 1 + 1 + 1 + 1 + 1) (L + 1 + 1 + 1 + 1 + 1 + 1 + 1 + 1); k_ne) (neC (by show @Ne Nat (L + 1) (L + 1 + 1 + 1 + 1 + 1 + 1 + 1 + 1); k_ne) (neC (by show @Ne Nat (L + 1 + 1) (L + 1 + 1 + 1 + 1 + 1 + 1 + 1 + 1); k_ne) ne0)))))))))))))))) (Ne.symm (nR1 (L + 1 + 1 + 1 + 1 + 1 + 1 + 1 + 1, o8) (.tail _ (.tail _ (.tail _ (.tail _ (.tail _ (.tail _ (.tail _ (.head _)))))))))) l1 ?_
  intro h7 tk7 mark dress Dh Di Dq o8b s7 s8 v1 v2 v3 hmk hd0 hd3 F7 N7 e8b ltD lthi ltiq
  show wpAny _ _ (execs (((bodyOf (topStmt 22)).take 18).drop 12) _) _ _ _
  refine execs_seg (l := (bodyOf (topStmt 22)).take 18) (i := 12) (j := 13) (by decide) ?_
  rw [tk18 (by decide)]
  refine lawS7 _ _ _ [(Dn, listOf ys.toArray kn), (L + 1 + 1 + 1 + 1, o4b), (L + 1 + 1 + 1 + 1 + 1, o5b), (L + 1 + 1 + 1 + 1 + 1 + 1 + 1, o7b), (L + 1 + 1 + 1 + 1 + 1 + 1, o6b), (66, tabObj #[]), (73, tabObj #[]), (152, tabObj #[]), (L + 1 + 1 + 1 + 1 + 1 + 1 + 1 + 1 + 1, o9), (L + 1 + 1 + 1 + 1 + 1 + 1 + 1 + 1 + 1 + 1, o10), (L + 1 + 1 + 1 + 1 + 1 + 1 + 1 + 1 + 1 + 1 + 1, o11), (L + 1 + 1 + 1 + 1 + 1 + 1 + 1 + 1 + 1 + 1 + 1 + 1, o12), (L + 1 + 1 + 1 + 1 + 1 + 1 + 1 + 1 + 1 + 1 + 1 + 1 + 1, o13), (L + 1, o1b), (L + 1 + 1, o2b)] o8b Dh Di Dq al mark (portP zs size kinds) (climbV zs) at_ dress v1 v2 v3 s3 s5 s6 s7 s8 B X T C C2 C3 hd9 hu9 F7 (news_pick N7 [0, 1, 2, 5, 6, 7, 8, 9, 10, 11, 12, 13, 14, 15, 16, 17, 18, 19, 20]) e8b (neC ((Nat.ne_of_lt (ltD (Dn, listOf ys.toArray kn) (.tail _ (.tail _ (.tail _ (.head _))))))) ((neC ((Nat.ne_of_lt (ltD (L + 1 + 1 + 1 + 1, o4b) (.tail _ (.tail _ (.tail _ (.tail _ (.head _)))))))) ((neC ((Nat.ne_of_lt (ltD (L + 1 + 1 + 1 + 1 + 1, o5b) (.tail _ (.tail _ (.tail _ (.tail _ (.tail _ (.head _))))))))) ((neC ((Nat.ne_of_lt (ltD (L + 1 + 1 + 1 + 1 + 1 + 1 + 1, o7b) (.tail _ (.tail _ (.tail _ (.tail _ (.tail _ (.tail _ (.head _)))))))))) ((neC ((Nat.ne_of_lt (ltD (L + 1 + 1 + 1 + 1 + 1 + 1, o6b) (.tail _ (.tail _ (.tail _ (.tail _ (.tail _ (.tail _ (.tail _ (.head _))))))))))) ((neC ((Nat.ne_of_lt (ltD (66, tabObj #[]) (.tail _ (.tail _ (.tail _ (.tail _ (.tail _ (.tail _ (.tail _ (.tail _ (.head _)))))))))))) ((neC ((Nat.ne_of_lt (ltD (73, tabObj #[]) (.tail _ (.tail _ (.tail _ (.tail _ (.tail _ (.tail _ (.tail _ (.tail _ (.tail _ (.head _))))))))))))) ((neC ((Nat.ne_of_lt (ltD (152, tabObj #[]) (.tail _ (.tail _ (.tail _ (.tail _ (.tail _ (.tail _ (.tail _ (.tail _ (.tail _ (.tail _ (.head _)))))))))))))) ((neC ((Nat.ne_of_lt (ltD (L + 1 + 1 + 1 + 1 + 1 + 1 + 1 + 1 + 1, o9) (.tail _ (.tail _ (.tail _ (.tail _ (.tail _ (.tail _ (.tail _ (.tail _ (.tail _ (.tail _ (.tail _ (.head _))))))))))))))) ((neC ((Nat.ne_of_lt (ltD (L + 1 + 1 + 1 + 1 + 1 + 1 + 1 + 1 + 1 + 1, o10) (.tail _ (.tail _ (.tail _ (.tail _ (.tail _ (.tail _ (.tail _ (.tail _ (.tail _ (.tail _ (.tail _ (.tail _ (.head _)))))))))))))))) ((neC ((Nat.ne_of_lt (ltD (L + 1 + 1 + 1 + 1 + 1 + 1 + 1 + 1 + 1 + 1 + 1, o11) (.tail _ (.tail _ (.tail _ (.tail _ (.tail _ (.tail _ (.tail _ (.tail _ (.tail _ (.tail _ (.tail _ (.tail _ (.tail _ (.head _))))))))))))))))) ((neC ((Nat.ne_of_lt (ltD (L + 1 + 1 + 1 + 1 + 1 + 1 + 1 + 1 + 1 + 1 + 1 + 1, o12) (.tail _ (.tail _ (.tail _ (.tail _ (.tail _ (.tail _ (.tail _ (.tail _ (.tail _ (.tail _ (.tail _ (.tail _ (.tail _ (.tail _ (.head _)))))))))))))))))) ((neC ((Nat.ne_of_lt (ltD (L + 1 + 1 + 1 + 1 + 1 + 1 + 1 + 1 + 1 + 1 + 1 + 1 + 1, o13) (.tail _ (.tail _ (.tail _ (.tail _ (.tail _ (.tail _ (.tail _ (.tail _ (.tail _ (.tail _ (.tail _ (.tail _ (.tail _ (.tail _ (.tail _ (.head _))))))))))))))))))) ((neC ((Nat.ne_of_lt (ltD (L + 1, o1b) (.tail _ (.tail _ (.tail _ (.tail _ (.tail _ (.tail _ (.tail _ (.tail _ (.tail _ (.tail _ (.tail _ (.tail _ (.tail _ (.tail _ (.tail _ (.tail _ (.head _)))))))))))))))))))) ((neC ((Nat.ne_of_lt (ltD (L + 1 + 1, o2b) (.tail _ (.tail _ (.tail _ (.tail _ (.tail _ (.tail _ (.tail _ (.tail _ (.tail _ (.tail _ (.tail _ (.tail _ (.tail _ (.tail _ (.tail _ (.tail _ (.tail _ (.head _))))))))))))))))))))) (ne0)))))))))))))))))))))))))))))) (neC ((Nat.ne_of_lt (Nat.lt_trans (ltD (Dn, listOf ys.toArray kn) (.tail _ (.tail _ (.tail _ (.head _))))) lthi))) ((neC ((Nat.ne_of_lt (Nat.lt_trans (ltD (L + 1 + 1 + 1 + 1, o4b) (.tail _ (.tail _ (.tail _ (.tail _ (.head _)))))) lthi))) ((neC ((Nat.ne_of_lt (Nat.lt_trans (ltD (L + 1 + 1 + 1 + 1 + 1, o5b) (.tail _ (.tail _ (.tail _ (.tail _ (.tail _ (.head _))))))) lthi))) ((neC ((Nat.ne_of_lt (Nat.lt_trans (ltD (L + 1 + 1 + 1 + 1 + 1 + 1 + 1, o7b) (.tail _ (.tail _ (.tail _ (.tail _ (.tail _ (.tail _ (.head _)))))))) lthi))) ((neC ((Nat.ne_of_lt (Nat.lt_trans (ltD (L + 1 + 1 + 1 + 1 + 1 + 1, o6b) (.tail _ (.tail _ (.tail _ (.tail _ (.tail _ (.tail _ (.tail _ (.head _))))))))) lthi))) ((neC ((Nat.ne_of_lt (Nat.lt_trans (ltD (66, tabObj #[]) (.tail _ (.tail _ (.tail _ (.tail _ (.tail _ (.tail _ (.tail _ (.tail _ (.head _)))))))))) lthi))) ((neC ((Nat.ne_of_lt (Nat.lt_trans (ltD (73, tabObj #[]) (.tail _ (.tail _ (.tail _ (.tail _ (.tail _ (.tail _ (.tail _ (.tail _ (.tail _ (.head _))))))))))) lthi))) ((neC ((Nat.ne_of_lt (Nat.lt_trans (ltD (152, tabObj #[]) (.tail _ (.tail _ (.tail _ (.tail _ (.tail _ (.tail _ (.tail _ (.tail _ (.tail _ (.tail _ (.head _)))))))))))) lthi))) ((neC ((Nat.ne_of_lt (Nat.lt_trans (ltD (L + 1 + 1 + 1 + 1 + 1 + 1 + 1 + 1 + 1, o9) (.tail _ (.tail _ (.tail _ (.tail _ (.tail _ (.tail _ (.tail _ (.tail _ (.tail _ (.tail _ (.tail _ (.head _))))))))))))) lthi))) ((neC ((Nat.ne_of_lt (Nat.lt_trans (ltD (L + 1 + 1 + 1 + 1 + 1 + 1 + 1 + 1 + 1 + 1, o10) (.tail _ (.tail _ (.tail _ (.tail _ (.tail _ (.tail _ (.tail _ (.tail _ (.tail _ (.tail _ (.tail _ (.tail _ (.head _)))))))))))))) lthi))) ((neC ((Nat.ne_of_lt (Nat.lt_trans (ltD (L + 1 + 1 + 1 + 1 + 1 + 1 + 1 + 1 + 1 + 1 + 1, o11) (.tail _ (.tail _ (.tail _ (.tail _ (.tail _ (.tail _ (.tail _ (.tail _ (.tail _ (.tail _ (.tail _ (.tail _ (.tail _ (.head _))))))))))))))) lthi))) ((neC ((Nat.ne_of_lt (Nat.lt_trans (ltD (L + 1 + 1 + 1 + 1 + 1 + 1 + 1 + 1 + 1 + 1 + 1 + 1, o12) (.tail _ (.tail _ (.tail _ (.tail _ (.tail _ (.tail _ (.tail _ (.tail _ (.tail _ (.tail _ (.tail _ (.tail _ (.tail _ (.tail _ (.head _)))))))))))))))) lthi))) ((neC ((Nat.ne_of_lt (Nat.lt_trans (ltD (L + 1 + 1 + 1 + 1 + 1 + 1 + 1 + 1 + 1 + 1 + 1 + 1 + 1, o13) (.tail _ (.tail _ (.tail _ (.tail _ (.tail _ (.tail _ (.tail _ (.tail _ (.tail _ (.tail _ (.tail _ (.tail _ (.tail _ (.tail _ (.tail _ (.head _))))))))))))))))) lthi))) ((neC ((Nat.ne_of_lt (Nat.lt_trans (ltD (L + 1, o1b) (.tail _ (.tail _ (.tail _ (.tail _ (.tail _ (.tail _ (.tail _ (.tail _ (.tail _ (.tail _ (.tail _ (.tail _ (.tail _ (.tail _ (.tail _ (.tail _ (.head _)))))))))))))))))) lthi))) ((neC ((Nat.ne_of_lt (Nat.lt_trans (ltD (L + 1 + 1, o2b) (.tail _ (.tail _ (.tail _ (.tail _ (.tail _ (.tail _ (.tail _ (.tail _ (.tail _ (.tail _ (.tail _ (.tail _ (.tail _ (.tail _ (.tail _ (.tail _ (.tail _ (.head _))))))))))))))))))) lthi))) (ne0)))))))))))))))))))))))))))))) (neC ((Nat.ne_of_lt (Nat.lt_trans (Nat.lt_trans (ltD (Dn, listOf ys.toArray kn) (.tail _ (.tail _ (.tail _ (.head _))))) lthi) ltiq))) ((neC ((Nat.ne_of_lt (Nat.lt_trans (Nat.lt_trans (ltD (L + 1 + 1 + 1 + 1, o4b) (.tail _ (.tail _ (.tail _ (.tail _ (.head _)))))) lthi) ltiq))) ((neC ((Nat.ne_of_lt (Nat.lt_trans (Nat.lt_trans (ltD (L + 1 + 1 + 1 + 1 + 1, o5b) (.tail _ (.tail _ (.tail _ (.tail _ (.tail _ (.head _))))))) lthi) ltiq))) ((neC ((Nat.ne_of_lt (Nat.lt_trans (Nat.lt_trans (ltD (L + 1 + 1 + 1 + 1 + 1 + 1 + 1, o7b) (.tail _ (.tail _ (.tail _ (.tail _ (.tail _ (.tail _ (.head _)))))))) lthi) ltiq))) ((neC ((Nat.ne_of_lt (Nat.lt_trans (Nat.lt_trans (ltD (L + 1 + 1 + 1 + 1 + 1 + 1, o6b) (.tail _ (.tail _ (.tail _ (.tail _ (.tail _ (.tail _ (.tail _ (.head _))))))))) lthi) ltiq))) ((neC ((Nat.ne_of_lt (Nat.lt_trans (Nat.lt_trans (ltD (66, tabObj #[]) (.tail _ (.tail _ (.tail _ (.tail _ (.tail _ (.tail _ (.tail _ (.tail _ (.head _)))))))))) lthi) ltiq))) ((neC ((Nat.ne_of_lt (Nat.lt_trans (Nat.lt_trans (ltD (73, tabObj #[]) (.tail _ (.tail _ (.tail _ (.tail _ (.tail _ (.tail _ (.tail _ (.tail _ (.tail _ (.head _))))))))))) lthi) ltiq))) ((neC ((Nat.ne_of_lt (Nat.lt_trans (Nat.lt_trans (ltD (152, tabObj #[]) (.tail _ (.tail _ (.tail _ (.tail _ (.tail _ (.tail _ (.tail _ (.tail _ (.tail _ (.tail _ (.head _)))))))))))) lthi) ltiq))) ((neC ((Nat.ne_of_lt (Nat.lt_trans (Nat.lt_trans (ltD (L + 1 + 1 + 1 + 1 + 1 + 1 + 1 + 1 + 1, o9) (.tail _ (.tail _ (.tail _ (.tail _ (.tail _ (.tail _ (.tail _ (.tail _ (.tail _ (.tail _ (.tail _ (.head _))))))))))))) lthi) ltiq))) ((neC ((Nat.ne_of_lt (Nat.lt_trans (Nat.lt_trans (ltD (L + 1 + 1 + 1 + 1 + 1 + 1 + 1 + 1 + 1 + 1, o10) (.tail _ (.tail _ (.tail _ (.tail _ (.tail _ (.tail _ (.tail _ (.tail _ (.tail _ (.tail _ (.tail _ (.tail _ (.head _)))))))))))))) lthi) ltiq))) ((neC ((Nat.ne_of_lt (Nat.lt_trans (Nat.lt_trans (ltD (L + 1 + 1 + 1 + 1 + 1 + 1 + 1 + 1 + 1 + 1 + 1, o11) (.tail _ (.tail _ (.tail _ (.tail _ (.tail _ (.tail _ (.tail _ (.tail _ (.tail _ (.tail _ (.tail _ (.tail _ (.tail _ (.head _))))))))))))))) lthi) ltiq))) ((neC ((Nat.ne_of_lt (Nat.lt_trans (Nat.lt_trans (ltD (L + 1 + 1 + 1 + 1 + 1 + 1 + 1 + 1 + 1 + 1 + 1 + 1, o12) (.tail _ (.tail _ (.tail _ (.tail _ (.tail _ (.tail _ (.tail _ (.tail _ (.tail _ (.tail _ (.tail _ (.tail _ (.tail _ (.tail _ (.head _)))))))))))))))) lthi) ltiq))) ((neC ((Nat.ne_of_lt (Nat.lt_trans (Nat.lt_trans (ltD (L + 1 + 1 + 1 + 1 + 1 + 1 + 1 + 1 + 1 + 1 + 1 + 1 + 1, o13) (.tail _ (.tail _ (.tail _ (.tail _ (.tail _ (.tail _ (.tail _ (.tail _ (.tail _ (.tail _ (.tail _ (.tail _ (.tail _ (.tail _ (.tail _ (.head _))))))))))))))))) lthi) ltiq))) ((neC ((Nat.ne_of_lt (Nat.lt_trans (Nat.lt_trans (ltD (L + 1, o1b) (.tail _ (.tail _ (.tail _ (.tail _ (.tail _ (.tail _ (.tail _ (.tail _ (.tail _ (.tail _ (.tail _ (.tail _ (.tail _ (.tail _ (.tail _ (.tail _ (.head _)))))))))))))))))) lthi) ltiq))) ((neC ((Nat.ne_of_lt (Nat.lt_trans (Nat.lt_trans (ltD (L + 1 + 1, o2b) (.tail _ (.tail _ (.tail _ (.tail _ (.tail _ (.tail _ (.tail _ (.tail _ (.tail _ (.tail _ (.tail _ (.tail _ (.tail _ (.tail _ (.tail _ (.tail _ (.tail _ (.head _))))))))))))))))))) lthi) ltiq))) (ne0)))))))))))))))))))))))))))))) (ltD (L + 1 + 1 + 1 + 1 + 1 + 1 + 1 + 1, o8) (.tail _ (.tail _ (.head _)))) lthi ltiq hmk hp0 hp60 l1 ?_
  intro h8 tk8 q1 q2 q3 ni nq b0 a0 b1 a1 b2 a2 F8 N8
  show wpAny _ _ (execs (((bodyOf (topStmt 22)).take 18).drop 13) _) _ _ _
  replace N8 : News g L h8 ((Dq, listOf [.int (portP zs size kinds) b0, .int (portP zs size kinds) b1, .int (portP zs size kinds) b2].toArray nq) :: (Di, listOf [.str (insV mark (Str.ofString (toString (portP zs size kinds))) 0) a0, .str (insV mark (Str.ofString (toString (portP zs size kinds))) 1) a1, .str (insV mark (Str.ofString (toString (portP zs size kinds))) 2) a2].toArray ni) :: (Dh, listOf [.str (headV 0) v1, .str (headV 1) v2, .str (headV 2) v3].toArray 0) :: (L + 1 + 1 + 1 + 1 + 1 + 1 + 1 + 1, o8b) :: (Dn, listOf ys.toArray kn) :: (L + 1 + 1 + 1 + 1, o4b) :: (L + 1 + 1 + 1 + 1 + 1, o5b) :: (L + 1 + 1 + 1 + 1 + 1 + 1 + 1, o7b) :: (L + 1 + 1 + 1 + 1 + 1 + 1, o6b) :: (66, tabObj #[]) :: (73, tabObj #[]) :: (152, tabObj #[]) :: (L + 1 + 1 + 1 + 1 + 1 + 1 + 1 + 1 + 1, o9) :: (L + 1 + 1 + 1 + 1 + 1 + 1 + 1 + 1 + 1 + 1, o10) :: (L + 1 + 1 + 1 + 1 + 1 + 1 + 1 + 1 + 1 + 1 + 1, o11) :: (L + 1 + 1 + 1 + 1 + 1 + 1 + 1 + 1 + 1 + 1 + 1 + 1, o12) :: (L + 1 + 1 + 1 + 1 + 1 + 1 + 1 + 1 + 1 + 1 + 1 + 1 + 1, o13) :: (L + 1, o1b) :: (L + 1 + 1, o2b) :: []) := N8
  have hz10 : zs.length ≤ 10 := by omega
  have hz5 : 5 ≤ zs.length := by omega
  have halp := alpha_find hk2 hk6 ha0 hak
  obtain ⟨hsm0, hsm⟩ := sum_bd hzb hz10 hk6
  refine execs_seg (l := (bodyOf (topStmt 22)).take 18) (i := 13) (j := 14) (by decide) ?_
  rw [tk18 (by decide)]
  refine lawS8 _ _ _ _ [(L + 1 + 1 + 1 + 1, o4b), (L + 1 + 1 + 1 + 1 + 1, o5b), (L + 1 + 1 + 1 + 1 + 1 + 1, o6b), (L + 1 + 1 + 1 + 1 + 1 + 1 + 1, o7b), (Dn, listOf ys.toArray kn), (Dq, listOf [.int (portP zs size kinds) b0, .int (portP zs size kinds) b1, .int (portP zs size kinds) b2].toArray nq), (Dh, listOf [.str (headV 0) v1, .str (headV 1) v2, .str (headV 2) v3].toArray 0), (Di, listOf [.str (insV mark (Str.ofString (toString (portP zs size kinds))) 0) a0, .str (insV mark (Str.ofString (toString (portP zs size kinds))) 1) a1, .str (insV mark (Str.ofString (toString (portP zs size kinds))) 2) a2].toArray ni), (L + 1 + 1 + 1 + 1 + 1 + 1 + 1 + 1, o8b), (L + 1 + 1 + 1 + 1 + 1 + 1 + 1 + 1 + 1 + 1 + 1 + 1, o12), (L + 1 + 1 + 1 + 1 + 1 + 1 + 1 + 1 + 1 + 1 + 1 + 1 + 1, o13)] [] o4b o5b o6b o7b o9 o10 o11 Dn kn ys zs Dq nq _ (L + 1) (L + 1 + 1) o1b o2b #[] #[] #[] kinds (portP zs size kinds) dress size (climbV zs) s1 s8 s4 s2 s5 (alphaV kinds at_) none none none B X T C C2 C3 hd9 hu9 F8 (news_pick N8 [6, 9, 10, 17, 18, 11, 12, 13, 14, 5, 6, 8, 7, 4, 0, 2, 1, 3, 15, 16]) e4b e5b e6b e7b e9 e10 e11 hIn hz5 hz10 hzl hzb halp.1 hk2 hk6 hp0 hp60 hd0 hd3 (.cons _ _ (.cons _ _ (.cons _ _ .nil))) halp.2 hsm0 hsm hcl.1 hcl.2 (by first | rfl | exact if_pos rfl) (by first | rfl | exact if_pos rfl) (by first | rfl | exact if_pos rfl) lamTab0 (.inl rfl) (.inl rfl) (by show @LT.lt Nat _ 160 (L + 1); omega) (by show @LT.lt Nat _ 160 (L + 1 + 1); omega) l1 (.head _) (.tail _ (.head _)) (.tail _ (.tail _ (.head _))) (.tail _ (.tail _ (.tail _ (.head _)))) (.tail _ (.tail _ (.tail _ (.tail _ (.head _))))) (.tail _ (.tail _ (.tail _ (.tail _ (.tail _ (.head _)))))) ⟨(List.forall_mem_cons.mpr ⟨⟨not5 (by show @Ne Nat (L + 1 + 1 + 1 + 1) (66); omega) (by show @Ne Nat (L + 1 + 1 + 1 + 1) (73); omega) (by show @Ne Nat (L + 1 + 1 + 1 + 1) (L + 1); omega) (by show @Ne Nat (L + 1 + 1 + 1 + 1) (L + 1 + 1); omega) (by show @Ne Nat (L + 1 + 1 + 1 + 1) (152); omega), (by show @Ne Nat (L + 1 + 1 + 1 + 1) (L + 1 + 1 + 1 + 1 + 1 + 1 + 1 + 1 + 1); omega), (by show @Ne Nat (L + 1 + 1 + 1 + 1) (L + 1 + 1 + 1 + 1 + 1 + 1 + 1 + 1 + 1 + 1); omega), (by show @Ne Nat (L + 1 + 1 + 1 + 1) (L + 1 + 1 + 1 + 1 + 1 + 1 + 1 + 1 + 1 + 1 + 1); omega)⟩, (List.forall_mem_cons.mpr ⟨⟨not5 (by show @Ne Nat (L + 1 + 1 + 1 + 1 + 1) (66); omega) (by show @Ne Nat (L + 1 + 1 + 1 + 1 + 1) (73); omega) (by show @Ne Nat (L + 1 + 1 + 1 + 1 + 1) (L + 1); omega) (by show @Ne Nat (L + 1 + 1 + 1 + 1 + 1) (L + 1 + 1); omega) (by show @Ne Nat (L + 1 + 1 + 1 + 1 + 1) (152); omega), (by show @Ne Nat (L + 1 + 1 + 1 + 1 + 1) (L + 1 + 1 + 1 + 1 + 1 + 1 + 1 + 1 + 1); omega), (by show @Ne Nat (L + 1 + 1 + 1 + 1 + 1) (L + 1 + 1 + 1 + 1 + 1 + 1 + 1 + 1 + 1 + 1); omega), (by show @Ne Nat (L + 1 + 1 + 1 + 1 + 1) (L + 1 + 1 + 1 + 1 + 1 + 1 + 1 + 1 + 1 + 1 + 1); omega)⟩, (List.forall_mem_cons.mpr ⟨⟨not5 (by show @Ne Nat (L + 1 + 1 + 1 + 1 + 1 + 1) (66); omega) (by show @Ne Nat (L + 1 + 1 + 1 + 1 + 1 + 1) (73); omega) (by show @Ne Nat (L + 1 + 1 + 1 + 1 + 1 + 1) (L + 1); omega) (by show @Ne Nat (L + 1 + 1 + 1 + 1 + 1 + 1) (L + 1 + 1); omega) (by show @Ne Nat (L + 1 + 1 + 1 + 1 + 1 + 1) (152); omega), (by show @Ne Nat (L + 1 + 1 + 1 + 1 + 1 + 1) (L + 1 + 1 + 1 + 1 + 1 + 1 + 1 + 1 + 1); omega), (by show @Ne Nat (L + 1 + 1 + 1 + 1 + 1 + 1) (L + 1 + 1 + 1 + 1 + 1 + 1 + 1 + 1 + 1 + 1); omega), (by show @Ne Nat (L + 1 + 1 + 1 + 1 + 1 + 1) (L + 1 + 1 + 1 + 1 + 1 + 1 + 1 + 1 + 1 + 1 + 1); omega)⟩, (List.forall_mem_cons.mpr ⟨⟨not5 (by show @Ne Nat (L + 1 + 1 + 1 + 1 + 1 + 1 + 1) (66); omega) (by show @Ne Nat (L + 1 + 1 + 1 + 1 + 1 + 1 + 1) (73); omega) (by show @Ne Nat (L + 1 + 1 + 1 + 1 + 1 + 1 + 1) (L + 1); omega) (by show @Ne Nat (L + 1 + 1 + 1 + 1 + 1 + 1 + 1) (L + 1 + 1); omega) (by show @Ne Nat (L + 1 + 1 + 1 + 1 + 1 + 1 + 1) (152); omega), (by show @Ne Nat (L + 1 + 1 + 1 + 1 + 1 + 1 + 1) (L + 1 + 1 + 1 + 1 + 1 + 1 + 1 + 1 + 1); omega), (by show @Ne Nat (L + 1 + 1 + 1 + 1 + 1 + 1 + 1) (L + 1 + 1 + 1 + 1 + 1 + 1 + 1 + 1 + 1 + 1); omega), (by show @Ne Nat (L + 1 + 1 + 1 + 1 + 1 + 1 + 1) (L + 1 + 1 + 1 + 1 + 1 + 1 + 1 + 1 + 1 + 1 + 1); omega)⟩, (List.forall_mem_cons.mpr ⟨⟨not5 (Ne.symm (nDn (66, tabObj #[]) (.tail _ (.tail _ (.tail _ (.tail _ (.tail _ (.tail _ (.head _))))))))) (Ne.symm (nDn (73, tabObj #[]) (.tail _ (.tail _ (.tail _ (.tail _ (.tail _ (.tail _ (.tail _ (.head _)))))))))) (Ne.symm (nDn (L + 1, o1b) (.tail _ (.tail _ (.tail _ (.tail _ (.tail _ (.tail _ (.tail _ (.tail _ (.tail _ (.tail _ (.tail _ (.tail _ (.tail _ (.tail _ (.tail _ (.head _)))))))))))))))))) (Ne.symm (nDn (L + 1 + 1, o2b) (.tail _ (.tail _ (.tail _ (.tail _ (.tail _ (.tail _ (.tail _ (.tail _ (.tail _ (.tail _ (.tail _ (.tail _ (.tail _ (.tail _ (.tail _ (.tail _ (.head _))))))))))))))))))) (Ne.symm (nDn (152, tabObj #[]) (.tail _ (.tail _ (.tail _ (.tail _ (.tail _ (.tail _ (.tail _ (.tail _ (.head _))))))))))), (Ne.symm (nDn (L + 1 + 1 + 1 + 1 + 1 + 1 + 1 + 1 + 1, o9) (.tail _ (.tail _ (.tail _ (.tail _ (.tail _ (.tail _ (.tail _ (.tail _ (.tail _ (.tail _ (.head _))))))))))))), (Ne.symm (nDn (L + 1 + 1 + 1 + 1 + 1 + 1 + 1 + 1 + 1 + 1, o10) (.tail _ (.tail _ (.tail _ (.tail _ (.tail _ (.tail _ (.tail _ (.tail _ (.tail _ (.tail _ (.tail _ (.head _)))))))))))))), (Ne.symm (nDn (L + 1 + 1 + 1 + 1 + 1 + 1 + 1 + 1 + 1 + 1 + 1, o11) (.tail _ (.tail _ (.tail _ (.tail _ (.tail _ (.tail _ (.tail _ (.tail _ (.tail _ (.tail _ (.tail _ (.tail _ (.head _)))))))))))))))⟩, (List.forall_mem_cons.mpr ⟨⟨not5 (Ne.symm (Nat.ne_of_lt (Nat.lt_trans (Nat.lt_trans (ltD (66, tabObj #[]) (.tail _ (.tail _ (.tail _ (.tail _ (.tail _ (.tail _ (.tail _ (.tail _ (.head _)))))))))) lthi) ltiq))) (Ne.symm (Nat.ne_of_lt (Nat.lt_trans (Nat.lt_trans (ltD (73, tabObj #[]) (.tail _ (.tail _ (.tail _ (.tail _ (.tail _ (.tail _ (.tail _ (.tail _ (.tail _ (.head _))))))))))) lthi) ltiq))) (Ne.symm (Nat.ne_of_lt (Nat.lt_trans (Nat.lt_trans (ltD (L + 1, o1b) (.tail _ (.tail _ (.tail _ (.tail _ (.tail _ (.tail _ (.tail _ (.tail _ (.tail _ (.tail _ (.tail _ (.tail _ (.tail _ (.tail _ (.tail _ (.tail _ (.head _)))))))))))))))))) lthi) ltiq))) (Ne.symm (Nat.ne_of_lt (Nat.lt_trans (Nat.lt_trans (ltD (L + 1 + 1, o2b) (.tail _ (.tail _ (.tail _ (.tail _ (.tail _ (.tail _ (.tail _ (.tail _ (.tail _ (.tail _ (.tail _ (.tail _ (.tail _ (.tail _ (.tail _ (.tail _ (.tail _ (.head _))))))))))))))))))) lthi) ltiq))) (Ne.symm (Nat.ne_of_lt (Nat.lt_trans (Nat.lt_trans (ltD (152, tabObj #[]) (.tail _ (.tail _ (.tail _ (.tail _ (.tail _ (.tail _ (.tail _ (.tail _ (.tail _ (.tail _ (.head _)))))))))))) lthi) ltiq))), (Ne.symm (Nat.ne_of_lt (Nat.lt_trans (Nat.lt_trans (ltD (L + 1 + 1 + 1 + 1 + 1 + 1 + 1 + 1 + 1, o9) (.tail _ (.tail _ (.tail _ (.tail _ (.tail _ (.tail _ (.tail _ (.tail _ (.tail _ (.tail _ (.tail _ (.head _))))))))))))) lthi) ltiq))), (Ne.symm (Nat.ne_of_lt (Nat.lt_trans (Nat.lt_trans (ltD (L + 1 + 1 + 1 + 1 + 1 + 1 + 1 + 1 + 1 + 1, o10) (.tail _ (.tail _ (.tail _ (.tail _ (.tail _ (.tail _ (.tail _ (.tail _ (.tail _ (.tail _ (.tail _ (.tail _ (.head _)))))))))))))) lthi) ltiq))), (Ne.symm (Nat.ne_of_lt (Nat.lt_trans (Nat.lt_trans (ltD (L + 1 + 1 + 1 + 1 + 1 + 1 + 1 + 1 + 1 + 1 + 1, o11) (.tail _ (.tail _ (.tail _ (.tail _ (.tail _ (.tail _ (.tail _ (.tail _ (.tail _ (.tail _ (.tail _ (.tail _ (.tail _ (.head _))))))))))))))) lthi) ltiq)))⟩, (List.forall_mem_cons.mpr ⟨⟨not5 (Ne.symm (Nat.ne_of_lt (ltD (66, tabObj #[]) (.tail _ (.tail _ (.tail _ (.tail _ (.tail _ (.tail _ (.tail _ (.tail _ (.head _)))))))))))) (Ne.symm (Nat.ne_of_lt (ltD (73, tabObj #[]) (.tail _ (.tail _ (.tail _ (.tail _ (.tail _ (.tail _ (.tail _ (.tail _ (.tail _ (.head _))))))))))))) (Ne.symm (Nat.ne_of_lt (ltD (L + 1, o1b) (.tail _ (.tail _ (.tail _ (.tail _ (.tail _ (.tail _ (.tail _ (.tail _ (.tail _ (.tail _ (.tail _ (.tail _ (.tail _ (.tail _ (.tail _ (.tail _ (.head _)))))))))))))))))))) (Ne.symm (Nat.ne_of_lt (ltD (L + 1 + 1, o2b) (.tail _ (.tail _ (.tail _ (.tail _ (.tail _ (.tail _ (.tail _ (.tail _ (.tail _ (.tail _ (.tail _ (.tail _ (.tail _ (.tail _ (.tail _ (.tail _ (.tail _ (.head _))))))))))))))))))))) (Ne.symm (Nat.ne_of_lt (ltD (152, tabObj #[]) (.tail _ (.tail _ (.tail _ (.tail _ (.tail _ (.tail _ (.tail _ (.tail _ (.tail _ (.tail _ (.head _)))))))))))))), (Ne.symm (Nat.ne_of_lt (ltD (L + 1 + 1 + 1 + 1 + 1 + 1 + 1 + 1 + 1, o9) (.tail _ (.tail _ (.tail _ (.tail _ (.tail _ (.tail _ (.tail _ (.tail _ (.tail _ (.tail _ (.tail _ (.head _))))))))))))))), (Ne.symm (Nat.ne_of_lt (ltD (L + 1 + 1 + 1 + 1 + 1 + 1 + 1 + 1 + 1 + 1, o10) (.tail _ (.tail _ (.tail _ (.tail _ (.tail _ (.tail _ (.tail _ (.tail _ (.tail _ (.tail _ (.tail _ (.tail _ (.head _)))))))))))))))), (Ne.symm (Nat.ne_of_lt (ltD (L + 1 + 1 + 1 + 1 + 1 + 1 + 1 + 1 + 1 + 1 + 1, o11) (.tail _ (.tail _ (.tail _ (.tail _ (.tail _ (.tail _ (.tail _ (.tail _ (.tail _ (.tail _ (.tail _ (.tail _ (.tail _ (.head _)))))))))))))))))⟩, (List.forall_mem_cons.mpr ⟨⟨not5 (Ne.symm (Nat.ne_of_lt (Nat.lt_trans (ltD (66, tabObj #[]) (.tail _ (.tail _ (.tail _ (.tail _ (.tail _ (.tail _ (.tail _ (.tail _ (.head _)))))))))) lthi))) (Ne.symm (Nat.ne_of_lt (Nat.lt_trans (ltD (73, tabObj #[]) (.tail _ (.tail _ (.tail _ (.tail _ (.tail _ (.tail _ (.tail _ (.tail _ (.tail _ (.head _))))))))))) lthi))) (Ne.symm (Nat.ne_of_lt (Nat.lt_trans (ltD (L + 1, o1b) (.tail _ (.tail _ (.tail _ (.tail _ (.tail _ (.tail _ (.tail _ (.tail _ (.tail _ (.tail _ (.tail _ (.tail _ (.tail _ (.tail _ (.tail _ (.tail _ (.head _)))))))))))))))))) lthi))) (Ne.symm (Nat.ne_of_lt (Nat.lt_trans (ltD (L + 1 + 1, o2b) (.tail _ (.tail _ (.tail _ (.tail _ (.tail _ (.tail _ (.tail _ (.tail _ (.tail _ (.tail _ (.tail _ (.tail _ (.tail _ (.tail _ (.tail _ (.tail _ (.tail _ (.head _))))))))))))))))))) lthi))) (Ne.symm (Nat.ne_of_lt (Nat.lt_trans (ltD (152, tabObj #[]) (.tail _ (.tail _ (.tail _ (.tail _ (.tail _ (.tail _ (.tail _ (.tail _ (.tail _ (.tail _ (.head _)))))))))))) lthi))), (Ne.symm (Nat.ne_of_lt (Nat.lt_trans (ltD (L + 1 + 1 + 1 + 1 + 1 + 1 + 1 + 1 + 1, o9) (.tail _ (.tail _ (.tail _ (.tail _ (.tail _ (.tail _ (.tail _ (.tail _ (.tail _ (.tail _ (.tail _ (.head _))))))))))))) lthi))), (Ne.symm (Nat.ne_of_lt (Nat.lt_trans (ltD (L + 1 + 1 + 1 + 1 + 1 + 1 + 1 + 1 + 1 + 1, o10) (.tail _ (.tail _ (.tail _ (.tail _ (.tail _ (.tail _ (.tail _ (.tail _ (.tail _ (.tail _ (.tail _ (.tail _ (.head _)))))))))))))) lthi))), (Ne.symm (Nat.ne_of_lt (Nat.lt_trans (ltD (L + 1 + 1 + 1 + 1 + 1 + 1 + 1 + 1 + 1 + 1 + 1, o11) (.tail _ (.tail _ (.tail _ (.tail _ (.tail _ (.tail _ (.tail _ (.tail _ (.tail _ (.tail _ (.tail _ (.tail _ (.tail _ (.head _))))))))))))))) lthi)))⟩, (List.forall_mem_cons.mpr ⟨⟨not5 (by show @Ne Nat (L + 1 + 1 + 1 + 1 + 1 + 1 + 1 + 1) (66); omega) (by show @Ne Nat (L + 1 + 1 + 1 + 1 + 1 + 1 + 1 + 1) (73); omega) (by show @Ne Nat (L + 1 + 1 + 1 + 1 + 1 + 1 + 1 + 1) (L + 1); omega) (by show @Ne Nat (L + 1 + 1 + 1 + 1 + 1 + 1 + 1 + 1) (L + 1 + 1); omega) (by show @Ne Nat (L + 1 + 1 + 1 + 1 + 1 + 1 + 1 + 1) (152); omega), (by show @Ne Nat (L + 1 + 1 + 1 + 1 + 1 + 1 + 1 + 1) (L + 1 + 1 + 1 + 1 + 1 + 1 + 1 + 1 + 1); omega), (by show @Ne Nat (L + 1 + 1 + 1 + 1 + 1 + 1 + 1 + 1) (L + 1 + 1 + 1 + 1 + 1 + 1 + 1 + 1 + 1 + 1); omega), (by show @Ne Nat (L + 1 + 1 + 1 + 1 + 1 + 1 + 1 + 1) (L + 1 + 1 + 1 + 1 + 1 + 1 + 1 + 1 + 1 + 1 + 1); omega)⟩, (List.forall_mem_cons.mpr ⟨⟨not5 (by show @Ne Nat (L + 1 + 1 + 1 + 1 + 1 + 1 + 1 + 1 + 1 + 1 + 1 + 1) (66); omega) (by show @Ne Nat (L + 1 + 1 + 1 + 1 + 1 + 1 + 1 + 1 + 1 + 1 + 1 + 1) (73); omega) (by show @Ne Nat (L + 1 + 1 + 1 + 1 + 1 + 1 + 1 + 1 + 1 + 1 + 1 + 1) (L + 1); omega) (by show @Ne Nat (L + 1 + 1 + 1 + 1 + 1 + 1 + 1 + 1 + 1 + 1 + 1 + 1) (L + 1 + 1); omega) (by show @Ne Nat (L + 1 + 1 + 1 + 1 + 1 + 1 + 1 + 1 + 1 + 1 + 1 + 1) (152); omega), (by show @Ne Nat (L + 1 + 1 + 1 + 1 + 1 + 1 + 1 + 1 + 1 + 1 + 1 + 1) (L + 1 + 1 + 1 + 1 + 1 + 1 + 1 + 1 + 1); omega), (by show @Ne Nat (L + 1 + 1 + 1 + 1 + 1 + 1 + 1 + 1 + 1 + 1 + 1 + 1) (L + 1 + 1 + 1 + 1 + 1 + 1 + 1 + 1 + 1 + 1); omega), (by show @Ne Nat (L + 1 + 1 + 1 + 1 + 1 + 1 + 1 + 1 + 1 + 1 + 1 + 1) (L + 1 + 1 + 1 + 1 + 1 + 1 + 1 + 1 + 1 + 1 + 1); omega)⟩, (List.forall_mem_cons.mpr ⟨⟨not5 (by show @Ne Nat (L + 1 + 1 + 1 + 1 + 1 + 1 + 1 + 1 + 1 + 1 + 1 + 1 + 1) (66); omega) (by show @Ne Nat (L + 1 + 1 + 1 + 1 + 1 + 1 + 1 + 1 + 1 + 1 + 1 + 1 + 1) (73); omega) (by show @Ne Nat (L + 1 + 1 + 1 + 1 + 1 + 1 + 1 + 1 + 1 + 1 + 1 + 1 + 1) (L + 1); omega) (by show @Ne Nat (L + 1 + 1 + 1 + 1 + 1 + 1 + 1 + 1 + 1 + 1 + 1 + 1 + 1) (L + 1 + 1); omega) (by show @Ne Nat (L + 1 + 1 + 1 + 1 + 1 + 1 + 1 + 1 + 1 + 1 + 1 + 1 + 1) (152); omega), (by show @Ne Nat (L + 1 + 1 + 1 + 1 + 1 + 1 + 1 + 1 + 1 + 1 + 1 + 1 + 1) (L + 1 + 1 + 1 + 1 + 1 + 1 + 1 + 1 + 1); omega), (by show @Ne Nat (L + 1 + 1 + 1 + 1 + 1 + 1 + 1 + 1 + 1 + 1 + 1 + 1 + 1) (L + 1 + 1 + 1 + 1 + 1 + 1 + 1 + 1 + 1 + 1); omega), (by show @Ne Nat (L + 1 + 1 + 1 + 1 + 1 + 1 + 1 + 1 + 1 + 1 + 1 + 1 + 1) (L + 1 + 1 + 1 + 1 + 1 + 1 + 1 + 1 + 1 + 1 + 1); omega)⟩, (fun q hq => nomatch hq)⟩)⟩)⟩)⟩)⟩)⟩)⟩)⟩)⟩)⟩)⟩), (List.forall_mem_cons.mpr ⟨not5 (by show @Ne Nat (L + 1 + 1 + 1 + 1 + 1 + 1 + 1 + 1 + 1) (66); omega) (by show @Ne Nat (L + 1 + 1 + 1 + 1 + 1 + 1 + 1 + 1 + 1) (73); omega) (by show @Ne Nat (L + 1 + 1 + 1 + 1 + 1 + 1 + 1 + 1 + 1) (L + 1); omega) (by show @Ne Nat (L + 1 + 1 + 1 + 1 + 1 + 1 + 1 + 1 + 1) (L + 1 + 1); omega) (by show @Ne Nat (L + 1 + 1 + 1 + 1 + 1 + 1 + 1 + 1 + 1) (152); omega), (List.forall_mem_cons.mpr ⟨not5 (by show @Ne Nat (L + 1 + 1 + 1 + 1 + 1 + 1 + 1 + 1 + 1 + 1) (66); omega) (by show @Ne Nat (L + 1 + 1 + 1 + 1 + 1 + 1 + 1 + 1 + 1 + 1) (73); omega) (by show @Ne Nat (L + 1 + 1 + 1 + 1 + 1 + 1 + 1 + 1 + 1 + 1) (L + 1); omega) (by show @Ne Nat (L + 1 + 1 + 1 + 1 + 1 + 1 + 1 + 1 + 1 + 1) (L + 1 + 1); omega) (by show @Ne Nat (L + 1 + 1 + 1 + 1 + 1 + 1 + 1 + 1 + 1 + 1) (152); omega), (List.forall_mem_cons.mpr ⟨not5 (by show @Ne Nat (L + 1 + 1 + 1 + 1 + 1 + 1 + 1 + 1 + 1 + 1 + 1) (66); omega) (by show @Ne Nat (L + 1 + 1 + 1 + 1 + 1 + 1 + 1 + 1 + 1 + 1 + 1) (73); omega) (by show @Ne Nat (L + 1 + 1 + 1 + 1 + 1 + 1 + 1 + 1 + 1 + 1 + 1) (L + 1); omega) (by show @Ne Nat (L + 1 + 1 + 1 + 1 + 1 + 1 + 1 + 1 + 1 + 1 + 1) (L + 1 + 1); omega) (by show @Ne Nat (L + 1 + 1 + 1 + 1 + 1 + 1 + 1 + 1 + 1 + 1 + 1) (152); omega), fun q hq => nomatch hq⟩)⟩)⟩)⟩ (fun q hq => nomatch hq) ?hpure ?_
  case hpure => subst hzl; exact fun gone f l hg h1 h2 h3 h4 h5 h6 h7 => pure_law hz5 hk2 hzb gone f l hg h1 h2 h3 h4 h5 h6 h7
  intro h9 tk9 m9 news9 F9 N9 J9
  show wpAny _ _ (execs (((bodyOf (topStmt 22)).take 18).drop 14) _) _ _ _
  refine cutG fun Pc kc => ?_
  obtain ⟨lg, p1', p2', p5', c1', c2', oc1', oc2', o9', o10', o11', w9', w10', w11', hm9, rfl, -⟩ := J9
  refine kc ?_
  clear kc Pc
  have N9t : News g L h9 [(66, tabObj p1'), (73, tabObj p2'), (152, tabObj p5')] := newsS N9 (by walk_at "my s")
  replace N9 : News g L h9 [(L + 1 + 1 + 1 + 1, o4b), (L + 1 + 1 + 1 + 1 + 1, o5b), (L + 1 + 1 + 1 + 1 + 1 + 1, o6b), (L + 1 + 1 + 1 + 1 + 1 + 1 + 1, o7b), (Dn, listOf ys.toArray kn), (Dq, listOf [.int (portP zs size kinds) b0, .int (portP zs size kinds) b1, .int (portP zs size kinds) b2].toArray nq), (Dh, listOf [.str (headV 0) v1, .str (headV 1) v2, .str (headV 2) v3].toArray 0), (Di, listOf [.str (insV mark (Str.ofString (toString (portP zs size kinds))) 0) a0, .str (insV mark (Str.ofString (toString (portP zs size kinds))) 1) a1, .str (insV mark (Str.ofString (toString (portP zs size kinds))) 2) a2].toArray ni), (L + 1 + 1 + 1 + 1 + 1 + 1 + 1 + 1, o8b), (L + 1 + 1 + 1 + 1 + 1 + 1 + 1 + 1 + 1 + 1 + 1 + 1, o12), (L + 1 + 1 + 1 + 1 + 1 + 1 + 1 + 1 + 1 + 1 + 1 + 1 + 1, o13)] := news_sub N9 fun p hp => .tail _ (List.mem_append_right _ (.tail _ (.tail _ (.tail _ (List.mem_append_right _ hp)))))
  replace N9 : News g L h9 [(66, tabObj p1'), (73, tabObj p2'), (152, tabObj p5'), (L + 1 + 1 + 1 + 1, o4b), (L + 1 + 1 + 1 + 1 + 1, o5b), (L + 1 + 1 + 1 + 1 + 1 + 1, o6b), (L + 1 + 1 + 1 + 1 + 1 + 1 + 1, o7b), (Dn, listOf ys.toArray kn), (Dq, listOf [.int (portP zs size kinds) b0, .int (portP zs size kinds) b1, .int (portP zs size kinds) b2].toArray nq), (Dh, listOf [.str (headV 0) v1, .str (headV 1) v2, .str (headV 2) v3].toArray 0), (Di, listOf [.str (insV mark (Str.ofString (toString (portP zs size kinds))) 0) a0, .str (insV mark (Str.ofString (toString (portP zs size kinds))) 1) a1, .str (insV mark (Str.ofString (toString (portP zs size kinds))) 2) a2].toArray ni), (L + 1 + 1 + 1 + 1 + 1 + 1 + 1 + 1, o8b), (L + 1 + 1 + 1 + 1 + 1 + 1 + 1 + 1 + 1 + 1 + 1 + 1, o12), (L + 1 + 1 + 1 + 1 + 1 + 1 + 1 + 1 + 1 + 1 + 1 + 1 + 1, o13)] := fun p hp => (List.mem_append.mp (show p ∈ [(66, tabObj p1'), (73, tabObj p2'), (152, tabObj p5')] ++ [(L + 1 + 1 + 1 + 1, o4b), (L + 1 + 1 + 1 + 1 + 1, o5b), (L + 1 + 1 + 1 + 1 + 1 + 1, o6b), (L + 1 + 1 + 1 + 1 + 1 + 1 + 1, o7b), (Dn, listOf ys.toArray kn), (Dq, listOf [.int (portP zs size kinds) b0, .int (portP zs size kinds) b1, .int (portP zs size kinds) b2].toArray nq), (Dh, listOf [.str (headV 0) v1, .str (headV 1) v2, .str (headV 2) v3].toArray 0), (Di, listOf [.str (insV mark (Str.ofString (toString (portP zs size kinds))) 0) a0, .str (insV mark (Str.ofString (toString (portP zs size kinds))) 1) a1, .str (insV mark (Str.ofString (toString (portP zs size kinds))) 2) a2].toArray ni), (L + 1 + 1 + 1 + 1 + 1 + 1 + 1 + 1, o8b), (L + 1 + 1 + 1 + 1 + 1 + 1 + 1 + 1 + 1 + 1 + 1 + 1, o12), (L + 1 + 1 + 1 + 1 + 1 + 1 + 1 + 1 + 1 + 1 + 1 + 1 + 1, o13)] from hp)).elim (N9t p) (N9 p)
  obtain ⟨k, rfl⟩ := Int.eq_ofNat_of_zero_le hd0
  have hk3 : k < 3 := by omega
  obtain ⟨th, hth⟩ := head_at (v1 := v1) (v2 := v2) (v3 := v3) hk3
  obtain ⟨ti, hti⟩ := ins_at (mark := mark) (t := Str.ofString (toString (portP zs size kinds))) (a0 := a0) (a1 := a1) (a2 := a2) hk3
  refine execs_seg (l := (bodyOf (topStmt 22)).take 18) (i := 14) (j := 17) (by decide) ?_
  rw [tk18 (by decide)]
  refine lawS9 _ _ _ m9 [(66, tabObj p1'), (73, tabObj p2'), (152, tabObj p5')] Dh Di 0 ni _ _ o8b o12 o13 mark (headV k) (insV mark (Str.ofString (toString (portP zs size kinds))) k) (k : Int) (portP zs size kinds) s7 s8 s6 th ti none none B X T C C2 C3 hd9 hu9 F9 (news_pick N9 [9, 10, 11, 12, 13, 0, 1, 2]) e8b e12 e13 hd0 hd3 hth hti (mark_two hmk).2.2 (mark_two hmk).2.1 (head_len k) (ins_len hmk hp0 hp60) hp0 hp60 (len_num hp0 hp60) (neC (by show @Ne Nat (66) (L + 1 + 1 + 1 + 1 + 1 + 1 + 1 + 1 + 1 + 1 + 1 + 1); k_ne) (neC (by show @Ne Nat (73) (L + 1 + 1 + 1 + 1 + 1 + 1 + 1 + 1 + 1 + 1 + 1 + 1); k_ne) (neC (by show @Ne Nat (152) (L + 1 + 1 + 1 + 1 + 1 + 1 + 1 + 1 + 1 + 1 + 1 + 1); k_ne) ne0))) (neC (by show @Ne Nat (66) (L + 1 + 1 + 1 + 1 + 1 + 1 + 1 + 1 + 1 + 1 + 1 + 1 + 1); k_ne) (neC (by show @Ne Nat (73) (L + 1 + 1 + 1 + 1 + 1 + 1 + 1 + 1 + 1 + 1 + 1 + 1 + 1); k_ne) (neC (by show @Ne Nat (152) (L + 1 + 1 + 1 + 1 + 1 + 1 + 1 + 1 + 1 + 1 + 1 + 1 + 1); k_ne) ne0))) (ltD (L + 1 + 1 + 1 + 1 + 1 + 1 + 1 + 1 + 1 + 1 + 1 + 1 + 1, o13) (.tail _ (.tail _ (.tail _ (.tail _ (.tail _ (.tail _ (.tail _ (.tail _ (.tail _ (.tail _ (.tail _ (.tail _ (.tail _ (.tail _ (.tail _ (.head _))))))))))))))))) (Nat.lt_trans (ltD (L + 1 + 1 + 1 + 1 + 1 + 1 + 1 + 1 + 1 + 1 + 1 + 1 + 1, o13) (.tail _ (.tail _ (.tail _ (.tail _ (.tail _ (.tail _ (.tail _ (.tail _ (.tail _ (.tail _ (.tail _ (.tail _ (.tail _ (.tail _ (.tail _ (.head _))))))))))))))))) lthi) ((hm9 _ (by decide +kernel)).trans (by first | rfl | exact if_pos rfl)) ((hm9 _ (by decide +kernel)).trans (by first | rfl | exact if_pos rfl)) ((hm9 _ (by decide +kernel)).trans (by first | rfl | exact if_pos rfl)) ((hm9 _ (by decide +kernel)).trans (by first | rfl | exact if_pos rfl)) l1 ?_
  intro h10 tk10 Dx nx wx o12' o13' F10 N10 hwx e12' e13' ltx
  show wpAny _ _ (execs (((bodyOf (topStmt 22)).take 18).drop 17) _) _ _ _
  refine execs_seg (l := (bodyOf (topStmt 22)).take 18) (i := 17) (j := 18) (by decide) ?_
  rw [tk18 (by decide)]
  refine lawS10 _ _ _ _ [(L + 1 + 1 + 1 + 1 + 1 + 1 + 1 + 1, o8b), (L + 1 + 1 + 1 + 1 + 1 + 1 + 1 + 1 + 1 + 1 + 1 + 1, o12'), (66, tabObj p1'), (73, tabObj p2'), (152, tabObj p5')] Dx nx wx _ o13' B X T C C2 C3 hd9 hu9 F10 (news_pick N10 [0, 5, 3, 4, 6, 7, 8]) e13' hwx odd_len (fun i hi => odd_rep hk3 hmk hp0 hp60 hi) (fun i hi => odd_ok hk3 hmk hp0 hp60 hi) (ltx (L + 1 + 1 + 1 + 1 + 1 + 1 + 1 + 1 + 1 + 1 + 1 + 1 + 1, o13) (.tail _ (.tail _ (.tail _ (.tail _ (.head _)))))) l1 ?_
  intro h11 tk11 F11 N11
  show wpAny _ _ (execs (((bodyOf (topStmt 22)).take 18).drop 18) _) _ _ _
  rw [List.drop_of_length_le (by rw [List.length_take]; exact Nat.min_le_left _ _)]
  refine wpAny_execs_nil ?_
  exact ret h11 tk11 _ o8b o12' k mark _ _ p1' p2' p5' hk3 hmk F11 (news_sub N11 fun p hp => .tail _ (.tail _ hp)) e8b e12'
theorem lawAll : ∀ (w : World) (mean : ExcName → Option Value) (mg mb : Str → Option Value) (loose : List Str) (dp un : Nat) (gd : Option (List Code)) (L a : Addr) (ccd : Value) (A₀ : Around) (g : Heap), LawQ w mean mg mb loose dp un gd L a ccd A₀ g := LC.all lawBody
end
section
open _root_.PySem _root_.PySem.W _root_.PyProof.Rows _root_.PySem.Builtin _root_.PySem.Builtin.Str _root_.PySem.StrLaws
/-- the reading of a reply, with any last step -/
noncomputable def portW (f : Option Str → Nat × Int) (r : Str) : Nat × Int :=
  if (Txt.slice r none (some 3) != Str.ofString "229") = true then (0, 0) else
  if Txt.find r (Str.ofString "(") < 0 then (1, 0) else
  if pRt r < 0 then (1, 0) else
  if (pSep r != Txt.item r (pRt r - 1)) = true then (1, 0) else
  if (pParts r).length ≠ 5 then (1, 0) else f (pParts r)[3]?
noncomputable def portRW (f : Option Str → Nat × Int) (c : Nat × List Nat) : Nat × Int := if c.1 = 0 then (0, 0) else if c.1 = 1 then (1, 0) else f (some ⟨c.2.toArray⟩)
theorem port_W (f : Option Str → Nat × Int) (x : Str) (h3 : 3 ≤ x.cps.toList.length) (hb : ∀ d ∈ x.cps.toList, d < 256) : portW f x = portRW f (portL x.cps.toList) := by
  have hl : x.cps.toList.length = x.length := Array.length_toList
  have e229 : Str.ofString "229" = ⟨[50, 50, 57].toArray⟩ := by decide +kernel
  have e40 : Str.ofString "(" = ⟨#[40]⟩ := by decide +kernel
  have e41 : Str.ofString ")" = ⟨#[41]⟩ := by decide +kernel
  unfold portW pParts pRt pSep
  rw [slice3_L x h3, e229, mk_ne, e40, e41, find_L]
  unfold portL
  by_cases c1 : x.cps.toList.take 3 = [50, 50, 57]
  · rw [if_neg (show ¬ (decide (x.cps.toList.take 3 ≠ [50, 50, 57]) = true) by rw [decide_eq_true_eq]; exact fun q => q c1), if_neg (show ¬ (x.cps.toList.take 3 ≠ [50, 50, 57]) from fun q => q c1)]
    cases e1 : ixL 40 x.cps.toList 0 with
    | none =>
      rfl
    | some l =>
      dsimp only
      refine cutG fun Pc kc => ?_
      obtain ⟨j, q1, q2, q3⟩ := ix_some e1
      refine kc ?_
      clear kc Pc
      have hlt : l < x.cps.toList.length := by
        obtain ⟨h, _⟩ := List.getElem?_eq_some_iff.mp q2; omega
      rw [if_neg (show ¬ ((l : Int) < 0) by omega), show (l : Int) + 1 = ((l + 1 : Nat) : Int) by omega, find3_L x 41 (l + 1) (by omega)]
      cases e2 : ixL 41 (x.cps.toList.drop (l + 1)) (l + 1) with
      | none => rfl
      | some r =>
        dsimp only
        refine cutG fun Pc kc => ?_
        obtain ⟨j2, p1, p2, p3⟩ := ix_some e2
        refine kc ?_
        clear kc Pc
        rw [List.getElem?_drop] at p2
        have hr : r < x.cps.toList.length := by
          obtain ⟨h, _⟩ := List.getElem?_eq_some_iff.mp p2; omega
        rw [if_neg (show ¬ ((r : Int) < 0) by omega), item_L x (l + 1) (by omega), show (r : Int) - 1 = ((r - 1 : Nat) : Int) by omega, item_L x (r - 1) (by omega)]
        rw [mk1_ne]
        by_cases c2 : x.cps.toList.getD (l + 1) 0 = x.cps.toList.getD (r - 1) 0
        · rw [if_neg (dec_pos c2), if_neg (show ¬ (x.cps.toList.getD (l + 1) 0 ≠ x.cps.toList.getD (r - 1) 0) from fun q => q c2), slice_L x (l + 1) r (by omega) (by omega)]
          have hlr : l + 1 < r := by
            rcases Nat.lt_or_ge (l + 1) r with h | h
            · exact h
            · exfalso
              have hr0 : r = l + 1 := by omega
              have g1 : x.cps.toList[l]? = some 40 := by rw [← q2]; congr 1; omega
              have g2 : x.cps.toList[l + 1]? = some 41 := by rw [← p2]; congr 1; omega
              rw [hr0, Nat.add_sub_cancel, List.getD_eq_getElem?_getD, List.getD_eq_getElem?_getD, g1, g2] at c2
              exact absurd c2 (by decide)
          have hne : ((x.cps.toList.drop (l + 1)).take (r - (l + 1))) ≠ [] := by
            intro q
            have := congrArg List.length q
            rw [List.length_take, List.length_drop, List.length_nil] at this
            omega
          have hc : x.cps.toList.getD (l + 1) 0 < 256 := by
            rw [List.getD_eq_getElem?_getD, List.getElem?_eq_getElem (show l + 1 < x.cps.toList.length by omega)]
            exact hb _ (List.getElem_mem _)
          have hsp := split_L ⟨((x.cps.toList.drop (l + 1)).take (r - (l + 1))).toArray⟩ (x.cps.toList.getD (l + 1) 0) hc hne
          generalize Txt.split ⟨((x.cps.toList.drop (l + 1)).take (r - (l + 1))).toArray⟩ ⟨#[x.cps.toList.getD (l + 1) 0]⟩ = ps at hsp
          rw [show (({ cps := ((x.cps.toList.drop (l + 1)).take (r - (l + 1))).toArray } : Str).cps.toList) = (x.cps.toList.drop (l + 1)).take (r - (l + 1)) from rfl] at hsp
          rw [← hsp, List.length_map]
          by_cases c3 : ps.length = 5
          · rw [if_neg (show ¬ (ps.length ≠ 5) from fun q => q c3), if_neg (show ¬ (ps.length ≠ 5) from fun q => q c3)]
            have h3p : 3 < ps.length := by omega
            rw [List.getElem?_eq_getElem h3p]
            unfold portRW
            rw [if_neg (show ¬ (2 = 0) by decide), if_neg (show ¬ (2 = 1) by decide)]
            rw [List.getD_eq_getElem?_getD, List.getElem?_map, List.getElem?_eq_getElem h3p]
            rfl
          · rw [if_pos (show ps.length ≠ 5 from c3), if_pos (show ps.length ≠ 5 from c3)]; rfl
        · rw [if_pos (dec_neg c2), if_pos (show x.cps.toList.getD (l + 1) 0 ≠ x.cps.toList.getD (r - 1) 0 from c2)]; rfl
  · rw [if_pos (dec_neg c1), if_pos (show x.cps.toList.take 3 ≠ [50, 50, 57] from c1)]
    rfl
noncomputable def badEnd (y : Str) : Option Str → Nat × Int
  | some x => if x = y then (7, 0) else (8, 0)
  | none => (8, 0)
/-- a reply that is refused at the reading of its number -/
structure BadRep (r y : Str) : Prop where
  len : r.length ≤ 500
  hb : HB r
  c1 : (Txt.slice r none (some 3) != Str.ofString "229") = false
  c2 : ¬ Txt.find r (Str.ofString "(") < 0
  c3 : ¬ pRt r < 0
  c4 : (pSep r != Txt.item r (pRt r - 1)) = false
  c5 : (pParts r).length = 5
  c6 : (pParts r)[3]? = some y
theorem bad_of (r y : Str) (h : portW (badEnd y) r = (7, 0)) (hl : r.length ≤ 500) (hb : HB r) : BadRep r y := by
  unfold portW at h
  by_cases c1 : (Txt.slice r none (some 3) != Str.ofString "229") = true
  · rw [if_pos c1] at h; exact absurd (congrArg Prod.fst h) (by decide)
  rw [if_neg c1] at h
  by_cases c2 : Txt.find r (Str.ofString "(") < 0
  · rw [if_pos c2] at h; exact absurd (congrArg Prod.fst h) (by decide)
  rw [if_neg c2] at h
  by_cases c3 : pRt r < 0
  · rw [if_pos c3] at h; exact absurd (congrArg Prod.fst h) (by decide)
  rw [if_neg c3] at h
  by_cases c4 : (pSep r != Txt.item r (pRt r - 1)) = true
  · rw [if_pos c4] at h; exact absurd (congrArg Prod.fst h) (by decide)
  rw [if_neg c4] at h
  by_cases c5 : (pParts r).length ≠ 5
  · rw [if_pos c5] at h; exact absurd (congrArg Prod.fst h) (by decide)
  rw [if_neg c5] at h
  refine ⟨hl, hb, by simpa using c1, c2, c3, by simpa using c4, by omega, ?_⟩
  unfold badEnd at h
  cases e : (pParts r)[3]? with
  | none => rw [e] at h; exact absurd (show (8 : Nat) = 7 from congrArg Prod.fst h) (by decide)
  | some x =>
    rw [e] at h
    dsimp only at h
    by_cases q : x = y
    · rw [q]
    · rw [if_neg q] at h; exact absurd (show (8 : Nat) = 7 from congrArg Prod.fst h) (by decide)
theorem bad_rep (r : Str) (l t : List Nat) (e : r.cps.toList = l) (h : (decide (3 ≤ l.length) && (decide (l.length ≤ 500) && (l.all (fun d => decide (d < 256)) && decide (portL l = (2, t))))) = true) : BadRep r ⟨t.toArray⟩ := by
  simp only [Bool.and_eq_true, decide_eq_true_eq] at h
  refine cutG fun Pc kc => ?_
  obtain ⟨h1, h2, h3, h4⟩ := h
  refine kc ?_
  clear kc Pc
  subst e
  have hl : r.cps.toList.length = r.length := Array.length_toList
  have hd : ∀ d ∈ r.cps.toList, d < 256 := fun d hd => of_decide_eq_true (List.all_eq_true.mp h3 d hd)
  refine bad_of _ _ ?_ (by omega) (port_L r h1 hd).2
  rw [port_W (badEnd ⟨t.toArray⟩) r h1 hd, h4]
  unfold portRW badEnd
  rw [if_neg (show ¬ (2 = 0) by decide), if_neg (show ¬ (2 = 1) by decide)]
  dsimp only
  rw [if_pos rfl]
/-- the two last replies of the law -/
noncomputable def wordV : Nat → Str
  | 0 => Str.ofString "x"
  | _ => Str.ofString ""
noncomputable def wordL : Nat → List Nat
  | 0 => [120]
  | _ => []
theorem word_L : ∀ i, i < 2 → wordV i = ⟨(wordL i).toArray⟩ := by decide +kernel
theorem word_no : ∀ i, i < 2 → PySem.intText? (wordV i) = none ∧ (reprText (wordV i)).length ≤ 10000 ∧ (wordV i).length ≤ 640 := by decide +kernel
noncomputable def badB : Bool := (List.range 3).all fun k => markL.all fun m => (List.range 2).all fun i => (fun l => decide (3 ≤ l.length) && (decide (l.length ≤ 500) && (l.all (fun d => decide (d < 256)) && decide (portL l = (2, wordL i))))) (headL k ++ (m ++ m ++ m) ++ wordL i ++ m ++ [41])
theorem badB_ok : badB = true := by decide +kernel
theorem rep_bad {k : Nat} (hk : k < 3) {mark : Str} (hm : mark = Str.ofString "|" ∨ mark = Str.ofString "!" ∨ mark = Str.ofString ";" ∨ mark = Str.ofString "~") {i : Nat} (hi : i < 2) :
    BadRep (headV k ++ (mark ++ mark ++ mark) ++ wordV i ++ mark ++ Str.ofString ")") (wordV i) := by
  have hml : mark.cps.toList ∈ markL := by rcases hm with rfl | rfl | rfl | rfl <;> decide +kernel
  have h1 := List.all_eq_true.mp (List.all_eq_true.mp (List.all_eq_true.mp badB_ok k (List.mem_range.mpr hk)) _ hml) i (List.mem_range.mpr hi)
  rw [word_L i hi]
  refine bad_rep _ _ (wordL i) ?_ h1
  rw [toL_app, toL_app, toL_app, toL_app, toL_app, toL_app, head_L k hk, show (Str.ofString ")").cps.toList = [41] by decide +kernel]
end
section
open _root_.PySem _root_.PySem.W _root_.PyProof.Rows _root_.PySem.Calls _root_.PySem.Spec
section
variable {prog : Program} {w : World} {A₀ A : Around} {s : Shared} {base h₀ : Heap} {L : Addr} {m : Str → Option Value} {env : Env} {news : List (Addr × Obj)} {K : Frag} {p : Program} {loose : List Str} {mean : ExcName → Option Value} {mg mb : Str → Option Value}
  {R : Result → Shared → Prop} {name qual : Str} {params : Arguments} {body : List Stmt} {scope : Scope} {dV kV doc pm cdv ct oc : Value} {an od : Option Addr} {osl : Array (Option Value)} {f : Addr} {args : Args} {binds : List (Str × Value)}
/-- the way into a function that may catch, from a single frame that may hold cells -/
theorem codeR_defX0 (B : Below A₀ base [] h₀) (F : Fr h₀ L s.heap m) (X₀ : K.In h₀) (N : News h₀ L s.heap news) (T : Top p loose mean mg mb h₀) (hA : A.frames = some [env]) (hf : env.frame = some L) (hke : env.scope.kind = .function)
    (ho : K.lookup f = some ⟨oc, od, .func (fnOf name qual params body scope dV kV doc pm an cdv ct), osl⟩) (hcd : codeIn K cdv qual = true) (hroom : A.depth < recursionLimit)
    (hbind : BindsTo s (fnOf name qual params body scope dV kV doc pm an cdv ct) args binds) (hloc : ∀ y ∈ binds, scope.names.lookup y.1 = some .local)
    (h : ∀ g L' h₁, Fr h₀ L g m → Fr g L' h₁ (fun y => binds.reverse.lookup y) → News g L' h₁ news → Below A base [env] g → K.In g → Top p loose mean mg mb g → KtsDicts ([env].filterMap (·.frame)) g →
      wpR (model prog w) (A.deeper (envOf qual scope L' f cdv)) (execs body (envOf qual scope L' f cdv))
        (fun fl s' => LeaveS0 ([env].filterMap (·.frame)) h₀ L m g R (match fl with | .ret v => v | _ => .none) s')
        (fun e s' => wpAny (model prog w) (A.deeper (envOf qual scope L' f cdv)) (leaving (envOf qual scope L' f cdv) e) (fun _ s'' => R (.error e) s'') (fun e' s'' => R (.error e') s'') s')
        { s with heap := h₁, toks := s.toks + binds.length })
    (hco : scope.isCoroutine = false) (hgen : scope.isGenerator = false) (hk : scope.kind = .function)
    (hcell : ∀ x ∈ scope.names, x.2 ≠ .cell) : codeR (model prog w) A (.call (.ref f) args) R s := by
  refine cutG fun Pc kc => ?_
  obtain ⟨FG, BG, st, _⟩ := groundX (R := R) B F N hA hf hke
  refine kc ?_
  clear kc Pc
  have hfs : [env].filterMap (·.frame) = [L] := by simp [hf]
  refine cutG fun Pc kc => ?_
  obtain ⟨oL, es, ep, hL, hLd, hLk, hLf⟩ := id FG.ns
  refine kc ?_
  clear kc Pc
  have D : KtsDicts ([env].filterMap (·.frame)) (hideAll s.heap (news.map (·.1))) := by
    rw [hfs]
    intro b hb
    rw [List.mem_singleton.mp hb]
    exact ⟨oL, es, ep, hL, hLd⟩
  have nL : h₀.get? L = none := kts_self F
  refine codeR_call_def (fd := fnOf name qual params body scope dV kV doc pm an cdv ct) (body := body) (binds := binds) hroom ((X₀.keeps F.keep) _ _ ho) rfl (T.nolimit.keeps F.keep) (codeRec_of (X₀.keeps F.keep) hcd) rfl hbind hcell hloc (fun h₁ hns hk₁ => ?_) hco hgen hk
  refine wpR_mono (h _ s.heap.objs.size h₁ FG ⟨hns, fun b o e => hk₁ b o (of_hideAll _ e), Nat.le_of_eq (hideAll_size _ _)⟩
    (fun q hq => ⟨hk₁ _ _ (N q hq).1, Nat.ne_of_lt (Heap.lt_size (N q hq).1), hideAll_none _ (List.mem_map_of_mem hq)⟩) BG (X₀.keeps st) (T.keeps st) D) (fun fl s' hl => ?_) fun _ _ y => y
  refine cutG fun Pc kc => ?_
  obtain ⟨g', L', m', news', T', F', N', k⟩ := hl
  refine kc ?_
  clear kc Pc
  obtain ⟨sl, hs⟩ := T'.frame L oL hL (by rw [hfs]; exact .head _)
  have hs' := F'.keep _ _ hs
  have ne : ∀ b o, h₀.get? b = some o → b ∉ [env].filterMap (·.frame) := fun b o e hb => by
    rw [hfs, List.mem_singleton] at hb
    rw [hb, nL] at e; cases e
  refine k ⟨⟨_, es, ep, hs', hLd, hLk, hLf⟩, fun b o e => F'.keep b o (T'.other b o (st b o e) (ne b o e)), F.above⟩ fun q hq => ⟨(N' q hq).1, fun e => ?_, ?_⟩
  · have := (N' q hq).2.2
    rw [e, hs] at this; cases this
  · cases e : h₀.get? q.1 with
    | none => rfl
    | some o =>
      have := (N' q hq).2.2
      rw [T'.other _ _ (st _ _ e) (ne _ _ e)] at this; cases this
/-- the way into a function that does not catch, from any frame -/
theorem codeR_def {outer : List Env} (B : Below A₀ base outer h₀) (F : Fr h₀ L s.heap m) (X₀ : K.In h₀) (N : News h₀ L s.heap news) (T : Top p loose mean mg mb h₀) (hA : A.frames = some (env :: outer)) (hf : env.frame = some L) (hke : env.scope.kind = .function)
    (ho : K.lookup f = some ⟨oc, od, .func (fnOf name qual params body scope dV kV doc pm an cdv ct), osl⟩) (hcd : codeIn K cdv qual = true) (hroom : A.depth < recursionLimit)
    (hbind : BindsTo s (fnOf name qual params body scope dV kV doc pm an cdv ct) args binds) (hloc : ∀ y ∈ binds, scope.names.lookup y.1 = some .local)
    (h : ∀ g L' h₁, Fr h₀ L g m → Fr g L' h₁ (fun y => binds.reverse.lookup y) → News g L' h₁ news → Below A base (env :: outer) g → K.In g → Top p loose mean mg mb g →
      wpR (model prog w) (A.deeper (envOf qual scope L' f cdv)) (execs body (envOf qual scope L' f cdv))
        (fun fl s' => LeaveK h₀ L m g R (match fl with | .ret v => v | _ => .none) s')
        (fun e s' => wpAny (model prog w) (A.deeper (envOf qual scope L' f cdv)) (leaving (envOf qual scope L' f cdv) e) (fun _ s'' => R (.error e) s'') (fun e' s'' => R (.error e') s'') s')
        { s with heap := h₁, toks := s.toks + binds.length })
    (hco : scope.isCoroutine = false) (hgen : scope.isGenerator = false) (hk : scope.kind = .function)
    (hcell : ∀ x ∈ scope.names, x.2 ≠ .cell) : codeR (model prog w) A (.call (.ref f) args) R s := by
  refine cutG fun Pc kc => ?_
  obtain ⟨FG, BG, st, lv⟩ := groundX (R := R) B F N hA hf hke
  refine kc ?_
  clear kc Pc
  refine codeR_call_def (fd := fnOf name qual params body scope dV kV doc pm an cdv ct) (body := body) (binds := binds) hroom ((X₀.keeps F.keep) _ _ ho) rfl (T.nolimit.keeps F.keep) (codeRec_of (X₀.keeps F.keep) hcd) rfl hbind hcell hloc (fun h₁ hns hk₁ => ?_) hco hgen hk
  exact wpR_mono (h _ s.heap.objs.size h₁ FG ⟨hns, fun b o e => hk₁ b o (of_hideAll _ e), Nat.le_of_eq (hideAll_size _ _)⟩
    (fun p hp => ⟨hk₁ _ _ (N p hp).1, Nat.ne_of_lt (Heap.lt_size (N p hp).1), hideAll_none _ (List.mem_map_of_mem hp)⟩) BG (X₀.keeps st) (T.keeps st)) (fun fl s' hl => lv _ _ hl) fun _ _ y => y
theorem wpR_execs_app {M : Model} {E : Value → Shared → Prop} {env : Env} {xs ys : List Stmt} {Q : Flow → Shared → Prop} (h : wpR M A (execs xs env) (fun fl s' => match fl with | .next => wpR M A (execs ys env) Q E s' | fl => Q fl s') E s) : wpR M A (execs (xs ++ ys) env) Q E s := fun G p hi hc => by
  refine execs_app0 (Sem.wp_mono M G _ (fun fl p' s' h2 => ?_) (fun _ _ _ h2 => h2) p s (h G p hi hc))
  cases fl with
  | next => exact h2 G p' hi hc
  | _ => exact h2
/-- an assignment whose value does not come to an end -/
theorem wpR_Assign_fail {M : Model} {E : Value → Shared → Prop} {env : Env} {x : Str} {px pos : Pos} {e : PySem.Expr} {Q : Flow → Shared → Prop} (hsw : swapsWithSole [.Name x px] e pos.line env = pure false)
    (h : wpR M A (eval e env) (fun _ _ => False) E s) : wpR M A (exec (.Assign [.Name x px] e pos) env) Q E s := by
  rw [arm_exec_Assign, hsw]
  refine wpR_bind (wpR_standAt (wpR_bind (wpR_pure ?_)))
  rw [if_neg (by decide)]
  exact wpR_fail h
end
end
section
open _root_.PySem _root_.PySem.W _root_.PyProof.Rows
theorem fresh_44 : True := by (w_top off); exact trivial
section
local macro_rules | `(tactic| walk_at "exec Raise some none") => `(tactic| refine stop_here ?_)
local macro_rules | `(tactic| k_room) => `(tactic| ((try simp only [depth_under_make, depth_under_kw, depth_in1, depth_deeper, depth_caller]); (try dsimp only); (show _ < recursionLimit); omega))
theorem wpR_callWith_K {M : Model} {A : Around} {E : Value → Shared → Prop} {s : Shared} {K : Frag} {g : Heap} {oc : Value} {od : Option Addr} {osl : Array (Option Value)} {pos : Pos} {a : Addr} {fd : FuncData} {env : Env} {e : PySem.Expr} {rest : List PySem.Expr} {Q : Value → Shared → Prop}
    (X : K.In g) (ho : K.lookup a = some ⟨oc, od, .func fd, osl⟩) (hs : (backTo pos (starEach (e :: rest) env)).any (·.1) = false) (hn : (backTo pos (starEach (e :: rest) env)).length ≤ 30)
    (h : wpAny M A (spliced (backTo pos (starEach (e :: rest) env))) (fun vs s₁ => (∀ b o, g.get? b = some o → s₁.heap.get? b = some o) ∧ wpR M A (call (.ref a) vs) Q E s₁) E s)
    (he : starEach (e :: rest) env = (false, eval e env) :: starEach rest env := by rfl) :
    wpR M A (callWith pos (.ref a) [] (backTo pos (starEach (e :: rest) env)) []) Q E s := by
  refine wpR_callWith_func (o := (⟨oc, od, .func fd, osl⟩ : Obj)) (fd := fd) hs hn ?_
  rw [he] at h ⊢
  exact Calls.evalArgs_plain (x := eval e env) (rest := backTo pos (starEach rest env)) (wpAny_mono h (fun x s₁ h₁ => ⟨⟨h₁.1 _ _ (X _ _ ho), rfl⟩, h₁.2⟩) fun _ _ x => x)
theorem wpR_callWith_typeK {M : Model} {A : Around} {E : Value → Shared → Prop} {s : Shared} {pos : Pos} {T : String} {env : Env} {e : PySem.Expr} {rest : List PySem.Expr} {Q : Value → Shared → Prop} (hs : (backTo pos (starEach (e :: rest) env)).any (·.1) = false)
    (h : wpAny M A (spliced (backTo pos (starEach (e :: rest) env))) (fun vs s₁ => wpR M A (call (.type T) vs) Q E s₁) E s)
    (he : starEach (e :: rest) env = (false, eval e env) :: starEach rest env := by rfl) :
    wpR M A (callWith pos (.type T) [] (backTo pos (starEach (e :: rest) env)) []) Q E s := by
  refine wpR_callWith_type hs ?_
  rw [he] at h ⊢
  exact Calls.evalArgs_plain (x := eval e env) (rest := backTo pos (starEach rest env)) h
theorem five_no {reply : Str} {l : List (Str × Tok)} (hs : l.map (fun x => x.1) = Txt.split (Txt.slice reply (some (Txt.find reply (Str.ofString "(") + 1)) (some (Txt.find3 reply (Str.ofString ")") (Txt.find reply (Str.ofString "(") + 1)))) (Txt.item reply (Txt.find reply (Str.ofString "(") + 1)))
    (c5 : (pParts reply).length = 5) (h : ¬ (l.length : Int) = 5) : False := by
  have e : pParts reply = l.map (fun x => x.1) := hs.symm
  rw [e, List.length_map] at c5
  exact h (by rw [c5]; rfl)
theorem word_is {reply y z : Str} {l : List (Str × Tok)} (hs : l.map (fun x => x.1) = Txt.split (Txt.slice reply (some (Txt.find reply (Str.ofString "(") + 1)) (some (Txt.find3 reply (Str.ofString ")") (Txt.find reply (Str.ofString "(") + 1)))) (Txt.item reply (Txt.find reply (Str.ofString "(") + 1)))
    (c6 : (pParts reply)[3]? = some y) (h : (l.map (fun x => x.1))[Int.toNat 3]? = some z) : z = y := by
  have e : pParts reply = l.map (fun x => x.1) := hs.symm
  rw [e] at c6
  exact Option.some.inj (h.symm.trans c6)
theorem raised_sub {base G : Heap} {l : List Env} {e : Addr} {cls : Value} {news nw : List (Addr × Obj)} {h : Heap} (R : RaisedSN base G l e cls news h) (hs : ∀ q ∈ nw, q ∈ news) : RaisedSN base G l e cls nw h := by
  refine cutG fun Pc kc => ?_
  obtain ⟨B, a0, h1, h2, h3, h4⟩ := R
  refine kc ?_
  clear kc Pc
  exact ⟨B, a0, h1, h2, fun q hq => h3 q (hs q hq), h4⟩
theorem portBad {w : World} {mean : ExcName → Option Value} {mg mb : Str → Option Value} {loose : List Str} {dp un : Nat} {gd : Option (List Code)} {cn : Str} {cs : Scope} {a : Addr} {ccd : Value} {cl : List (Str × Addr)} {A₀ : Around} {h₀ : Heap} {L : Addr} {m : Str → Option Value} {s : Shared} {Q E : Value → Shared → Prop}
   {news : List (Addr × Obj)} {reply y : Str} {t1 : Tok}
   (B : Below A₀ h₀ [] h₀) (F : Fr h₀ L s.heap m) (X : (hd.heap_1 w.params).In h₀) (T : Top topProg loose mean mg mb h₀) (hk : cs.kind = .function) (N : News h₀ L s.heap news) (hr : BadRep reply y) (hn : PySem.intText? y = none) (hy : y.length ≤ 640) (hx : (reprText y).length ≤ 10000) (hd : dp + 8 < recursionLimit) (hu : un + 80 < cLine)
   (ret : ∀ (h9 : Heap) (tk9 : Nat) (ta : Tok), Fr h₀ L h9 m → News h₀ L h9 news → Q (.str (Str.ofString "number") ta) { s with heap := h9, toks := tk9 }) :
   wpR (model PySem.Challenge.rw_ta0052_01.row.prog w) (ktrTop dp un gd cn cs L a ccd cl []) (call (.ref 150) [.str reply t1]) Q E s := by
  refine cutG fun Pc kc => ?_
  obtain ⟨hl, hb, c1, c2, c3, c4, c5, c6⟩ := hr
  refine kc ?_
  clear kc Pc
  unfold HB at hb
  unfold pRt at c3 c4
  unfold pSep at c4
  revert X T; k_fill; intro X T
  refine wpR_call ?_
  refine' codeR_defX0 (binds := [(Str.ofString "reply", .str reply t1)]) B F X N T rfl rfl hk ?k6 ?k7 ?k8 ?k9 ?kB ?_ ?c2 ?c3 ?c4 ?c5
  case k6 => k_is
  case k7 => k_is
  case k9 => exact BindsTo.of_eq rfl
  case kB => exact locs rfl
  case c5 => decide
  case c2 => exact rfl
  case c3 => exact rfl
  case c4 => exact rfl
  case k8 => (show dp < recursionLimit; omega)
  intro g' L' h' FG' F' N' B' X' T' D'
  have T0' : KtsTurn ([envX cn cs L a ccd cl].filterMap (·.frame)) g' g' := KtsTurn.refl
  have F2 : Fr g' L' h' (fun y => List.lookup y [(Str.ofString "reply", .str reply t1)]) := F'
  clear F' N F
  dsimp only
  change wpR _ _ (execs (_ :: _) _) _ _ _
  refine wpR_execs_cons (wpR_Try (wpR_execs_cons (wpR_Return (wpR_mono (Q := fun _ _ => False) (E := fun e s9 => ∃ ea h9 tk9 G, e = .ref ea ∧ s9 = { s with heap := h9, toks := tk9 } ∧ Fr g' L' G (fun y => List.lookup y [(Str.ofString "reply", .str reply t1)]) ∧
    RaisedSN h₀ G [envOf (Str.ofString "_law_port") (scopeOf (topStmt 20)) L' 150 (.ref 149), envX cn cs L a ccd cl] ea (.type "ValueError") news h9 ∧ G.UpToSlots h9) (wpR_Call_Name ?call) (fun _ _ x => x.elim) ?after))))
  case call =>
    k_steps
    refine' wpR_callWith_K X' ?ho rfl (show (2 : Nat) ≤ 30 by decide) ?_
    case ho => k_is
    k_steps
    rename Fr _ _ _ _ => F9
    rename News _ _ _ _ => N9
    refine wpR_call ?_
    rename_i D9 _ _
    refine' codeR_def (binds := [(Str.ofString "resp", .str reply t1), (Str.ofString "peer", .ref D9)]) B' F9 X' N9 T' rfl rfl rfl ?k6 ?k7 ?k8 ?k9 ?kB ?_ ?c2 ?c3 ?c4 ?c5
    case k6 => k_is
    case k7 => k_is
    case k9 => exact BindsTo.of_eq rfl
    case kB => exact locs rfl
    case c5 => decide
    case c2 => exact rfl
    case c3 => exact rfl
    case c4 => exact rfl
    case k8 => k_room
    intro g2 L2 h2 FG2 F2' N2 B2 X2 T2
    have F3 : Fr g2 L2 h2 (fun y => List.lookup y [(Str.ofString "peer", .ref D9), (Str.ofString "resp", .str reply t1)]) := F2'
    clear F2' N9 F9
    dsimp only
    change wpR _ _ (execs ([_, _, _, _, _, _, _, _, _] ++ (_ :: _)) _) _ _ _
    refine wpR_execs_app (wpR_of ?_)
    k_unmd
    k_fold
    k_unmd
    k_steps
    · exact (five_no (by assumption) c5 (by assumption)).elim
    refine wpR_execs_cons (wpR_Assign_fail rfl (wpR_Call_Name ?_))
    k_steps
    refine wpR_callWith_typeK rfl ?_
    k_steps
    rename_i y9 t9 hy9
    obtain rfl := word_is (by assumption) c6 hy9
    refine int_bad_call rfl hy hx hn ?_
    intro h5 tk5 e5 hx5
    rename Fr _ _ _ _ => F9
    rename News _ _ _ _ => N9
    refine leave_newS B2 hx5 F9 N9 ?_
    intro h6 R6 R6' U6
    exact ⟨_, _, _, g2, rfl, rfl, FG2, raised_sub R6 fun q hq => .tail _ (.tail _ hq), U6⟩
  case after =>
    rintro e s9 ⟨ea, h9, tk9, G, rfl, rfl, FG9, R9, U9⟩
    k_steps
    rename Fr _ _ _ _ => F9
    rename News _ _ _ _ => N9
    exact ret _ _ _ F9 N9
end
end
section
open _root_.PySem _root_.PySem.W _root_.PyProof.Rows _root_.PySem.Calls _root_.PySem.Spec
section
variable {prog : Program} {w : World} {A : Around} {E : Value → Shared → Prop} {R : Result → Shared → Prop} {s : Shared} {h₀ : Heap} {L : Addr} {m : Str → Option Value} {env : Env}
theorem wpR_Compare1 {l r : PySem.Expr} {op : CmpOp} {pos : Pos} {Q : Value → Shared → Prop}
    (h : wpR (model prog w) A (eval l env) (fun a s₁ => wpAny (model prog w) A (eval r env) (fun b s₂ => wpAny (model prog w) A (compareOp op a b) Q E s₂) E s₁) E s)
    (hm : behindInMarks op r = false := by with_unfolding_all rfl) : wpR (model prog w) A (eval (.Compare l [op] [r] pos) env) Q E s := fun G p hi hc => by
  simp only [eval_Compare1, markedBehindIn_of_false hm, Sem.wp_bind', Sem.wp_holding, Sem.wp_cmd_standAt, Sem.wp_operate]
  exact Sem.wp_mono _ G _ (fun a p₁ s₁ h₁ => Sem.wp_mono _ G _ (fun b _ s₂ h₂ => h₂ G _ hi) (fun _ _ _ h' => h') _ _ (h₁ G p₁ hi)) (fun _ _ _ h' => h') _ _ (h G p hi hc)
theorem codeR_loop {M : Model} {c : Code} (hq : c.quiet = true) (I : Nat → Shared → Prop)
    (turn : ∀ n s, I n s → wpR M (A.under c) (M.den c) (fun fin s' => match fin with | .done f => R (.ok f) s' | .again c' => c' = c ∧ ∃ k, k < n ∧ I k s') (fun e s' => R (.error e) s') s)
    (n : Nat) (h : I n s) : codeR M A c R s := by
  induction n using Nat.strongRecOn generalizing s with
  | ind n ih =>
    refine codeR_of_tree (wpR_mono (turn n s h) (fun fin s' hf => ?_) fun _ _ h' => h')
    cases fin with
    | done f => exact hf
    | again c' => obtain ⟨rfl, k, hk, hI⟩ := hf; exact ⟨hq, ih k hk hI⟩
/-- the loop of a comprehension that never raises -/
theorem codeR_compLoop_list {elt target iter : PySem.Expr} {scope : Scope} {pos : Pos} {it acc : Value} (I : Nat → Shared → Prop)
    (turn : ∀ n s, I n s → wpAny (model prog w) A (pyNext it) (fun r s₁ => match r with
      | none => R (.ok .next) s₁
      | some v => wpAny (model prog w) A (assign target env v) (fun _ s₂ => wpR (model prog w) A (eval elt env) (fun x s₃ =>
          wpAny (model prog w) A (call (.builtin "list.append") [acc, x]) (fun _ s₄ => ∃ k, k < n ∧ I k s₄) (fun _ _ => False) s₃) (fun _ _ => False) s₂) (fun _ _ => False) s₁) (fun _ _ => False) s)
    (n : Nat) (h : I n s) (ht : ∀ v, letOwnedTupleGo target it v = pure () := by intro _; rfl) :
    codeR (model prog w) A (.compLoop (.ListComp elt [⟨target, iter, [], 0⟩] scope pos) 0 it acc env) R s := by
  refine codeR_loop rfl I (fun n s hI => ?_) n h
  show wpR _ A ((compTurn (.ListComp elt [⟨target, iter, [], 0⟩] scope pos) 0 it acc env).onRaise (fun x => do noteFrame x env; theTreesLotGoes x)) _ _ s
  refine wpR_onRaise (wpR_mono (E := fun _ _ => False) ?_ (fun _ _ q => q) fun _ _ f => f.elim)
  rw [compTurn_list1]
  refine wpR_bind (wpR_standAt (wpR_bind (wpR_of (wpAny_mono (turn n s hI) (fun r s₁ h₁ => ?_) fun _ _ h' => h'))))
  cases r with
  | none => exact wpR_pure h₁
  | some v =>
    refine wpR_bind (wpR_of (wpAny_of_eq (ht v) ?_))
    refine wpR_bind (wpR_of (wpAny_mono h₁ (fun _ s₂ h₂ => ?_) fun _ _ h' => h'))
    refine wpR_bind (wpR_bind (wpR_mono h₂ (fun x s₃ h₃ => ?_) fun _ _ h' => h'))
    exact wpR_bind (wpR_of (wpAny_mono h₃ (fun _ s₄ h₄ => wpR_pure (wpR_pure ⟨rfl, h₄⟩)) fun _ _ h' => h'))
theorem codeR_compStart_list {elt target iter : PySem.Expr} {scope : Scope} {pos : Pos} {it acc : Value}
    (h0 : codeR (model prog w) A (.compLoop (.ListComp elt [⟨target, iter, [], 0⟩] scope pos) 0 it acc env) R s)
    (h : wpAny (model prog w) A (pyIter it) (fun it' s' => codeR (model prog w) A (.compLoop (.ListComp elt [⟨target, iter, [], 0⟩] scope pos) 0 it' acc env) R s') (fun _ _ => False) s) :
    codeR (model prog w) A (.compStart (.ListComp elt [⟨target, iter, [], 0⟩] scope pos) 0 it acc env) R s := by
  refine codeR_of_tree ?_
  show wpR _ _ ((compStart (.ListComp elt [⟨target, iter, [], 0⟩] scope pos) 0 it acc env).onRaise (fun x => do noteFrame x env; standAt theWindowsPlace)) _ _ s
  refine wpR_onRaise (wpR_of (wpAny_mono (E := fun _ _ => False) ?_ (fun _ _ q => q) fun _ _ f => f.elim))
  unfold compStart
  show wpAny _ _ (ask >>= _) _ _ s
  refine wpAny_bind (wpAny_askSetting (wpAny_ite ?_))
  split
  · first
      | exact wpAny_bind (wpAny_pure (wpAny_pure (And.intro rfl h0)))
      | exact wpAny_pure (And.intro rfl h0)
  · first
      | exact wpAny_bind (wpAny_rule (wpAny_bind (wpAny_standAt (wpAny_bind (wpAny_mono h (fun it' s' h' => wpAny_pure (And.intro rfl h')) fun _ _ x => x)))))
      | (refine wpAny_bind (wpAny_rule ?_); show wpAny _ _ (standAt iter.pos >>= _) _ _ s; exact wpAny_bind (wpAny_standAt (wpAny_bind (wpAny_mono h (fun it' s' h' => wpAny_pure (And.intro rfl h')) fun _ _ x => x))))
/-- what the block of a comprehension hands on -/
noncomputable def compPostR (Q : Value → Shared → Prop) (acc : Value) (C : Addr) (r : Result) (s' : Shared) : Prop :=
  match r with
  | .ok _ => ∃ m, s'.heap.Ns C m ∧ ∀ h', Heap.SameBut C s'.heap h' → Q acc { s' with heap := h' }
  | .error _ => False
theorem wpR_comprehension {e : PySem.Expr} {scope : Scope} {pos : Pos} {newAcc first : Sem Value} {g : Comprehension} {gs : List Comprehension} {cl : List (Str × Addr)} {Q : Value → Shared → Prop}
    (hcl : clausesOf e = g :: gs) (hs : ∀ x, foldedSetIterable g.iter env x = pure x) (hclos : closureFor scope env = pure cl)
    (hkind : scope.kind = .function) (hnames : ∀ x ∈ scope.names, x.2 = .local → scope.names.lookup x.1 = some .local)
    (h : wpAny (model prog w) A first (fun x s₁ => wpAny (model prog w) A (pyIter x) (fun it s₂ => wpAny (model prog w) A newAcc (fun acc s₃ =>
      wpAny (model prog w) A (newFunctionEnv scope env.globals cl [] env.qual none .none (some env)) (fun cenv s₄ =>
        codeR (model prog w) A (.compStart e 0 it acc { cenv with scope := relabel scope env }) (compPostR Q acc cenv.locals) s₄) E s₃) E s₂) E s₁) E s) :
    wpR (model prog w) A (comprehension e scope env pos newAcc false first none) Q E s := by
  unfold comprehension
  rw [hclos, hcl]
  refine wpR_bind (wpR_of (wpAny_mono h (fun x s₁ h₁ => ?_) fun _ _ h' => h'))
  refine wpR_bind (wpR_standAt (wpR_bind (wpR_of (wpAny_of_eq (hs x) ?_))))
  refine wpR_bind (wpR_of (wpAny_holding (wpAny_mono h₁ (fun it s₂ h₂ => ?_) fun _ _ h' => h')))
  refine wpR_bind (wpR_of (wpAny_mono h₂ (fun acc s₃ h₃ => ?_) fun _ _ h' => h'))
  refine wpR_bind (wpR_pure (wpR_bind (wpR_of (wpAny_mono h₃ (fun cenv s₄ h₄ => ?_) fun _ _ h' => h'))))
  have hv : ∀ x ∈ (scope.names.filter fun x => (x.2 == .local || x.2 == .cell) && x.1 != (".0" : Str)).reverse, x.2 = .local →
      Env.kindOf { cenv with scope := relabel scope env } x.1 = some .local := fun x hx hl => lookup_relabel_local (hnames x (List.mem_filter.mp (List.mem_reverse.mp hx)).1 hl)
  refine wpR_holding (wpR_bind (wpR_attempt (wpR_holding (wpR_run (codeR_mono h₄ fun r s' hr => ?_)))))
  cases r with
  | ok f =>
    refine cutG fun Pc kc => ?_
    obtain ⟨m, hn, hr⟩ := hr
    refine kc ?_
    clear kc Pc
    exact wpR_bind (wpR_of (wpAny_holding (wpAny_comp_letGo (cenv := { cenv with scope := relabel scope env }) hkind _ s' m hv hn fun h' m' _ hs' => wpR_pure (hr h' hs'))))
  | error x => exact hr.elim
/-- one turn of a comprehension without tests, under the caller -/
noncomputable def TurnR (prog : Program) (w : World) (A : Around) (h₀ : Heap) (L : Addr) (m : Str → Option Value) (env : Env) (elt : PySem.Expr) (x : Str) (scope : Scope) (cl : List (Str × Addr)) (s : Shared) (nd R : List (Addr × Obj)) (n : Nat) (P : Nat → Value → Prop) (J : Nat → List Value → List (Addr × Obj) → Prop) : Prop :=
  ∀ i ys ex v I oI C oC D m₂ h tk, i < n → J i ys ex → P i v → LCg.NsObj oC m₂ → m₂ x = some v → Fr h₀ L h m → News h₀ L h ((I, oI) :: (C, oC) :: (D, LCg.lst ys) :: (nd ++ (ex ++ R))) →
    wpR (model prog w) A (eval elt (compEnvC scope cl C env)) (fun y s' => ∃ h' tk' ex', s' = { s with heap := h', toks := tk' } ∧ Fr h₀ L h' m ∧ News h₀ L h' ((I, oI) :: (C, oC) :: (D, LCg.lst ys) :: (nd ++ ((ex' ++ ex) ++ R))) ∧
      (∀ q ∈ ex', q.1 ≠ I ∧ q.1 ≠ C ∧ q.1 ≠ D) ∧ J (i + 1) (ys ++ [y]) (ex' ++ ex)) (fun _ _ => False) { s with heap := h, toks := tk }
end
section
variable {prog : Program} {w : World} {A : Around} {E : Value → Shared → Prop} {s : Shared} {h₀ : Heap} {L : Addr} {m : Str → Option Value} {env : Env}
theorem block_R {elt iter : PySem.Expr} {x : Str} {px : Pos} {scope : Scope} {cl : List (Str × Addr)} {pos : Pos} {s₂ : Shared} {I : Addr} {fp : List Addr} {n : Nat} {P : Nat → Value → Prop} {St : Nat → Heap → Prop} {nd R : List (Addr × Obj)} {J : Nat → List Value → List (Addr × Obj) → Prop} {RR : Value → Addr → Result → Shared → Prop}
    (W : Walks prog w A I fp [I] n P St) (hsz : n ≤ sizeLine) (hIo : ∀ i h, St i h → ∃ o, h.get? I = some o)
    (hSt : ∀ i h h' o nw, St i h → h.get? I = some o → h'.get? I = some o → (∀ b o, h₀.get? b = some o → h'.get? b = some o) → News h₀ L h' (nd ++ nw) → St i h')
    (hcell : ∀ y ∈ scope.names, y.2 ≠ .cell) (hkind : scope.kind = .function) (hx : scope.names.lookup x = some .local) (hst : St 0 s₂.heap) (hfp : ∀ b ∈ fp, b < s₂.heap.objs.size)
    (F : Fr h₀ L s₂.heap m) (N : News h₀ L s₂.heap (nd ++ R)) (hIL : L ≠ I) (hI₀ : h₀.get? I = none) (off : ∀ p ∈ nd ++ R, p.1 ≠ I)
    (J0 : J 0 [] []) (T : TurnR prog w A h₀ L m env elt x scope cl s₂ nd R n P J)
    (hRR : ∀ D C h tk m' ys ex, Fr h₀ L h m → News h₀ L h ((D, LCg.lst ys) :: (nd ++ (ex ++ R))) → (∀ q ∈ nd ++ (ex ++ R), q.1 ≠ D) → h.Ns C m' → h₀.get? C = none → h₀.get? D = none → C ≠ L → @LT.lt Nat _ L D → C ≠ D → (∀ p ∈ nd ++ (ex ++ R), p.1 ≠ C) → J n ys ex → RR (.ref D) C (.ok .next) { s₂ with heap := h, toks := tk }) :
    wpAny (model prog w) A (newList []) (fun acc s₃ => wpAny (model prog w) A (newFunctionEnv scope env.globals cl [] env.qual none .none (some env)) (fun cenv s₄ =>
      codeR (model prog w) A (.compStart (.ListComp elt [⟨.Name x px, iter, [], 0⟩] scope pos) 0 (.ref I) acc { cenv with scope := relabel scope env }) (RR acc cenv.locals) s₄) E s₃) E s₂ := by
  refine wpAny_newObj_type (wpAny_newFunctionEnv hcell (by intro y hy; simp at hy) (fun h₁ hns₁ hsb₁ => ?_) hkind)
  dsimp only at hns₁ hsb₁ ⊢
  generalize hH2 : s₂.heap.push { cls := .type "list", dict := none, data := .seq ([] : List Value).toArray } = H2 at hns₁ hsb₁ ⊢
  have zC : H2.objs.size = s₂.heap.objs.size + 1 := by rw [← hH2, Heap.size_push]
  have nDC : s₂.heap.objs.size ≠ H2.objs.size := by rw [zC]; exact Nat.ne_of_lt (Nat.lt_succ_self _)
  have low : ∀ b, b < s₂.heap.objs.size → b ≠ H2.objs.size ∧ b ≠ s₂.heap.objs.size := fun b hb => ⟨by rw [zC]; exact Nat.ne_of_lt (Nat.lt_succ_of_lt hb), Nat.ne_of_lt hb⟩
  have dF : s₂.heap.objs.size ∉ fp := fun hm => Nat.lt_irrefl _ (hfp _ hm)
  have cF : H2.objs.size ∉ fp := fun hm => by have := hfp _ hm; rw [zC] at this; exact Nat.lt_irrefl _ (Nat.lt_of_succ_lt this)
  have iLt : I < s₂.heap.objs.size := hfp I (W.sub I (List.mem_singleton.mpr rfl))
  have old : ∀ b o, s₂.heap.get? b = some o → h₁.get? b = some o := fun b o e => hsb₁.extBut b o (low b (Heap.lt_size e)).1 (Heap.get?_push_of_some _ (hH2 ▸ Heap.get?_push_of_some _ e))
  have acc0 : h₁.get? s₂.heap.objs.size = some (LCg.lst []) := hsb₁.extBut _ _ nDC (Heap.get?_push_of_some _ (hH2 ▸ Heap.get?_push_size _ rfl))
  have st₁ : St 0 h₁ := W.frame _ _ _ hst fun b _ o e => old b o e
  have none₀ : ∀ a, s₂.heap.objs.size ≤ a → h₀.get? a = none := fun a ha => by
    cases e : h₀.get? a with
    | none => rfl
    | some o' => exact absurd (Heap.lt_size (F.keep a o' e)) (Nat.not_lt.mpr ha)
  have d₀ : h₀.get? s₂.heap.objs.size = none := none₀ _ (Nat.le_refl _)
  have c₀ : h₀.get? H2.objs.size = none := none₀ _ (by rw [zC]; exact Nat.le_succ _)
  have lLt : L < s₂.heap.objs.size := F.ns.lt
  have nDL : s₂.heap.objs.size ≠ L := Ne.symm (low L lLt).2
  have nCL : H2.objs.size ≠ L := Ne.symm (low L lLt).1
  have nIC : I ≠ H2.objs.size := (low I iLt).1
  have nID : I ≠ s₂.heap.objs.size := (low I iLt).2
  let Off : List (Addr × Obj) → Prop := fun l => ∀ q ∈ l, q.1 ≠ I ∧ q.1 ≠ H2.objs.size ∧ q.1 ≠ s₂.heap.objs.size
  have off₀ : Off (nd ++ R) := fun q hq => ⟨off q hq, (low _ (Heap.lt_size (N q hq).1)).1, (low _ (Heap.lt_size (N q hq).1)).2⟩
  have loop : ∀ s₃ : Shared, s₃ = { s₂ with heap := h₁, toks := s₂.toks + ([] : List (Str × Value)).length } →
      codeR (model prog w) A (.compLoop (.ListComp elt [⟨.Name x px, iter, [], 0⟩] scope pos) 0 (.ref I) (.ref s₂.heap.objs.size) (compEnvC scope cl H2.objs.size env)) (RR (.ref s₂.heap.objs.size) H2.objs.size) s₃ := by
    rintro s₃ rfl
    refine codeR_compLoop_list
      (fun k s' => ∃ h' tk i ys m' ex, s' = { s₂ with heap := h', toks := tk } ∧ i ≤ n ∧ k = n + 1 - i ∧ ys.length ≤ i ∧ St i h' ∧ Fr h₀ L h' m ∧ h'.Ns H2.objs.size m' ∧ News h₀ L h' ((s₂.heap.objs.size, LCg.lst ys) :: (nd ++ (ex ++ R))) ∧ Off (nd ++ (ex ++ R)) ∧ J i ys ex) ?_ (n + 1)
      ⟨h₁, _, 0, [], _, [], rfl, Nat.zero_le _, rfl, Nat.le_refl _, st₁, F.keeps old, hns₁, fun p hp => ?_, off₀, J0⟩
    · rintro k s' ⟨h', tk, i, ys, m', ex, rfl, hi, rfl, hyl, st', F', hn', N', off', hJ⟩
      by_cases hlt : i < n
      · refine W.item i _ _ _ hlt st' fun v h₂ tk₂ hPv st₂ hk₂ => ?_
        refine wpAny_assign_Name (wpAny_storeName_local (lookup_relabel_local hx) (hn'.at' fun o e => hk₂ _ o (by simpa using Ne.symm nIC) e) (fun h₃ hn₃ hs₃ => ?_) (by simp [compEnvC, relabel, hkind]))
        have st₃ : St (i + 1) h₃ := W.frame _ _ _ st₂ fun b hb o e => hs₃.extBut b o (fun q => cF (by have q' : b = H2.objs.size := q; rw [← q']; exact hb)) e
        obtain ⟨oI, heI⟩ := hIo _ _ st₃
        refine cutG fun Pc kc => ?_
        obtain ⟨oC, heC, hoC⟩ := LCg.ns_obj hn₃
        refine kc ?_
        clear kc Pc
        have F₃ : Fr h₀ L h₃ m := (LCg.fr_but F' hk₂ hIL hI₀).change hs₃ nCL c₀
        have N₂ : News h₀ L h₂ ((s₂.heap.objs.size, LCg.lst ys) :: (nd ++ (ex ++ R))) := LCg.news_but N' hk₂ fun p hp => by
          rcases List.mem_cons.mp hp with rfl | hp
          · exact Ne.symm nID
          · exact (off' p hp).1
        have N₃ : News h₀ L h₃ ((I, oI) :: (H2.objs.size, oC) :: (s₂.heap.objs.size, LCg.lst ys) :: (nd ++ (ex ++ R))) := fun p hp => by
          rcases List.mem_cons.mp hp with rfl | hp
          · exact ⟨heI, Ne.symm hIL, hI₀⟩
          · rcases List.mem_cons.mp hp with rfl | hp
            · exact ⟨heC, nCL, c₀⟩
            · have z := N₂ p hp
              refine ⟨hs₃.extBut _ _ ?_ z.1, z.2⟩
              rcases List.mem_cons.mp hp with rfl | hp
              · exact nDC
              · exact (off' p hp).2.1
        refine wpR_mono (T i ys ex v I oI H2.objs.size oC s₂.heap.objs.size _ h₃ _ hlt hJ hPv hoC (by simp) F₃ N₃) (fun y s₅ h₅ => ?_) fun _ _ e => e
        refine cutG fun Pc kc => ?_
        obtain ⟨h₅, tk₅, ex', rfl, F₅, N₅, offx, hJ₅⟩ := h₅
        refine kc ?_
        clear kc Pc
        have zI := (N₅ (I, oI) List.mem_cons_self).1
        have zC' := (N₅ (H2.objs.size, oC) (List.mem_cons_of_mem _ List.mem_cons_self)).1
        have zD := (N₅ (s₂.heap.objs.size, LCg.lst ys) (List.mem_cons_of_mem _ (List.mem_cons_of_mem _ List.mem_cons_self))).1
        have N₆ : News h₀ L h₅ (nd ++ ((ex' ++ ex) ++ R)) := fun p hp => N₅ p (List.mem_cons_of_mem _ (List.mem_cons_of_mem _ (List.mem_cons_of_mem _ hp)))
        have st₅ : St (i + 1) h₅ := hSt _ _ _ _ ((ex' ++ ex) ++ R) st₃ heI zI F₅.keep N₆
        have off₅ : Off (nd ++ ((ex' ++ ex) ++ R)) := fun q hq => by
          rcases List.mem_append.mp hq with hq | hq
          · exact off' q (List.mem_append_left _ hq)
          · rcases List.mem_append.mp hq with hq | hq
            · rcases List.mem_append.mp hq with hq | hq
              · exact offx q hq
              · exact off' q (List.mem_append_right _ (List.mem_append_left _ hq))
            · exact off' q (List.mem_append_right _ (List.mem_append_right _ hq))
        refine append_at (hsz := by show ys.toArray.size ≤ sizeLine; rw [List.size_toArray]; omega) zD fun h₆ hs₆ hD₆ => ?_
        refine ⟨n + 1 - (i + 1), by omega, h₆, tk₅, i + 1, ys ++ [y], _, ex' ++ ex, rfl, hlt, rfl, by rw [List.length_append, List.length_singleton]; omega, W.frame _ _ _ st₅ fun b hb o e => hs₆.extBut b o (fun q => dF (q ▸ hb)) e, F₅.change hs₆ nDL d₀,
          (hoC.ns zC').sameBut hs₆ (Ne.symm nDC), fun p hp => ?_, off₅, hJ₅⟩
        rcases List.mem_cons.mp hp with rfl | hp
        · exact ⟨hD₆.trans (congrArg some (LCg.lst_snoc ys y)), nDL, d₀⟩
        · exact ⟨hs₆.extBut _ _ (off₅ p hp).2.2 (N₆ p hp).1, (N₆ p hp).2⟩
      · obtain rfl : i = n := Nat.le_antisymm hi (Nat.not_lt.mp hlt)
        refine W.done _ _ _ st' fun h₂ tk₂ hk₂ => ?_
        exact hRR _ _ h₂ tk₂ _ ys ex (LCg.fr_but F' hk₂ hIL hI₀) (LCg.news_but N' hk₂ fun p hp => by
          rcases List.mem_cons.mp hp with rfl | hp
          · exact Ne.symm nID
          · exact (off' p hp).1) (fun q hq => (off' q hq).2.2) (hn'.at' fun o e => hk₂ _ o (by simpa using Ne.symm nIC) e) c₀ d₀ nCL lLt (Ne.symm nDC) (fun p hp => (off' p hp).2.1) hJ
    · rcases List.mem_cons.mp hp with rfl | hp
      · exact ⟨acc0, nDL, d₀⟩
      · exact ⟨old _ _ (N p hp).1, (N p hp).2⟩
  exact codeR_compStart_list (loop _ rfl) (W.self 0 _ _ _ st₁ (loop _ rfl))
end
end
section
open _root_.PySem _root_.PySem.W _root_.PyProof.Rows
local macro_rules | `(tactic| walk_at "eval Name") => rowR `nameX_L "ax>rrrw"
local macro_rules | `(tactic| walk_at "subscriptTail Name Slice ref ref") => rowR `kmk_slice_ints "aalppsMr>utZ.....LI"
local macro_rules | `(tactic| walk_at "exec Assign cons ListComp") => `(tactic| refine stop_here ?_)
local macro_rules | `(tactic| walk_at "eval ListComp") => `(tactic| refine stop_here ?_)
section
open _root_.PySem _root_.PySem.W _root_.PyProof.Rows
theorem fresh_45 : True := by (w_top off); exact trivial
/-- a comprehension over a tuple of texts, under the caller -/
theorem compRT {prog : Program} {w : World} {A : Around} {E : Value → Shared → Prop} {s : Shared} {h₀ : Heap} {L : Addr} {m : Str → Option Value} {env : Env} {elt iter : PySem.Expr} {x : Str} {px : Pos} {scope : Scope} {cl : List (Str × Addr)} {pos : Pos} {Q : Value → Shared → Prop} (nd R : List (Addr × Obj)) (xs : List Str) (J : Nat → List Value → List (Addr × Obj) → Prop) (F₀ : Fr h₀ L s.heap m)
    (hh : A.handled = none) (hclos : closureFor scope env = pure cl) (hcell : ∀ y ∈ scope.names, y.2 ≠ .cell) (hkind : scope.kind = .function)
    (hnames : ∀ y ∈ scope.names, y.2 = .local → scope.names.lookup y.1 = some .local) (hx : scope.names.lookup x = some .local) (hn : xs.length ≤ 1000)
    (hit : wpAny (model prog w) A (eval iter env) (fun xv s₁ => Stop (∃ ax h' tk n itl, xv = .ref ax ∧ StrsAre itl xs ∧ Fr h₀ L h' m ∧ News h₀ L h' ((ax, { cls := .type "tuple", data := .seq itl.toArray n }) :: (nd ++ R)) ∧ s₁ = { s with heap := h', toks := tk })) E s)
    (J0 : J 0 [] []) (T : ∀ tp itl, StrsAre itl xs → TurnR prog w A h₀ L m env elt x scope cl s (tp :: nd) R xs.length (fun i v => itl[i]? = some v) J)
    (hQ : ∀ D ys ex h tk, J xs.length ys ex → Fr h₀ L h m → News h₀ L h ((D, listOf ys.toArray ys.length) :: (nd ++ (ex ++ R))) → (∀ q ∈ nd ++ (ex ++ R), q.1 ≠ D) → Q (.ref D) { s with heap := h, toks := tk })
    (hs : ∀ x, foldedSetIterable iter env x = pure x) :
    wpR (model prog w) A (eval (.ListComp elt [⟨.Name x px, iter, [], 0⟩] scope pos) env) Q E s := by
  rw [eval_ListComp]
  refine wpR_comprehension rfl hs hclos hkind hnames (wpAny_mono hit (fun xv s₁ h₁ => ?_) fun _ _ e => e)
  refine cutG fun Pc kc => ?_
  obtain ⟨ax, h', tk, n, itl, rfl, hI, F, N, rfl⟩ := h₁
  refine kc ?_
  clear kc Pc
  have hzl : itl.length = xs.length := hI.length
  have hl : h'.IsTuple ax itl.toArray := ⟨_, (N _ (.head _)).1, rfl, n, rfl⟩
  have hlt : ax < h'.objs.size := Heap.lt_size (N _ (.head _)).1
  refine wpAny_pyIter_tuple hl ?_
  have zsz : itl.toArray.size = xs.length := by rw [List.size_toArray]; exact hzl
  refine block_R (n := itl.toArray.size) (nd := (ax, { cls := .type "tuple", data := .seq itl.toArray n }) :: nd) (Walks.tuple hh h'.objs.size ax (Nat.ne_of_lt hlt) itl.toArray) (by rw [sizeLine_eq]; omega) (fun i h st => by obtain ⟨o, e, _⟩ := st.1; exact ⟨o, e⟩)
    (fun i h h2 o' nw st e e' k N2 => ⟨by obtain ⟨o9, q, r⟩ := st.1; rw [e] at q; cases q; exact ⟨o', e', r⟩, ⟨_, (N2 _ (.head _)).1, rfl, n, rfl⟩⟩) hcell hkind hx ⟨⟨_, Heap.get?_push_size _ rfl, rfl, rfl⟩, ⟨_, Heap.get?_push_of_some _ (N _ (.head _)).1, rfl, n, rfl⟩⟩ (fun b hb => ?_)
    (F.keeps fun _ _ e => Heap.get?_push_of_some _ e) (N.grown fun _ _ e => Heap.get?_push_of_some _ e) (Nat.ne_of_lt F.ns.lt) (next_is_new F) (fun p hp => Nat.ne_of_lt (Heap.lt_size (N p hp).1)) J0 (by
      intro i ys ex v I oI C oC D m₂ h tk hi hJ hv
      exact T _ itl hI i ys ex v I oI C oC D m₂ h tk (by omega) hJ (by have h9 : itl.toArray[i]? = some v := hv; rw [List.getElem?_toArray] at h9; exact h9)) ?_
  · show b < (h'.push _).objs.size
    rw [Heap.size_push]
    rcases List.mem_cons.mp hb with rfl | hb
    · exact Nat.lt_succ_self _
    · rw [List.mem_singleton.mp hb]; exact Nat.lt_succ_of_lt hlt
  · intro D C h tk m' ys ex F' N' o1 hn hC₀ hD₀ hCL hDL hCD offC hJ
    refine ⟨m', hn, fun h'' hs'' => hQ D ys ex h'' tk (zsz ▸ hJ) (F'.change hs'' hCL hC₀) (fun p hp => ?_) fun q hq => o1 q (List.mem_cons_of_mem _ hq)⟩
    have hp' : p ∈ (D, LCg.lst ys) :: ((ax, ({ cls := .type "tuple", data := .seq itl.toArray n } : Obj)) :: nd ++ (ex ++ R)) := by
      rcases List.mem_cons.mp hp with rfl | hp
      · exact .head _
      · exact .tail _ (.tail _ hp)
    refine ⟨hs''.extBut _ _ ?_ (N' p hp').1, (N' p hp').2⟩
    rcases List.mem_cons.mp hp with rfl | hp
    · exact Ne.symm hCD
    · exact offC p (.tail _ hp)
noncomputable def wordsV : List Str := [Str.ofString "x", Str.ofString ""]
theorem words_at {itl : List Value} (h : StrsAre itl wordsV) {i : Nat} (hi : i < 2) {v : Value} (hv : itl[i]? = some v) : ∃ t, v = .str (wordV i) t := by
  obtain ⟨t, rfl⟩ := sget h hv
  rcases (show i = 0 ∨ i = 1 by omega) with rfl | rfl <;> exact ⟨t, rfl⟩
theorem mark_three {mark : Str} (h : Mark4 mark) : Txt.mul mark 3 = mark ++ mark ++ mark ∧ (Txt.mul mark 3).length = 3 ∧ mark.length = 1 := by
  rcases h with rfl | rfl | rfl | rfl <;> decide +kernel
theorem word_le : ∀ i, i < 2 → (wordV i).length ≤ 1 := by decide +kernel
theorem headV_le : ∀ k, k < 3 → (headV k).length ≤ 20 := by decide +kernel
theorem num_lay : (PyData.list [.str (Str.ofString "number"), .str (Str.ofString "number")]).canLay0 = true := by
  rw [PyData.canLay0, PyData.canLayAll0, PyData.canLayAll0, PyData.canLayAll0, PyData.canLay0, show PyData.strOk (Str.ofString "number") = true by decide +kernel]; rfl
theorem num_dep : (PyData.list [.str (Str.ofString "number"), .str (Str.ofString "number")]).depth ≤ 9 := by decide +kernel
theorem strs_two {us : List Value} {x : Str} (h : StrsAre us [x, x]) : ∃ a b, us = [.str x a, .str x b] := by
  cases h with | cons _ a h => cases h with | cons _ b h => cases h with | nil => exact ⟨a, b, rfl⟩
section
local macro_rules | `(tactic| walk_at "compareOp Eq ref ref") => `(tactic| (k_here; refine stop_here ?_))
local macro_rules | `(tactic| walk_at "binaryOp Add str str") => rowR `add_len "qI"
local macro_rules | `(tactic| walk_at "my q") => `(tactic| ((try simp only [PySem.Str.length_append, sl0, sl1, sl2, sl3, sl4, sl5, sl6, sl7, sl8, sl9, sl10, sl11, sl12, so0, so1, so2, so3, so4, sq0, sq1, sq2, sq3, sz1]); omega))
theorem lawS11 (w : World) (mean : ExcName → Option Value) (mg mb : Str → Option Value) (loose : List Str) (dp un : Nat) (gd : Option (List Code)) (L a : Addr) (ccd : Value) (A₀ : Around) (g : Heap) (s : Shared) (qk : Flow → Shared → Prop) (ek : Value → Shared → Prop)
   (m : Str → Option Value) (R : List (Addr × Obj)) (o8 o12 : Obj) (k : Nat) (mark : Str) (t8 t12 : Tok)
    (B : Below A₀ g [] g) (X : (hd.heap_1 w.params).In g) (T : Top topProg loose mean mg mb g) (C : CodeHd g 70 66) (C2 : CodeHd g 77 73) (C3 : CodeHd g 154 152) (hd9 : dp + 32 < recursionLimit) (hu9 : un + 300 < cLine) (F : Fr g L s.heap m) (N : News g L s.heap ((L + 1 + 1 + 1 + 1 + 1 + 1 + 1 + 1, o8) :: (L + 1 + 1 + 1 + 1 + 1 + 1 + 1 + 1 + 1 + 1 + 1 + 1, o12) :: R)) (hk3 : k < 3) (hm4 : Mark4 mark) (e8 : o8.data = .cell (some (.str mark t8))) (e12 : o12.data = .cell (some (.str (headV k) t12))) (l1 : @LT.lt Nat _ 160 L) (ret : ∀ (h' : Heap) (tk' : Nat), Fr g L h' m → News g L h' R → qk (.ret (.bool true)) { s with heap := h', toks := tk' }) :
   wpR (model PySem.Challenge.rw_ta0052_01.row.prog w) (ktrTop dp un gd (Str.ofString "law") (scopeOf (topStmt 22)) L a ccd (cellsFrom (L + 1) (scopeOf (topStmt 22)).names []) []) (execs ((bodyOf (topStmt 22)).drop 18) (envOfC (Str.ofString "law") (scopeOf (topStmt 22)) L a ccd)) qk ek s := by
  refine cutG fun Pc kc => ?_
  obtain ⟨sc, hsc⟩ : ∃ sc, sc = scopeOf (topStmt 22) := ⟨_, rfl⟩
  refine kc ?_
  clear kc Pc
  rw [← hsc]
  conv at hsc => rhs; whnf
  subst hsc
  revert X T; k_fill; intro X T
  change wpR _ _ (execs [_] _) _ _ _
  refine cutG fun Pc kc => ?_
  obtain ⟨hm3, hml3, hml⟩ := mark_three hm4
  refine kc ?_
  clear kc Pc
  have hhl := headV_le k hk3
  refine wpR_execs_cons (wpR_Return (wpR_Compare1 ?_))
  refine' compRT [(L + 1 + 1 + 1 + 1 + 1 + 1 + 1 + 1, o8), (L + 1 + 1 + 1 + 1 + 1 + 1 + 1 + 1 + 1 + 1 + 1 + 1, o12)] R wordsV (fun i us ex => ex = [] ∧ StrsAre us (List.replicate i (Str.ofString "number"))) F ?hh ?hclos ?hcell ?hkind ?hnames ?hx ?hn ?hit ?J0 ?T ?hQ ?hs
  case hh => with_unfolding_all rfl
  case hclos => with_unfolding_all rfl
  case hcell => decide
  case hkind => with_unfolding_all rfl
  case hnames => decide
  case hx => with_unfolding_all rfl
  case hs => intro _; with_unfolding_all rfl
  case hn => decide
  case hit =>
    refine wpAny_stop ?_
    k_steps
    try unfold Stop
    refine ⟨_, _, _, _, [_, _], rfl, .cons _ _ (.cons _ _ .nil), by assumption, by assumption, rfl⟩
  case J0 => exact ⟨rfl, .nil⟩
  case T =>
    intro tp itl hI i9 ys9 ex9 v9 I9 oI9 C9 oC9 D9 m9 h9 tk9 hi9 hJ9 hv9 hC9 hx9 F9 N9
    clear F N
    obtain ⟨rfl, hJ9⟩ := hJ9
    have hi8 : i9 < 2 := hi9
    obtain ⟨t9, rfl⟩ := words_at hI hi8 hv9
    have hwl := word_le i9 hi8
    simp only [List.cons_append, List.nil_append] at N9
    refine wpR_Call_Name ?_
    k_steps
    refine' wpR_callWith_K X ?ho rfl (show (1 : Nat) ≤ 30 by decide) ?_
    case ho => k_is
    k_steps
    rename Fr _ _ _ _ => F8
    rename News _ _ _ _ => N8
    refine portBad B F8 X T rfl N8 ?hr (word_no i9 hi8).1 (word_no i9 hi8).2.2 (word_no i9 hi8).2.1 (by omega) (by omega) ?_
    case hr =>
      rw [hm3]
      exact rep_bad hk3 hm4 hi8
    intro h7 tk7 ta F7 N7
    refine ⟨_, _, [], rfl, F7, N7, fun q hq => absurd hq List.not_mem_nil, rfl, ?_⟩
    rw [List.replicate_succ']
    exact strs_snoc hJ9 _ _
  case hQ =>
    intro D1 ys1 ex1 h9 tk9 hJ9 F9 N9 hD9
    obtain ⟨rfl, hJ9⟩ := hJ9
    clear F N
    refine cutG fun Pc kc => ?_
    obtain ⟨a9, b9, rfl⟩ := strs_two hJ9
    refine kc ?_
    clear kc Pc
    simp only [List.cons_append, List.nil_append, List.append_nil] at N9 hD9
    k_steps
    unfold Stop
    rename Fr _ _ _ _ => F8
    rename News _ _ _ _ => N8
    obtain ⟨as1, r1⟩ := RA.list N8 (a := D1) (vs := [.str (Str.ofString "number") a9, .str (Str.ofString "number") b9]) (.tail _ (.head _)) (.cons ⟨_, .str _ _⟩ (.cons ⟨_, .str _ _⟩ .nil))
    obtain ⟨as2, r2⟩ := RA.list N8 (vs := [.str (Str.ofString "number") _, .str (Str.ofString "number") _]) (.head _) (.cons ⟨_, .str _ _⟩ (.cons ⟨_, .str _ _⟩ .nil))
    refine SeqAt.compareEq_reads r1 r2 num_lay num_lay (unt_u9 hu9 num_dep) ?_
    rw [SeqAt.eqv_refl _ num_lay]
    exact ret _ _ F8 (news_sub N8 fun p hp => .tail _ (.tail _ (.tail _ (.tail _ hp))))
end
end
end
section
open _root_.PySem _root_.PySem.W _root_.PyProof.Rows
/-- the way into a function with cells, under the caller -/
theorem codeR_cellsN {prog : Program} {w : World} {A : Around} {R : Result → Shared → Prop} {s : Shared} {name : Str} {params : Arguments} {body : List Stmt} {scope : Scope}
    {pm cd doc : Value} {a : Addr} {o : Obj} {args : List Value} {binds : List (Str × Value)}
    (hroom : A.depth < recursionLimit) (ho : s.heap.get? a = some o) (hdata : o.data = .func (Calls.docDef name params body scope pm cd doc)) (hlim : s.heap.NoLimit) (hcd : s.heap.CodeRec cd name)
    (hbind : bindArgs (Calls.docDef name params body scope pm cd doc) ⟨args, []⟩ = pure binds)
    (hkind : ∀ x ∈ binds, scope.names.lookup x.1 = some .local ∨ (scope.names.lookup x.1 = some .cell ∧ ((cellsFrom (s.heap.objs.size + 1) scope.names []).lookup x.1).isSome = true))
    (hnd : ((cellsFrom 0 scope.names []).map (·.1)).Nodup)
    (h : ∀ h₁ tk cells, Fr s.heap s.heap.objs.size h₁ (bindL (envOfC name scope s.heap.objs.size a cd).kindOf binds fun _ => none) → News s.heap s.heap.objs.size h₁ cells →
      CellsAre (bindC (envOfC name scope s.heap.objs.size a cd).kindOf binds fun _ => none) (cellsFrom (s.heap.objs.size + 1) scope.names []) cells →
      wpR (model prog w) (A.deeper (envOfC name scope s.heap.objs.size a cd)) (execs body (envOfC name scope s.heap.objs.size a cd))
        (fun f s' => R (.ok (.ret (match f with | .ret v => v | _ => .none))) s') (fun _ _ => False)
        { s with heap := h₁, toks := tk })
    (hco : scope.isCoroutine = false := by rfl) (hgen : scope.isGenerator = false := by rfl) (hk : scope.kind = .function := by rfl) :
    codeR (model prog w) A (.call (.ref a) ⟨args, []⟩) R s := by
  refine codeR_call_cells (fd := Calls.docDef name params body scope pm cd doc) hroom ho hdata hlim hcd rfl hbind rfl hkind (fun s₁ X => ?_) hco hgen hk
  refine cutG fun Pc kc => ?_
  obtain ⟨h₁, tk, rfl, _⟩ := X.done
  refine kc ?_
  clear kc Pc
  refine cutG fun Pc kc => ?_
  obtain ⟨cells, N, Y⟩ := Cl.news (h₀ := s.heap) (Nat.le_refl _) fun n c hm => ⟨X.cell n c (lookup_of_mem_nodup (cellsFrom_names scope.names 0 (s.heap.objs.size + 1) [] [] rfl ▸ hnd) hm), X.above n c hm⟩
  refine kc ?_
  clear kc Pc
  exact wpR_mono (h h₁ tk cells ⟨X.toInCall.ns, X.toInCall.keep, X.toInCall.fresh⟩ N Y) (fun _ _ q => q) fun _ _ q => q.elim
/-- the call of the law by the claim -/
theorem enter_R {M : Model} {A : Around} {s : Shared} {f : Value} {pos : List Value} {c : ClaimW} {cl : Str → Option Addr} {mean : ExcName → Option Value} {args : List WData} {s₁ : Shared}
    (h : codeR M A (.call f ⟨pos, []⟩) (fun r s' => r = .ok (.ret (.bool true)) ∧ GoodWG c cl mean args s₁ r s') s) : wpR M A (PySem.call f pos) (fun v s' => GoodWG c cl mean args s₁ (.ok (.ret v)) s') (fun e s' => GoodWG c cl mean args s₁ (.error e) s') s :=
  wpR_call (codeR_mono h fun res s' g => by obtain ⟨rfl, g⟩ := g; exact g)
/-- the law's end: True, and nothing of the heap is changed but the tables of lines, which have grown -/
theorem good_true {c : ClaimW} {cl : Str → Option Addr} {mean : ExcName → Option Value} {args : List WData} {s₁ s' : Shared} {tabs : List (Addr × Addr)} (hT : TabsAt tabs s₁.heap)
    (keep : ∀ b o, (ghostOf s₁.heap tabs).get? b = some o → s'.heap.get? b = some o) (grown : ∀ q ∈ tabs, ∃ ps, s'.heap.get? q.2 = some (tabObj ps))
    (hr : ∀ a, c.raises args a = false) (hp : c.post args (.bool true) args = true) (hos : s'.os = s₁.os) (hg : s'.gens = #[]) : GoodWG c cl mean args s₁ (.ok (.ret (.bool true))) s' := by
  have two : ∀ b o, s₁.heap.get? b = some o → s'.heap.get? b = some o ∨ (isCodeTable s₁.heap b ∧ o = tabObj #[] ∧ ∃ ps, s'.heap.get? b = some (tabObj ps)) := fun b o e => by
    by_cases hb : b ∈ tabs.map (·.2)
    · refine cutG fun Pc kc => ?_
      obtain ⟨q, hq, rfl⟩ := List.mem_map.mp hb
      refine kc ?_
      clear kc Pc
      have z := hT q hq
      exact .inr ⟨(z.1.tab z.2).isCodeTable, Option.some.inj (e.symm.trans z.2), grown q hq⟩
    · exact .inl (keep b o (ghost_ne e hb))
  refine ⟨.inl ⟨.bool true, .bool true, [], rfl, hr, .bool true, hp, unshared_nil⟩, ⟨fun b o e => ?_, fun b o e => ?_⟩, hos, .of_eq hg⟩
  · rcases two b o e with k | ⟨ht, rfl, ps, k⟩
    · exact .inl k
    · exact .inr (.inl ⟨ht, rfl, #[], ps, rfl, by rw [Array.empty_append]; exact k⟩)
  · rcases two b o e with k | ⟨_, _, ps, k⟩
    · exact ⟨_, k⟩
    · exact ⟨_, k⟩
theorem law_post (ns : List Int) : PySem.Challenge.rw_ta0052_01.row.claim.post [ofPy (PyData.list (List.map PyData.int ns))] (.bool true) [ofPy (PyData.list (List.map PyData.int ns))] = true := by
  refine' postW_of ?hs9 ?hv9 ?he9
  case hs9 => o_shape
  case hv9 => wtm_val
  case he9 => w_fin
theorem kcS {cm : Str → Option Value} {n : Str} {c : Addr} {ps : List (Str × Addr)} {cells : List (Addr × Obj)} {P : List (Addr × Obj) → Prop} (x : CellsAre cm ((n, c) :: ps) cells)
    (k : ∀ o r, o.data = .cell (cm n) → CellsAre cm ps r → P ((c, o) :: r)) : P cells := by
  cases x with | cons h r => exact k _ _ h r
theorem kcN {cm : Str → Option Value} {cells : List (Addr × Obj)} {P : List (Addr × Obj) → Prop} (x : CellsAre cm [] cells) (k : P []) : P cells := by
  cases x; exact k
theorem kc13 {cm : Str → Option Value} {n1 n2 n3 n4 n5 n6 n7 n8 n9 n10 n11 n12 n13 : Str} {c1 c2 c3 c4 c5 c6 c7 c8 c9 c10 c11 c12 c13 : Addr} {cells : List (Addr × Obj)} {P : List (Addr × Obj) → Prop} (x : CellsAre cm [(n1, c1), (n2, c2), (n3, c3), (n4, c4), (n5, c5), (n6, c6), (n7, c7), (n8, c8), (n9, c9), (n10, c10), (n11, c11), (n12, c12), (n13, c13)] cells)
    (k : ∀ o1 o2 o3 o4 o5 o6 o7 o8 o9 o10 o11 o12 o13, o1.data = .cell (cm n1) → o2.data = .cell (cm n2) → o3.data = .cell (cm n3) → o4.data = .cell (cm n4) → o5.data = .cell (cm n5) → o6.data = .cell (cm n6) → o7.data = .cell (cm n7) → o8.data = .cell (cm n8) → o9.data = .cell (cm n9) → o10.data = .cell (cm n10) → o11.data = .cell (cm n11) → o12.data = .cell (cm n12) → o13.data = .cell (cm n13) →
      P [(c1, o1), (c2, o2), (c3, o3), (c4, o4), (c5, o5), (c6, o6), (c7, o7), (c8, o8), (c9, o9), (c10, o10), (c11, o11), (c12, o12), (c13, o13)]) : P cells :=
  kcS x fun o1 r1 h1 x => kcS (P := fun r => P ((c1, o1) :: r)) x fun o2 r2 h2 x => kcS (P := fun r => P ((c1, o1) :: (c2, o2) :: r)) x fun o3 r3 h3 x =>
  kcS (P := fun r => P ((c1, o1) :: (c2, o2) :: (c3, o3) :: r)) x fun o4 r4 h4 x => kcS (P := fun r => P ((c1, o1) :: (c2, o2) :: (c3, o3) :: (c4, o4) :: r)) x fun o5 r5 h5 x =>
  kcS (P := fun r => P ((c1, o1) :: (c2, o2) :: (c3, o3) :: (c4, o4) :: (c5, o5) :: r)) x fun o6 r6 h6 x => kcS (P := fun r => P ((c1, o1) :: (c2, o2) :: (c3, o3) :: (c4, o4) :: (c5, o5) :: (c6, o6) :: r)) x fun o7 r7 h7 x =>
  kcS (P := fun r => P ((c1, o1) :: (c2, o2) :: (c3, o3) :: (c4, o4) :: (c5, o5) :: (c6, o6) :: (c7, o7) :: r)) x fun o8 r8 h8 x =>
  kcS (P := fun r => P ((c1, o1) :: (c2, o2) :: (c3, o3) :: (c4, o4) :: (c5, o5) :: (c6, o6) :: (c7, o7) :: (c8, o8) :: r)) x fun o9 r9 h9 x =>
  kcS (P := fun r => P ((c1, o1) :: (c2, o2) :: (c3, o3) :: (c4, o4) :: (c5, o5) :: (c6, o6) :: (c7, o7) :: (c8, o8) :: (c9, o9) :: r)) x fun o10 r10 h10 x =>
  kcS (P := fun r => P ((c1, o1) :: (c2, o2) :: (c3, o3) :: (c4, o4) :: (c5, o5) :: (c6, o6) :: (c7, o7) :: (c8, o8) :: (c9, o9) :: (c10, o10) :: r)) x fun o11 r11 h11 x =>
  kcS (P := fun r => P ((c1, o1) :: (c2, o2) :: (c3, o3) :: (c4, o4) :: (c5, o5) :: (c6, o6) :: (c7, o7) :: (c8, o8) :: (c9, o9) :: (c10, o10) :: (c11, o11) :: r)) x fun o12 r12 h12 x =>
  kcS (P := fun r => P ((c1, o1) :: (c2, o2) :: (c3, o3) :: (c4, o4) :: (c5, o5) :: (c6, o6) :: (c7, o7) :: (c8, o8) :: (c9, o9) :: (c10, o10) :: (c11, o11) :: (c12, o12) :: r)) x fun o13 r13 h13 x =>
  kcN (P := fun r => P ((c1, o1) :: (c2, o2) :: (c3, o3) :: (c4, o4) :: (c5, o5) :: (c6, o6) :: (c7, o7) :: (c8, o8) :: (c9, o9) :: (c10, o10) :: (c11, o11) :: (c12, o12) :: (c13, o13) :: r)) x (k o1 o2 o3 o4 o5 o6 o7 o8 o9 o10 o11 o12 o13 h1 h2 h3 h4 h5 h6 h7 h8 h9 h10 h11 h12 h13)
theorem lawRun (w : World) (mean : ExcName → Option Value) (mg mb : Str → Option Value) (loose : List Str) (dp un : Nat) (gd : Option (List Code)) (L a : Addr) (ccd : Value) (A₀ : Around) (g : Heap) (s : Shared)
   (o1 o2 o3 o4 o5 o6 o7 o8 o9 o10 o11 o12 o13 : Obj) (al : Addr) (vs : List Value) (ns : List Int)
   (B : Below A₀ g [] g) (X : (hd.heap_1 w.params).In g) (T : Top topProg loose mean mg mb g) (C : CodeHd g 70 66) (C2 : CodeHd g 77 73) (C3 : CodeHd g 154 152) (hd9 : dp + 32 < recursionLimit) (hu9 : un + 300 < cLine) (F0 : Fr g L s.heap (fun y => if y = Str.ofString "script" then some (.ref al) else none)) (N0 : News g L s.heap ((L + 1 + 1 + 1 + 1 + 1 + 1 + 1 + 1 + 1 + 1 + 1 + 1 + 1, o13) :: (L + 1 + 1 + 1 + 1 + 1 + 1 + 1 + 1 + 1 + 1 + 1 + 1, o12) :: (L + 1 + 1 + 1 + 1 + 1 + 1 + 1 + 1 + 1 + 1 + 1, o11) :: (L + 1 + 1 + 1 + 1 + 1 + 1 + 1 + 1 + 1 + 1, o10) :: (L + 1 + 1 + 1 + 1 + 1 + 1 + 1 + 1 + 1, o9) :: (L + 1 + 1 + 1 + 1 + 1 + 1 + 1 + 1, o8) :: (L + 1 + 1 + 1 + 1 + 1 + 1 + 1, o7) :: (L + 1 + 1 + 1 + 1 + 1 + 1, o6) :: (L + 1 + 1 + 1 + 1 + 1, o5) :: (L + 1 + 1 + 1 + 1, o4) :: (L + 1 + 1 + 1, o3) :: (L + 1 + 1, o2) :: (L + 1, o1) :: (66, tabObj #[]) :: (73, tabObj #[]) :: (152, tabObj #[]) :: []))
   (e1 : o1.data = .cell none) (e2 : o2.data = .cell none) (e3 : o3.data = .cell none) (e4 : o4.data = .cell none) (e5 : o5.data = .cell none) (e6 : o6.data = .cell none) (e7 : o7.data = .cell none) (e8 : o8.data = .cell none) (e9 : o9.data = .cell none) (e10 : o10.data = .cell none) (e11 : o11.data = .cell none) (e12 : o12.data = .cell none) (e13 : o13.data = .cell none) (hal : g.IsList al vs.toArray) (hI : IntsAre vs ns) (hlen : ns.length ≤ 63) (l1 : @LT.lt Nat _ 160 L) :
   wpR (model PySem.Challenge.rw_ta0052_01.row.prog w) (ktrTop dp un gd (Str.ofString "law") (scopeOf (topStmt 22)) L a ccd (cellsFrom (L + 1) (scopeOf (topStmt 22)).names []) []) (execs (bodyOf (topStmt 22)) (envOfC (Str.ofString "law") (scopeOf (topStmt 22)) L a ccd))
     (fun fl s' => fl = .ret (.bool true) ∧ ∃ h' tk' m' p1 p2 p5, s' = { s with heap := h', toks := tk' } ∧ Fr g L h' m' ∧ News g L h' [(66, tabObj p1), (73, tabObj p2), (152, tabObj p5)]) (fun _ _ => False) s := by
  have two : ∀ (Q : Flow → Shared → Prop), wpR (model PySem.Challenge.rw_ta0052_01.row.prog w) (ktrTop dp un gd (Str.ofString "law") (scopeOf (topStmt 22)) L a ccd (cellsFrom (L + 1) (scopeOf (topStmt 22)).names []) []) (execs ((bodyOf (topStmt 22)).take 18 ++ (bodyOf (topStmt 22)).drop 18) (envOfC (Str.ofString "law") (scopeOf (topStmt 22)) L a ccd)) Q (fun _ _ => False) s → wpR (model PySem.Challenge.rw_ta0052_01.row.prog w) (ktrTop dp un gd (Str.ofString "law") (scopeOf (topStmt 22)) L a ccd (cellsFrom (L + 1) (scopeOf (topStmt 22)).names []) []) (execs (bodyOf (topStmt 22)) (envOfC (Str.ofString "law") (scopeOf (topStmt 22)) L a ccd)) Q (fun _ _ => False) s := fun Q q => by
    rw [List.take_append_drop] at q
    exact q
  refine two _ (wpR_execs_app (wpR_of ?_))
  refine lawAll w mean mg mb loose dp un gd L a ccd A₀ g s _ _ o1 o2 o3 o4 o5 o6 o7 o8 o9 o10 o11 o12 o13 al vs ns B X T C C2 C3 hd9 hu9 F0 N0 e1 e2 e3 e4 e5 e6 e7 e8 e9 e10 e11 e12 e13 hal hI hlen l1 ?_
  intro h' tk' m' o8' o12' k mark t8 t12 p1 p2 p5 hk3 hm4 F N e8' e12'
  refine lawS11 w mean mg mb loose dp un gd L a ccd A₀ g _ _ _ m' [(66, tabObj p1), (73, tabObj p2), (152, tabObj p5)] o8' o12' k mark t8 t12 B X T C C2 C3 hd9 hu9 F N hk3 hm4 e8' e12' l1 ?_
  intro h2 tk2 F2 N2
  exact ⟨rfl, h2, tk2, m', p1, p2, p5, rfl, F2, N2⟩
theorem law0 : PySem.Challenge.rw_ta0052_01.Holds := hd (by
  k_fill
  intro w s₀ s₁ mg mb G Y fa o pm cd doc dV kV ho hd hcd hD hmg hg args vals as hpre hlay hrd hwl hlo
  have KX := km_in_of Y
  km_tabs Y
  have X := (Ground.X G).1
  have V := (Ground.X G).2
  refine Ground.open G ?_
  intro T B D TE TW
  try (refine guard_noD D (by decide +kernel) ?_; clear D)
  km_lay T hmg ho hd cd
  clear hmg
  wrow_args hpre hlay hrd hwl hlo
  rename Heap.IsList _ _ _ => hL
  rename IntsAre _ _ => hI
  rename ¬ (_ < _) => hlen
  have he := Dflts.none hD rfl; subst he
  have he := Dflts.noKw hD; subst he
  refine enter_R (codeR_cellsN (by decide) ho (fd_plain hd) (Top.nolimit T) hcd rfl (kinds_of (by kinds_ok)) (by decide) fun h₁ tk₁ cells F N0 X0 => ?_)
  refine kc13 (P := fun cs => News s₁.heap s₁.heap.objs.size h₁ cs → _) X0 (fun o13 o12 o11 o10 o9 o8 o7 o6 o5 o4 o3 o2 o1 e13 e12 e11 e10 e9 e8 e7 e6 e5 e4 e3 e2 e1 N0 => ?_) N0
  have F' := fr_eq (m' := fun y => if y = Str.ofString "script" then some (.ref _) else none) (ghost_fr hT9 F) (fun y => rfl)
  have N9 := ghost_news hT9 F N0
  simp only [tabNews, List.map_cons, List.map_nil, List.cons_append, List.nil_append] at N9
  refine cutG fun Pc kc => ?_
  obtain ⟨C2, C, C3, -⟩ := ghost_code hT9
  refine kc ?_
  clear kc Pc
  have K' := ghost_K hT9 KX (by kernel_rfl)
  have T' := ghost_top hT9 T
  have hal := ghost_list hT9 hL
  have l1 : @LT.lt Nat _ 160 s₁.heap.objs.size := Heap.lt_size (KX 160 _ rfl)
  change wpR _ (ktrTop callerA.depth.succ _ _ (Str.ofString "law") (scopeOf (topStmt 22)) s₁.heap.objs.size fa cd (cellsFrom (s₁.heap.objs.size + 1) (scopeOf (topStmt 22)).names []) []) (execs (bodyOf (topStmt 22)) (envOfC (Str.ofString "law") (scopeOf (topStmt 22)) s₁.heap.objs.size fa cd)) _ _ _
  refine wpR_mono (lawRun w _ mg mb _ _ _ _ s₁.heap.objs.size fa cd callerA _ _ o1 o2 o3 o4 o5 o6 o7 o8 o9 o10 o11 o12 o13 _ _ _ (below_caller _) K' T' C C2 C3 (by decide) (by decide) F' (news_pick N9 [0, 1, 2, 3, 4, 5, 6, 7, 8, 9, 10, 11, 12, 14, 13, 15]) e1 e2 e3 e4 e5 e6 e7 e8 e9 e10 e11 e12 e13 hal hI (by omega) l1) (fun fl s' q => ?_) fun _ _ q => q
  refine cutG fun Pc kc => ?_
  obtain ⟨rfl, h2, tk2, m2, p1, p2, p5, rfl, F2, N2⟩ := q
  refine kc ?_
  clear kc Pc
  exact ⟨rfl, good_true hT9 F2.keep (List.forall_mem_cons.mpr ⟨⟨p2, (N2 _ (.tail _ (.head _))).1⟩, List.forall_mem_cons.mpr ⟨⟨p1, (N2 _ (.head _)).1⟩, List.forall_mem_cons.mpr ⟨⟨p5, (N2 _ (.tail _ (.tail _ (.head _)))).1⟩, fun q hq => nomatch hq⟩⟩⟩) (fun _ => rfl) (law_post _) rfl hg⟩)
end
end
end
end Mine
set_option maxRecDepth 100000 in
set_option maxHeartbeats 8000000 in
theorem PySem.Challenge.cw_ta0052_01_holds : PySem.Challenge.rw_ta0052_01.Holds := by
  exact Mine.law0
