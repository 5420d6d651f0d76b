import PyProof.Rows.All
import Wide.All
import OpenK.AllK
import Wide.FinOn
import PySem.Challenge.RW_re0017_01
open PySem PySem.W PyProof.Rows
set_option Elab.async false
set_option linter.all false
set_option genSizeOf false
set_option genInjectivity false
set_option maxRecDepth 100000
set_option maxHeartbeats 8000000
namespace Mine
section
set_option maxHeartbeats 8000000
open_top hd for PySem.Challenge.rw_re0017_01
end
section
set_option maxHeartbeats 8000000

abbrev pg : Program := PySem.Challenge.rw_re0017_01.row.prog

/-- the state behind: all that stood is kept -/
def Grown (s s' : Shared) : Prop := ∃ h' tk, s' = { s with heap := h', toks := tk } ∧ ∀ b o, s.heap.get? b = some o → h'.get? b = some o

def A1 : Around := { handled := none, depth := 400, frames := none, guards := none, units := 100 }
def A2 : Around := { handled := none, depth := 500, frames := none, guards := none, units := 200 }
def A3 : Around := { handled := none, depth := 600, frames := none, guards := none, units := 300 }
def A4 : Around := { handled := none, depth := 700, frames := none, guards := none, units := 400 }

theorem codeAny_lift {M : Model} {A A' : Around} {c : Code} {R : Result → Shared → Prop} {s : Shared} (h : codeAny M A' c R s) (h1 : A.handled = A'.handled) (h2 : A.depth ≤ A'.depth) (h3 : A.units ≤ A'.units)
    (h4 : A'.frames = none) (h5 : A'.guards = none) : codeAny M A c R s := fun Γ p hc hB =>
  h Γ p hc ⟨hB.1.trans h1, Nat.le_trans hB.2.1 h2, fun l hl => (by rw [h4] at hl; cases hl), fun l hl => (by rw [h5] at hl; cases hl), Nat.le_trans hB.2.2.2.2 h3⟩

theorem enter {w : World} {A : Around} {s : Shared} {K : Frag} {R : Result → Shared → Prop} {name qual : Str} {params : Arguments} {body : List Stmt} {scope : Scope} {dV kV doc pm cdv ct oc : Value} {an od : Option Addr} {osl : Array (Option Value)} {f : Addr} {args : Args} (binds : List (Str × Value))
    {p : Program} {loose : List Str} {mg mb : Str → Option Value} {prog : Program}
    (X : K.In s.heap) (T : TopRead p loose mg mb s.heap)
    (ho : K.lookup f = some ⟨oc, od, .func (fnOf name qual params body scope dV kV doc pm an cdv ct), osl⟩) (hcd : codeIn K cdv qual = true) (hroom : A.depth < recursionLimit)
    (hbind : BindsTo s (fnOf name qual params body scope dV kV doc pm an cdv ct) args binds) (hloc : ∀ y ∈ binds, scope.names.lookup y.1 = some .local)
    (h : ∀ L h₁ tk, Fr s.heap L h₁ (fun y => binds.reverse.lookup y) → News s.heap L h₁ [] →
      wpAny (model prog w) (A.deeper (envOf qual scope L f cdv)) (execs body (envOf qual scope L f cdv))
        (fun fl s' => R (.ok (.ret (match fl with | .ret v => v | _ => .none))) s')
        (fun _ _ => False)
        { s with heap := h₁, toks := tk })
    (hco : scope.isCoroutine = false) (hgen : scope.isGenerator = false) (hk : scope.kind = .function)
    (hcell : ∀ x ∈ scope.names, x.2 ≠ .cell) : codeAny (model prog w) A (.call (.ref f) args) R s := by
  refine codeAny_call_def (fd := fnOf name qual params body scope dV kV doc pm an cdv ct) (body := body) (binds := binds) hroom (X _ _ ho) rfl T.nolimit (codeRec_of X hcd) rfl hbind hcell hloc (fun h₁ hns hk₁ => ?_) hco hgen hk
  exact wpAny_mono (h s.heap.objs.size h₁ _ ⟨hns, hk₁, Nat.le_refl _⟩ News.nil) (fun _ _ y => y) (fun _ _ y => y.elim)

theorem gen_toks {α : Type} {M : Model} {A : Around} {t : Sem α} {Q : α → Shared → Prop} {E : Value → Shared → Prop} {h : Heap} {g : Array GenState} {d : Drawn} {os : OsState} {x y : Nat}
    (k : ∀ tk, wpAny M A t Q E ⟨h, g, d, tk, os⟩) : wpAny M A t Q E ⟨h, g, d, x + y, os⟩ := k _

/-- a call that hands back x, of which v says what holds at the heap behind -/
structure Ret (s : Shared) (v : Value → Heap → Prop) (r : Result) (s' : Shared) : Prop where
  val : ∃ x, r = .ok (.ret x) ∧ v x s'.heap
  grown : Grown s s'

theorem Ret.mk' {s : Shared} {v : Value → Heap → Prop} {x : Value} {h : Heap} {tk : Nat} {L : Addr} {m : Str → Option Value} (F : Fr s.heap L h m) (e : v x h) : Ret s v (.ok (.ret x)) ⟨h, s.gens, s.drawn, tk, s.os⟩ :=
  ⟨⟨x, rfl, e⟩, ⟨h, tk, rfl, F.keep⟩⟩

theorem Grown.fr {s s' : Shared} (g : Grown s s') {h₀ : Heap} {L : Addr} {m : Str → Option Value} (F : Fr h₀ L s.heap m) : Fr h₀ L s'.heap m := by
  obtain ⟨h', tk, rfl, k⟩ := g
  obtain ⟨oL, es, ep, hL, r⟩ := F.ns
  exact ⟨⟨oL, es, ep, k _ _ hL, r⟩, fun b o e => k _ _ (F.keep b o e), F.above⟩
theorem Grown.news {s s' : Shared} (g : Grown s s') {h₀ : Heap} {L : Addr} {news : List (Addr × Obj)} (N : News h₀ L s.heap news) : News h₀ L s'.heap news := by
  obtain ⟨h', tk, rfl, k⟩ := g
  exact fun p hp => ⟨k _ _ (N p hp).1, (N p hp).2⟩

/-- a call by its contract -/
theorem call_by {w : World} {A A' : Around} {s : Shared} {f : Addr} {args : List Value} {v : Value → Heap → Prop} {h₀ : Heap} {L : Addr} {m : Str → Option Value} {news : List (Addr × Obj)} {Q : Value → Shared → Prop} {E : Value → Shared → Prop}
    (F : Fr h₀ L s.heap m) (N : News h₀ L s.heap news) (h1 : A.handled = A'.handled) (h2 : A.depth ≤ A'.depth) (h3 : A.units ≤ A'.units) (h4 : A'.frames = none) (h5 : A'.guards = none)
    (spec : codeAny (model pg w) A' (.call (.ref f) ⟨args, []⟩) (Ret s v) s)
    (k : ∀ x h' tk, v x h' → Fr h₀ L h' m → News h₀ L h' news → Q x ⟨h', s.gens, s.drawn, tk, s.os⟩) : wpAny (model pg w) A (call (.ref f) args) Q E s := by
  refine wpAny_call (codeAny_mono (codeAny_lift spec h1 h2 h3 h4 h5) fun r s' hr => ?_)
  obtain ⟨⟨x, rfl, hx⟩, g⟩ := hr
  have F' := g.fr F
  have N' := g.news N
  obtain ⟨h', tk, rfl, _⟩ := g
  exact k x h' tk hx F' N'
end
section
set_option maxHeartbeats 8000000
theorem fillSm (w : World) (s : Shared) : (PySem.Challenge.rw_re0017_01.Holds ∧ (Mine.hd.heap_39 w.params).In s.heap) → True := by k_fill; intro _; trivial
theorem gen_strA {M : Model} {A : Around} {env : Env} {y x : Str} {Q : Unit → Shared → Prop} {E : Value → Shared → Prop} {s s₁ : Shared} (k : ∀ t, wpAny M A (storeName env y (.str x t)) Q E s) : wpAny M A (storeName env y (.str x (Shared.toks s₁))) Q E s := k _
theorem gen_strB {M : Model} {A : Around} {env : Env} {y x : Str} {Q : Unit → Shared → Prop} {E : Value → Shared → Prop} {s : Shared} {a b : Nat} (k : ∀ t, wpAny M A (storeName env y (.str x t)) Q E s) : wpAny M A (storeName env y (.str x (a + b))) Q E s := k _
theorem gen_intA {M : Model} {A : Around} {env : Env} {y : Str} {x : Int} {Q : Unit → Shared → Prop} {E : Value → Shared → Prop} {s s₁ : Shared} (k : ∀ t, wpAny M A (storeName env y (.int x t)) Q E s) : wpAny M A (storeName env y (.int x (Shared.toks s₁))) Q E s := k _
theorem gen_intB {M : Model} {A : Around} {env : Env} {y : Str} {x : Int} {Q : Unit → Shared → Prop} {E : Value → Shared → Prop} {s : Shared} {a b : Nat} (k : ∀ t, wpAny M A (storeName env y (.int x t)) Q E s) : wpAny M A (storeName env y (.int x (a + b))) Q E s := k _
local macro_rules | `(tactic| walk_at "execs cons") => `(tactic| (k_here; (with_reducible refine gen_toks ?_); intro tk; (try dsimp only)))
local macro_rules | `(tactic| walk_at "storeName") => `(tactic| (k_here; (with_reducible (first | refine gen_strA ?_ | refine gen_strB ?_ | refine gen_intA ?_ | refine gen_intB ?_)); intro tk))
local macro_rules | `(tactic| walk_at "mine enter") => `(tactic| ((case k6 => k_is); (case k7 => k_is); (case k8 => decide); (case c2 => exact rfl); (case c3 => exact rfl); (case c4 => exact rfl); (case c5 => decide); (case k9 => exact BindsTo.of_eq rfl); (case kB => exact locs rfl)))


def privS (c n : Str) : Bool := decide (c.length + 3 < n.length) && Txt.startswith n (Str.ofString "_" ++ c ++ Str.ofString "__") && (Txt.item n (-1) != Str.ofString "_" || Txt.item n (-2) != Str.ofString "_")
def dunS (n : Str) : Bool := decide (4 < n.length) && (Txt.slice n none (some 2) == Txt.slice n (some (-2)) none) && (Txt.slice n (some (-2)) none == Str.ofString "__") && (Txt.item n 2 != Str.ofString "_") && (Txt.item n (-3) != Str.ofString "_")
def sunS (n : Str) : Bool := decide (2 < n.length) && (Txt.item n 0 == Txt.item n (-1)) && (Txt.item n (-1) == Str.ofString "_") && (Txt.item n 1 != Str.ofString "_") && (Txt.item n (-2) != Str.ofString "_")

section
variable {c n : Str}
theorem len_lt (a : ((((Str.ofString "_").length + c.length + (Str.ofString "__").length : Nat)) : Int) < (n.length : Int)) : c.length + 3 < n.length := by
  have e1 : (Str.ofString "_").length = 1 := by decide +kernel
  have e2 : (Str.ofString "__").length = 2 := by decide +kernel
  rw [e1, e2] at a; omega
theorem len_nlt (a : ¬ ((((Str.ofString "_").length + c.length + (Str.ofString "__").length : Nat)) : Int) < (n.length : Int)) : ¬ c.length + 3 < n.length := by
  have e1 : (Str.ofString "_").length = 1 := by decide +kernel
  have e2 : (Str.ofString "__").length = 2 := by decide +kernel
  rw [e1, e2] at a; omega
theorem p1 (a : ((((Str.ofString "_").length + c.length + (Str.ofString "__").length : Nat)) : Int) < (n.length : Int)) (b : Txt.startswith n (Str.ofString "_" ++ c ++ Str.ofString "__") = true) (d : (Txt.item n (-1) != Str.ofString "_") = true) : Value.bool true = Value.bool (privS c n) := by
  simp only [privS, len_lt a, b, d, decide_true, Bool.true_and, Bool.true_or]
theorem p2 (a : ((((Str.ofString "_").length + c.length + (Str.ofString "__").length : Nat)) : Int) < (n.length : Int)) (b : Txt.startswith n (Str.ofString "_" ++ c ++ Str.ofString "__") = true) (d : (Txt.item n (-2) != Str.ofString "_") = true) : Value.bool true = Value.bool (privS c n) := by
  simp only [privS, len_lt a, b, d, decide_true, Bool.true_and, Bool.or_true]
theorem p3 (a : ¬ ((((Str.ofString "_").length + c.length + (Str.ofString "__").length : Nat)) : Int) < (n.length : Int)) : Value.bool false = Value.bool (privS c n) := by
  simp only [privS, len_nlt a, decide_false, Bool.false_and]
theorem p4 (b : Txt.startswith n (Str.ofString "_" ++ c ++ Str.ofString "__") = false) : Value.bool false = Value.bool (privS c n) := by
  simp only [privS, b, Bool.and_false, Bool.false_and]
theorem p5 (d : (Txt.item n (-1) != Str.ofString "_") = false) (e : (Txt.item n (-2) != Str.ofString "_") = false) : Value.bool false = Value.bool (privS c n) := by
  simp only [privS, d, e, Bool.or_self, Bool.and_false]

theorem lt_cast {k : Nat} : (((k : Int)) < (n.length : Int)) ↔ k < n.length := by omega
theorem d1 (a : (4 : Int) < (n.length : Int)) (b : (Txt.slice n none (some 2) == Txt.slice n (some (-2)) none) = true) (c : (Txt.slice n (some (-2)) none == Str.ofString "__") = true) (d : (Txt.item n 2 != Str.ofString "_") = true) :
    Value.bool (Txt.item n (-3) != Str.ofString "_") = Value.bool (dunS n) := by
  have a' : 4 < n.length := by omega
  simp only [dunS, a', b, c, d, decide_true, Bool.true_and]
theorem d2 (a : (4 : Int) < (n.length : Int)) (b : (Txt.slice n none (some 2) == Txt.slice n (some (-2)) none) = true) (c : (Txt.slice n (some (-2)) none == Str.ofString "__") = true) (d : (Txt.item n 2 != Str.ofString "_") = false) :
    Value.bool (Txt.item n 2 != Str.ofString "_") = Value.bool (dunS n) := by
  simp only [dunS, b, c, d, Bool.and_false, Bool.false_and]
theorem d3 (c : (Txt.slice n (some (-2)) none == Str.ofString "__") = false) :
    Value.bool (Txt.slice n (some (-2)) none == Str.ofString "__") = Value.bool (dunS n) := by
  simp only [dunS, c, Bool.and_false, Bool.false_and]
theorem d4 (b : (Txt.slice n none (some 2) == Txt.slice n (some (-2)) none) = false) :
    Value.bool (Txt.slice n none (some 2) == Txt.slice n (some (-2)) none) = Value.bool (dunS n) := by
  simp only [dunS, b, Bool.and_false, Bool.false_and]
theorem d5 (a : ¬ (4 : Int) < (n.length : Int)) : Value.bool (decide ((4 : Int) < (n.length : Int))) = Value.bool (dunS n) := by
  have a' : ¬ 4 < n.length := by omega
  simp only [dunS, a, a', decide_false, Bool.false_and]

theorem s1 (a : (2 : Int) < (n.length : Int)) (b : (Txt.item n 0 == Txt.item n (-1)) = true) (c : (Txt.item n (-1) == Str.ofString "_") = true) (d : (Txt.item n 1 != Str.ofString "_") = true) :
    Value.bool (Txt.item n (-2) != Str.ofString "_") = Value.bool (sunS n) := by
  have a' : 2 < n.length := by omega
  simp only [sunS, a', b, c, d, decide_true, Bool.true_and]
theorem s2 (b : (Txt.item n 0 == Txt.item n (-1)) = true) (c : (Txt.item n (-1) == Str.ofString "_") = true) (d : (Txt.item n 1 != Str.ofString "_") = false) :
    Value.bool (Txt.item n 1 != Str.ofString "_") = Value.bool (sunS n) := by
  simp only [sunS, b, c, d, Bool.and_false, Bool.false_and]
theorem s3 (c : (Txt.item n (-1) == Str.ofString "_") = false) : Value.bool (Txt.item n (-1) == Str.ofString "_") = Value.bool (sunS n) := by
  simp only [sunS, c, Bool.and_false, Bool.false_and]
theorem s4 (b : (Txt.item n 0 == Txt.item n (-1)) = false) : Value.bool (Txt.item n 0 == Txt.item n (-1)) = Value.bool (sunS n) := by
  simp only [sunS, b, Bool.and_false, Bool.false_and]
theorem s5 (a : ¬ (2 : Int) < (n.length : Int)) : Value.bool (decide ((2 : Int) < (n.length : Int))) = Value.bool (sunS n) := by
  have a' : ¬ 2 < n.length := by omega
  simp only [sunS, a, a', decide_false, Bool.false_and]
end

theorem isPriv_spec {w : World} {s : Shared} {p : Program} {loose : List Str} {mg mb : Str → Option Value} {c n : Str} {t1 t2 : Tok}
    (X : (hd.heap_39 w.params).In s.heap) (T : TopRead p loose mg mb s.heap) (hc : c.length ≤ 100) (hn : n.length ≤ 100) :
    codeAny (model pg w) A4 (.call (.ref 42) ⟨[.str c t1, .str n t2], []⟩) (Ret s (fun x _ => x = .bool (privS c n))) s := by
  refine' enter [(Str.ofString "cls_name", .str c t1), (Str.ofString "name", .str n t2)] X T ?k6 ?k7 ?k8 ?k9 ?kB ?_ ?c2 ?c3 ?c4 ?c5
  walk_at "mine enter"
  intro L h₁ tk F N
  k_fold
  k_steps
  all_goals (try dsimp only)
  all_goals with_reducible refine Ret.mk' (by assumption) ?_
  all_goals with_reducible first | exact p1 (by assumption) (by assumption) (by assumption) | exact p2 (by assumption) (by assumption) (by assumption) | exact p3 (by assumption) | exact p4 (by assumption) | exact p5 (by assumption) (by assumption)

theorem isDunder_spec {w : World} {s : Shared} {p : Program} {loose : List Str} {mg mb : Str → Option Value} {n : Str} {t2 : Tok}
    (X : (hd.heap_39 w.params).In s.heap) (T : TopRead p loose mg mb s.heap) (hn : n.length ≤ 100) :
    codeAny (model pg w) A4 (.call (.ref 28) ⟨[.str n t2], []⟩) (Ret s (fun x _ => x = .bool (dunS n))) s := by
  refine' enter [(Str.ofString "name", .str n t2)] X T ?k6 ?k7 ?k8 ?k9 ?kB ?_ ?c2 ?c3 ?c4 ?c5
  walk_at "mine enter"
  intro L h₁ tk F N
  k_fold
  k_steps
  all_goals (try dsimp only)
  all_goals with_reducible refine Ret.mk' (by assumption) ?_
  all_goals with_reducible first | exact d1 (by assumption) (by assumption) (by assumption) (by assumption) | exact d2 (by assumption) (by assumption) (by assumption) (by assumption) | exact d3 (by assumption) | exact d4 (by assumption) | exact d5 (by assumption)

theorem isSunder_spec {w : World} {s : Shared} {p : Program} {loose : List Str} {mg mb : Str → Option Value} {n : Str} {t2 : Tok}
    (X : (hd.heap_39 w.params).In s.heap) (T : TopRead p loose mg mb s.heap) (hn : n.length ≤ 100) :
    codeAny (model pg w) A4 (.call (.ref 35) ⟨[.str n t2], []⟩) (Ret s (fun x _ => x = .bool (sunS n))) s := by
  refine' enter [(Str.ofString "name", .str n t2)] X T ?k6 ?k7 ?k8 ?k9 ?kB ?_ ?c2 ?c3 ?c4 ?c5
  walk_at "mine enter"
  intro L h₁ tk F N
  k_fold
  k_steps
  all_goals (try dsimp only)
  all_goals with_reducible refine Ret.mk' (by assumption) ?_
  all_goals with_reducible first | exact s1 (by assumption) (by assumption) (by assumption) (by assumption) | exact s2 (by assumption) (by assumption) (by assumption) | exact s3 (by assumption) | exact s4 (by assumption) | exact s5 (by assumption)

theorem yes_spec {w : World} {s : Shared} {p : Program} {loose : List Str} {mg mb : Str → Option Value} {b : Bool}
    (X : (hd.heap_39 w.params).In s.heap) (T : TopRead p loose mg mb s.heap) :
    codeAny (model pg w) A4 (.call (.ref 91) ⟨[.bool b], []⟩) (Ret s (fun v _ => ∃ t, v = .int (if b then 1 else 0) t)) s := by
  refine' enter [(Str.ofString "value", .bool b)] X T ?k6 ?k7 ?k8 ?k9 ?kB ?_ ?c2 ?c3 ?c4 ?c5
  walk_at "mine enter"
  intro L h₁ tk F N
  k_fold
  k_steps
  all_goals (try dsimp only)
  all_goals with_reducible refine Ret.mk' (by assumption) ?_
  all_goals (cases b <;> first | exact ⟨_, rfl⟩ | (exfalso; simp_all; done))
end
section
set_option maxHeartbeats 8000000

/-- a stop for the walk -/
def Stop (P : Prop) : Prop := P
theorem Stop.on {P : Prop} (h : Stop P) : P := h
theorem Stop.off {P : Prop} (h : P) : Stop P := h

def TurnEnd (h₀ : Heap) (L : Addr) (Jn : (Str → Option Value) → List (Addr × Obj) → Prop) (own : List (Addr × Obj)) (s₁ : Shared) (Q : Flow → Shared → Prop) (f : Flow) (s₂ : Shared) : Prop :=
  match f with
  | .ret v => Q (.ret v) s₂
  | .brk => Q .next s₂
  | _ => ∃ h' tk m' nx', s₂ = { s₁ with heap := h', toks := tk } ∧ Fr h₀ L h' m' ∧ News h₀ L h' (nx' ++ own) ∧ Jn m' nx'

/-- the ledger's objects are no iterators -/
def NoIter (nx : List (Addr × Obj)) : Prop := ∀ p ∈ nx, p.2.cls ≠ .type "range_iterator" ∧ p.2.cls ≠ .type "list_iterator"

theorem known {h₀ h : Heap} {L : Addr} {m : Str → Option Value} (ps : List (Str × Value)) (F : Fr h₀ L h m) (hk : ∀ p ∈ ps, m p.1 = some p.2) : Fr h₀ L h (kstB m ps) := by
  have : kstB m ps = m := by funext z; exact kstB_eq hk fun _ => rfl
  rw [this]; exact F

section
variable {prog : Program} {w : World} {A : Around} {E : Value → Shared → Prop} {s : Shared} {env : Env} {h₀ : Heap} {x : Str} {body : List Stmt} {Q : Flow → Shared → Prop}

theorem iterRange {r : Addr} {a₀ b₀ : Int} {t₀ u₀ v₀ : Tok} {m₀ : Str → Option Value} {news : List (Addr × Obj)} (n : Nat) (J : Nat → (Str → Option Value) → List (Addr × Obj) → Prop)
    (hh : A.handled = none) (hr : IsRange s.heap r a₀ b₀ 1 t₀ u₀ v₀) (hsmall : Builtin.Range.small a₀ b₀ 1 = true) (hn : Builtin.Range.rangeSize a₀ b₀ 1 = (n : Int)) (F : Fr h₀ env.locals s.heap m₀) (N : News h₀ env.locals s.heap news) (h0 : J 0 m₀ news)
    (hno : ∀ i m nx, J i m nx → NoIter nx)
    (turn : ∀ i t m₁ nx h tk own, i < n → J i m₁ nx → OwnOff own (nx.map (·.1)) → Fr h₀ env.locals h (fun y => if y = x then some (.int (a₀ + (i : Int)) t) else m₁ y) → News h₀ env.locals h (nx ++ own) →
      wpAny (model prog w) A (execs body env) (TurnEnd h₀ env.locals (J (i + 1)) own ⟨h, s.gens, s.drawn, tk, s.os⟩ Q) E ⟨h, s.gens, s.drawn, tk, s.os⟩)
    (done : ∀ m₁ nx h tk, J n m₁ nx → Fr h₀ env.locals h m₁ → News h₀ env.locals h nx → Q .next ⟨h, s.gens, s.drawn, tk, s.os⟩) :
    wpAny (model prog w) A (pyIter (.ref r)) (fun it s₂ => LoopAtV prog w A h₀ env x body Q E it s₂) E s := by
  refine wpAny_pyIter_range hr hsmall ?_
  have W := (Walks.range (prog := prog) (w := w) hh s.heap.objs.size a₀ 1 n)
  have hst : IsRangeIter (s.heap.push { cls := .type "range_iterator", data := .fields #[rawInt a₀, rawInt (Builtin.Range.rangeSize a₀ b₀ 1), rawInt 1] }) s.heap.objs.size (a₀ + ((0 : Nat) : Int) * 1) ((n : Int) - ((0 : Nat) : Int)) 1 := by
    rw [hn]; simpa using Heap.get?_push_size _ rfl
  have hI : h₀.get? s.heap.objs.size = none := next_is_new F
  refine ⟨_, _, _, n, _, _, m₀, news, J, rfl, W, ?_, ?_, ?_, hst, F.push _, (fun p hp => ⟨Heap.get?_push_of_some _ (N p hp).1, (N p hp).2⟩), h0, ?_, ?_⟩
  · intro hm
    exact absurd F.ns.lt ((List.mem_singleton.mp hm) ▸ Nat.lt_irrefl _)
  · intro b hb
    rw [List.mem_singleton.mp hb]
    exact hI
  · intro p hp hI
    exact absurd (Heap.lt_size (N p hp).1) ((List.mem_singleton.mp hI) ▸ Nat.lt_irrefl _)
  · rintro i v m₁ nx s₁ own ⟨hh', tk', rfl⟩ hin ⟨t, rfl⟩ hJ hoff hown hget hall hst₁ F₁ N₁
    have hsep : OwnOff own (nx.map (·.1)) := by
      intro p hp b hb e
      obtain ⟨q, hq, rfl⟩ := List.mem_map.mp hb
      exact hoff q hq (e ▸ hown p hp)
    rw [Int.mul_one] at F₁
    have hmem := hall _ (List.mem_singleton.mpr rfl) hI _ hst₁
    refine wpAny_mono (turn i t m₁ nx hh' tk' own hin hJ hsep F₁ (fun p hp => N₁ p (by rcases List.mem_append.mp hp with h | h; exact List.mem_append_right _ h; exact List.mem_append_left _ h))) (fun f s₂ e => ?_) fun _ _ e => e
    have fin : (∃ h' tk m' nx', s₂ = { (⟨hh', s.gens, s.drawn, tk', s.os⟩ : Shared) with heap := h', toks := tk } ∧ Fr h₀ env.locals h' m' ∧ News h₀ env.locals h' (nx' ++ own) ∧ J (i + 1) m' nx') → LoopStepU h₀ env.locals [s.heap.objs.size] own (J (i + 1)) ⟨hh', s.gens, s.drawn, tk', s.os⟩ .next s₂ := by
      rintro ⟨h', tk, m', nx', e, F', N', hj⟩
      refine ⟨rfl, h', tk, m', nx', e, F', fun p hp => N' p (by rcases List.mem_append.mp hp with h | h; exact List.mem_append_right _ h; exact List.mem_append_left _ h), fun p hp hq => ?_, hj⟩
      have e1 := (N' p (List.mem_append_left _ hp)).1
      have e2 := (N' _ (List.mem_append_right _ hmem)).1
      rw [List.mem_singleton.mp hq] at e1
      have e3 := Option.some.inj (e1.symm.trans e2)
      exact ((hno _ _ _ hj) p hp).1 (by rw [e3])
    cases f with
    | ret v => exact .ret e
    | brk => exact .brk e
    | next => exact .next (fin e)
    | cont => exact .cont (fin e)
  · rintro h' tk m' nx F' N' _ hj
    exact done m' nx h' tk hj F' N'
end

theorem range_size {a b : Int} {n : Nat} (h : b - a = n ∨ (b ≤ a ∧ n = 0)) : Builtin.Range.rangeSize a b 1 = (n : Int) := by
  unfold Builtin.Range.rangeSize
  simp only [show (1 : Int) > 0 by decide, if_true, Int.ediv_one]
  split <;> omega
theorem range_small {a b : Int} (h1 : -100000 ≤ a) (h2 : a ≤ 100000) (h3 : -100000 ≤ b) (h4 : b ≤ 100000) : Builtin.Range.small a b 1 = true := by
  refine small_one ?_ ?_ ?_ ?_ <;> (have e : (2 : Int) ^ 62 = 4611686018427387904 := by decide) <;> omega
end
local macro_rules | `(tactic| walk_at "execs cons") => `(tactic| (k_here; (with_reducible refine gen_toks ?_); intro tk; (try dsimp only)))
local macro_rules | `(tactic| walk_at "storeName") => `(tactic| (k_here; (with_reducible (first | refine gen_strA ?_ | refine gen_strB ?_ | refine gen_intA ?_ | refine gen_intB ?_)); intro tk))
local macro_rules | `(tactic| walk_at "eval Call") => `(tactic| (k_here; k_dflt (refine Call_ ?_)))
local macro_rules | `(tactic| walk_at "pyIter ref") => `(tactic| (k_here; refine Stop.on ?_))
local macro_rules | `(tactic| walk_at "exec For Name Call cons nil") => `(tactic| (k_here; (rename Fr _ _ _ _ => lF'); (with_unfolding_all refine' For_invVF lF' ?k1 ?k2 ?_; (case k1 => exact rfl); (case k2 => exact rfl); k_whole)))
local macro_rules | `(tactic| walk_at "exec For Tuple Name cons nil") => `(tactic| (k_here; (rename Fr _ _ _ _ => lF'); (with_unfolding_all refine' For_turns lF' ?_); k_whole))
section
set_option maxHeartbeats 8000000
theorem fillBe (w : World) (s : Shared) : (PySem.Challenge.rw_re0017_01.Holds ∧ (Mine.hd.heap_39 w.params).In s.heap) → True := by k_fill; intro _; trivial
local macro_rules | `(tactic| walk_at "mine enter") => `(tactic| ((case k6 => k_is); (case k7 => k_is); (case k8 => decide); (case c2 => exact rfl); (case c3 => exact rfl); (case c4 => exact rfl); (case c5 => decide); (case k9 => exact BindsTo.of_eq rfl); (case kB => exact locs rfl)))
local macro_rules | `(tactic| walk_at "mine X") => `(tactic| exact Frag.In.keeps (by k_asm) (Fr.keep (by k_asm)))
local macro_rules | `(tactic| walk_at "mine T") => `(tactic| exact TopRead.keeps (by k_asm) (Fr.keep (by k_asm)))
local macro_rules | `(tactic| walk_at "call ref") => `(tactic| (k_here; (with_reducible show wpAny _ _ (call (Value.ref 42) _) _ _ _); (refine' call_by (A' := A4) ?a1 ?a2 rfl (Nat.le_of_ble_eq_true rfl) (Nat.le_of_ble_eq_true rfl) rfl rfl (isPriv_spec ?a3 ?a4 ?a5 ?a6) ?_); (case a1 => k_asm); (case a2 => k_asm); (case a3 => walk_at "mine X"); (case a4 => walk_at "mine T"); (case a5 => walk_at "mine len"); (case a6 => walk_at "mine len"); intro x' h' tk' hv' F' N'; subst hv'))
local macro_rules | `(tactic| walk_at "call ref") => `(tactic| (k_here; (with_reducible show wpAny _ _ (call (Value.ref 28) _) _ _ _); (refine' call_by (A' := A4) ?a1 ?a2 rfl (Nat.le_of_ble_eq_true rfl) (Nat.le_of_ble_eq_true rfl) rfl rfl (isDunder_spec ?a3 ?a4 ?a5) ?_); (case a1 => k_asm); (case a2 => k_asm); (case a3 => walk_at "mine X"); (case a4 => walk_at "mine T"); (case a5 => walk_at "mine len"); intro x' h' tk' hv' F' N'; subst hv'))
local macro_rules | `(tactic| walk_at "call ref") => `(tactic| (k_here; (with_reducible show wpAny _ _ (call (Value.ref 35) _) _ _ _); (refine' call_by (A' := A4) ?a1 ?a2 rfl (Nat.le_of_ble_eq_true rfl) (Nat.le_of_ble_eq_true rfl) rfl rfl (isSunder_spec ?a3 ?a4 ?a5) ?_); (case a1 => k_asm); (case a2 => k_asm); (case a3 => walk_at "mine X"); (case a4 => walk_at "mine T"); (case a5 => walk_at "mine len"); intro x' h' tk' hv' F' N'; subst hv'))
local macro_rules | `(tactic| walk_at "call ref") => `(tactic| (k_here; (with_reducible show wpAny _ _ (call (Value.ref 91) _) _ _ _); (refine' call_by (A' := A4) ?a1 ?a2 rfl (Nat.le_of_ble_eq_true rfl) (Nat.le_of_ble_eq_true rfl) rfl rfl (yes_spec ?a3 ?a4) ?_); (case a1 => k_asm); (case a2 => k_asm); (case a3 => walk_at "mine X"); (case a4 => walk_at "mine T"); intro x' h' tk' hv' F' N'; obtain ⟨t', hv'⟩ := hv'; subst hv'))
/-- a new list of these ints -/
def FreshInts (s : Shared) (ns : List Int) (x : Value) (h : Heap) : Prop := ∃ a vs ep, x = .ref a ∧ s.heap.get? a = none ∧ h.get? a = some (W.listOf vs.toArray ep) ∧ IntsAre vs ns
def b2i (b : Bool) : Int := if b then 1 else 0
theorem fold_us (i : Nat) (a : Array Nat) : (List.replicate i #[95]).foldl (· ++ ·) a = a ++ (List.replicate i 95).toArray := by
  induction i generalizing a with
  | zero => simp
  | succ k ih => rw [List.replicate_succ, List.foldl_cons, ih, List.replicate_succ]; apply Array.toList_inj.mp; simp
theorem mul_us (i : Nat) : Txt.mul (Str.ofString "_") (i : Int) = ⟨(List.replicate i 95).toArray⟩ := by
  have e : Str.ofString "_" = ⟨#[95]⟩ := by decide +kernel
  unfold Txt.mul
  rw [e]
  split
  · have : i = 0 := by omega
    subst this; rfl
  · split
    · rename_i h1 h2
      have : i = 1 := by
        simp [Str.length] at h2; omega
      subst this; rfl
    · rw [Int.toNat_natCast, fold_us]; simp
theorem mul_len {i : Nat} (h : i ≤ 100) : (Txt.mul (Str.ofString "_") (i : Int)).length ≤ 100 := by
  rw [mul_us]; simp [Str.length]; exact h
def us (k : Nat) : Str := ⟨(List.replicate k 95).toArray⟩
def bareL (n : Nat) : List Int := (List.range n).flatMap fun k => [b2i (dunS (us k)), b2i (privS (Str.ofString "") (us k)), b2i (sunS (us k))]
theorem bareL_length (n : Nat) : (bareL n).length = 3 * n := by
  unfold bareL
  induction n with
  | zero => rfl
  | succ k ih => rw [List.range_succ, List.flatMap_append, List.length_append, ih]; simp; omega
theorem bareL_succ (n : Nat) : bareL (n + 1) = bareL n ++ [b2i (dunS (us n)), b2i (privS (Str.ofString "") (us n)), b2i (sunS (us n))] := by
  unfold bareL
  rw [List.range_succ, List.flatMap_append]; rfl
theorem ext_ok {vs : List Value} {its : Array Value} (h : vs.length ≤ 200) (h2 : its.size ≤ 10) : ¬ (!vs.toArray.isEmpty && Builtin.List.listTooLong (vs.toArray.size + its.size)) = true := by
  simp only [Builtin.List.listTooLong, List.size_toArray]
  intro hc
  have := (Bool.and_eq_true_iff.mp hc).2
  have e : sizeLine = 16777216 := by decide
  simp [e] at this
  omega
theorem room1 {vs : List Value} (h : vs.length ≤ 200) : vs.toArray.toList.length ≤ sizeLine := by
  have e : sizeLine = 16777216 := by decide
  simp [e]; omega
theorem room2 {vs : List Value} {its : Array Value} (h : vs.length ≤ 200) (h2 : its.size ≤ 10) : vs.toArray.size + its.size ≤ sizeLine + 1 := by
  have e : sizeLine = 16777216 := by decide
  simp [e]; omega
local macro_rules | `(tactic| walk_at "call builtin:list.extend") => `(tactic| (k_here; k_dflt (refine' kl_extend ?F ?N ?b rfl ?ne ?U ?d ?z ?y ?_; (case F => k_asm); (case N => k_asm); (case b => k_mem); (case U => k_upd); (case ne => simp); (case d => exact ext_ok (by assumption) (by simp)); (case z => exact room1 (by assumption)); (case y => exact room2 (by assumption) (by simp))); intro h' F' N'))
local macro_rules | `(tactic| walk_at "mine len") => `(tactic| first | exact mul_len (by omega) | decide +kernel)

theorem bare_spec {w : World} {s : Shared} {p : Program} {loose : List Str} {mg mb : Str → Option Value} {n : Nat} {t2 : Tok}
    (X : (hd.heap_39 w.params).In s.heap) (T : TopRead p loose mg mb s.heap) (hn : n ≤ 50) :
    codeAny (model pg w) A1 (.call (.ref 103) ⟨[.int n t2], []⟩) (Ret s (FreshInts s (bareL (n + 1)))) s := by
  refine' enter [(Str.ofString "longest", .int n t2)] X T ?k6 ?k7 ?k8 ?k9 ?kB ?_ ?c2 ?c3 ?c4 ?c5
  walk_at "mine enter"
  intro L h₁ tk F N
  k_fold
  k_steps
  rename_i l' h2 l1 h1 F1 N1 tk1 h' tk2 t1 u1 v1 R' F2 N2 K2
  refine Stop.off ?_
  refine' iterRange (n + 1) (fun i m nx => ∃ vs ep, nx = [(l', W.listOf vs.toArray ep)] ∧ IntsAre vs (bareL i) ∧ m (Str.ofString "kinds") = some (.ref l') ∧ m (Str.ofString "longest") = some (.int n t2)) rfl R' ?hs ?hz F2 N2 ?h0 ?hno ?turn ?done
  case hs => exact range_small (by omega) (by omega) (by omega) (by omega)
  case hz => exact range_size (by omega)
  case h0 => exact ⟨[], 0, rfl, .nil, rfl, rfl⟩
  case hno => (rintro _ _ _ ⟨vs, ep, rfl, _⟩ p hp; simp only [List.mem_singleton] at hp; subst hp; exact ⟨by simp, by simp⟩)
  case turn =>
    rintro i t m₁ nx h tk own hi ⟨vs, ep, rfl, hvs, m1, m2⟩ hown F' N'
    rw [Int.zero_add] at F'
    replace F' : Fr s.heap L h _ := F'
    replace N' : News s.heap L h ((l', W.listOf vs.toArray ep) :: own) := N'
    have hlen : vs.length ≤ 200 := by rw [hvs.length, bareL_length]; omega
    replace F' := known [(Str.ofString "k", .int (i : Int) t), (Str.ofString "kinds", .ref l'), (Str.ofString "longest", .int n t2)] F' (by
      intro p hp
      simp only [List.mem_cons, List.not_mem_nil, or_false] at hp
      rcases hp with rfl | rfl | rfl
      · rfl
      · exact m1
      · exact m2)
    simp only [kstB] at F'
    clear F1 N1 F2 N2 R' K2
    (show wpAny _ _ _ _ _ _)
    k_fold
    k_steps
    rename_i F9 N9
    refine ⟨_, _, _, [(l', W.listOf _ _)], rfl, F9, fun p hp => N9 p (.tail _ hp), _, _, rfl, ?_, rfl, rfl⟩
    rw [bareL_succ]
    refine IntsAre.append hvs ?_
    rw [us, ← mul_us]
    exact .cons _ _ (.cons _ _ (.cons _ _ .nil))
  case done =>
    rintro m₁ nx h tk ⟨vs, ep, rfl, hvs, m1, m2⟩ F' N'
    replace F' : Fr s.heap L h _ := F'
    replace N' : News s.heap L h [(l', W.listOf vs.toArray ep)] := N'
    replace F' := known [(Str.ofString "kinds", .ref l'), (Str.ofString "longest", .int n t2)] F' (by
      intro p hp
      simp only [List.mem_cons, List.not_mem_nil, or_false] at hp
      rcases hp with rfl | rfl
      · exact m1
      · exact m2)
    simp only [kstB] at F'
    clear F1 N1 F2 N2 R' K2
    dsimp only
    k_steps
    dsimp only
    exact Ret.mk' F' ⟨l', vs, ep, rfl, (N' _ (.head _)).2.2, (N' _ (.head _)).1, hvs⟩
end
section
set_option maxHeartbeats 8000000

def encC (c : Nat) : Str := if c = 95 then ⟨#[95]⟩ else ⟨#[92, c]⟩
def EncF (v y : Value) : Prop := ∃ c u t, v = .str ⟨#[c]⟩ u ∧ y = .str (encC c) t

theorem enc_elt {prog : Program} {w : World} {A : Around} {E : Value → Shared → Prop} {s : Shared} {cenv : Env} {C : Addr} {m : Str → Option Value} {c : Nat} {u : Tok} {p1 p2 p3 p4 p5 p6 p7 p8 : Pos} {k1 k2 : Nat}
    (hk : cenv.scope.kind = .function) (hl : cenv.kindOf (Str.ofString "sign") = some .local) (hC : cenv.locals = C) (hn : s.heap.Ns C m) (hv : m (Str.ofString "sign") = some (.str ⟨#[c]⟩ u)) :
    wpAny (model prog w) A (eval (.IfExp (.Compare (.Name (Str.ofString "sign") p1) [.Eq] [.Constant (.str (Str.ofString "_")) k1 p2] p3) (.Name (Str.ofString "sign") p4)
      (.BinOp (.Constant (.str (Str.ofString "\\")) k2 p5) .Add (.Name (Str.ofString "sign") p6) p7) p8) cenv) (fun y s₄ => EncF (.str ⟨#[c]⟩ u) y ∧ Keeps s s₄) E s := by
  subst hC
  have nm : ∀ {p : Pos} {s' : Shared} {Q : Value → Shared → Prop}, s'.heap = s.heap → Q (.str ⟨#[c]⟩ u) s' → wpAny (model prog w) A (eval (.Name (Str.ofString "sign") p) cenv) Q E s' := by
    intro p s' Q e h
    exact wpAny_Name (wpAny_loadName_local hk hl (by rw [e]; exact hn) hv h) (by decide +kernel)
  refine wpAny_IfExp (wpAny_isTrue_Compare1 ?_)
  refine nm rfl (wpAny_Constant_str (PyProof.Rows.eq_str (wpAny_truthy_bool ?_)))
  have e1 : Str.ofString "_" = ⟨#[95]⟩ := by decide +kernel
  have e2 : Str.ofString "\\" = ⟨#[92]⟩ := by decide +kernel
  have hb : ((⟨#[c]⟩ : Str) == Str.ofString "_") = decide (c = 95) := by
    rw [e1]
    by_cases h : c = 95
    · subst h; decide
    · rw [decide_eq_false h]
      apply beq_false_of_ne
      intro e
      exact h (by simpa using congrArg (fun (x : Str) => x.cps.toList) e)
  rw [hb]
  by_cases h : c = 95
  · rw [if_pos (by simpa using h)]
    exact nm rfl ⟨⟨c, u, u, rfl, by rw [encC, if_pos h, h]⟩, ⟨_, _, rfl, fun _ _ e => e⟩⟩
  · rw [if_neg (by simpa using h)]
    refine wpAny_BinOp (wpAny_Constant_str (nm rfl (PyProof.Rows.add_str (fun t' tk => ?_) ?_)))
    · exact ⟨⟨c, u, t', rfl, by rw [encC, if_neg h, e2]; rfl⟩, ⟨_, _, rfl, fun _ _ e => e⟩⟩
    · rw [e2]; show 1 + 1 ≤ sizeLine; decide

theorem paired_enc {ring : Str} : ∀ {vs ys : List Value} (i : Nat), (∀ j v, vs[j]? = some v → SignAt ring (i + j) v) → Paired EncF vs ys → i + vs.length = ring.cps.size →
    ∃ l : List (Str × Tok), ys = strValues l ∧ l.map (·.1) = (ring.cps.toList.drop i).map encC
  | [], _, i, _, .nil, hl => ⟨[], rfl, by rw [List.drop_eq_nil_of_le (by simp at hl ⊢; omega)]; rfl⟩
  | v :: vs, _, i, hs, .cons (b := y) hf hp, hl => by
    obtain ⟨l, e1, e2⟩ := paired_enc (vs := vs) (i + 1) (fun j v' hj => by have := hs (j + 1) v' (by simpa using hj); rwa [show i + (j + 1) = i + 1 + j by omega] at this) hp (by simp at hl; omega)
    obtain ⟨c, u, hc, hv⟩ := hs 0 v rfl
    obtain ⟨c', u', t', hv', hy⟩ := hf
    rw [hv] at hv'
    have : c = c' := by
      have := congrArg (fun x => match x with | Value.str s _ => s.cps.toList | _ => []) hv'
      simpa using this
    subst this
    refine ⟨(encC c, t') :: l, by rw [e1, hy]; rfl, ?_⟩
    rw [Nat.add_zero] at hc
    have hlt : i < ring.cps.toList.length := by
      have := (Array.getElem?_eq_some_iff.mp hc).1; simpa using this
    rw [List.drop_eq_getElem_cons hlt, List.map_cons, List.map_cons, e2]
    have : ring.cps.toList[i] = c := by
      have h2 := (Array.getElem?_eq_some_iff.mp hc).2; simpa using h2
    rw [this]

theorem comp_read {prog : Program} {w : World} {A : Around} {E : Value → Shared → Prop} {s : Shared} {env : Env} {scope : Scope} {iter : Expr} {ring : Str} {t : Tok} {p1 p2 p3 p4 p5 p6 p7 p8 px pos : Pos} {k1 k2 : Nat} {Q : Value → Shared → Prop}
    (hh : A.handled = none) (hfree : ∀ y ∈ scope.names, y.2 ≠ .free) (hcell : ∀ y ∈ scope.names, y.2 ≠ .cell) (hkind : scope.kind = .function)
    (hnames : ∀ y ∈ scope.names, y.2 = .local → scope.names.lookup y.1 = some .local) (hx : scope.names.lookup (Str.ofString "sign") = some .local)
    (hs : ∀ x, foldedSetIterable iter env x = pure x) (hz : ring.length ≤ 100)
    (hit : wpAny (model prog w) A (eval iter env) (fun v s₁ => v = .str ring t ∧ s₁ = s) E s)
    (k : ∀ D h' tk l n, s.heap.get? D = none → h'.get? D = some (W.listOf (strValues l).toArray n) → l.map (·.1) = ring.cps.toList.map encC → (∀ b o, s.heap.get? b = some o → h'.get? b = some o) → Q (.ref D) ⟨h', s.gens, s.drawn, tk, s.os⟩) :
    wpAny (model prog w) A (eval (.ListComp (.IfExp (.Compare (.Name (Str.ofString "sign") p1) [.Eq] [.Constant (.str (Str.ofString "_")) k1 p2] p3) (.Name (Str.ofString "sign") p4)
      (.BinOp (.Constant (.str (Str.ofString "\\")) k2 p5) .Add (.Name (Str.ofString "sign") p6) p7) p8) [⟨.Name (Str.ofString "sign") px, iter, [], 0⟩] scope pos) env) Q E s := by
  refine wpAny_ListComp_walk (fun _ => true) EncF hfree hcell hkind hnames hx (wpAny_mono hit (fun v s₁ hv => ?_) fun _ _ e => e) hs
  obtain ⟨rfl, rfl⟩ := hv
  refine wpAny_pyIter_str fun o St W h0 => ?_
  have hsz : ring.cps.size ≤ sizeLine := by
    have e : sizeLine = 16777216 := by decide
    have : ring.cps.size ≤ 100 := hz
    omega
  refine ⟨_, _, _, _, _, _, rfl, W A hh, hsz, h0, ?_, ⟨?_, ?_⟩, ?_⟩
  · intro b hb
    rw [List.mem_singleton.mp hb]; show _ < (Heap.push _ _).objs.size; rw [Heap.size_push]; exact Nat.lt_succ_self _
  · intro C i v s₃ m₃ E' hP hn hv hk htk
    exact wpAny_pure ⟨rfl, ⟨_, _, rfl, fun _ _ e => e⟩⟩
  · intro C i v s₃ m₃ E' hP _ hn hv hk htk
    obtain ⟨c, u, _, rfl⟩ := hP
    exact enc_elt (cenv := compEnv scope C env) hkind hx rfl hn hv
  · intro D h' tk ys vs hD hl hpl hlen hP hF hk
    obtain ⟨n, hn⟩ := hpl
    rw [List.filter_eq_self.mpr (fun _ _ => rfl)] at hF
    obtain ⟨l, e1, e2⟩ := paired_enc 0 (fun j v hj => by rw [Nat.zero_add]; exact hP j v hj) hF (by rw [hlen]; omega)
    rw [List.drop_zero] at e2
    have hDs : s₁.heap.get? D = none := by
      cases q : s₁.heap.get? D with
      | none => rfl
      | some ob => have := Heap.get?_push_of_some o q; rw [hD] at this; cases this
    refine k D h' tk l n hDs ?_ e2 fun b ob e => hk b ob ?_ (Heap.get?_push_of_some _ e)
    · rw [hn, ← e1]
    · intro hm; rw [List.mem_singleton.mp hm] at e; exact absurd (Heap.lt_size e) (Nat.lt_irrefl _)

def encL (r : List Nat) : List Nat := r.flatMap fun c => if c = 95 then [95] else [92, c]
def encS (ring : Str) : Str := ⟨(encL ring.cps.toList).toArray⟩

theorem glued_fold (l : List Nat) (a : Array Nat) : (l.map encC).foldl (fun acc p => acc ++ (Str.ofString "").cps ++ p.cps) a = a ++ (encL l).toArray := by
  have e0 : (Str.ofString "").cps = #[] := by decide +kernel
  induction l generalizing a with
  | nil => simp [encL]
  | cons c l ih =>
    have : encL (c :: l) = (if c = 95 then [95] else [92, c]) ++ encL l := rfl
    rw [List.map_cons, List.foldl_cons, ih, this, e0]
    apply Array.toList_inj.mp
    unfold encC
    split <;> simp
theorem glued_nil : ∀ (r : List Nat), (Txt.join (Str.ofString "") (r.map encC)) = ⟨(encL r).toArray⟩ := by
  intro r
  show Builtin.Str.glued (Str.ofString "") (r.map encC) = _
  unfold Builtin.Str.glued
  cases r with
  | nil => rfl
  | cons c r =>
    have : encL (c :: r) = (if c = 95 then [95] else [92, c]) ++ encL r := rfl
    rw [List.map_cons, List.drop_succ_cons, List.drop_zero, List.headD_cons, glued_fold, this]
    congr 1
    apply Array.toList_inj.mp
    unfold encC
    split <;> simp
theorem joinOk_enc (r : List Nat) (hr : r.length ≤ 100) : JoinOk (Str.ofString "") (r.map encC) = true := by
  refine joinOk_of_weight ?_ (by decide +kernel)
  have : ∀ l : List Nat, ((l.map encC).map (·.length)).sum ≤ 2 * l.length := by
    intro l
    induction l with
    | nil => simp
    | cons c l ih =>
      rw [List.map_cons, List.map_cons, List.sum_cons, List.length_cons]
      have : (encC c).length ≤ 2 := by unfold encC; split <;> exact Nat.le_of_ble_eq_true rfl
      omega
  have := this r
  rw [List.length_map]
  omega
theorem encL_length (r : List Nat) : (encL r).length ≤ 2 * r.length := by
  induction r with
  | nil => simp [encL]
  | cons c r ih =>
    have : encL (c :: r) = (if c = 95 then [95] else [92, c]) ++ encL r := rfl
    rw [this, List.length_append, List.length_cons]
    split <;> simp <;> omega
theorem encS_length {ring : Str} : (encS ring).length ≤ 2 * ring.length := by
  show (encL ring.cps.toList).toArray.size ≤ 2 * ring.cps.size
  have := encL_length ring.cps.toList
  simpa using this

theorem join_enc {prog : Program} {w : World} {A : Around} {E : Value → Shared → Prop} {s : Shared} {D : Addr} {l : List (Str × Tok)} {ring : Str} {t : Tok} {n : Nat} {h₀ : Heap} {L : Addr} {news : List (Addr × Obj)} {Q : Value → Shared → Prop}
    (N : News h₀ L s.heap ((D, W.listOf (strValues l).toArray n) :: news)) (hl : l.map (·.1) = ring.cps.toList.map encC) (hz : ring.length ≤ 100)
    (h : ∀ t' k, News h₀ L s.heap news → (encS ring).length ≤ 200 → Q (.str (encS ring) t') { s with toks := k }) : wpAny (model prog w) A (call (.builtin "str.join") [.str (Str.ofString "") t, .ref D]) Q E s := by
  refine SC.join (l := l) ⟨_, (N _ (.head _)).1, rfl, n, rfl⟩ hl ?_ fun t' k => ?_
  · exact joinOk_enc _ (by simpa [Str.length] using hz)
  · rw [glued_nil]
    exact h t' k (fun p hp => N p (.tail _ hp)) (Nat.le_trans encS_length (by omega))

theorem comp_readK {prog : Program} {w : World} {A : Around} {E : Value → Shared → Prop} {s : Shared} {env : Env} {scope : Scope} {iter : Expr} {ring : Str} {t : Tok} {p1 p2 p3 p4 p5 p6 p7 p8 px pos : Pos} {k1 k2 : Nat} {Q : Value → Shared → Prop}
    {h₀ : Heap} {L : Addr} {m : Str → Option Value} {news : List (Addr × Obj)} (F : Fr h₀ L s.heap m) (N : News h₀ L s.heap news)
    (hh : A.handled = none) (hfree : ∀ y ∈ scope.names, y.2 ≠ .free) (hcell : ∀ y ∈ scope.names, y.2 ≠ .cell) (hkind : scope.kind = .function)
    (hnames : ∀ y ∈ scope.names, y.2 = .local → scope.names.lookup y.1 = some .local) (hx : scope.names.lookup (Str.ofString "sign") = some .local)
    (hs : ∀ x, foldedSetIterable iter env x = pure x) (hz : ring.length ≤ 100)
    (hit : wpAny (model prog w) A (eval iter env) (fun v s₁ => v = .str ring t ∧ s₁ = s) E s)
    (k : ∀ D h' tk l n, Fr h₀ L h' m → News h₀ L h' ((D, W.listOf (strValues l).toArray n) :: news) → l.map (·.1) = ring.cps.toList.map encC → Q (.ref D) ⟨h', s.gens, s.drawn, tk, s.os⟩) :
    wpAny (model prog w) A (eval (.ListComp (.IfExp (.Compare (.Name (Str.ofString "sign") p1) [.Eq] [.Constant (.str (Str.ofString "_")) k1 p2] p3) (.Name (Str.ofString "sign") p4)
      (.BinOp (.Constant (.str (Str.ofString "\\")) k2 p5) .Add (.Name (Str.ofString "sign") p6) p7) p8) [⟨.Name (Str.ofString "sign") px, iter, [], 0⟩] scope pos) env) Q E s := by
  refine comp_read hh hfree hcell hkind hnames hx hs hz hit fun D h' tk l n hD hg hl keep => ?_
  have G : Grown s ⟨h', s.gens, s.drawn, tk, s.os⟩ := ⟨h', tk, rfl, keep⟩
  have F' := G.fr F
  have N' := G.news N
  refine k D h' tk l n F' (fun p hp => ?_) hl
  rcases List.mem_cons.mp hp with rfl | hp
  · refine ⟨hg, ?_, ?_⟩
    · rintro e
      obtain ⟨oL, _, _, hL, _⟩ := F.ns
      have e' : D = L := e
      rw [← e', hD] at hL; cases hL
    · cases q : h₀.get? D with
      | none => rfl
      | some o => have := F.keep _ _ q; rw [hD] at this; cases this
  · exact N' p hp
end
section
open PySem PySem.W PyProof.Rows PySem.Builtin PySem.Builtin.ObjectAttr PySem.Calls PySem.Spec
set_option maxHeartbeats 8000000
theorem fn_set : findIn [] (.type "function") "__setattr__" = some (some (.builtin "object.__setattr__")) := by decide +kernel
theorem fn_read : findIn [] (.type "function") (Str.ofString "read") = some none := by decide +kernel
theorem fn_mro : mroOf (.type "function") = pure [.type "function", .type "object"] := by kernel_rfl
theorem fn_refuse (self : Value) : refuseLoop self "__setattr__" [.type "function", .type "object"] = pure () := by kernel_rfl
theorem fn_dict : typeHasDict (.type "function") = true := by decide +kernel
theorem fn_fin : finalisedInACycleAlone "function" = false := by decide +kernel

theorem fn_type {h : Heap} {f : Addr} {d : Option Addr} {dt : Data} {sl : Array (Option Value)} (e : h.get? f = some ⟨.type "function", d, dt, sl⟩) : ∀ M, Looks M h (typeOf (.ref f)) (.type "function") :=
  fun _ => (Looks.ld (part := _) e).andThen .now

theorem fn_store {prog : Program} {w : World} {A : Around} {s : Shared} {f : Addr} {fd : FuncData} {sl : Array (Option Value)} {v : Value} {tk : Tok} {R : Result → Shared → Prop}
    {h₀ : Heap} {L : Addr} {m : Str → Option Value} {news : List (Addr × Obj)} {g : Obj → List (Addr × Obj)} (F : Fr h₀ L s.heap m) (N : News h₀ L s.heap news)
    (U : UpdF f ⟨.type "function", none, .func fd, sl⟩ news g)
    (h : ∀ d h', Fr h₀ L h' m → News h₀ L h' ((d, W.dictOf [⟨PyData.keyHash w.params (Str.ofString "read"), .str (Str.ofString "read") s.toks, v⟩] 1) :: g ⟨.type "function", some d, .func fd, sl⟩) → (∀ p ∈ news, p.1 < d) →
      R (.ok (.ret .none)) { s with heap := h', toks := s.toks + 1 }) :
    codeAny (model prog w) A (.call (.builtin "object.__setattr__") ⟨[.ref f, .str (Str.ofString "read") tk, v], []⟩) R s := by
  obtain ⟨pre, post, rfl, hg, h1, h2⟩ := U.split
  have D := N (f, _) (List.mem_append_right _ (.head _))
  have T := fn_type D.1
  have SF := PySem.F.store_object
  have sub : Looks (model prog w) s.heap (isInstance (.ref f) (.type "object")) true := (T _).andThen (Looks.of_pure (by rw [isSubtype_type]; kernel_rfl))
  refine codeAny_call_builtin SF.slot.plain SF.entry (@check_slot (model prog w) _ _ s "object.__setattr__" "object" "__setattr__" (.ref f) [.str (Str.ofString "read") tk, v] [] _ SF.kind SF.split sub (SF.args (.ref f) (.str (Str.ofString "read") tk) v) ?_)
  rw [osa_eq, refuse_eq]
  refine wpAny_bind (wpAny_bind ((T _).here (wpAny_bind ((Looks.of_pure fn_mro).here ?_))))
  rw [fn_refuse]
  have X0 : Frag.In [] s.heap := fun _ _ e => by cases e
  refine wpAny_pure (wpAny_bind ((T _).here (wpAny_bind ((looks_findIn X0 fn_read).here (wpAny_bind (wpAny_pure ?_))))))
  show wpAny _ _ (storeInOwnDict (.ref f) (.type "function") (.str (Str.ofString "read") tk) (Str.ofString "read") v false) _ _ s
  unfold storeInOwnDict
  refine wpAny_bind (wpAny_pure ?_)
  show wpAny _ _ (ownDictForStores (.ref f) >>= _) _ _ s
  refine wpAny_bind ?_
  show wpAny _ _ (instanceDict f true) _ _ s
  unfold instanceDict
  refine wpAny_bind (wpAny_loadPart D.1 ?_)
  dsimp only
  rw [fn_dict]
  refine wpAny_bind (wpAny_alloc ?_)
  have N1 := N.push F { cls := .type "dict", data := .dict #[] } rfl
  have F1 := F.push { cls := .type "dict", data := .dict #[] }
  have lt1 : ∀ p ∈ pre ++ (f, (⟨.type "function", none, .func fd, sl⟩ : Obj)) :: post, p.1 < s.heap.objs.size := fun p hp => Heap.lt_size (N p hp).1
  refine wpAny_bind (wpAny_update (o := ⟨.type "function", none, .func fd, sl⟩) (N1 _ (.tail _ (List.mem_append_right _ (.head _)))).1 ?_)
  obtain ⟨F2, N2⟩ := news_upd (f := fun o => { o with dict := some s.heap.objs.size }) (pre := (s.heap.objs.size, { cls := .type "dict", data := .dict #[] }) :: pre) (post := post) (o := ⟨.type "function", none, .func fd, sl⟩) (o' := ⟨.type "function", some s.heap.objs.size, .func fd, sl⟩) F1 N1
    (fun p hp => by rcases List.mem_cons.mp hp with rfl | hp; exact Nat.ne_of_gt (lt1 _ (List.mem_append_right _ (.head _))); exact h1 p hp) h2 rfl rfl
  unfold dictMade
  dsimp only
  rw [fn_fin]
  refine wpAny_pure ?_
  dsimp only
  unfold storeInDict
  refine wpAny_bind (wpAny_pure (wpAny_bind ?_))
  unfold nsSet
  have D2 := (N2 _ (.head _)).1
  obtain ⟨F3, N3⟩ := news_upd (f := Obj.putName (Str.ofString "read") (PyData.keyHash w.params (Str.ofString "read")) (.str (Str.ofString "read") s.toks) v) (pre := []) (post := pre ++ (f, ⟨.type "function", some s.heap.objs.size, .func fd, sl⟩) :: post) F2 N2 (fun _ hp => nomatch hp)
    (fun p hp => Nat.ne_of_lt (by
      rcases List.mem_append.mp hp with hp | hp
      · exact lt1 p (List.mem_append_left _ hp)
      · rcases List.mem_cons.mp hp with rfl | hp
        · exact lt1 (f, (⟨.type "function", none, .func fd, sl⟩ : Obj)) (List.mem_append_right _ (.head _))
        · exact lt1 p (List.mem_append_right _ (.tail _ hp)))) (o' := W.dictOf [⟨PyData.keyHash w.params (Str.ofString "read"), .str (Str.ofString "read") s.toks, v⟩] 1) (putName_dict _ _ _ _ [] 0) rfl
  have D3 := (N3 _ (.head _)).1
  refine wpAny_bind (wpAny_bind (wpAny_askSetting (wpAny_pure (wpAny_bind (wpAny_mkText (wpAny_bind (wpAny_loadPart D2 ?_)))))))
  dsimp only
  have c : (!(#[] : Array DictEntry).any (fun x => x.key.isStr (Str.ofString "read")) && (#[] : Array DictEntry).any (fun x => x.refKey)) = false := by simp
  rw [aRefKeyMayBeTheName_at, c]
  refine wpAny_updatePart D2 ?_
  refine wpAny_bind (wpAny_lookBehind D3 (pastItsLine_dict (by rw [sizeLine_eq]; simp)) ?_)
  refine wpAny_pure (h _ _ F3 ?_ lt1)
  rw [hg]; exact N3

theorem set_fn {prog : Program} {w : World} {A : Around} {E : Value → Shared → Prop} {s : Shared} {f : Addr} {fd : FuncData} {sl : Array (Option Value)} {v : Value} {Q : Unit → Shared → Prop}
    {h₀ : Heap} {L : Addr} {m : Str → Option Value} {news : List (Addr × Obj)} {g : Obj → List (Addr × Obj)} (F : Fr h₀ L s.heap m) (N : News h₀ L s.heap news)
    (U : UpdF f ⟨.type "function", none, .func fd, sl⟩ news g)
    (h : ∀ d h' t', Fr h₀ L h' m → News h₀ L h' ((d, W.dictOf [⟨PyData.keyHash w.params (Str.ofString "read"), .str (Str.ofString "read") t', v⟩] 1) :: g ⟨.type "function", some d, .func fd, sl⟩) → (∀ p ∈ news, p.1 < d) →
      Q () { s with heap := h', toks := s.toks + 2 }) :
    wpAny (model prog w) A (setAttr (.ref f) (Str.ofString "read") v) Q E s := by
  have D : s.heap.get? f = some ⟨.type "function", none, .func fd, sl⟩ := by
    obtain ⟨pre, post, rfl, hg, h1, h2⟩ := U.split
    exact (N (f, _) (List.mem_append_right _ (.head _))).1
  have T := fn_type D
  have X0 : Frag.In [] s.heap := fun _ _ e => by cases e
  refine wpAny_bind (wpAny_mkText (wpAny_bind (wpAny_bind (wpAny_bind ((T _) _ _ _ _ (fun _ _ e => e) (looks_findIn X0 fn_set _ _ _ _ (fun _ _ e => e) (wpAny_holding ?_)))))))
  rw [PySem.F.store_object.slot.bind]
  refine wpAny_bind (wpAny_pure (wpAny_bind (wpAny_call (codeAny_mono (fn_store (s := { s with toks := s.toks + 1 }) (R := fun r s' => match r with | .ok (.ret _) => Q () s' | .ok _ => False | .error e => E e s') F N U fun d h' F' N' lt => h d h' _ F' N' lt) fun r s' z => ?_))))
  rcases r with e | (v | _ | _ | _) <;> first | exact z | exact wpAny_pure (wpAny_pure z)
end
section
open PySem PySem.W PyProof.Rows PySem.Builtin PySem.Builtin.ObjectAttr PySem.Calls PySem.Spec
set_option maxHeartbeats 8000000
theorem slot_fn_ga : Slot "function" "__getattribute__" "object.__getattribute__" :=
  .of (owner := "object") (n := "__getattribute__") (by rw [typeLookup_type, builtinLookup_eq_fast]; kernel_rfl) (by decide +kernel) (by decide +kernel) (by decide +kernel)
    (by first | exact .inl (by decide +kernel) | exact .inr (by decide +kernel)) (by rw [isSubtype_type]; kernel_rfl)
theorem fn_gattr : findIn [] (.type "function") "__getattr__" = some none := by decide +kernel
theorem fn_ga : findIn [] (.type "function") "__getattribute__" = some (some (.builtin "object.__getattribute__")) := by decide +kernel

theorem oga_eq (f : Addr) (tk : Tok) : Builtin.«object.__getattribute__» ⟨[.ref f, .str (Str.ofString "read") tk], []⟩ = (typeOf (.ref f) >>= fun tp => find (.ref f) tp (Str.ofString "read") >>= fun r => match r with
    | .value v => ret v
    | .bind g a => bindTo g a (.ref f) tp
    | .missing => do
      if tp == .type "module" then
        if ← isOpaqueModuleObj (.ref f) then
          let byTheModulesOwnEntry := match (← stack).drop 1 with
            | (.builtin "module.__getattribute__" ⟨m :: _, _⟩, _) :: _ => m == .ref f
            | _ => false
          if !byTheModulesOwnEntry then unsupported "thirdparty:object.__getattribute__:a-miss-on-an-opaque-module"
      if tp == .type "type" then
        if let some key ← opaqueClassAbove (.ref f) then unsupported s!"thirdparty:{key.toString}.{(Str.ofString "read").toString}:object.__getattribute__-misses-on-an-opaque-class"
      noSuchAttribute (.ref f) (Str.ofString "read")) := by kernel_rfl
theorem fn_get {prog : Program} {w : World} {A : Around} {E : Value → Shared → Prop} {s : Shared} {f d : Addr} {fd : FuncData} {sl : Array (Option Value)} {es : List DictEntry} {n : Nat} {v : Value} {expr : Bool} {Q : Value → Shared → Prop}
    (hf : s.heap.get? f = some ⟨.type "function", some d, .func fd, sl⟩) (hd : s.heap.get? d = some (W.dictOf es n)) (hl : getL (Str.ofString "read") es = some (some v)) (hh : handedIn v = true) (h : Q v { s with toks := s.toks + 1 }) :
    wpAny (model prog w) A (getAttr (.ref f) (Str.ofString "read") expr) Q E s := by
  have T := fn_type hf
  have X0 : Frag.In [] s.heap := fun _ _ e => by cases e
  unfold getAttr getAttrBy
  refine wpAny_bind (wpAny_mkText (wpAny_holding (wpAny_bind ((T _) _ _ _ _ (fun _ _ e => e) (wpAny_bind (looks_findIn X0 fn_ga _ _ _ _ (fun _ _ e => e) ?_))))))
  show wpAny _ _ (getAttrByItsOwn _ _ _ _ _ _) _ _ _
  unfold getAttrByItsOwn
  refine wpAny_bind (wpAny_pure (wpAny_bind (wpAny_attempt (wpAny_holding ?_))))
  show wpAny _ _ (callGetattribute _ _ (.builtin "object.__getattribute__") _) _ _ _
  unfold callGetattribute
  have e0 : (expr && onTheHeap (.builtin "object.__getattribute__")) = false := by cases expr <;> rfl
  rw [e0]
  show wpAny _ _ (boundAndCalled _ _ _) _ _ _
  unfold boundAndCalled
  rw [slot_fn_ga.bind]
  refine wpAny_bind (wpAny_pure ?_)
  have hT : Shared.TypeIs { s with toks := s.toks + 1 } (.ref f) "function" := ⟨_, hf, rfl⟩
  refine wpAny_call_entry slot_fn_ga hT PySem.F.entry_object_getattribute ?_ (PySem.F.args_object_getattribute_2 _ _)
  show wpAny _ _ (Builtin.«object.__getattribute__» ⟨[.ref f, .str (Str.ofString "read") s.toks], []⟩) _ _ _
  rw [oga_eq]
  refine wpAny_bind ((T _) _ _ _ _ (fun _ _ e => e) (wpAny_bind (wpAny_bind (looks_findIn X0 fn_read _ _ _ _ (fun _ _ e => e) ?_))))
  refine wpAny_bind (wpAny_pure (wpAny_bind (wpAny_pure ?_)))
  show wpAny _ _ (ownThenClass _ _ _ _) _ _ _
  unfold ownThenClass
  refine wpAny_bind (wpAny_bind (wpAny_bind (wpAny_loadPart hf ?_)))
  show wpAny _ _ (instanceDict f false) _ _ _
  unfold instanceDict
  refine wpAny_bind (wpAny_loadPart hf (wpAny_pure ?_))
  refine wpAny_bind (wpAny_loadPart hd ?_)
  rw [nsLook_of (name := Str.ofString "read") (o := W.dictOf es n) (by rw [lookIn_dict]; exact hl)]
  refine wpAny_pure (wpAny_bind (wpAny_rule (wpAny_pure ?_)))
  refine wpAny_pure ⟨v, rfl, ?_⟩
  show wpAny _ _ (handedOut v) _ _ _
  rw [handedOut_of hh]
  exact wpAny_pure h

theorem fn_getMethod {prog : Program} {w : World} {A : Around} {E : Value → Shared → Prop} {s : Shared} {f d : Addr} {fd : FuncData} {sl : Array (Option Value)} {es : List DictEntry} {n : Nat} {v : Value} {pl : Sem Bool} {Q : Value × List Value → Shared → Prop}
    (hf : s.heap.get? f = some ⟨.type "function", some d, .func fd, sl⟩) (hd : s.heap.get? d = some (W.dictOf es n)) (hl : getL (Str.ofString "read") es = some (some v)) (hh : handedIn v = true) (h : Q (v, []) { s with toks := s.toks + 1 }) :
    wpAny (model prog w) A (getMethod (.ref f) (Str.ofString "read") pl) Q E s := by
  have T := fn_type hf
  have X0 : Frag.In [] s.heap := fun _ _ e => by cases e
  unfold getMethod specialOf
  refine wpAny_bind (wpAny_bind ((T _) _ _ _ _ (fun _ _ e => e) (looks_findIn X0 fn_ga _ _ _ _ (fun _ _ e => e) ?_)))
  dsimp only
  rw [PySem.F.canon_object_ga]
  refine wpAny_bind (wpAny_bind ((T _) _ _ _ _ (fun _ _ e => e) (looks_findIn X0 fn_gattr _ _ _ _ (fun _ _ e => e) ?_)))
  refine wpAny_bind (wpAny_bind ((T _) _ _ _ _ (fun _ _ e => e) (looks_findIn X0 fn_read _ _ _ _ (fun _ _ e => e) ?_)))
  exact wpAny_bind (fn_get hf hd hl hh (wpAny_pure h))
end
section
set_option maxHeartbeats 8000000
theorem fillLx (w : World) (s : Shared) : (PySem.Challenge.rw_re0017_01.Holds ∧ (Mine.hd.heap_39 w.params).In s.heap) → True := by k_fill; intro _; trivial

/-- the end of a body, its own frame still open -/
def BodyEnd (g : Heap) (L' : Addr) (s : Shared) (v : Value → List (Addr × Obj) → Prop) (fl : Flow) (s' : Shared) : Prop :=
  ∃ h' tk m' news', s' = { s with heap := h', toks := tk } ∧ Fr g L' h' m' ∧ News g L' h' news' ∧ v (match fl with | .ret x => x | _ => .none) news'

/-- a call that may turn the objects at these addresses alone -/
structure RetL (h₀ : Heap) (L : Addr) (s : Shared) (as : List Addr) (v : Value → List (Addr × Obj) → Prop) (r : Result) (s' : Shared) : Prop where
  out : ∃ x h' tk news', r = .ok (.ret x) ∧ s' = { s with heap := h', toks := tk } ∧ (∀ b o, b ∉ as → s.heap.get? b = some o → h'.get? b = some o) ∧ News h₀ L h' news' ∧ v x news'

theorem enterL {w : World} {A : Around} {s : Shared} {K : Frag} {name qual : Str} {params : Arguments} {body : List Stmt} {scope : Scope} {cl : List (Str × Addr)} {dV kV doc pm cdv ct : Value} {an : Option Addr} {f : Addr} {fo : Obj} {args : Args} (binds : List (Str × Value))
    {p : Program} {loose : List Str} {mg mb : Str → Option Value} {prog : Program} {h₀ : Heap} {L : Addr} {m : Str → Option Value} {news : List (Addr × Obj)} {v : Value → List (Addr × Obj) → Prop}
    (F : Fr h₀ L s.heap m) (N : News h₀ L s.heap news) (X : K.In h₀) (T : TopRead p loose mg mb h₀)
    (ho : s.heap.get? f = some fo) (hd : fo.data = .func (fnX name qual params body scope cl dV kV doc pm an cdv ct)) (hcd : s.heap.CodeRec cdv qual) (hroom : A.depth < recursionLimit)
    (hbind : BindsTo s (fnX name qual params body scope cl dV kV doc pm an cdv ct) args binds) (hloc : ∀ y ∈ binds, scope.names.lookup y.1 = some .local)
    (h : ∀ g L' h₁ tk, Fr g L' h₁ (fun y => binds.reverse.lookup y) → News g L' h₁ news → K.In g → TopRead p loose mg mb g → (∀ b o, b ∉ news.map (·.1) → s.heap.get? b = some o → g.get? b = some o) → (∀ p ∈ news, p.1 < L') →
      wpAny (model prog w) (A.deeper (envX qual scope L' f cdv cl)) (execs body (envX qual scope L' f cdv cl)) (BodyEnd g L' s v) (fun _ _ => False) { s with heap := h₁, toks := tk })
    (hco : scope.isCoroutine = false) (hgen : scope.isGenerator = false) (hk : scope.kind = .function)
    (hcell : ∀ x ∈ scope.names, x.2 ≠ .cell) : codeAny (model prog w) A (.call (.ref f) args) (RetL h₀ L s (news.map (·.1)) v) s := by
  have nm : ∀ b o, h₀.get? b = some o → b ∉ news.map (·.1) := fun b o e q => by
    obtain ⟨p, hp, rfl⟩ := List.mem_map.mp q
    rw [(N p hp).2.2] at e; cases e
  have st : ∀ b o, h₀.get? b = some o → (hideAll s.heap (news.map (·.1))).get? b = some o := fun b o e => hideAll_get _ (F.keep b o e) (nm b o e)
  obtain ⟨oL, es, ep, hL, hLd, hLk, hLf⟩ := F.ns
  have nL : L ∉ news.map (·.1) := fun q => by
    obtain ⟨p, hp, e⟩ := List.mem_map.mp q
    exact (N p hp).2.1 e
  have hLg := hideAll_get (news.map (·.1)) hL nL
  refine codeAny_call_def (fd := fnX name qual params body scope cl dV kV doc pm an cdv ct) (body := body) (binds := binds) hroom ho hd (T.nolimit.keeps F.keep) hcd rfl hbind hcell hloc (fun h₁ hns hk₁ => ?_) hco hgen hk
  refine wpAny_mono (h (hideAll s.heap (news.map (·.1))) s.heap.objs.size h₁ _ ⟨hns, fun b o e => hk₁ b o (of_hideAll _ e), Nat.le_of_eq (hideAll_size _ _)⟩
    (fun p hp => ⟨hk₁ _ _ (N p hp).1, Nat.ne_of_lt (Heap.lt_size (N p hp).1), hideAll_none _ (List.mem_map_of_mem hp)⟩) (X.keeps st) (T.keeps st) (fun b o hb e => hideAll_get _ e hb) (fun p hp => Heap.lt_size (N p hp).1)) (fun fl s' hl => ?_) fun _ _ y => y.elim
  obtain ⟨h', tk, m', news', rfl, F', N', hv⟩ := hl
  refine ⟨_, h', tk, news', rfl, rfl, fun b o hb e => F'.keep b o (hideAll_get _ e hb), fun p hp => ⟨(N' p hp).1, fun q => ?_, ?_⟩, hv⟩
  · have := (N' p hp).2.2; rw [q, hLg] at this; cases this
  · cases q : h₀.get? p.1 with
    | none => rfl
    | some o => have := (N' p hp).2.2; rw [st _ _ q] at this; cases this

theorem enterLK {w : World} {A : Around} {s : Shared} {K : Frag} {name qual : Str} {params : Arguments} {body : List Stmt} {scope : Scope} {dV kV doc pm cdv ct oc : Value} {an od : Option Addr} {osl : Array (Option Value)} {f : Addr} {args : Args} (binds : List (Str × Value))
    {p : Program} {loose : List Str} {mg mb : Str → Option Value} {prog : Program} {h₀ : Heap} {L : Addr} {m : Str → Option Value} {news : List (Addr × Obj)} {v : Value → List (Addr × Obj) → Prop}
    (F : Fr h₀ L s.heap m) (N : News h₀ L s.heap news) (X : K.In h₀) (T : TopRead p loose mg mb h₀)
    (ho : K.lookup f = some ⟨oc, od, .func (fnOf name qual params body scope dV kV doc pm an cdv ct), osl⟩) (hcd : codeIn K cdv qual = true) (hroom : A.depth < recursionLimit)
    (hbind : BindsTo s (fnOf name qual params body scope dV kV doc pm an cdv ct) args binds) (hloc : ∀ y ∈ binds, scope.names.lookup y.1 = some .local)
    (h : ∀ g L' h₁ tk, Fr g L' h₁ (fun y => binds.reverse.lookup y) → News g L' h₁ news → K.In g → TopRead p loose mg mb g → (∀ b o, b ∉ news.map (·.1) → s.heap.get? b = some o → g.get? b = some o) → (∀ p ∈ news, p.1 < L') →
      wpAny (model prog w) (A.deeper (envOf qual scope L' f cdv)) (execs body (envOf qual scope L' f cdv)) (BodyEnd g L' s v) (fun _ _ => False) { s with heap := h₁, toks := tk })
    (hco : scope.isCoroutine = false) (hgen : scope.isGenerator = false) (hk : scope.kind = .function)
    (hcell : ∀ x ∈ scope.names, x.2 ≠ .cell) : codeAny (model prog w) A (.call (.ref f) args) (RetL h₀ L s (news.map (·.1)) v) s :=
  enterL (cl := []) binds F N X T ((X.keeps F.keep) _ _ ho) rfl (codeRec_of (X.keeps F.keep) hcd) hroom hbind hloc h hco hgen hk hcell

def findDef (name : Str) : List Stmt → Arguments × List Stmt × Scope
  | [] => (⟨[], [], none, [], [], none, []⟩, [], ⟨.function, [], false, false, []⟩)
  | s :: r => match s with
    | .FunctionDef n args body _ _ _ scope _ _ _ => if n == name then (args, body, scope) else findDef name r
    | _ => findDef name r
def readParts : Arguments × List Stmt × Scope := findDef (Str.ofString "read") (findDef (Str.ofString "_law_read") PySem.Challenge.rw_re0017_01.row.prog.main.body).2.1

local macro_rules | `(tactic| walk_at "eval Name") => `(tactic| (k_here; k_dflt (refine' nameX_F ?N ?c ?m ?d ?_ ?a ?b; (case a => rfl); (case b => rfl); (case N => k_asm); (case c => rfl); (case m => k_mem); (case d => k_asm); k_whole)))

theorem my_item {prog : Program} {w : World} {A : Around} {E : Value → Shared → Prop} {s : Shared} {value slice : PySem.Expr} {l : Addr} {vs : Array Value} {n : Nat} {k : Int} {u : Tok} {v : Value} {Q : Value → Shared → Prop} {h₀ : Heap} {L : Addr} {news : List (Addr × Obj)}
    (N : News h₀ L s.heap news) (hm : (l, W.listOf vs n) ∈ news) (h0 : 0 ≤ k) (hhi : k < 2 ^ 63) (hx : vs.toList[k.toNat]? = some v) (h : Q v s)
    (hs : subscripted slice false (.ref l) (.int k u) = operate [.ref l, .int k u] (getItem (.ref l) (.int k u))) :
    wpAny (model prog w) A (subscriptTail value slice (.ref l) (.int k u)) Q E s :=
  tail_any (Heap.IsList.typeIs ⟨_, (N _ hm).1, rfl, n, rfl⟩) slot_list_getitem.lookup (wpAny_getItem_list ⟨_, (N _ hm).1, rfl, n, rfl⟩ h0 hhi (by simpa using hx) h) hs
theorem my_getItem {prog : Program} {w : World} {A : Around} {E : Value → Shared → Prop} {s : Shared} {l : Addr} {vs : Array Value} {n : Nat} {k : Int} {u : Tok} {v : Value} {Q : Value → Shared → Prop} {h₀ : Heap} {L : Addr} {news : List (Addr × Obj)}
    (N : News h₀ L s.heap news) (hm : (l, W.listOf vs n) ∈ news) (h0 : 0 ≤ k) (hhi : k < 2 ^ 63) (hx : vs.toList[k.toNat]? = some v) (h : Q v s) :
    wpAny (model prog w) A (getItem (.ref l) (.int k u)) Q E s := wpAny_getItem_list ⟨_, (N _ hm).1, rfl, n, rfl⟩ h0 hhi (by simpa using hx) h
local macro_rules | `(tactic| walk_at "subscriptTail Name Constant ref int") => `(tactic| (k_here; k_dflt (refine' my_item ?N ?m ?a ?b ?x ?_ ?s; (case N => k_asm); (case m => k_mem); (case a => decide); (case b => decide); (case x => exact (List.getElem?_cons_zero ..)); (case s => with_unfolding_all rfl); k_whole)))
local macro_rules | `(tactic| walk_at "getItem ref int") => `(tactic| (k_here; k_dflt (refine' my_getItem ?N ?m ?a ?b ?x ?_; (case N => k_asm); (case m => k_mem); (case a => decide); (case b => decide); (case x => exact (List.getElem?_cons_zero ..)); k_whole)))
theorem read_spec {w : World} {s : Shared} {p : Program} {loose : List Str} {mg mb : Str → Option Value} {h₀ : Heap} {L : Addr} {m : Str → Option Value} {P cT cP FR CR : Addr} {oT oP : Obj} {pos : Int} {tp t1 tt : Tok} {ep : Nat} {text qual : Str} {doc pm ct : Value} {params : Arguments} {body : List Stmt} {scope : Scope}
    (F : Fr h₀ L s.heap m) (N : News h₀ L s.heap [(P, W.listOf #[.int pos tp] ep), (cT, oT), (cP, oP)]) (X : (hd.heap_39 w.params).In h₀) (T : TopRead p loose mg mb h₀)
    (dT : oT.data = .cell (some (.str text tt))) (dP : oP.data = .cell (some (.ref P))) (o1 : cP < cT) (o2 : cT < P)
    (ho : s.heap.get? FR = some (fnMade (Str.ofString "read") qual params body scope [(Str.ofString "text", cT), (Str.ofString "place", cP)] doc pm CR ct)) (hp : (params, body, scope) = readParts) (hcd : s.heap.CodeRec (.ref CR) qual)
    (h0 : 0 ≤ pos) (h1 : pos ≤ 100) (h2 : text.length ≤ 100) :
    codeAny (model pg w) A4 (.call (.ref FR) ⟨[.int 1 t1], []⟩) (RetL h₀ L s [P, cT, cP] fun x news' => ∃ t tp', x = .str (Txt.slice text (some pos) (some (pos + 1))) t ∧
      news' = [(P, W.listOf #[.int (pos + (Txt.slice text (some pos) (some (pos + 1))).length) tp'] ep), (cT, oT), (cP, oP)]) s := by
  (with_unfolding_all conv at hp => rhs; whnf)
  simp only [Prod.mk.injEq] at hp
  obtain ⟨rfl, rfl, rfl⟩ := hp
  refine' enterL [(Str.ofString "size", .int 1 t1)] F N X T ho rfl hcd ?k8 ?k9 ?kB ?_ ?c2 ?c3 ?c4 ?c5
  case k8 => decide
  case k9 => exact BindsTo.of_eq rfl
  case kB => exact locs rfl
  case c2 => exact rfl
  case c3 => exact rfl
  case c4 => exact rfl
  case c5 => decide
  intro g L' h₁ tk F' N' X' T' st lt
  k_lt lt
  replace o1 := ltN o1
  replace o2 := ltN o2
  clear F N X T
  (show wpAny _ _ _ _ _ _)
  k_fold
  k_steps
  dsimp only
  rename_i F9 N9 _
  exact ⟨_, _, _, _, rfl, F9, N9, _, _, rfl, rfl⟩

theorem call_byL {w : World} {A A' : Around} {s : Shared} {f : Addr} {args : List Value} {v : Value → List (Addr × Obj) → Prop} {h₀ : Heap} {L : Addr} {m : Str → Option Value} {news : List (Addr × Obj)} {Q : Value → Shared → Prop} {E : Value → Shared → Prop}
    (small rest : List (Addr × Obj)) (F : Fr h₀ L s.heap m) (N : News h₀ L s.heap news) (hs : ∀ p ∈ small, p ∈ news) (hr : ∀ p ∈ rest, p ∈ news ∧ p.1 ∉ small.map (·.1))
    (h1 : A.handled = A'.handled) (h2 : A.depth ≤ A'.depth) (h3 : A.units ≤ A'.units) (h4 : A'.frames = none) (h5 : A'.guards = none)
    (spec : News h₀ L s.heap small → codeAny (model pg w) A' (.call (.ref f) ⟨args, []⟩) (RetL h₀ L s (small.map (·.1)) v) s)
    (k : ∀ x h' tk small', v x small' → Fr h₀ L h' m → News h₀ L h' (small' ++ rest) → Q x ⟨h', s.gens, s.drawn, tk, s.os⟩) : wpAny (model pg w) A (call (.ref f) args) Q E s := by
  refine wpAny_call (codeAny_mono (codeAny_lift (spec fun p hp => N p (hs p hp)) h1 h2 h3 h4 h5) fun r s' hr' => ?_)
  obtain ⟨x, h', tk, news', rfl, rfl, keep, N', hv⟩ := hr'.out
  have off : ∀ b, b ∈ small.map (·.1) → h₀.get? b = none ∧ b ≠ L := fun b hb => by
    obtain ⟨p, hp, rfl⟩ := List.mem_map.mp hb
    exact ⟨(N p (hs p hp)).2.2, (N p (hs p hp)).2.1⟩
  obtain ⟨oL, es, ep, hL, r⟩ := F.ns
  refine k x h' tk news' hv ⟨⟨oL, es, ep, keep _ _ (fun q => (off _ q).2 rfl) hL, r⟩, fun b o e => keep b o (fun q => by rw [(off _ q).1] at e; cases e) (F.keep b o e), F.above⟩ fun p hp => ?_
  rcases List.mem_append.mp hp with hp | hp
  · exact N' p hp
  · exact ⟨keep _ _ (hr p hp).2 (N p (hr p hp).1).1, (N p (hr p hp).1).2⟩

def ldict (w : World) (k1 k2 k3 k4 : Tok) (ln : Int) (tl : Tok) (FS : Addr) (tw : Tok) (PB : Addr) : Obj :=
  W.dictOf [⟨PyData.keyHash w.params (Str.ofString "lineno"), .str (Str.ofString "lineno") k1, .int ln tl⟩, ⟨PyData.keyHash w.params (Str.ofString "instream"), .str (Str.ofString "instream") k2, .ref FS⟩,
    ⟨PyData.keyHash w.params (Str.ofString "whitespace"), .str (Str.ofString "whitespace") k3, .str (Str.ofString "_") tw⟩, ⟨PyData.keyHash w.params (Str.ofString "pushback"), .str (Str.ofString "pushback") k4, .ref PB⟩] 4

/-- what stands still under the lexer -/
structure LexS where
  (cP cT P CR FR FS DS DX X PB : Addr)
  (k1 k2 k3 k4 k5 tw tt : Tok)
  (fdS : FuncData) (slS : Array (Option Value)) (oc oT oP : Obj) (ep : Nat) (text qual : Str) (doc pm ct : Value) (params : Arguments) (body : List Stmt) (scope : Scope) (vc : Array Value) (tq : Tok)

structure LexS.Ok (a : LexS) : Prop where
  dT : a.oT.data = .cell (some (.str a.text a.tt))
  dP : a.oP.data = .cell (some (.ref a.P))
  dc : a.oc.data = .fields a.vc
  dq : a.vc[1]? = some (.str a.qual a.tq)
  hp : (a.params, a.body, a.scope) = readParts
  o1 : a.cP < a.cT
  o2 : a.cT < a.P
  o3 : a.P < a.CR
  o4 : a.CR < a.FR
  o5 : a.FR < a.FS
  o6 : a.FS < a.DS
  o7 : a.DS < a.DX
  o8 : a.DX < a.X
  o9 : a.X < a.PB
  len : a.text.length ≤ 100

def lexL (w : World) (a : LexS) (pos : Int) (tp : Tok) (ln : Int) (tl : Tok) : List (Addr × Obj) :=
  [(a.X, instObj 80 a.DX), (a.DX, ldict w a.k1 a.k2 a.k3 a.k4 ln tl a.FS a.tw a.PB), (a.DS, W.dictOf [⟨PyData.keyHash w.params (Str.ofString "read"), .str (Str.ofString "read") a.k5, .ref a.FR⟩] 1),
   (a.FS, ⟨.type "function", some a.DS, .func a.fdS, a.slS⟩), (a.FR, fnMade (Str.ofString "read") a.qual a.params a.body a.scope [(Str.ofString "text", a.cT), (Str.ofString "place", a.cP)] a.doc a.pm a.CR a.ct), (a.CR, a.oc),
   (a.P, W.listOf #[.int pos tp] a.ep), (a.cT, a.oT), (a.cP, a.oP), (a.PB, W.listOf #[] 0)]

/-- an order that is not shown to omega -/
def LtA (a b : Nat) : Prop := a < b
theorem LtA.ne {a b : Nat} (h : LtA a b) : a ≠ b := Nat.ne_of_lt h
theorem LtA.ne' {a b : Nat} (h : LtA a b) : b ≠ a := Nat.ne_of_gt h
theorem LtA.trans {a b c : Nat} (h : LtA a b) (k : LtA b c) : LtA a c := Nat.lt_trans h k
theorem not3 {x a b c : Nat} (h1 : x ≠ a) (h2 : x ≠ b) (h3 : x ≠ c) : ¬ (x = a ∨ x = b ∨ x = c) := by omega
theorem call_read {w : World} {A : Around} {s : Shared} {p : Program} {loose : List Str} {mg mb : Str → Option Value} {h₀ : Heap} {L : Addr} {m : Str → Option Value} {a : LexS} {pos ln : Int} {tp tl t1 : Tok} {Q : Value → Shared → Prop} {E : Value → Shared → Prop}
    (F : Fr h₀ L s.heap m) (N : News h₀ L s.heap (lexL w a pos tp ln tl)) (X : (hd.heap_39 w.params).In h₀) (T : TopRead p loose mg mb h₀) (ok : a.Ok) (h0 : 0 ≤ pos) (h1 : pos ≤ 100)
    (hA1 : A.handled = A4.handled) (hA2 : A.depth ≤ A4.depth) (hA3 : A.units ≤ A4.units)
    (k : ∀ t tp' h' tk, Fr h₀ L h' m → News h₀ L h' (lexL w a (pos + (Txt.slice a.text (some pos) (some (pos + 1))).length) tp' ln tl) → Q (.str (Txt.slice a.text (some pos) (some (pos + 1))) t) ⟨h', s.gens, s.drawn, tk, s.os⟩) :
    wpAny (model pg w) A (call (.ref a.FR) [.int 1 t1]) Q E s := by
  have z0_1 : LtA (a.cP) (a.cT) := ok.o1
  have z1_2 : LtA (a.cT) (a.P) := ok.o2
  have z2_3 : LtA (a.P) (a.CR) := ok.o3
  have z3_4 : LtA (a.CR) (a.FR) := ok.o4
  have z4_5 : LtA (a.FR) (a.FS) := ok.o5
  have z5_6 : LtA (a.FS) (a.DS) := ok.o6
  have z6_7 : LtA (a.DS) (a.DX) := ok.o7
  have z7_8 : LtA (a.DX) (a.X) := ok.o8
  have z8_9 : LtA (a.X) (a.PB) := ok.o9
  have z0_2 : LtA (a.cP) (a.P) := LtA.trans z0_1 z1_2
  have z1_3 : LtA (a.cT) (a.CR) := LtA.trans z1_2 z2_3
  have z2_4 : LtA (a.P) (a.FR) := LtA.trans z2_3 z3_4
  have z3_5 : LtA (a.CR) (a.FS) := LtA.trans z3_4 z4_5
  have z4_6 : LtA (a.FR) (a.DS) := LtA.trans z4_5 z5_6
  have z5_7 : LtA (a.FS) (a.DX) := LtA.trans z5_6 z6_7
  have z6_8 : LtA (a.DS) (a.X) := LtA.trans z6_7 z7_8
  have z7_9 : LtA (a.DX) (a.PB) := LtA.trans z7_8 z8_9
  have z0_3 : LtA (a.cP) (a.CR) := LtA.trans z0_2 z2_3
  have z1_4 : LtA (a.cT) (a.FR) := LtA.trans z1_3 z3_4
  have z2_5 : LtA (a.P) (a.FS) := LtA.trans z2_4 z4_5
  have z3_6 : LtA (a.CR) (a.DS) := LtA.trans z3_5 z5_6
  have z4_7 : LtA (a.FR) (a.DX) := LtA.trans z4_6 z6_7
  have z5_8 : LtA (a.FS) (a.X) := LtA.trans z5_7 z7_8
  have z6_9 : LtA (a.DS) (a.PB) := LtA.trans z6_8 z8_9
  have z0_4 : LtA (a.cP) (a.FR) := LtA.trans z0_3 z3_4
  have z1_5 : LtA (a.cT) (a.FS) := LtA.trans z1_4 z4_5
  have z2_6 : LtA (a.P) (a.DS) := LtA.trans z2_5 z5_6
  have z3_7 : LtA (a.CR) (a.DX) := LtA.trans z3_6 z6_7
  have z4_8 : LtA (a.FR) (a.X) := LtA.trans z4_7 z7_8
  have z5_9 : LtA (a.FS) (a.PB) := LtA.trans z5_8 z8_9
  have z0_5 : LtA (a.cP) (a.FS) := LtA.trans z0_4 z4_5
  have z1_6 : LtA (a.cT) (a.DS) := LtA.trans z1_5 z5_6
  have z2_7 : LtA (a.P) (a.DX) := LtA.trans z2_6 z6_7
  have z3_8 : LtA (a.CR) (a.X) := LtA.trans z3_7 z7_8
  have z4_9 : LtA (a.FR) (a.PB) := LtA.trans z4_8 z8_9
  have z0_6 : LtA (a.cP) (a.DS) := LtA.trans z0_5 z5_6
  have z1_7 : LtA (a.cT) (a.DX) := LtA.trans z1_6 z6_7
  have z2_8 : LtA (a.P) (a.X) := LtA.trans z2_7 z7_8
  have z3_9 : LtA (a.CR) (a.PB) := LtA.trans z3_8 z8_9
  have z0_7 : LtA (a.cP) (a.DX) := LtA.trans z0_6 z6_7
  have z1_8 : LtA (a.cT) (a.X) := LtA.trans z1_7 z7_8
  have z2_9 : LtA (a.P) (a.PB) := LtA.trans z2_8 z8_9
  have z0_8 : LtA (a.cP) (a.X) := LtA.trans z0_7 z7_8
  have z1_9 : LtA (a.cT) (a.PB) := LtA.trans z1_8 z8_9
  have z0_9 : LtA (a.cP) (a.PB) := LtA.trans z0_8 z8_9
  have hFR : s.heap.get? a.FR = some (fnMade (Str.ofString "read") a.qual a.params a.body a.scope [(Str.ofString "text", a.cT), (Str.ofString "place", a.cP)] a.doc a.pm a.CR a.ct) := (N (a.FR, _) (by unfold lexL; simp)).1
  refine call_byL [(a.P, W.listOf #[.int pos tp] a.ep), (a.cT, a.oT), (a.cP, a.oP)] [(a.X, instObj 80 a.DX), (a.DX, ldict w a.k1 a.k2 a.k3 a.k4 ln tl a.FS a.tw a.PB), (a.DS, W.dictOf [⟨PyData.keyHash w.params (Str.ofString "read"), .str (Str.ofString "read") a.k5, .ref a.FR⟩] 1),
   (a.FS, ⟨.type "function", some a.DS, .func a.fdS, a.slS⟩), (a.FR, fnMade (Str.ofString "read") a.qual a.params a.body a.scope [(Str.ofString "text", a.cT), (Str.ofString "place", a.cP)] a.doc a.pm a.CR a.ct), (a.CR, a.oc), (a.PB, W.listOf #[] 0)]
   F N ?_ ?_ hA1 hA2 hA3 rfl rfl (fun N1 => read_spec F N1 X T ok.dT ok.dP ok.o1 ok.o2 hFR ok.hp (codeRec_news N (c := a.CR) (oc := a.oc) ?_ ok.dc ok.dq) h0 h1 ok.len) ?_
  · intro p hp
    simp only [List.mem_cons, List.not_mem_nil, or_false] at hp
    unfold lexL
    rcases hp with rfl | rfl | rfl <;> simp
  · intro p hp
    simp only [List.mem_cons, List.not_mem_nil, or_false] at hp
    unfold lexL
    rcases hp with rfl | rfl | rfl | rfl | rfl | rfl | rfl <;> (refine ⟨by simp, ?_⟩; simp only [List.map_cons, List.map_nil, List.mem_cons, List.not_mem_nil, or_false]; exact not3 (by first | exact LtA.ne (by assumption) | exact LtA.ne' (by assumption)) (by first | exact LtA.ne (by assumption) | exact LtA.ne' (by assumption)) (by first | exact LtA.ne (by assumption) | exact LtA.ne' (by assumption)))
  · unfold lexL; simp
  · rintro x h' tk small' ⟨t, tp', rfl, rfl⟩ F' N'
    refine k t tp' h' tk F' fun p hp => N' p ?_
    unfold lexL at hp
    simp only [List.mem_cons, List.not_mem_nil, or_false, List.cons_append, List.nil_append] at hp ⊢
    rcases hp with rfl | rfl | rfl | rfl | rfl | rfl | rfl | rfl | rfl | rfl <;> simp

local macro_rules | `(tactic| walk_at "getMethod ref") => `(tactic| (k_here; (with_reducible show wpAny _ _ (getMethod (Value.ref _) (Str.ofString "read") _) _ _ _); k_dflt (refine' fn_getMethod (News.get (by k_asm) ?m1) (News.get (by k_asm) ?m2) ?l ?h ?_; (case m1 => k_mem); (case m2 => k_mem); (case l => k_get); (case h => rfl))))
local macro_rules | `(tactic| walk_at "callWith ref") => `(tactic| (k_here; k_dflt (refine' callWith_F ?k1 ?_; (case k1 => exact FnAt.of (by k_asm) (by k_mem)); k_whole)))
local macro_rules | `(tactic| walk_at "call ref") => `(tactic| (k_here; refine Stop.on ?_))

theorem readChar_spec {w : World} {s : Shared} {p : Program} {loose : List Str} {mg mb : Str → Option Value} {h₀ : Heap} {L : Addr} {m : Str → Option Value} {a : LexS} {pos ln : Int} {tp tl : Tok}
    (F : Fr h₀ L s.heap m) (N : News h₀ L s.heap (lexL w a pos tp ln tl)) (X : (hd.heap_39 w.params).In h₀) (T : TopRead p loose mg mb h₀) (ok : a.Ok) (h0 : 0 ≤ pos) (h1 : pos ≤ 100) (h2 : 0 ≤ ln) (h3 : ln ≤ 1000) :
    codeAny (model pg w) A3 (.call (.ref 63) ⟨[.ref a.X], []⟩) (RetL h₀ L s ((lexL w a pos tp ln tl).map (·.1)) fun x news' => ∃ t tp' tl', x = .str (Txt.slice a.text (some pos) (some (pos + 1))) t ∧
      news' = lexL w a (pos + (Txt.slice a.text (some pos) (some (pos + 1))).length) tp' (if Txt.slice a.text (some pos) (some (pos + 1)) == Str.ofString "\n" then ln + 1 else ln) tl') s := by
  obtain ⟨cP, cT, P, CR, FR, FS, DS, DX, XA, PB, k1, k2, k3, k4, k5, tw, tt, fdS, slS, oc, oT, oP, ep, text, qual, doc, pm, ct, params, body, scope, vc, tq⟩ := a
  obtain ⟨dT, dP, dc, dq, hp, o1, o2, o3, o4, o5, o6, o7, o8, o9, len⟩ := ok
  dsimp only at dT dP dc dq hp o1 o2 o3 o4 o5 o6 o7 o8 o9 len
  replace o1 := ltN o1
  replace o2 := ltN o2
  replace o3 := ltN o3
  replace o4 := ltN o4
  replace o5 := ltN o5
  replace o6 := ltN o6
  replace o7 := ltN o7
  replace o8 := ltN o8
  replace o9 := ltN o9
  refine' enterLK [(Str.ofString "self", .ref XA)] F N X T ?k6 ?k7 ?k8 ?k9 ?kB ?_ ?c2 ?c3 ?c4 ?c5
  case k6 => k_is
  case k7 => k_is
  case k8 => decide
  case k9 => exact BindsTo.of_eq rfl
  case kB => exact locs rfl
  case c2 => exact rfl
  case c3 => exact rfl
  case c4 => exact rfl
  case c5 => decide
  intro g L' h₁ tk F' N' X' T' st lt
  unfold lexL ldict at N'
  dsimp only at N'
  unfold lexL at lt
  dsimp only at lt
  k_lt lt
  clear F N X T
  (show wpAny _ _ _ _ _ _)
  k_fold
  k_steps
  refine Stop.off ?_
  refine call_read (a := ⟨cP, cT, P, CR, FR, FS, DS, DX, XA, PB, k1, k2, k3, k4, k5, tw, tt, fdS, slS, oc, oT, oP, ep, text, qual, doc, pm, ct, params, body, scope, vc, tq⟩) F' N' X' T' ⟨dT, dP, dc, dq, hp, o1, o2, o3, o4, o5, o6, o7, o8, o9, len⟩ h0 h1 rfl (Nat.le_of_ble_eq_true rfl) (Nat.le_of_ble_eq_true rfl) ?_
  intro t tp' h' tk' F' N'
  unfold lexL ldict at N'
  dsimp only at N' ⊢
  k_steps
  · dsimp only
    rename_i hc _ F9 N9 _
    exact ⟨_, _, _, _, rfl, F9, N9, _, _, _, rfl, by rw [if_pos (by assumption)]; rfl⟩
  · dsimp only
    rename_i F9 N9 _ hc
    exact ⟨_, _, _, _, rfl, F9, N9, _, _, _, rfl, by rw [if_neg (by rw [hc]; decide)]; rfl⟩
end
section
open PySem PySem.W PyProof.Rows PySem.Builtin PySem.Calls
set_option maxHeartbeats 8000000

abbrev ciEnd : Obj := { cls := .type "callable_iterator", data := .fields #[.none, .none, .bool true] }
abbrev ciObj (q : Addr) (t : Tok) : Obj := { cls := .type "callable_iterator", data := .fields #[.ref q, .str (Str.ofString "") t, .bool false] }

theorem slot_ci_next : Slot "callable_iterator" "__next__" "callable_iterator.__next__" :=
  .of (owner := "callable_iterator") (n := "__next__") (by rw [typeLookup_type, builtinLookup_eq_fast]; kernel_rfl) (by decide +kernel) (by decide +kernel) (by decide +kernel)
    (by first | exact .inl (by decide +kernel) | exact .inr (by decide +kernel)) (by rw [isSubtype_type]; kernel_rfl)
theorem slot_ci_iter : Slot "callable_iterator" "__iter__" "callable_iterator.__iter__" :=
  .of (owner := "callable_iterator") (n := "__iter__") (by rw [typeLookup_type, builtinLookup_eq_fast]; kernel_rfl) (by decide +kernel) (by decide +kernel) (by decide +kernel)
    (by first | exact .inl (by decide +kernel) | exact .inr (by decide +kernel)) (by rw [isSubtype_type]; kernel_rfl)
theorem entry_ci_next : entryFor table "callable_iterator.__next__" = some Builtin.«callable_iterator.__next__» := entryFor_of_fast (by kernel_rfl)
theorem entry_ci_iter : entryFor table "callable_iterator.__iter__" = some Builtin.«dict_keyiterator.__iter__» :=
  entryFor_alias (id' := "dict_keyiterator.__iter__") (by kernel_rfl) rfl (by decide +kernel) (by kernel_rfl)
theorem args_ci_next (a : Value) : argsOk "callable_iterator.__next__" ⟨[a], []⟩ := by unfold argsOk; kernel_rfl
theorem args_ci_iter (a : Value) : argsOk "callable_iterator.__iter__" ⟨[a], []⟩ := by unfold argsOk; kernel_rfl
theorem args_iter2 (a b : Value) : argsOk "iter" ⟨[a, b], []⟩ := by unfold argsOk; kernel_rfl

theorem ci_pyIter {prog : Program} {w : World} {A : Around} {E : Value → Shared → Prop} {s : Shared} {I q : Addr} {t : Tok} {Q : Value → Shared → Prop} (hit : s.heap.get? I = some (ciObj q t)) (h : Q (.ref I) s) :
    wpAny (model prog w) A (pyIter (.ref I)) Q E s := by
  have hT : s.TypeIs (.ref I) "callable_iterator" := ⟨_, hit, rfl⟩
  refine wpAny_pyIter_slot hT slot_ci_iter (wpAny_call_entry slot_ci_iter hT entry_ci_iter ?_ (args_ci_iter _))
  show wpAny _ _ (ret (.ref I)) _ _ s
  exact wpAny_pure ⟨_, rfl, "callable_iterator", _, hT, slot_ci_next.lookup, h⟩

theorem ci_next {w : World} {A : Around} {E : Value → Shared → Prop} {s : Shared} {I q x : Addr} {t : Tok} {o63 : Obj} {fd63 : FuncData} {Q : Option Value → Shared → Prop} (hh : A.handled = none)
    (hit : s.heap.get? I = some (ciObj q t)) (hq : s.heap.get? q = some (methodObj (.ref 63) (.ref x))) (h63 : s.heap.get? 63 = some o63) (d63 : o63.data = .func fd63)
    (spec : codeAny (model pg w) A.in1 (.call (.ref 63) ⟨[.ref x], []⟩) (fun r s' => ∃ c t' h' tk, r = .ok (.ret (.str c t')) ∧ s' = ⟨h', s.gens, s.drawn, tk, s.os⟩ ∧ h'.get? I = some (ciObj q t) ∧ h'.get? q = some (methodObj (.ref 63) (.ref x)) ∧ h'.get? 63 = some o63 ∧
      ((c == Str.ofString "") = false → Q (some (.str c t')) s') ∧ ((c == Str.ofString "") = true → ∀ h'' tk'', (∀ b o, b ≠ I → h'.get? b = some o → h''.get? b = some o) → h''.get? I = some ciEnd → Q none ⟨h'', s.gens, s.drawn, tk'', s.os⟩)) s) :
    wpAny (model pg w) A (pyNext (.ref I)) Q E s := by
  have hT : s.TypeIs (.ref I) "callable_iterator" := ⟨_, hit, rfl⟩
  unfold pyNext
  refine wpAny_bind (wpAny_attempt (wpAny_callSpecial?_slot (name := Str.ofString "__next__") hT slot_ci_next (wpAny_call_entry slot_ci_next hT entry_ci_next ?_ (args_ci_next _))))
  unfold Builtin.«callable_iterator.__next__»
  refine wpAny_bind (m := slotArgs "__next__" 0 _) (wpAny_of_eq (a := (Value.ref I, [])) (by first | rfl | kernel_rfl) ?_)
  dsimp only
  refine wpAny_bind (wpAny_field (x := .bool false) hit rfl rfl ?_)
  rw [if_neg (by decide)]
  refine wpAny_bind (wpAny_field (x := .ref q) hit rfl rfl ?_)
  refine wpAny_bind (wpAny_attempt ?_)
  unfold callOutOfASlot
  have hb : ∀ {Q' : Bool → Shared → Prop} {E' : Value → Shared → Prop} {h : Heap} {g : Array GenState} {d : Drawn} {tk : Nat} {os : OsState}, h.get? q = some (methodObj (.ref 63) (.ref x)) → h.get? 63 = some o63 → Q' true ⟨h, g, d, tk, os⟩ → wpAny (model pg w) A.in1 (borrowsExactly (.ref q)) Q' E' ⟨h, g, d, tk, os⟩ := by
    intro Q' E' h g d tk os e1 e2 hQ
    unfold borrowsExactly
    refine wpAny_bind (wpAny_load e1 ?_)
    show wpAny _ _ (load 63 >>= _) _ _ _
    refine wpAny_bind (wpAny_load e2 ?_)
    rw [d63]
    exact wpAny_pure hQ
  obtain ⟨hp, g, d, tk, os⟩ := s
  refine wpAny_bind (hb hq h63 ?_)
  rw [if_pos rfl]
  unfold callBorrowed
  refine PySem.W.X.x_call ?_ (by simp)
  refine method_call hq (codeAny_mono spec fun r s' hr => ?_)
  obtain ⟨c, t', h', tk', rfl, rfl, i1, i2, i3, k1, k2⟩ := hr
  refine wpAny_pure ?_
  dsimp only
  refine wpAny_bind (wpAny_field (x := .bool false) i1 rfl rfl ?_)
  rw [if_neg (by decide)]
  refine wpAny_bind (wpAny_field (x := .str (Str.ofString "") t) i1 rfl rfl ?_)
  have heq : ∀ {Q' : Bool → Shared → Prop}, Q' (c == Str.ofString "") ⟨h', g, d, tk', os⟩ → wpAny (model pg w) A.in1 (eqBool (.str (Str.ofString "") t) (.str c t')) Q' (fun e s' => wpAny (model pg w) A (match (Except.error e : Except Value (Option Value)) with
        | Except.ok (some v) => pure (some v)
        | Except.ok none => unsupported "iter:the-iterator's-class-has-lost-its-__next__-amid-the-walk"
        | Except.error e => do
          let __do_lift ← isInstance e (Value.type "StopIteration")
          if __do_lift = true then pure none else throw e) Q E s') ⟨h', g, d, tk', os⟩ := by
    intro Q' hQ
    unfold eqBool
    refine wpAny_holding ?_
    by_cases hv : (Value.str (Str.ofString "") t == Value.str c t') = true
    · rw [if_pos hv]
      have e := eq_of_beq hv
      have : c = Str.ofString "" := by cases e; rfl
      subst this
      rw [beq_self_eq_true] at hQ
      exact wpAny_bind (wpAny_rule (wpAny_pure hQ))
    · rw [if_neg hv]
      show wpAny _ _ (richCompare .Eq _ _ >>= _) _ _ _
      refine wpAny_bind (PyProof.Rows.eq_str (t := t) (u := t') ?_)
      have hc : (Str.ofString "" == c) = (c == Str.ofString "") := by
        by_cases e : c = Str.ofString ""
        · subst e; rfl
        · rw [beq_false_of_ne e, beq_false_of_ne (Ne.symm e)]
      rw [hc]
      exact wpAny_truthy_bool hQ
  refine wpAny_bind (wpAny_holding (heq ?_))
  cases hc : (c == Str.ofString "") with
  | false =>
    refine wpAny_pure ⟨_, rfl, wpAny_pure (k1 hc)⟩
  | true =>
    refine wpAny_bind (wpAny_rule (wpAny_bind ?_))
    show wpAny _ _ (field (.ref I) 0 >>= fun g0 => slotLetsGo "callable_iterator.__next__" g0 _ >>= fun _ => setField (.ref I) 0 .none >>= fun _ => setField (.ref I) 1 .none >>= fun _ => setField (.ref I) 2 (.bool true)) _ _ _
    refine wpAny_bind (wpAny_field (x := .ref q) i1 rfl rfl (wpAny_bind ?_))
    unfold slotLetsGo
    refine wpAny_bind (hb i2 i3 ?_)
    rw [if_pos rfl]
    refine wpAny_pure ?_
    refine wpAny_bind (wpAny_setField_rec i1 (by simp) fun h1 e1 s1 => ?_)
    refine wpAny_bind (wpAny_setField_rec e1 (by simp) fun h2 e2 s2 => ?_)
    refine (wpAny_setField_rec e2 (by simp) fun h3 e3 s3 => ?_)
    have keep : ∀ b o, b ≠ I → h'.get? b = some o → h3.get? b = some o := fun b o hb e => (s3.2 b hb).trans ((s2.2 b hb).trans ((s1.2 b hb).trans e))
    show wpAny _ _ (newExc (.type "StopIteration") [] >>= _) _ _ _
    refine wpAny_bind ?_
    simp only [newExc, newTuple]
    refine wpAny_bind (wpAny_newObj_type ?_ (by size_fits))
    refine wpAny_bind (m := firstArgMember _ _) (wpAny_of_eq (a := Value.none) (by first | rfl | (simp only [firstArgMember]; rfl)) ?_)
    refine wpAny_newObj_type ?_ (by size_fits)
    simp only [raiseNew]
    refine wpAny_bind (wpAny_handled ?_)
    rw [show A.in1.handled = none from hh]
    refine wpAny_bind (wpAny_pure (wpAny_throw ?_))
    refine wpAny_bind (wpAny_isInstance (T := "StopIteration") (b := true) ⟨_, Heap.get?_push_size _ rfl, rfl⟩ isSubtype_stop ?_)
    exact wpAny_pure (k2 hc _ _ (fun b o hb e => Heap.get?_push_of_some _ (Heap.get?_push_of_some _ (keep b o hb e))) (Heap.get?_push_of_some _ (Heap.get?_push_of_some _ (e3.trans (by simp)))))

theorem ci_ended {prog : Program} {w : World} {A : Around} {E : Value → Shared → Prop} {s : Shared} {I : Addr} {Q : Option Value → Shared → Prop} (hh : A.handled = none) (hit : s.heap.get? I = some ciEnd)
    (h : ∀ h'', (∀ b o, s.heap.get? b = some o → h''.get? b = some o) → Q none { s with heap := h'' }) : wpAny (model prog w) A (pyNext (.ref I)) Q E s := by
  have hT : s.TypeIs (.ref I) "callable_iterator" := ⟨_, hit, rfl⟩
  unfold pyNext
  refine wpAny_bind (wpAny_attempt (wpAny_callSpecial?_slot (name := Str.ofString "__next__") hT slot_ci_next (wpAny_call_entry slot_ci_next hT entry_ci_next ?_ (args_ci_next _))))
  unfold Builtin.«callable_iterator.__next__»
  refine wpAny_bind (m := slotArgs "__next__" 0 _) (wpAny_of_eq (a := (Value.ref I, [])) (by first | rfl | kernel_rfl) ?_)
  dsimp only
  refine wpAny_bind (wpAny_field (x := .bool true) hit rfl rfl ?_)
  rw [if_pos (by decide)]
  refine wpAny_bind (wpAny_rule (wpAny_bind ?_))
  show wpAny _ _ (newExc (.type "StopIteration") [] >>= _) _ _ _
  refine wpAny_bind ?_
  simp only [newExc, newTuple]
  refine wpAny_bind (wpAny_newObj_type ?_ (by size_fits))
  refine wpAny_bind (m := firstArgMember _ _) (wpAny_of_eq (a := Value.none) (by first | rfl | (simp only [firstArgMember]; rfl)) ?_)
  refine wpAny_newObj_type ?_ (by size_fits)
  simp only [raiseNew]
  refine wpAny_bind (wpAny_handled ?_)
  rw [show A.in1.handled = none from hh]
  refine wpAny_bind (wpAny_pure (wpAny_throw ?_))
  refine wpAny_bind (wpAny_isInstance (T := "StopIteration") (b := true) ⟨_, Heap.get?_push_size _ rfl, rfl⟩ isSubtype_stop ?_)
  exact wpAny_pure (h _ fun b o e => Heap.get?_push_of_some _ (Heap.get?_push_of_some _ e))

theorem iter2 {prog : Program} {w : World} {A : Around} {E : Value → Shared → Prop} {s : Shared} {q x : Addr} {t : Tok} {Q : Value → Shared → Prop} {h₀ : Heap} {L : Addr} {m : Str → Option Value} {news : List (Addr × Obj)} (F : Fr h₀ L s.heap m) (N : News h₀ L s.heap news)
    (hq : (q, methodObj (.ref 63) (.ref x)) ∈ news) (h : ∀ I h', Fr h₀ L h' m → News h₀ L h' ((I, ciObj q t) :: news) → (∀ p ∈ news, p.1 < I) → Q (.ref I) { s with heap := h' }) :
    wpAny (model prog w) A (call (.builtin "iter") [.ref q, .str (Str.ofString "") t]) Q E s := by
  refine call_function_entry (by decide +kernel) (by decide +kernel) kdk_entry_iter (args_iter2 _ _) ?_
  unfold Builtin.«iter»
  refine wpAny_bind (m := someArgs "iter" 1 2 _) (wpAny_of_eq (a := [Value.ref q, .str (Str.ofString "") t]) (by first | rfl | kernel_rfl!) ?_)
  dsimp only
  have hT : s.TypeIs (.ref q) "method" := ⟨_, (N _ hq).1, rfl⟩
  have hl : ∃ r, typeLookup (.type "method") (Str.ofString "__call__") = pure (some r) := ⟨.builtin "method.__call__", by rw [typeLookup_type, builtinLookup_eq_fast]; kernel_rfl⟩
  obtain ⟨r, hl⟩ := hl
  refine wpAny_bind (wpAny_specialOf hT hl ?_)
  rw [if_neg (by simp)]
  refine wpAny_bind (wpAny_rule (wpAny_bind ?_))
  unfold newFields
  refine wpAny_newObj_type ?_ (by size_fits)
  exact wpAny_pure ⟨_, rfl, h _ _ (F.push _) (N.push F _) fun p hp => Heap.lt_size (N p hp).1⟩
end
section
set_option maxHeartbeats 8000000

def S (l : List Nat) : Str := ⟨l.toArray⟩
theorem slice_in {text : Str} {n : Nat} {c : Nat} {r : List Nat} (h : text.cps.toList.drop n = c :: r) : Txt.slice text (some (n : Int)) (some ((n : Int) + 1)) = S [c] := by
  have hlen : n < text.cps.toList.length := by
    rcases Nat.lt_or_ge n text.cps.toList.length with h' | h'
    · exact h'
    · rw [List.drop_eq_nil_of_le h'] at h; cases h
  show StrLaws.sliceText text (some (n : Int)) (some ((n : Int) + 1)) = S [c]
  rw [StrLaws.sliceText_plain ⟨by omega, by omega, by omega⟩, show ((n : Int)).toNat = n by omega, h, show ((n : Int) + 1 - (n : Int)).toNat = 1 by omega]
  rfl
theorem slice_end {text : Str} {n : Nat} (_h : text.cps.toList.drop n = []) (hn : n = text.length) : Txt.slice text (some (n : Int)) (some ((n : Int) + 1)) = S [] := by
  have e : Builtin.Str.strSliceIndices (some (n : Int)) (some ((n : Int) + 1)) 1 text.length = [] := by
    subst hn
    unfold Builtin.Str.strSliceIndices PySem.sliceRange
    simp
    omega
  unfold Txt.slice
  rw [e]
  split
  · rename_i h
    have h' : text.length = 0 := by (have : 0 = text.length := by simpa using h); omega
    show text = S []
    obtain ⟨c⟩ := text
    have : c = #[] := by simpa [Str.length] using h'
    subst this; rfl
  · rfl
def nl (c : Nat) : Int := if c = 10 then 1 else 0

def lexA (a : LexS) : List Addr := [a.X, a.DX, a.DS, a.FS, a.FR, a.CR, a.P, a.cT, a.cP, a.PB]
theorem lexL_map (w : World) (a : LexS) (pos : Int) (tp : Tok) (ln : Int) (tl : Tok) : (lexL w a pos tp ln tl).map (·.1) = lexA a := rfl

section
variable {w : World} {A : Around} {s : Shared} {p : Program} {loose : List Str} {mg mb : Str → Option Value} {h₀ : Heap} {L : Addr} {m : Str → Option Value} {a : LexS} {n : Nat} {ln : Int} {tp tl : Tok} {rest : List (Addr × Obj)}

theorem readChar_in {c : Nat} {r : List Nat} (F : Fr h₀ L s.heap m) (N : News h₀ L s.heap (lexL w a n tp ln tl)) (X : (hd.heap_39 w.params).In h₀) (T : TopRead p loose mg mb h₀) (ok : a.Ok) (h2 : 0 ≤ ln) (h3 : ln ≤ 1000)
    (hr : a.text.cps.toList.drop n = c :: r) :
    codeAny (model pg w) A3 (.call (.ref 63) ⟨[.ref a.X], []⟩) (RetL h₀ L s (lexA a) fun x news' => ∃ t tp' tl', x = .str (S [c]) t ∧ news' = lexL w a ((n + 1 : Nat) : Int) tp' (ln + nl c) tl') s := by
  have hlen : n < a.text.cps.toList.length := by
    rcases Nat.lt_or_ge n a.text.cps.toList.length with h | h
    · exact h
    · rw [List.drop_eq_nil_of_le h] at hr; cases hr
  have hl : n ≤ 100 := by
    have := ok.len
    simp only [Array.length_toList] at hlen
    unfold Str.length at this
    omega
  refine codeAny_mono (readChar_spec F N X T ok (by omega) (by omega) h2 h3) fun r s' hs => ⟨?_⟩
  obtain ⟨x, h', tk, news', e1, e2, e3, e4, t, tp', tl', hx, hn⟩ := hs.out
  refine ⟨x, h', tk, news', e1, e2, e3, e4, t, tp', tl', ?_, ?_⟩
  · rw [hx, slice_in hr]
  · rw [hn, slice_in hr]
    have e5 : (n : Int) + ((S [c]).length : Int) = ((n + 1 : Nat) : Int) := by show (n : Int) + ((1 : Nat) : Int) = _; omega
    have e6 : (if (S [c] == Str.ofString "\n") = true then ln + 1 else ln) = ln + nl c := by
      have e7 : Str.ofString "\n" = S [10] := by decide +kernel
      rw [e7]
      unfold nl
      by_cases h : c = 10
      · subst h; rw [if_pos (beq_self_eq_true _), if_pos rfl]
      · rw [if_neg, if_neg h]
        · omega
        · intro q
          have := congrArg (fun (x : Str) => x.cps.toList) (eq_of_beq q)
          simp [S] at this
          exact h this
    rw [e5, e6]

theorem readChar_end (F : Fr h₀ L s.heap m) (N : News h₀ L s.heap (lexL w a n tp ln tl)) (X : (hd.heap_39 w.params).In h₀) (T : TopRead p loose mg mb h₀) (ok : a.Ok) (h2 : 0 ≤ ln) (h3 : ln ≤ 1000)
    (hr : a.text.cps.toList.drop n = []) (hn : n = a.text.length) :
    codeAny (model pg w) A3 (.call (.ref 63) ⟨[.ref a.X], []⟩) (RetL h₀ L s (lexA a) fun x news' => ∃ t tp' tl', x = .str (S []) t ∧ news' = lexL w a (n : Int) tp' ln tl') s := by
  have hl : n ≤ 100 := by
    have := ok.len
    omega
  refine codeAny_mono (readChar_spec F N X T ok (by omega) (by omega) h2 h3) fun r s' hs => ⟨?_⟩
  obtain ⟨x, h', tk, news', e1, e2, e3, e4, t, tp', tl', hx, hn'⟩ := hs.out
  refine ⟨x, h', tk, news', e1, e2, e3, e4, t, tp', tl', ?_, ?_⟩
  · rw [hx, slice_end hr hn]
  · rw [hn', slice_end hr hn]
    have e5 : (n : Int) + ((S []).length : Int) = (n : Int) := by show (n : Int) + ((0 : Nat) : Int) = _; omega
    have e6 : (if (S [] == Str.ofString "\n") = true then ln + 1 else ln) = ln := if_neg (by decide +kernel)
    rw [e5, e6]

/-- the rest of the ledger stands behind such a call -/
theorem rest_kept {small' : List (Addr × Obj)} {h' : Heap} {tk : Nat} (F : Fr h₀ L s.heap m) (N : News h₀ L s.heap (lexL w a n tp ln tl ++ rest)) (off : ∀ p ∈ rest, p.1 ∉ lexA a)
    (keep : ∀ b o, b ∉ lexA a → s.heap.get? b = some o → h'.get? b = some o) (N' : News h₀ L h' small') : Fr h₀ L h' m ∧ News h₀ L h' (small' ++ rest) := by
  have o2 : ∀ b, b ∈ lexA a → h₀.get? b = none ∧ b ≠ L := fun b hb => by
    rw [← lexL_map w a n tp ln tl] at hb
    obtain ⟨p, hp, rfl⟩ := List.mem_map.mp hb
    exact ⟨(N p (List.mem_append_left _ hp)).2.2, (N p (List.mem_append_left _ hp)).2.1⟩
  obtain ⟨oL, es, ep, hL, r⟩ := F.ns
  refine ⟨⟨⟨oL, es, ep, keep _ _ (fun q => (o2 _ q).2 rfl) hL, r⟩, fun b o e => keep b o (fun q => by rw [(o2 _ q).1] at e; cases e) (F.keep b o e), F.above⟩, fun p hp => ?_⟩
  rcases List.mem_append.mp hp with hp | hp
  · exact N' p hp
  · exact ⟨keep _ _ (off p hp) (N p (List.mem_append_right _ hp)).1, (N p (List.mem_append_right _ hp)).2⟩

theorem call_char {c : Nat} {r : List Nat} {Q : Value → Shared → Prop} {E : Value → Shared → Prop} (F : Fr h₀ L s.heap m) (N : News h₀ L s.heap (lexL w a n tp ln tl ++ rest)) (X : (hd.heap_39 w.params).In h₀) (T : TopRead p loose mg mb h₀) (ok : a.Ok) (h2 : 0 ≤ ln) (h3 : ln ≤ 1000)
    (off : ∀ p ∈ rest, p.1 ∉ lexA a) (hr : a.text.cps.toList.drop n = c :: r) (hA1 : A.handled = A3.handled) (hA2 : A.depth ≤ A3.depth) (hA3 : A.units ≤ A3.units)
    (k : ∀ t tp' tl' h' tk, Fr h₀ L h' m → News h₀ L h' (lexL w a ((n + 1 : Nat) : Int) tp' (ln + nl c) tl' ++ rest) → Q (.str (S [c]) t) ⟨h', s.gens, s.drawn, tk, s.os⟩) :
    wpAny (model pg w) A (call (.ref 63) [.ref a.X]) Q E s := by
  refine wpAny_call (codeAny_mono (codeAny_lift (readChar_in F (fun p hp => N p (List.mem_append_left _ hp)) X T ok h2 h3 hr) hA1 hA2 hA3 rfl rfl) fun r s' hr' => ?_)
  obtain ⟨x, h', tk, news', rfl, rfl, keep, N', t, tp', tl', rfl, rfl⟩ := hr'.out
  obtain ⟨F9, N9⟩ := rest_kept (tk := tk) F N off keep N'
  exact k t tp' tl' h' tk F9 N9

theorem next_in {c : Nat} {r : List Nat} {q I : Addr} {ti : Tok} {Q : Option Value → Shared → Prop} {E : Value → Shared → Prop} (F : Fr h₀ L s.heap m) (N : News h₀ L s.heap (lexL w a n tp ln tl ++ [(q, methodObj (.ref 63) (.ref a.X)), (I, ciObj q ti)])) (X : (hd.heap_39 w.params).In h₀) (T : TopRead p loose mg mb h₀) (ok : a.Ok) (h2 : 0 ≤ ln) (h3 : ln ≤ 1000)
    (oq : q ∉ lexA a) (oi : I ∉ lexA a) (hr : a.text.cps.toList.drop n = c :: r) (hA1 : A.handled = A3.handled) (hA2 : A.depth ≤ A3.depth) (hA3 : A.units + 1 ≤ A3.units)
    {o63 : Obj} {fd63 : FuncData} (h63 : h₀.get? 63 = some o63) (d63 : o63.data = .func fd63)
    (k : ∀ t tp' tl' h' tk, Fr h₀ L h' m → News h₀ L h' (lexL w a ((n + 1 : Nat) : Int) tp' (ln + nl c) tl' ++ [(q, methodObj (.ref 63) (.ref a.X)), (I, ciObj q ti)]) → Q (some (.str (S [c]) t)) ⟨h', s.gens, s.drawn, tk, s.os⟩) :
    wpAny (model pg w) A (pyNext (.ref I)) Q E s := by
  have off : ∀ p ∈ [(q, methodObj (.ref 63) (.ref a.X)), (I, ciObj q ti)], p.1 ∉ lexA a := by
    intro p hp
    simp only [List.mem_cons, List.not_mem_nil, or_false] at hp
    rcases hp with rfl | rfl
    · exact oq
    · exact oi
  refine ci_next hA1 (N (I, _) (List.mem_append_right _ (.tail _ (.head _)))).1 (N (q, _) (List.mem_append_right _ (.head _))).1 (F.keep _ _ h63) d63 ?_
  refine codeAny_mono (codeAny_lift (A := A.in1) (readChar_in F (fun p hp => N p (List.mem_append_left _ hp)) X T ok h2 h3 hr) hA1 hA2 hA3 rfl rfl) fun r s' hr' => ?_
  obtain ⟨x, h', tk, news', rfl, rfl, keep, N', t, tp', tl', rfl, rfl⟩ := hr'.out
  obtain ⟨F9, N9⟩ := rest_kept (tk := tk) F N off keep N'
  refine ⟨S [c], t, h', tk, rfl, rfl, (N9 (I, _) (List.mem_append_right _ (.tail _ (.head _)))).1, (N9 (q, _) (List.mem_append_right _ (.head _))).1, F9.keep _ _ h63, fun _ => k t tp' tl' h' tk F9 N9, fun e => ?_⟩
  have e' := congrArg (fun (x : Str) => x.cps.toList) (eq_of_beq e)
  rw [show Str.ofString "" = S [] by decide +kernel] at e'
  simp [S] at e'

theorem next_end {q I : Addr} {ti : Tok} {Q : Option Value → Shared → Prop} {E : Value → Shared → Prop} (F : Fr h₀ L s.heap m) (N : News h₀ L s.heap (lexL w a n tp ln tl ++ [(q, methodObj (.ref 63) (.ref a.X)), (I, ciObj q ti)])) (X : (hd.heap_39 w.params).In h₀) (T : TopRead p loose mg mb h₀) (ok : a.Ok) (h2 : 0 ≤ ln) (h3 : ln ≤ 1000)
    (oq : q ∉ lexA a) (oi : I ∉ lexA a) (hqi : q ≠ I) (hr : a.text.cps.toList.drop n = []) (hn : n = a.text.length) (hA1 : A.handled = A3.handled) (hA2 : A.depth ≤ A3.depth) (hA3 : A.units + 1 ≤ A3.units)
    {o63 : Obj} {fd63 : FuncData} (h63 : h₀.get? 63 = some o63) (d63 : o63.data = .func fd63)
    (k : ∀ tp' tl' h' tk, Fr h₀ L h' m → News h₀ L h' (lexL w a n tp' ln tl' ++ [(I, ciEnd)]) → Q none ⟨h', s.gens, s.drawn, tk, s.os⟩) :
    wpAny (model pg w) A (pyNext (.ref I)) Q E s := by
  have off : ∀ p ∈ [(q, methodObj (.ref 63) (.ref a.X)), (I, ciObj q ti)], p.1 ∉ lexA a := by
    intro p hp
    simp only [List.mem_cons, List.not_mem_nil, or_false] at hp
    rcases hp with rfl | rfl
    · exact oq
    · exact oi
  have hI := N (I, _) (List.mem_append_right _ (.tail _ (.head _)))
  refine ci_next hA1 hI.1 (N (q, _) (List.mem_append_right _ (.head _))).1 (F.keep _ _ h63) d63 ?_
  refine codeAny_mono (codeAny_lift (A := A.in1) (readChar_end F (fun p hp => N p (List.mem_append_left _ hp)) X T ok h2 h3 hr hn) hA1 hA2 hA3 rfl rfl) fun r s' hr' => ?_
  obtain ⟨x, h', tk, news', rfl, rfl, keep, N', t, tp', tl', rfl, rfl⟩ := hr'.out
  obtain ⟨F9, N9⟩ := rest_kept (tk := tk) F N off keep N'
  refine ⟨S [], t, h', tk, rfl, rfl, (N9 (I, _) (List.mem_append_right _ (.tail _ (.head _)))).1, (N9 (q, _) (List.mem_append_right _ (.head _))).1, F9.keep _ _ h63, fun e => ?_, fun _ h'' tk'' keep2 end2 => ?_⟩
  · rw [show Str.ofString "" = S [] by decide +kernel, beq_self_eq_true] at e; cases e
  · obtain ⟨oL, es, ep, hL, r⟩ := F9.ns
    refine k tp' tl' h'' tk'' ⟨⟨oL, es, ep, keep2 _ _ (Ne.symm hI.2.1) hL, r⟩, fun b o e => keep2 b o (fun q => ?_) (F9.keep b o e), F9.above⟩ fun p hp => ?_
    · have := hI.2.2; rw [q] at e; rw [e] at this; cases this
    · rcases List.mem_append.mp hp with hp | hp
      · have z := N9 p (List.mem_append_left _ hp)
        refine ⟨keep2 _ _ (fun q => oi ?_) z.1, z.2⟩
        rw [← lexL_map w a n tp' ln tl']
        exact List.mem_map.mpr ⟨p, hp, q⟩
      · rw [List.mem_singleton.mp hp]; exact ⟨end2, hI.2⟩
end
end
section
set_option maxHeartbeats 8000000
theorem fillTl (w : World) (s : Shared) : (PySem.Challenge.rw_re0017_01.Holds ∧ (Mine.hd.heap_39 w.params).In s.heap) → True := by k_fill; intro _; trivial

def findCls (name : Str) : List Stmt → List Stmt
  | [] => []
  | s :: r => match s with
    | .ClassDef n _ _ body _ _ _ _ _ _ _ => if n == name then body else findCls name r
    | _ => findCls name r
def gtParts : Arguments × List Stmt × Scope := findDef (Str.ofString "get_token") (findCls (Str.ofString "_netrclex") PySem.Challenge.rw_re0017_01.row.prog.main.body)
def stmtAt : Nat → List Stmt → Stmt
  | _, [] => .Pass ⟨0, 0, 0, 0⟩
  | 0, s :: _ => s
  | n + 1, _ :: r => stmtAt n r
def forBody : Stmt → List Stmt
  | .For _ _ body _ _ => body
  | _ => []
def elseOf : Stmt → List Stmt
  | .If _ _ orelse _ => orelse
  | _ => []
def outerFor : Stmt := stmtAt 3 gtParts.2.1
def innerFor : Stmt := stmtAt 2 (elseOf (stmtAt 1 (forBody outerFor)))

def encW (v : List Nat) : List Nat := v.flatMap fun c => [92, c]
def nls (v : List Nat) : Int := (v.map nl).sum
theorem nl_nonneg (c : Nat) : 0 ≤ nl c ∧ nl c ≤ 1 := by unfold nl; split <;> omega
theorem nls_cons (c : Nat) (v : List Nat) : nls (c :: v) = nl c + nls v := by simp [nls]
theorem nls_nonneg (v : List Nat) : 0 ≤ nls v := by
  induction v with
  | nil => simp [nls]
  | cons c v ih => rw [nls_cons]; have := nl_nonneg c; omega
theorem encW_cons (c : Nat) (v : List Nat) : encW (c :: v) = 92 :: c :: encW v := rfl
theorem encW_length (v : List Nat) : (encW v).length = 2 * v.length := by
  induction v with
  | nil => rfl
  | cons c v ih => rw [encW_cons]; simp [ih]; omega
theorem drop_succ_of {l r : List Nat} {n c : Nat} (h : l.drop n = c :: r) : l.drop (n + 1) = r := by
  rw [← List.drop_drop, h]; rfl

section
variable {prog : Program} {w : World} {A : Around} {E : Value → Shared → Prop} {s : Shared} {t u : Tok} {Q : Value → Shared → Prop}
theorem in_yes (h : Q (.bool true) s) : wpAny (model prog w) A (compareOp .In (.str (S [95]) t) (.str (Str.ofString "_") u)) Q E s :=
  PyProof.Rows.in_str (by rw [show (!(Builtin.Str.occurrences (Str.ofString "_") (S [95]) 0 (Str.ofString "_").length 1).isEmpty) = true by decide +kernel]; exact h)
theorem in_no (h : Q (.bool false) s) : wpAny (model prog w) A (compareOp .In (.str (S [92]) t) (.str (Str.ofString "_") u)) Q E s :=
  PyProof.Rows.in_str (by rw [show (!(Builtin.Str.occurrences (Str.ofString "_") (S [92]) 0 (Str.ofString "_").length 1).isEmpty) = false by decide +kernel]; exact h)
theorem eq_bs (h : Q (.bool true) s) : wpAny (model prog w) A (compareOp .Eq (.str (S [92]) t) (.str (Str.ofString "\\") u)) Q E s :=
  PyProof.Rows.eq_str (by rw [show (S [92] == Str.ofString "\\") = true by decide +kernel]; exact h)
theorem eq_qt (h : Q (.bool false) s) : wpAny (model prog w) A (compareOp .Eq (.str (S [92]) t) (.str (Str.ofString "\"") u)) Q E s :=
  PyProof.Rows.eq_str (by rw [show (S [92] == Str.ofString "\"") = false by decide +kernel]; exact h)
theorem add_S {x y : List Nat} {Q : Value → Shared → Prop} (hx : x.length ≤ 1000) (hy : y.length ≤ 1000) (h : ∀ t' tk, Q (.str (S (x ++ y)) t') { s with toks := tk }) : wpAny (model prog w) A (inplaceOp .Add (.str (S x) t) (.str (S y) u)) Q E s := by
  refine PyProof.Rows.iadd_str (fun t' tk => ?_) ?_
  · have e : S x ++ S y = S (x ++ y) := by show Str.mk _ = Str.mk _; simp [S]
    rw [e]; exact h t' tk
  · have e : sizeLine = 16777216 := by decide
    show x.toArray.size + y.toArray.size ≤ sizeLine
    simp [e]; omega
end
local macro_rules | `(tactic| walk_at "compareOp In str str") => `(tactic| (k_here; (with_reducible (first | refine in_yes ?_ | refine in_no ?_))))
local macro_rules | `(tactic| walk_at "compareOp Eq str str") => `(tactic| (k_here; (with_reducible (first | refine eq_bs ?_ | refine eq_qt ?_))))
local macro_rules | `(tactic| walk_at "inplaceOp Add str str") => `(tactic| (k_here; (with_reducible (refine add_S ?a ?b ?_)); (case a => omega); (case b => (simp; done)); intro t' tk'))
local macro_rules | `(tactic| walk_at "call ref") => `(tactic| (k_here; (with_reducible show wpAny _ _ (call (Value.ref 63) _) _ _ _); refine Stop.on ?_))

theorem stopQ {α : Type} {M : Model} {A : Around} {t : Sem α} {Q : α → Shared → Prop} {E : Value → Shared → Prop} {s : Shared} (h : wpAny M A t (fun f s => Stop (Q f s)) E s) : wpAny M A t Q E s := h
theorem inner_loop {w : World} {s : Shared} {p : Program} {loose : List Str} {mg mb : Str → Option Value} {h₀ : Heap} {L : Addr} {m : Str → Option Value} {a : LexS} {n : Nat} {ln : Int} {tp tl ti t0 : Tok} {q I : Addr} {st : Stmt} {sc : Scope} {cd : Value} {Q : Flow → Shared → Prop} {E : Value → Shared → Prop}
    (hst : st = innerFor) (hsc : sc = gtParts.2.2) {o63 : Obj} {fd63 : FuncData} (h63 : h₀.get? 63 = some o63) (d63 : o63.data = .func fd63)
    (X : (hd.heap_39 w.params).In h₀) (T : TopRead p loose mg mb h₀) (ok : a.Ok) (oq : q ∉ lexA a) (oi : I ∉ lexA a) (hqi : q ≠ I)
    (word : List Nat) (tail : List Nat) (posE : Nat) (lnE : Int) (hlnE : lnE ≤ 1000) (hword : word.length ≤ 1000) (hposE : posE + tail.length = a.text.length)
    (F : Fr h₀ L s.heap m) (N : News h₀ L s.heap (lexL w a n tp ln tl ++ [(q, methodObj (.ref 63) (.ref a.X)), (I, ciObj q ti)]))
    (m1 : m (Str.ofString "self") = some (.ref a.X)) (m2 : m (Str.ofString "fiter") = some (.ref I))
    (pre v : List Nat) (m3 : m (Str.ofString "token") = some (.str (S pre) t0)) (hw : pre ++ v = word) (hd : a.text.cps.toList.drop n = encW v ++ tail) (hn : n + 2 * v.length = posE) (hl0 : 0 ≤ ln) (hl : ln + nls v = lnE)
    (htail : tail = [] ∨ ∃ r, tail = 95 :: r)
    (kRet : ∀ t tp' tl' h' tk m', (∃ r, tail = 95 :: r) → Fr h₀ L h' m' → News h₀ L h' (lexL w a ((posE + 1 : Nat) : Int) tp' lnE tl' ++ [(q, methodObj (.ref 63) (.ref a.X)), (I, ciObj q ti)]) → Q (.ret (.str (S word) t)) ⟨h', s.gens, s.drawn, tk, s.os⟩)
    (kEnd : ∀ t tp' tl' h' tk m', tail = [] → Fr h₀ L h' m' → News h₀ L h' (lexL w a posE tp' lnE tl' ++ [(I, ciEnd)]) → m' (Str.ofString "self") = some (.ref a.X) → m' (Str.ofString "fiter") = some (.ref I) → m' (Str.ofString "token") = some (.str (S word) t) → Q .next ⟨h', s.gens, s.drawn, tk, s.os⟩) :
    wpAny (model pg w) (A2.deeper (envOf (Str.ofString "_netrclex.get_token") sc L 70 cd)) (exec st (envOf (Str.ofString "_netrclex.get_token") sc L 70 cd)) Q E s := by
  (with_unfolding_all conv at hst => rhs; whnf)
  (with_unfolding_all conv at hsc => rhs; whnf)
  subst hst hsc
  refine wpAny_For ?_ (fun _ => rfl)
  have F0 := known [(Str.ofString "fiter", .ref I)] F (by intro p hp; rw [List.mem_singleton.mp hp]; exact m2)
  refine ld F0 rfl ?_ rfl rfl (by decide +kernel)
  refine ci_pyIter (N (I, _) (List.mem_append_right _ (.tail _ (.head _)))).1 ?_
  refine codeAny_forLoop (fun k s' => ∃ h tk m n tp ln tl pre v t0, s' = ⟨h, s.gens, s.drawn, tk, s.os⟩ ∧ Fr h₀ L h m ∧ News h₀ L h (lexL w a (n : Nat) tp ln tl ++ [(q, methodObj (.ref 63) (.ref a.X)), (I, ciObj q ti)]) ∧
    m (Str.ofString "self") = some (.ref a.X) ∧ m (Str.ofString "fiter") = some (.ref I) ∧ m (Str.ofString "token") = some (.str (S pre) t0) ∧ pre ++ v = word ∧ a.text.cps.toList.drop n = encW v ++ tail ∧ n + 2 * v.length = posE ∧ 0 ≤ ln ∧ ln + nls v = lnE ∧ k = v.length) ?turn v.length
    ⟨s.heap, s.toks, m, n, tp, ln, tl, pre, v, t0, rfl, F, N, m1, m2, m3, hw, hd, hn, hl0, hl, rfl⟩
  clear F N m1 m2 m3 hw hd hn hl0 hl F0
  rintro k s' ⟨h, tk, m, n, tp, ln, tl, pre, v, t0, rfl, F, N, m1, m2, m3, hw, hd, hn, hl0, hl, rfl⟩
  have hln : ln ≤ 1000 := by have := nls_nonneg v; omega
  have hprel : pre.length ≤ 1000 := by rw [← hw, List.length_append] at hword; omega
  cases v with
  | nil =>
    rw [List.append_nil] at hw
    subst hw
    have hl' : ln = lnE := by simp [nls] at hl; exact hl
    subst hl'
    have hn' : n = posE := by simpa using hn
    subst hn'
    rcases htail with rfl | ⟨r, rfl⟩
    · refine next_end F N X T ok hl0 hln oq oi hqi hd (by simpa using hposE) rfl (Nat.le_of_ble_eq_true rfl) (Nat.le_of_ble_eq_true rfl) h63 d63 ?_
      intro tp' tl' h' tk' F' N'
      exact wpAny_execs_nil (kEnd _ tp' tl' h' tk' m rfl F' N' m1 m2 m3)
    · refine next_in F N X T ok hl0 hln oq oi hd rfl (Nat.le_of_ble_eq_true rfl) (Nat.le_of_ble_eq_true rfl) h63 d63 ?_
      intro t' tp' tl' h' tk' F' N'
      rw [show ln + nl 95 = ln by simp [nl]] at N'
      dsimp only
      refine wpAny_assign_Name (stN F' N' ?_ rfl rfl)
      intro h'' F'' N''
      replace F'' := known [(Str.ofString "ch", .str (S [95]) t'), (Str.ofString "self", .ref a.X), (Str.ofString "fiter", .ref I), (Str.ofString "token", .str (S pre) t0)] F'' (by
        intro p hp
        simp only [List.mem_cons, List.not_mem_nil, or_false] at hp
        rcases hp with rfl | rfl | rfl | rfl
        · rfl
        · exact m1
        · exact m2
        · exact m3)
      simp only [kstB] at F''
      unfold lexL ldict at N''
      simp only [List.cons_append, List.nil_append] at N''
      clear F N F' N'
      (show wpAny _ _ _ _ _ _)
      k_fold
      k_steps
      exact kRet _ _ _ _ _ _ ⟨r, rfl⟩ F'' N''
  | cons c v =>
    rw [encW_cons] at hd
    have hd1 := drop_succ_of hd
    have hd2 := drop_succ_of hd1
    rw [nls_cons] at hl
    refine next_in F N X T ok hl0 hln oq oi hd rfl (Nat.le_of_ble_eq_true rfl) (Nat.le_of_ble_eq_true rfl) h63 d63 ?_
    intro t' tp' tl' h' tk' F' N'
    rw [show ln + nl 92 = ln by simp [nl]] at N'
    dsimp only
    refine wpAny_assign_Name (stN F' N' ?_ rfl rfl)
    intro h'' F'' N''
    replace F'' := known [(Str.ofString "ch", .str (S [92]) t'), (Str.ofString "self", .ref a.X), (Str.ofString "fiter", .ref I), (Str.ofString "token", .str (S pre) t0)] F'' (by
      intro p hp
      simp only [List.mem_cons, List.not_mem_nil, or_false] at hp
      rcases hp with rfl | rfl | rfl | rfl
      · rfl
      · exact m1
      · exact m2
      · exact m3)
    simp only [kstB] at F''
    have N3 := N''
    unfold lexL ldict at N''
    simp only [List.cons_append, List.nil_append] at N''
    clear F N F' N'
    refine stopQ ?_
    (show wpAny _ _ _ _ _ _)
    k_fold
    k_steps
    refine Stop.off ?_
    show wpAny _ _ (call (.ref 63) [.ref a.X]) _ _ _
    refine call_char (n := n + 1) F'' N3 X T ok hl0 hln (by
      intro p hp
      simp only [List.mem_cons, List.not_mem_nil, or_false] at hp
      rcases hp with rfl | rfl
      · exact oq
      · exact oi) hd1 rfl (Nat.le_of_ble_eq_true rfl) (Nat.le_of_ble_eq_true rfl) ?_
    intro t2 tp2 tl2 h2 tk2 F2 N2
    clear F'' N'' N3
    dsimp only
    k_steps
    refine Stop.off ?_
    rename_i F9 N9
    refine ⟨v.length, by simp, _, _, _, n + 1 + 1, tp2, ln + nl c, tl2, pre ++ [c], v, _, rfl, F9, N9, rfl, rfl, rfl, by rw [← hw]; simp, hd2, ?_, ?_, ?_, rfl⟩
    · simp at hn; omega
    · have := nl_nonneg c; omega
    · omega
end
section
set_option maxHeartbeats 8000000
theorem fillTo (w : World) (s : Shared) : (PySem.Challenge.rw_re0017_01.Holds ∧ (Mine.hd.heap_39 w.params).In s.heap) → True := by k_fill; intro _; trivial
local macro_rules | `(tactic| walk_at "compareOp In str str") => `(tactic| (k_here; (with_reducible (first | refine in_yes ?_ | refine in_no ?_))))
local macro_rules | `(tactic| walk_at "compareOp Eq str str") => `(tactic| (k_here; (with_reducible (first | refine eq_bs ?_ | refine eq_qt ?_))))
local macro_rules | `(tactic| walk_at "inplaceOp Add str str") => `(tactic| (k_here; (with_reducible (refine add_S ?a ?b ?_)); (case a => first | omega | (simp; done)); (case b => (simp; done)); intro t' tk'))
local macro_rules | `(tactic| walk_at "call ref") => `(tactic| (k_here; (with_reducible show wpAny _ _ (call (Value.ref 63) _) _ _ _); refine Stop.on ?_))

local macro_rules | `(tactic| walk_at "exec For Name Name cons nil") => `(tactic| (k_here; refine Stop.on ?_))
local macro_rules | `(tactic| walk_at "exec For") => `(tactic| (k_here; refine Stop.on ?_))

theorem outer_loop {w : World} {s : Shared} {p : Program} {loose : List Str} {mg mb : Str → Option Value} {h₀ : Heap} {L : Addr} {m : Str → Option Value} {a : LexS} {n : Nat} {ln : Int} {tp tl ti t0 : Tok} {q I : Addr} {st : Stmt} {sc : Scope} {cd : Value} {Q : Flow → Shared → Prop} {E : Value → Shared → Prop}
    (hst : st = outerFor) (hsc : sc = gtParts.2.2) {o63 : Obj} {fd63 : FuncData} (h63 : h₀.get? 63 = some o63) (d63 : o63.data = .func fd63)
    (X : (hd.heap_39 w.params).In h₀) (T : TopRead p loose mg mb h₀) (ok : a.Ok) (oq : q ∉ lexA a) (oi : I ∉ lexA a) (hqi : q ≠ I)
    (c0 : Nat) (v0 : List Nat) (tail : List Nat) (posE : Nat) (lnE : Int) (hlnE : lnE ≤ 1000) (hword : (c0 :: v0).length ≤ 1000) (hposE : posE + tail.length = a.text.length)
    (F : Fr h₀ L s.heap m) (N : News h₀ L s.heap (lexL w a n tp ln tl ++ [(q, methodObj (.ref 63) (.ref a.X)), (I, ciObj q ti)]))
    (m1 : m (Str.ofString "self") = some (.ref a.X)) (m2 : m (Str.ofString "fiter") = some (.ref I))
    (j : Nat) (m3 : m (Str.ofString "token") = some (.str (S []) t0)) (hd : a.text.cps.toList.drop n = List.replicate j 95 ++ (encW (c0 :: v0) ++ tail)) (hn : n + j + 2 * (c0 :: v0).length = posE) (hl0 : 0 ≤ ln) (hl : ln + nls (c0 :: v0) = lnE)
    (htail : tail = [] ∨ ∃ r, tail = 95 :: r)
    (kRet : ∀ t tp' tl' h' tk m', (∃ r, tail = 95 :: r) → Fr h₀ L h' m' → News h₀ L h' (lexL w a ((posE + 1 : Nat) : Int) tp' lnE tl' ++ [(q, methodObj (.ref 63) (.ref a.X)), (I, ciObj q ti)]) → Q (.ret (.str (S (c0 :: v0)) t)) ⟨h', s.gens, s.drawn, tk, s.os⟩)
    (kEnd : ∀ t tp' tl' h' tk m', tail = [] → Fr h₀ L h' m' → News h₀ L h' (lexL w a posE tp' lnE tl' ++ [(I, ciEnd)]) → m' (Str.ofString "self") = some (.ref a.X) → m' (Str.ofString "token") = some (.str (S (c0 :: v0)) t) → Q .next ⟨h', s.gens, s.drawn, tk, s.os⟩) :
    wpAny (model pg w) (A2.deeper (envOf (Str.ofString "_netrclex.get_token") sc L 70 cd)) (exec st (envOf (Str.ofString "_netrclex.get_token") sc L 70 cd)) Q E s := by
  (with_unfolding_all conv at hst => rhs; whnf)
  have hsc0 := hsc
  (with_unfolding_all conv at hsc => rhs; whnf)
  subst hst hsc
  refine wpAny_For ?_ (fun _ => rfl)
  have F0 := known [(Str.ofString "fiter", .ref I)] F (by intro p hp; rw [List.mem_singleton.mp hp]; exact m2)
  refine ld F0 rfl ?_ rfl rfl (by decide +kernel)
  refine ci_pyIter (N (I, _) (List.mem_append_right _ (.tail _ (.head _)))).1 ?_
  refine codeAny_forLoop (fun k s' => (∃ h tk m n tp ln tl j t0, s' = ⟨h, s.gens, s.drawn, tk, s.os⟩ ∧ Fr h₀ L h m ∧ News h₀ L h (lexL w a (n : Nat) tp ln tl ++ [(q, methodObj (.ref 63) (.ref a.X)), (I, ciObj q ti)]) ∧
      m (Str.ofString "self") = some (.ref a.X) ∧ m (Str.ofString "fiter") = some (.ref I) ∧ m (Str.ofString "token") = some (.str (S []) t0) ∧ a.text.cps.toList.drop n = List.replicate j 95 ++ (encW (c0 :: v0) ++ tail) ∧ n + j + 2 * (c0 :: v0).length = posE ∧ 0 ≤ ln ∧ ln + nls (c0 :: v0) = lnE ∧ k = j + 1) ∨
    (∃ h tk m tp tl t0, s' = ⟨h, s.gens, s.drawn, tk, s.os⟩ ∧ Fr h₀ L h m ∧ News h₀ L h (lexL w a posE tp lnE tl ++ [(I, ciEnd)]) ∧ m (Str.ofString "self") = some (.ref a.X) ∧ m (Str.ofString "token") = some (.str (S (c0 :: v0)) t0) ∧ tail = [] ∧ k = 0)) ?turn (j + 1)
    (.inl ⟨s.heap, s.toks, m, n, tp, ln, tl, j, t0, rfl, F, N, m1, m2, m3, hd, hn, hl0, hl, rfl⟩)
  clear F N m1 m2 m3 hd hn hl0 hl F0
  rintro k s' (⟨h, tk, m, n, tp, ln, tl, j, t0, rfl, F, N, m1, m2, m3, hd, hn, hl0, hl, rfl⟩ | ⟨h, tk, m, tp, tl, t0, rfl, F, N, m1, m3, rfl, rfl⟩)
  · have hln : ln ≤ 1000 := by have := nls_nonneg (c0 :: v0); omega
    cases j with
    | zero =>
      rw [List.replicate_zero, List.nil_append, encW_cons, List.cons_append, List.cons_append] at hd
      have hd1 := drop_succ_of hd
      have hd2 := drop_succ_of hd1
      rw [nls_cons] at hl
      refine next_in F N X T ok hl0 hln oq oi hd rfl (Nat.le_of_ble_eq_true rfl) (Nat.le_of_ble_eq_true rfl) h63 d63 ?_
      intro t' tp' tl' h' tk' F' N'
      rw [show ln + nl 92 = ln by simp [nl]] at N'
      dsimp only
      refine wpAny_assign_Name (stN F' N' ?_ rfl rfl)
      intro h'' F'' N''
      replace F'' := known [(Str.ofString "ch", .str (S [92]) t'), (Str.ofString "self", .ref a.X), (Str.ofString "fiter", .ref I), (Str.ofString "token", .str (S []) t0)] F'' (by
        intro p hp
        simp only [List.mem_cons, List.not_mem_nil, or_false] at hp
        rcases hp with rfl | rfl | rfl | rfl
        · rfl
        · exact m1
        · exact m2
        · exact m3)
      simp only [kstB] at F''
      have N3 := N''
      unfold lexL ldict at N''
      simp only [List.cons_append, List.nil_append] at N''
      clear F N F' N'
      refine stopQ ?_
      (show wpAny _ _ _ _ _ _)
      k_fold
      k_steps
      refine Stop.off ?_
      show wpAny _ _ (call (.ref 63) [.ref a.X]) _ _ _
      refine call_char (n := n + 1) F'' N3 X T ok hl0 hln (by
        intro p hp
        simp only [List.mem_cons, List.not_mem_nil, or_false] at hp
        rcases hp with rfl | rfl
        · exact oq
        · exact oi) hd1 rfl (Nat.le_of_ble_eq_true rfl) (Nat.le_of_ble_eq_true rfl) ?_
      intro t2 tp2 tl2 h2 tk2 F2 N2
      clear F'' N'' N3
      dsimp only
      k_steps
      refine Stop.off ?_
      rename_i F9 N9 _
      refine' inner_loop (s := ⟨_, s.gens, s.drawn, _, s.os⟩) (L := L) (cd := cd) ?hst hsc0 h63 d63 X T ok oq oi hqi (c0 :: v0) tail posE lnE hlnE hword hposE F9 N9 ?m1 ?m2 [c0] v0 ?m3 ?hw hd2 ?hn ?h0 ?hl htail ?_ ?_
      case hst => with_unfolding_all rfl
      case m1 => rfl
      case m2 => rfl
      case m3 => rfl
      case hw => rfl
      case hn => simp only [List.length_cons] at hn; omega
      case h0 => have := nl_nonneg c0; omega
      case hl => omega
      · intro t tp' tl' h' tk m' ht F' N'
        dsimp only
        exact kRet _ _ _ _ _ _ ht F' N'
      · intro t tp' tl' h' tk m' ht F' N' e1 e2 e3
        dsimp only
        refine wpAny_execs_nil ?_
        dsimp only
        refine wpAny_execs_nil ?_
        refine Stop.off ?_
        exact ⟨0, by omega, .inr ⟨_, _, _, _, _, _, rfl, F', N', e1, e3, ht, rfl⟩⟩
    | succ j =>
      rw [List.replicate_succ, List.cons_append] at hd
      have hd1 := drop_succ_of hd
      refine next_in F N X T ok hl0 hln oq oi hd rfl (Nat.le_of_ble_eq_true rfl) (Nat.le_of_ble_eq_true rfl) h63 d63 ?_
      intro t' tp' tl' h' tk' F' N'
      rw [show ln + nl 95 = ln by simp [nl]] at N'
      dsimp only
      refine wpAny_assign_Name (stN F' N' ?_ rfl rfl)
      intro h'' F'' N''
      replace F'' := known [(Str.ofString "ch", .str (S [95]) t'), (Str.ofString "self", .ref a.X), (Str.ofString "fiter", .ref I), (Str.ofString "token", .str (S []) t0)] F'' (by
        intro p hp
        simp only [List.mem_cons, List.not_mem_nil, or_false] at hp
        rcases hp with rfl | rfl | rfl | rfl
        · rfl
        · exact m1
        · exact m2
        · exact m3)
      simp only [kstB] at F''
      unfold lexL ldict at N''
      simp only [List.cons_append, List.nil_append] at N''
      clear F N F' N'
      refine stopQ ?_
      (show wpAny _ _ _ _ _ _)
      k_fold
      k_steps
      dsimp only
      refine Stop.off ?_
      exact ⟨j + 1, by omega, .inl ⟨_, _, _, n + 1, tp', ln, tl', j, t0, rfl, F'', N'', rfl, rfl, rfl, hd1, by omega, hl0, hl, rfl⟩⟩
  · refine ci_ended rfl (N (I, _) (List.mem_append_right _ (.head _))).1 ?_
    intro h' keep
    have G : Grown (⟨h, s.gens, s.drawn, tk, s.os⟩ : Shared) ⟨h', s.gens, s.drawn, tk, s.os⟩ := ⟨h', tk, rfl, keep⟩
    exact wpAny_execs_nil (kEnd _ _ _ _ _ _ rfl (G.fr F) (G.news N) m1 m3)
end
section
set_option maxHeartbeats 8000000
theorem fillGt (w : World) (s : Shared) : (PySem.Challenge.rw_re0017_01.Holds ∧ (Mine.hd.heap_39 w.params).In s.heap) → True := by k_fill; intro _; trivial
local macro_rules | `(tactic| walk_at "compareOp In str str") => `(tactic| (k_here; (with_reducible (first | refine in_yes ?_ | refine in_no ?_))))
local macro_rules | `(tactic| walk_at "compareOp Eq str str") => `(tactic| (k_here; (with_reducible (first | refine eq_bs ?_ | refine eq_qt ?_))))
local macro_rules | `(tactic| walk_at "inplaceOp Add str str") => `(tactic| (k_here; (with_reducible (refine add_S ?a ?b ?_)); (case a => first | omega | (simp; done)); (case b => (simp; done)); intro t' tk'))
local macro_rules | `(tactic| walk_at "call ref") => `(tactic| (k_here; (with_reducible show wpAny _ _ (call (Value.ref 63) _) _ _ _); refine Stop.on ?_))

local macro_rules | `(tactic| walk_at "exec For Name Name cons nil") => `(tactic| (k_here; refine Stop.on ?_))
local macro_rules | `(tactic| walk_at "exec For") => `(tactic| (k_here; refine Stop.on ?_))

local macro_rules | `(tactic| walk_at "call builtin:iter") => `(tactic| (k_here; k_dflt (refine' iter2 ?F ?N ?m ?_; (case F => k_asm); (case N => k_asm); (case m => k_mem)); intro I' h' F' N' l1; (try k_lt l1)))

theorem isFn {K : Frag} {h : Heap} {name qual : Str} {params : Arguments} {body : List Stmt} {scope : Scope} {dV kV doc pm cdv ct oc : Value} {an od : Option Addr} {osl : Array (Option Value)} {f : Addr} (X : K.In h)
    (ho : K.lookup f = some ⟨oc, od, .func (fnOf name qual params body scope dV kV doc pm an cdv ct), osl⟩) : ∃ o fd, h.get? f = some o ∧ o.data = .func fd := ⟨_, _, X _ _ ho, rfl⟩
theorem getToken_spec {w : World} {s : Shared} {p : Program} {loose : List Str} {mg mb : Str → Option Value} {h₀ : Heap} {L : Addr} {m : Str → Option Value} {a : LexS} {n j : Nat} {ln : Int} {tp tl : Tok} {c0 : Nat} {v0 tail : List Nat}
    (F : Fr h₀ L s.heap m) (N : News h₀ L s.heap (lexL w a n tp ln tl)) (X : (hd.heap_39 w.params).In h₀) (T : TopRead p loose mg mb h₀) (ok : a.Ok)
    (hd : a.text.cps.toList.drop n = List.replicate j 95 ++ (encW (c0 :: v0) ++ tail)) (hl0 : 0 ≤ ln) (hl : ln + nls (c0 :: v0) ≤ 1000) (htail : tail = [] ∨ ∃ r, tail = 95 :: r) (hn : n ≤ a.text.length) :
    codeAny (model pg w) A2 (.call (.ref 70) ⟨[.ref a.X], []⟩) (RetL h₀ L s (lexA a) fun x news' => ∃ t tp' tl', x = .str (S (c0 :: v0)) t ∧ news' = lexL w a ((n + j + 2 * (c0 :: v0).length + (if tail = [] then 0 else 1) : Nat) : Int) tp' (ln + nls (c0 :: v0)) tl') s := by
  have hlen : n + j + 2 * (c0 :: v0).length + tail.length = a.text.length := by
    have e := congrArg List.length hd
    rw [List.length_drop, List.length_append, List.length_append, List.length_replicate, encW_length] at e
    unfold Str.length at hn ⊢
    rw [Array.length_toList] at e
    omega
  have hword : (c0 :: v0).length ≤ 1000 := by have := ok.len; omega
  refine' enterLK [(Str.ofString "self", .ref a.X)] F N X T ?k6 ?k7 ?k8 ?k9 ?kB ?_ ?c2 ?c3 ?c4 ?c5
  case k6 => k_is
  case k7 => k_is
  case k8 => decide
  case k9 => exact BindsTo.of_eq rfl
  case kB => exact locs rfl
  case c2 => exact rfl
  case c3 => exact rfl
  case c4 => exact rfl
  case c5 => decide
  intro g L' h₁ tk F' N' X' T' st lt
  have N3 := N'
  unfold lexL ldict at N'
  unfold lexL at lt
  k_lt lt
  clear F N X T
  refine stopQ ?_
  (show wpAny _ _ _ _ _ _)
  k_fold
  k_steps
  refine Stop.off ?_
  rename_i q _ l1 I _ l2 h9 F9 N9 tk9
  have N8 : News g L' h9 (lexL w a n tp ln tl ++ [(q, methodObj (.ref 63) (.ref a.X)), (I, ciObj q _)]) := fun p hp => by
    rcases List.mem_append.mp hp with hp | hp
    · exact N9 p (.tail _ (.tail _ hp))
    · simp only [List.mem_cons, List.not_mem_nil, or_false] at hp
      rcases hp with rfl | rfl
      · exact N9 _ (.tail _ (.head _))
      · exact N9 _ (.head _)
  have oq : q ∉ lexA a := fun hq => by
    rw [← lexL_map w a n tp ln tl] at hq
    obtain ⟨p, hp, e⟩ := List.mem_map.mp hq
    exact Nat.lt_irrefl _ (e ▸ l1 p hp)
  have oi : I ∉ lexA a := fun hq => by
    rw [← lexL_map w a n tp ln tl] at hq
    obtain ⟨p, hp, e⟩ := List.mem_map.mp hq
    exact Nat.lt_irrefl _ (e ▸ kst_ltOf l2.2 p hp)
  have hqi : q ≠ I := Nat.ne_of_lt l2.1
  have hf : ∃ o fd, g.get? 63 = some o ∧ o.data = .func fd := by
    refine' isFn X' ?k
    case k => k_is
  obtain ⟨o63, fd63, h63, d63⟩ := hf
  refine' outer_loop (s := ⟨_, s.gens, s.drawn, _, s.os⟩) (L := L') (cd := .ref 69) ?hst ?hsc h63 d63 X' T' ok oq oi hqi c0 v0 tail (n + j + 2 * (c0 :: v0).length) (ln + nls (c0 :: v0)) hl hword hlen F9 N8 rfl rfl j ?m3 hd rfl hl0 rfl htail ?_ ?_
  case hst => with_unfolding_all rfl
  case hsc => with_unfolding_all rfl
  case m3 => exact rfl
  · intro t tp' tl' h' tk m' ht F' N'
    obtain ⟨r, rfl⟩ := ht
    refine Stop.on ?_
    exact ⟨_, _, _, _, rfl, F', fun p hp => N' p (List.mem_append_left _ hp), t, tp', tl', rfl, rfl⟩
  · intro t tp' tl' h' tk m' ht F' N' m1 m3
    subst ht
    dsimp only
    have F0 := known [(Str.ofString "token", .str (S (c0 :: v0)) t)] F' (by intro p hp; rw [List.mem_singleton.mp hp]; exact m3)
    simp only [kstB] at F0
    k_steps
    refine Stop.on ?_
    exact ⟨_, _, _, _, rfl, F0, fun p hp => N' p (List.mem_append_left _ hp), t, tp', tl', rfl, rfl⟩
end
section
set_option maxHeartbeats 8000000

/-- the words and gaps that the reader finds, of a ring with its tail -/
def toks : Nat → List Nat → List (List Nat × Int)
  | 0, _ => []
  | _ + 1, [] => []
  | n + 1, c :: r =>
    let u := (c :: r).dropWhile (· == 95)
    let tl := u.dropWhile (· != 95)
    (u.takeWhile (· != 95), (((c :: r).takeWhile (· == 95)).length : Int) + if tl = [] then 0 else 1) :: toks n tl.tail

theorem encL_append (x y : List Nat) : encL (x ++ y) = encL x ++ encL y := by simp [encL]
theorem encL_us (j : Nat) : encL (List.replicate j 95) = List.replicate j 95 := by
  induction j with
  | zero => rfl
  | succ j ih => rw [List.replicate_succ, ← List.singleton_append, encL_append, ih]; rfl
theorem encL_word {v : List Nat} (h : ∀ c ∈ v, c ≠ 95) : encL v = encW v := by
  induction v with
  | nil => rfl
  | cons c v ih =>
    rw [← List.singleton_append, encL_append, ih fun c hc => h c (.tail _ hc)]
    have : encL [c] = [92, c] := by simp [encL, h c (.head _)]
    rw [this]; rfl
theorem nls_append (x y : List Nat) : nls (x ++ y) = nls x + nls y := by
  induction x with
  | nil => simp [nls]
  | cons c x ih => rw [List.cons_append, nls_cons, nls_cons, ih]; omega
theorem nls_us (j : Nat) : nls (List.replicate j 95) = 0 := by
  induction j with
  | zero => rfl
  | succ j ih => rw [List.replicate_succ, nls_cons, ih]; rfl
theorem nls_le (x : List Nat) : nls x ≤ x.length := by
  induction x with
  | nil => simp [nls]
  | cons c x ih => rw [nls_cons, List.length_cons]; have := nl_nonneg c; omega

theorem split_us : ∀ (r : List Nat), ∃ j u, r = List.replicate j 95 ++ u ∧ r.takeWhile (· == 95) = List.replicate j 95 ∧ r.dropWhile (· == 95) = u ∧ (u = [] ∨ ∃ c v, u = c :: v ∧ c ≠ 95)
  | [] => ⟨0, [], rfl, rfl, rfl, .inl rfl⟩
  | c :: r => by
    by_cases h : c = 95
    · subst h
      obtain ⟨j, u, e1, e2, e3, e4⟩ := split_us r
      exact ⟨j + 1, u, by rw [e1]; rfl, by rw [List.takeWhile_cons_of_pos rfl, e2]; rfl, by rw [List.dropWhile_cons_of_pos rfl, e3], e4⟩
    · exact ⟨0, c :: r, rfl, by rw [List.takeWhile_cons_of_neg (by simpa using h)]; rfl, by rw [List.dropWhile_cons_of_neg (by simpa using h)], .inr ⟨c, r, rfl, h⟩⟩
theorem split_word : ∀ (u : List Nat), (∀ c ∈ u.takeWhile (· != 95), c ≠ 95) ∧ (u.dropWhile (· != 95) = [] ∨ ∃ r', u.dropWhile (· != 95) = 95 :: r')
  | [] => ⟨(by intro _ h; cases h), .inl rfl⟩
  | c :: u => by
    by_cases h : c = 95
    · subst h
      refine ⟨fun c hc => ?_, .inr ⟨u, ?_⟩⟩
      · rw [List.takeWhile_cons_of_neg (by simp)] at hc; cases hc
      · rw [List.dropWhile_cons_of_neg (by simp)]
    · obtain ⟨e1, e2⟩ := split_word u
      rw [List.takeWhile_cons_of_pos (by simpa using h), List.dropWhile_cons_of_pos (by simpa using h)]
      refine ⟨fun d hd => ?_, e2⟩
      rcases List.mem_cons.mp hd with rfl | hd
      · exact h
      · exact e1 d hd

theorem last_append {x y : List Nat} (h : (x ++ y).getLast? = some 46) (hy : y ≠ []) : y.getLast? = some 46 := by
  rw [List.getLast?_append] at h
  cases q : y.getLast? with
  | none => exact absurd (List.getLast?_eq_none_iff.mp q) hy
  | some c => rw [q] at h; simpa using h

theorem split_r {r : List Nat} (h : r.getLast? = some 46) (n : Nat) : ∃ j c0 v0 tl, r = List.replicate j 95 ++ ((c0 :: v0) ++ tl) ∧ (∀ c ∈ c0 :: v0, c ≠ 95) ∧ (tl = [] ∨ ∃ r', tl = 95 :: r' ∧ r'.getLast? = some 46) ∧
    toks (n + 1) r = (c0 :: v0, (j : Int) + if tl = [] then 0 else 1) :: toks n tl.tail := by
  obtain ⟨j, u, e1, e2, e3, e4⟩ := split_us r
  have hu : u ≠ [] := by
    rintro rfl
    rw [e1, List.append_nil] at h
    have := List.mem_of_getLast? h
    have := List.eq_of_mem_replicate this
    omega
  obtain ⟨c, v, rfl, hc⟩ := e4.resolve_left hu
  obtain ⟨w1, w2⟩ := split_word (c :: v)
  have hw : (c :: v).takeWhile (· != 95) = c :: v.takeWhile (· != 95) := List.takeWhile_cons_of_pos (by simpa using hc)
  have hlast : (c :: v).getLast? = some 46 := last_append (e1 ▸ h) (by simp)
  have hcat : (c :: v.takeWhile (· != 95)) ++ (c :: v).dropWhile (· != 95) = c :: v := by rw [← hw]; exact List.takeWhile_append_dropWhile
  refine ⟨j, c, v.takeWhile (· != 95), (c :: v).dropWhile (· != 95), ?_, hw ▸ w1, ?_, ?_⟩
  · rw [hcat]; exact e1
  · rcases w2 with e | ⟨r', e⟩
    · exact .inl e
    · refine .inr ⟨r', e, ?_⟩
      have h2 : (c :: v).dropWhile (· != 95) ≠ [] := by rw [e]; simp
      have h3 := last_append (hcat.symm ▸ hlast) h2
      rw [e] at h3
      refine last_append (x := [95]) h3 ?_
      rintro rfl
      simp at h3
  · cases r with
    | nil => simp at h
    | cons d r =>
      show (((d :: r).dropWhile (· == 95)).takeWhile (· != 95), (((d :: r).takeWhile (· == 95)).length : Int) + if ((d :: r).dropWhile (· == 95)).dropWhile (· != 95) = [] then 0 else 1) :: toks n (((d :: r).dropWhile (· == 95)).dropWhile (· != 95)).tail = _
      rw [e2, e3, hw, List.length_replicate]
end
section
set_option maxHeartbeats 8000000
theorem fillRl (w : World) (s : Shared) : (PySem.Challenge.rw_re0017_01.Holds ∧ (Mine.hd.heap_39 w.params).In s.heap) → True := by k_fill; intro _; trivial
local macro_rules | `(tactic| walk_at "call ref") => `(tactic| (k_here; (with_reducible show wpAny _ _ (call (Value.ref 70) _) _ _ _); refine Stop.on ?_))
local macro_rules | `(tactic| walk_at "subscriptTail Name Constant ref int") => `(tactic| (k_here; k_dflt (refine' my_item ?N ?m ?a ?b ?x ?_ ?s; (case N => k_asm); (case m => k_mem); (case a => decide); (case b => decide); (case x => exact (List.getElem?_cons_zero ..)); (case s => with_unfolding_all rfl); k_whole)))
local macro_rules | `(tactic| walk_at "getItem ref int") => `(tactic| (k_here; k_dflt (refine' my_getItem ?N ?m ?a ?b ?x ?_; (case N => k_asm); (case m => k_mem); (case a => decide); (case b => decide); (case x => exact (List.getElem?_cons_zero ..)); k_whole)))

section
variable {prog : Program} {w : World} {A : Around} {E : Value → Shared → Prop} {s : Shared} {t u : Tok} {Q : Value → Shared → Prop}
theorem lt_yes {a b : Int} (e : a < b) (h : Q (.bool true) s) : wpAny (model prog w) A (compareOp .Lt (.int a t) (.int b u)) Q E s :=
  PyProof.Rows.lt_int (by rw [decide_eq_true e]; exact h)
theorem lt_no {a b : Int} (e : ¬ a < b) (h : Q (.bool false) s) : wpAny (model prog w) A (compareOp .Lt (.int a t) (.int b u)) Q E s :=
  PyProof.Rows.lt_int (by rw [decide_eq_false e]; exact h)
end
theorem len_S {prog : Program} {w : World} {A : Around} {E : Value → Shared → Prop} {s : Shared} {t : Tok} {Q : Value → Shared → Prop} {x : List Nat} (hx : x.length ≤ 1000) (h : ∀ t' k', Q (.int (x.length : Nat) t') { s with toks := k' }) : wpAny (model prog w) A (call (.builtin "len") [.str (S x) t]) Q E s := by
  have e : (S x).length = x.length := by unfold Str.length S; simp
  refine PyProof.Rows.len_str ?_ ?_
  · rw [e]; omega
  · rw [e]; exact h _ _
local macro_rules | `(tactic| walk_at "call builtin:len") => `(tactic| (k_here; (with_reducible (refine len_S ?a ?_)); (case a => first | omega | (simp only [List.length_cons]; omega)); intro t' tk'))
local macro_rules | `(tactic| walk_at "compareOp Lt int int") => `(tactic| (k_here; (first | refine lt_yes (by omega) ?_ | refine lt_no (by omega) ?_)))

local macro_rules | `(tactic| k_ne) => `(tactic| (refine neN ?_; (try dsimp only); (first | exact LtA.ne (by assumption) | exact LtA.ne' (by assumption) | omega)))
def rdParts : Arguments × List Stmt × Scope := findDef (Str.ofString "_law_read") PySem.Challenge.rw_re0017_01.row.prog.main.body
def rdFor : Stmt := stmtAt 9 rdParts.2.1

theorem call_tok {w : World} {A : Around} {s : Shared} {p : Program} {loose : List Str} {mg mb : Str → Option Value} {h₀ : Heap} {L : Addr} {m : Str → Option Value} {a : LexS} {n j : Nat} {ln : Int} {tp tl : Tok} {c0 : Nat} {v0 tail : List Nat} {rest : List (Addr × Obj)} {Q : Value → Shared → Prop} {E : Value → Shared → Prop}
    (F : Fr h₀ L s.heap m) (N : News h₀ L s.heap (lexL w a n tp ln tl ++ rest)) (X : (hd.heap_39 w.params).In h₀) (T : TopRead p loose mg mb h₀) (ok : a.Ok) (off : ∀ p ∈ rest, p.1 ∉ lexA a)
    (hd : a.text.cps.toList.drop n = List.replicate j 95 ++ (encW (c0 :: v0) ++ tail)) (hl0 : 0 ≤ ln) (hl : ln + nls (c0 :: v0) ≤ 1000) (htail : tail = [] ∨ ∃ r, tail = 95 :: r) (hn : n ≤ a.text.length)
    (hA1 : A.handled = A2.handled) (hA2 : A.depth ≤ A2.depth) (hA3 : A.units ≤ A2.units)
    (k : ∀ t tp' tl' h' tk, Fr h₀ L h' m → News h₀ L h' (lexL w a ((n + j + 2 * (c0 :: v0).length + (if tail = [] then 0 else 1) : Nat) : Int) tp' (ln + nls (c0 :: v0)) tl' ++ rest) → Q (.str (S (c0 :: v0)) t) ⟨h', s.gens, s.drawn, tk, s.os⟩) :
    wpAny (model pg w) A (call (.ref 70) [.ref a.X]) Q E s := by
  refine wpAny_call (codeAny_mono (codeAny_lift (getToken_spec F (fun p hp => N p (List.mem_append_left _ hp)) X T ok hd hl0 hl htail hn) hA1 hA2 hA3 rfl rfl) fun r s' hr' => ?_)
  obtain ⟨x, h', tk, news', rfl, rfl, keep, N', t, tp', tl', rfl, rfl⟩ := hr'.out
  obtain ⟨F9, N9⟩ := rest_kept (tk := tk) F N off keep N'
  exact k t tp' tl' h' tk F9 N9

theorem not10 {x a b c d e f g h i j : Nat} (h1 : x ≠ a) (h2 : x ≠ b) (h3 : x ≠ c) (h4 : x ≠ d) (h5 : x ≠ e) (h6 : x ≠ f) (h7 : x ≠ g) (h8 : x ≠ h) (h9 : x ≠ i) (h10 : x ≠ j) : ¬ (x = a ∨ x = b ∨ x = c ∨ x = d ∨ x = e ∨ x = f ∨ x = g ∨ x = h ∨ x = i ∨ x = j) := by omega
theorem strsAppend : ∀ {vs vs' : List Value} {xs xs' : List Str}, StrsAre vs xs → StrsAre vs' xs' → StrsAre (vs ++ vs') (xs ++ xs')
  | _, _, _, _, .nil, h => h
  | _, _, _, _, .cons n t h, h' => .cons n t (strsAppend h h')
theorem toks_nil (n : Nat) : toks n [] = [] := by cases n <;> rfl
structure RdIn (a : LexS) (ring : Str) (L Wd Gp CL : Addr) : Prop where
  ok : a.Ok
  eT : a.cT = L + 1 + 1
  eP : a.cP = L + 1
  len : ring.length ≤ 20
  text : a.text.cps.toList = encL (ring.cps.toList ++ [95, 46])
  o1 : a.PB < Wd
  o2 : Wd < Gp
  o3 : a.FR < CL
  o4 : CL < a.FS
  o5 : 93 < a.cP

/-- the reader's loop: what stands at each turn -/
def readJ (w : World) (a : LexS) (ring : Str) (t : Tok) (Wd Gp : Addr) (more : List (Addr × Obj)) (i : Nat) (m : Str → Option Value) (nx : List (Addr × Obj)) : Prop :=
  ∃ pos tp ln tl ws gs ew eg r d, nx = lexL w a (pos : Nat) tp ln tl ++ ((Wd, W.listOf (ws : List Value).toArray ew) :: (Gp, W.listOf (gs : List Value).toArray eg) :: more) ∧
    m (Str.ofString "ring") = some (.str ring t) ∧ m (Str.ofString "words") = some (.ref Wd) ∧ m (Str.ofString "gaps") = some (.ref Gp) ∧ m (Str.ofString "lexer") = some (.ref a.X) ∧
    a.text.cps.toList.drop pos = encL r ∧ pos ≤ a.text.length ∧ (r = [] ∨ r.getLast? = some 46) ∧ 0 ≤ ln ∧ ln + nls r = 1 + nls (ring.cps.toList ++ [95, 46]) ∧
    StrsAre ws (d.map fun x : List Nat × Int => S x.1) ∧ IntsAre gs (d.map fun x : List Nat × Int => x.2) ∧ d ++ toks (ring.length + 1 - i) r = toks (ring.length + 1) (ring.cps.toList ++ [95, 46]) ∧ (r = [] ∨ r.length + 2 * i ≤ ring.length + 2) ∧ d.length ≤ i

theorem end_intro {w : World} {a : LexS} {ring : Str} {t : Tok} {Wd Gp : Addr} {more own : List (Addr × Obj)} {i : Nat} {m : Str → Option Value} {h₀ h : Heap} {L : Addr} {s : Shared} {Q : Flow → Shared → Prop} {tk : Nat} {ln : Int} {tp tl : Tok} {ws gs : List Value} {ew eg : Nat} (_ : a.Ok) (pos : Nat) (r : List Nat) (d : List (List Nat × Int))
    (F : Fr h₀ L h m) (N : News h₀ L h ((lexL w a (pos : Nat) tp ln tl ++ ((Wd, W.listOf ws.toArray ew) :: (Gp, W.listOf gs.toArray eg) :: more)) ++ own))
    (m1 : m (Str.ofString "ring") = some (.str ring t)) (m2 : m (Str.ofString "words") = some (.ref Wd)) (m3 : m (Str.ofString "gaps") = some (.ref Gp)) (m4 : m (Str.ofString "lexer") = some (.ref a.X))
    (h1 : a.text.cps.toList.drop pos = encL r) (h2 : pos ≤ a.text.length) (h3 : r = [] ∨ r.getLast? = some 46) (h4 : 0 ≤ ln) (h5 : ln + nls r = 1 + nls (ring.cps.toList ++ [95, 46]))
    (h6 : StrsAre ws (d.map fun x : List Nat × Int => S x.1)) (h7 : IntsAre gs (d.map fun x : List Nat × Int => x.2)) (h8 : d ++ toks (ring.length + 1 - i) r = toks (ring.length + 1) (ring.cps.toList ++ [95, 46])) (h9 : r = [] ∨ r.length + 2 * i ≤ ring.length + 2) (h10 : d.length ≤ i) :
    TurnEnd h₀ L (readJ w a ring t Wd Gp more i) own s Q .next ⟨h, s.gens, s.drawn, tk, s.os⟩ :=
  ⟨h, tk, m, _, rfl, F, N, pos, tp, ln, tl, ws, gs, ew, eg, r, d, rfl, m1, m2, m3, m4, h1, h2, h3, h4, h5, h6, h7, h8, h9, h10⟩
theorem read_turn {w : World} {s : Shared} {p : Program} {loose : List Str} {mg mb : Str → Option Value} {h₀ : Heap} {L : Addr} {m : Str → Option Value} {a : LexS} {ring : Str} {t ti : Tok} {Wd Gp CL : Addr} {oCL o93 : Obj} {nx own : List (Addr × Obj)} {i : Nat} {bd : List Stmt} {sc : Scope} {env : Env} {Q : Flow → Shared → Prop} {E : Value → Shared → Prop}
    (hst : bd = forBody rdFor) (hsc : sc = rdParts.2.2) (I : RdIn a ring L Wd Gp CL) (X : (hd.heap_39 w.params).In h₀) (T : TopRead p loose mg mb h₀) (hi : i < ring.length + 1)
    (J : readJ w a ring t Wd Gp [(CL, oCL), (93, o93)] i m nx) (hown : OwnOff own (nx.map (·.1)))
    (F : Fr h₀ L s.heap (fun y => if y = Str.ofString "step" then some (.int (0 + (i : Int)) ti) else m y)) (N : News h₀ L s.heap (nx ++ own)) :
    wpAny (model pg w) ((callerA.deeper env).deeper (envOfC (Str.ofString "_law_read") sc L 96 (.ref 95))) (execs bd (envOfC (Str.ofString "_law_read") sc L 96 (.ref 95)))
      (TurnEnd h₀ L (readJ w a ring t Wd Gp [(CL, oCL), (93, o93)] (i + 1)) own s Q) E s := by
  (with_unfolding_all conv at hst => rhs; whnf)
  (with_unfolding_all conv at hsc => rhs; whnf)
  subst hst hsc
  obtain ⟨pos, tp, ln, tl, ws, gs, ew, eg, r, d, rfl, m1, m2, m3, m4, hd, hp, hr, hl0, hl, hws, hgs, hd0, hrl, hdl⟩ := J
  replace F := known [(Str.ofString "ring", .str ring t), (Str.ofString "words", .ref Wd), (Str.ofString "gaps", .ref Gp), (Str.ofString "lexer", .ref a.X)] F (by
      intro p hp
      simp only [List.mem_cons, List.not_mem_nil, or_false] at hp
      rcases hp with rfl | rfl | rfl | rfl
      · exact m1
      · exact m2
      · exact m3
      · exact m4)
  simp only [kstB] at F
  obtain ⟨ok, eT, eP, hlen, htext, o11, o12, o13, o14, o15⟩ := I
  have ok0 := ok
  have eLen : a.text.length = a.text.cps.toList.length := by unfold Str.length; simp
  obtain ⟨cP, cT, P, CR, FR, FS, DS, DX, XA, PB, k1, k2, k3, k4, k5, tw, tt, fdS, slS, oc, oT, oP, ep, text, qual, doc, pm, ct, params, body, scope, vc, tq⟩ := a
  obtain ⟨dT, dP, dc, dq, hp0, o1, o2, o3, o4, o5, o6, o7, o8, o9, len⟩ := ok
  dsimp only at dT dP dc dq hp0 o1 o2 o3 o4 o5 o6 o7 o8 o9 len eT eP htext o11 o12 o13 o14 o15 hd hp F eLen
  subst eT eP
  have z0_1 : LtA (93) (L + 1) := o15
  have z1_2 : LtA (L + 1) (L + 1 + 1) := Nat.lt_succ_self _
  have z2_3 : LtA (L + 1 + 1) (P) := o2
  have z3_4 : LtA (P) (CR) := o3
  have z4_5 : LtA (CR) (FR) := o4
  have z5_6 : LtA (FR) (CL) := o13
  have z6_7 : LtA (CL) (FS) := o14
  have z7_8 : LtA (FS) (DS) := o6
  have z8_9 : LtA (DS) (DX) := o7
  have z9_10 : LtA (DX) (XA) := o8
  have z10_11 : LtA (XA) (PB) := o9
  have z11_12 : LtA (PB) (Wd) := o11
  have z12_13 : LtA (Wd) (Gp) := o12
  have z0_2 : LtA (93) (L + 1 + 1) := LtA.trans z0_1 z1_2
  have z1_3 : LtA (L + 1) (P) := LtA.trans z1_2 z2_3
  have z2_4 : LtA (L + 1 + 1) (CR) := LtA.trans z2_3 z3_4
  have z3_5 : LtA (P) (FR) := LtA.trans z3_4 z4_5
  have z4_6 : LtA (CR) (CL) := LtA.trans z4_5 z5_6
  have z5_7 : LtA (FR) (FS) := LtA.trans z5_6 z6_7
  have z6_8 : LtA (CL) (DS) := LtA.trans z6_7 z7_8
  have z7_9 : LtA (FS) (DX) := LtA.trans z7_8 z8_9
  have z8_10 : LtA (DS) (XA) := LtA.trans z8_9 z9_10
  have z9_11 : LtA (DX) (PB) := LtA.trans z9_10 z10_11
  have z10_12 : LtA (XA) (Wd) := LtA.trans z10_11 z11_12
  have z11_13 : LtA (PB) (Gp) := LtA.trans z11_12 z12_13
  have z0_3 : LtA (93) (P) := LtA.trans z0_2 z2_3
  have z1_4 : LtA (L + 1) (CR) := LtA.trans z1_3 z3_4
  have z2_5 : LtA (L + 1 + 1) (FR) := LtA.trans z2_4 z4_5
  have z3_6 : LtA (P) (CL) := LtA.trans z3_5 z5_6
  have z4_7 : LtA (CR) (FS) := LtA.trans z4_6 z6_7
  have z5_8 : LtA (FR) (DS) := LtA.trans z5_7 z7_8
  have z6_9 : LtA (CL) (DX) := LtA.trans z6_8 z8_9
  have z7_10 : LtA (FS) (XA) := LtA.trans z7_9 z9_10
  have z8_11 : LtA (DS) (PB) := LtA.trans z8_10 z10_11
  have z9_12 : LtA (DX) (Wd) := LtA.trans z9_11 z11_12
  have z10_13 : LtA (XA) (Gp) := LtA.trans z10_12 z12_13
  have z0_4 : LtA (93) (CR) := LtA.trans z0_3 z3_4
  have z1_5 : LtA (L + 1) (FR) := LtA.trans z1_4 z4_5
  have z2_6 : LtA (L + 1 + 1) (CL) := LtA.trans z2_5 z5_6
  have z3_7 : LtA (P) (FS) := LtA.trans z3_6 z6_7
  have z4_8 : LtA (CR) (DS) := LtA.trans z4_7 z7_8
  have z5_9 : LtA (FR) (DX) := LtA.trans z5_8 z8_9
  have z6_10 : LtA (CL) (XA) := LtA.trans z6_9 z9_10
  have z7_11 : LtA (FS) (PB) := LtA.trans z7_10 z10_11
  have z8_12 : LtA (DS) (Wd) := LtA.trans z8_11 z11_12
  have z9_13 : LtA (DX) (Gp) := LtA.trans z9_12 z12_13
  have z0_5 : LtA (93) (FR) := LtA.trans z0_4 z4_5
  have z1_6 : LtA (L + 1) (CL) := LtA.trans z1_5 z5_6
  have z2_7 : LtA (L + 1 + 1) (FS) := LtA.trans z2_6 z6_7
  have z3_8 : LtA (P) (DS) := LtA.trans z3_7 z7_8
  have z4_9 : LtA (CR) (DX) := LtA.trans z4_8 z8_9
  have z5_10 : LtA (FR) (XA) := LtA.trans z5_9 z9_10
  have z6_11 : LtA (CL) (PB) := LtA.trans z6_10 z10_11
  have z7_12 : LtA (FS) (Wd) := LtA.trans z7_11 z11_12
  have z8_13 : LtA (DS) (Gp) := LtA.trans z8_12 z12_13
  have z0_6 : LtA (93) (CL) := LtA.trans z0_5 z5_6
  have z1_7 : LtA (L + 1) (FS) := LtA.trans z1_6 z6_7
  have z2_8 : LtA (L + 1 + 1) (DS) := LtA.trans z2_7 z7_8
  have z3_9 : LtA (P) (DX) := LtA.trans z3_8 z8_9
  have z4_10 : LtA (CR) (XA) := LtA.trans z4_9 z9_10
  have z5_11 : LtA (FR) (PB) := LtA.trans z5_10 z10_11
  have z6_12 : LtA (CL) (Wd) := LtA.trans z6_11 z11_12
  have z7_13 : LtA (FS) (Gp) := LtA.trans z7_12 z12_13
  have z0_7 : LtA (93) (FS) := LtA.trans z0_6 z6_7
  have z1_8 : LtA (L + 1) (DS) := LtA.trans z1_7 z7_8
  have z2_9 : LtA (L + 1 + 1) (DX) := LtA.trans z2_8 z8_9
  have z3_10 : LtA (P) (XA) := LtA.trans z3_9 z9_10
  have z4_11 : LtA (CR) (PB) := LtA.trans z4_10 z10_11
  have z5_12 : LtA (FR) (Wd) := LtA.trans z5_11 z11_12
  have z6_13 : LtA (CL) (Gp) := LtA.trans z6_12 z12_13
  have z0_8 : LtA (93) (DS) := LtA.trans z0_7 z7_8
  have z1_9 : LtA (L + 1) (DX) := LtA.trans z1_8 z8_9
  have z2_10 : LtA (L + 1 + 1) (XA) := LtA.trans z2_9 z9_10
  have z3_11 : LtA (P) (PB) := LtA.trans z3_10 z10_11
  have z4_12 : LtA (CR) (Wd) := LtA.trans z4_11 z11_12
  have z5_13 : LtA (FR) (Gp) := LtA.trans z5_12 z12_13
  have z0_9 : LtA (93) (DX) := LtA.trans z0_8 z8_9
  have z1_10 : LtA (L + 1) (XA) := LtA.trans z1_9 z9_10
  have z2_11 : LtA (L + 1 + 1) (PB) := LtA.trans z2_10 z10_11
  have z3_12 : LtA (P) (Wd) := LtA.trans z3_11 z11_12
  have z4_13 : LtA (CR) (Gp) := LtA.trans z4_12 z12_13
  have z0_10 : LtA (93) (XA) := LtA.trans z0_9 z9_10
  have z1_11 : LtA (L + 1) (PB) := LtA.trans z1_10 z10_11
  have z2_12 : LtA (L + 1 + 1) (Wd) := LtA.trans z2_11 z11_12
  have z3_13 : LtA (P) (Gp) := LtA.trans z3_12 z12_13
  have z0_11 : LtA (93) (PB) := LtA.trans z0_10 z10_11
  have z1_12 : LtA (L + 1) (Wd) := LtA.trans z1_11 z11_12
  have z2_13 : LtA (L + 1 + 1) (Gp) := LtA.trans z2_12 z12_13
  have z0_12 : LtA (93) (Wd) := LtA.trans z0_11 z11_12
  have z1_13 : LtA (L + 1) (Gp) := LtA.trans z1_12 z12_13
  have z0_13 : LtA (93) (Gp) := LtA.trans z0_12 z12_13
  have N3 := N
  unfold lexL ldict at N hown
  simp only [List.cons_append, List.nil_append, List.map_cons, List.map_nil] at N hown
  rcases hr with rfl | hr
  · have hpos : pos = text.length := by
      have e := congrArg List.length hd
      rw [List.length_drop, ← eLen, show (encL []).length = 0 from rfl] at e
      omega
    refine stopQ ?_
    (show wpAny _ _ _ _ _ _)
    k_fold
    k_steps
    refine Stop.off ?_
    exact ⟨s.heap, tk, _, _, rfl, F, N3, pos, tp, ln, tl, ws, gs, ew, eg, [], d, rfl, rfl, rfl, rfl, rfl, hd, hp, .inl rfl, hl0, hl, hws, hgs, by rw [toks_nil] at hd0 ⊢; exact hd0, .inl rfl, by omega⟩
  · obtain ⟨j, c0, v0, tl0, er, hv, htl, et⟩ := split_r hr (ring.length - i)
    have hrl2 : r.length + 2 * i ≤ ring.length + 2 := hrl.resolve_left (by rintro rfl; simp at hr)
    have hd1 : text.cps.toList.drop pos = List.replicate j 95 ++ (encW (c0 :: v0) ++ encL tl0) := by
      rw [hd, er, encL_append, encL_append, encL_us, encL_word hv]
    have hpos : pos + (j + 2 * (v0.length + 1) + (encL tl0).length) = text.length := by
      have e := congrArg List.length hd1
      rw [List.length_drop, ← eLen, List.length_append, List.length_append, List.length_replicate, encW_length, List.length_cons] at e
      omega
    have hnl : ln + (nls (c0 :: v0) + nls tl0) = 1 + nls (ring.cps.toList ++ [95, 46]) := by
      rw [← hl, er, nls_append, nls_append, nls_us]; omega
    have hnR : nls (ring.cps.toList ++ [95, 46]) ≤ 22 := by
      refine Int.le_trans (nls_le _) ?_
      have : (ring.cps.toList ++ [95, 46]).length ≤ 22 := by
        rw [List.length_append]
        have : ring.cps.toList.length ≤ 20 := by simpa [Str.length] using hlen
        simp only [List.length_cons, List.length_nil]; omega
      omega
    have hn0 := nls_nonneg tl0
    have hn1 := nls_nonneg (c0 :: v0)
    refine stopQ ?_
    (show wpAny _ _ _ _ _ _)
    k_fold
    k_steps
    refine Stop.off ?_
    rename_i h9 F9 N9 tk9
    show wpAny _ _ (call (.ref 70) [.ref XA]) _ _ _
    rw [List.append_assoc] at N9
    refine call_tok (n := pos) F9 N9 X T ok0 ?off hd1 hl0 (by omega) ?ht hp rfl (Nat.le_of_ble_eq_true rfl) (Nat.le_of_ble_eq_true rfl) ?_
    case off =>
      intro p hp
      simp only [lexA, List.mem_append, List.mem_cons, List.not_mem_nil, or_false] at hp ⊢
      rcases hp with (rfl | rfl | rfl | rfl) | hp
      · refine not10 ?_ ?_ ?_ ?_ ?_ ?_ ?_ ?_ ?_ ?_ <;> first | exact LtA.ne (by assumption) | exact LtA.ne' (by assumption)
      · refine not10 ?_ ?_ ?_ ?_ ?_ ?_ ?_ ?_ ?_ ?_ <;> first | exact LtA.ne (by assumption) | exact LtA.ne' (by assumption)
      · refine not10 ?_ ?_ ?_ ?_ ?_ ?_ ?_ ?_ ?_ ?_ <;> first | exact LtA.ne (by assumption) | exact LtA.ne' (by assumption)
      · refine not10 ?_ ?_ ?_ ?_ ?_ ?_ ?_ ?_ ?_ ?_ <;> first | exact LtA.ne (by assumption) | exact LtA.ne' (by assumption)
      · rintro h
        refine hown p hp p.1 ?_ rfl
        simp only [List.mem_cons, List.not_mem_nil, or_false]
        rcases h with h | h | h | h | h | h | h | h | h | h <;> simp [h]
    case ht =>
      rcases htl with rfl | ⟨r', rfl, _⟩
      · exact .inl rfl
      · exact .inr ⟨encL r', rfl⟩
    intro t2 tp2 tl2 h2 tk2 F2 N2
    clear F9 N9
    dsimp only
    unfold lexL ldict at N2
    simp only [List.cons_append, List.nil_append] at N2
    k_steps
    refine Stop.off ?_
    rename_i F9 N9
    simp only [List.push_toArray] at N9
    have e0 : encL tl0 = [] ↔ tl0 = [] := by
      rcases htl with rfl | ⟨r', rfl, _⟩
      · exact ⟨fun _ => rfl, fun _ => rfl⟩
      · exact ⟨fun h => by simp [encL] at h, fun h => by cases h⟩
    have erl : r.length = j + (v0.length + 1 + tl0.length) := by rw [er]; simp only [List.length_append, List.length_replicate, List.length_cons]
    have eq1 : ring.length + 1 - i = ring.length - i + 1 := by omega
    refine end_intro ok0 _ tl0.tail (d ++ [(c0 :: v0, (j : Int) + if tl0 = [] then 0 else 1)]) F9 N9 rfl rfl rfl rfl ?_ ?_ ?_ ?_ ?_ ?_ ?_ ?_ ?_ ?_
    · rcases htl with rfl | ⟨r', rfl, _⟩
      · rw [if_pos (show encL [] = [] from rfl)]
        refine List.drop_eq_nil_of_le ?_
        rw [← eLen, ← hpos]; simp only [encL, List.flatMap_nil, List.length_nil, List.length_cons]; omega
      · rw [if_neg (by simp [encL])]
        have e9 : encL (95 :: r') = 95 :: encL r' := rfl
        rw [e9] at hd1
        have e8 := congrArg (List.drop (j + 2 * (c0 :: v0).length + 1)) hd1
        rw [List.drop_drop] at e8
        rw [show pos + j + 2 * (c0 :: v0).length + 1 = pos + (j + 2 * (c0 :: v0).length + 1) by omega]
        rw [e8, ← List.append_assoc, List.drop_append, List.drop_eq_nil_of_le (by rw [List.length_append, List.length_replicate, encW_length]; omega), List.nil_append]
        rw [List.length_append, List.length_replicate, encW_length, show j + 2 * (c0 :: v0).length + 1 - (j + 2 * (c0 :: v0).length) = 1 by omega]
        rfl
    · dsimp only
      rw [← hpos]
      simp only [List.length_cons]
      rcases htl with rfl | ⟨r', rfl, _⟩
      · rw [if_pos (show encL [] = [] from rfl)]; omega
      · have e9 : encL (95 :: r') = 95 :: encL r' := rfl
        rw [if_neg (by simp [encL]), e9, List.length_cons]; omega
    · rcases htl with rfl | ⟨r', rfl, hl'⟩
      · exact .inl rfl
      · exact .inr hl'
    · omega
    · rcases htl with rfl | ⟨r', rfl, hl'⟩
      · rw [← hnl]; simp only [List.tail_nil]; omega
      · rw [← hnl, nls_cons 95 r', show nl 95 = 0 from rfl]; simp only [List.tail_cons]; omega
    · rw [List.map_append]
      exact strsAppend hws (.cons _ _ .nil)
    · rw [List.map_append]
      refine IntsAre.append hgs ?_
      have e7 : ((pos + j + 2 * (c0 :: v0).length + (if encL tl0 = [] then 0 else 1) : Nat) : Int) - (pos : Int) - 2 * ((c0 :: v0).length : Int) = (j : Int) + if tl0 = [] then 0 else 1 := by
        by_cases h : tl0 = []
        · rw [if_pos h, if_pos (e0.mpr h)]; omega
        · rw [if_neg h, if_neg (fun q => h (e0.mp q))]; omega
      rw [e7]
      exact .cons _ _ .nil
    · rw [← hd0, eq1, et, List.append_assoc, show ring.length + 1 - (i + 1) = ring.length - i by omega]; rfl
    · rcases htl with rfl | ⟨r', rfl, hl'⟩
      · exact .inl rfl
      · refine .inr ?_
        rw [List.tail_cons]; rw [List.length_cons] at erl; omega
    · rw [List.length_append]; simp only [List.length_cons, List.length_nil]; omega
end
section
set_option maxHeartbeats 8000000
section
variable {prog : Program} {w : World} {A : Around} {E : Value → Shared → Prop} {s : Shared} {env : Env} {h₀ : Heap} {x : Str} {body : List Stmt} {Q : Flow → Shared → Prop}
/-- the same, for a ledger whose addresses were there before the loop -/
theorem iterRangeS {r : Addr} {a₀ b₀ : Int} {t₀ u₀ v₀ : Tok} {m₀ : Str → Option Value} {news : List (Addr × Obj)} (n : Nat) (J : Nat → (Str → Option Value) → List (Addr × Obj) → Prop)
    (hh : A.handled = none) (hr : IsRange s.heap r a₀ b₀ 1 t₀ u₀ v₀) (hsmall : Builtin.Range.small a₀ b₀ 1 = true) (hn : Builtin.Range.rangeSize a₀ b₀ 1 = (n : Int)) (F : Fr h₀ env.locals s.heap m₀) (N : News h₀ env.locals s.heap news) (h0 : J 0 m₀ news)
    (hno : ∀ i m nx, J i m nx → ∀ p ∈ nx, p.1 ∈ news.map (·.1))
    (turn : ∀ i t m₁ nx h tk own, i < n → J i m₁ nx → OwnOff own (nx.map (·.1)) → Fr h₀ env.locals h (fun y => if y = x then some (.int (a₀ + (i : Int)) t) else m₁ y) → News h₀ env.locals h (nx ++ own) →
      wpAny (model prog w) A (execs body env) (TurnEnd h₀ env.locals (J (i + 1)) own ⟨h, s.gens, s.drawn, tk, s.os⟩ Q) E ⟨h, s.gens, s.drawn, tk, s.os⟩)
    (done : ∀ m₁ nx h tk, J n m₁ nx → Fr h₀ env.locals h m₁ → News h₀ env.locals h nx → Q .next ⟨h, s.gens, s.drawn, tk, s.os⟩) :
    wpAny (model prog w) A (pyIter (.ref r)) (fun it s₂ => LoopAtV prog w A h₀ env x body Q E it s₂) E s := by
  refine wpAny_pyIter_range hr hsmall ?_
  have W := (Walks.range (prog := prog) (w := w) hh s.heap.objs.size a₀ 1 n)
  have hst : IsRangeIter (s.heap.push { cls := .type "range_iterator", data := .fields #[rawInt a₀, rawInt (Builtin.Range.rangeSize a₀ b₀ 1), rawInt 1] }) s.heap.objs.size (a₀ + ((0 : Nat) : Int) * 1) ((n : Int) - ((0 : Nat) : Int)) 1 := by
    rw [hn]; simpa using Heap.get?_push_size _ rfl
  have hI : h₀.get? s.heap.objs.size = none := next_is_new F
  refine ⟨_, _, _, n, _, _, m₀, news, J, rfl, W, ?_, ?_, ?_, hst, F.push _, (fun p hp => ⟨Heap.get?_push_of_some _ (N p hp).1, (N p hp).2⟩), h0, ?_, ?_⟩
  · intro hm
    exact absurd F.ns.lt ((List.mem_singleton.mp hm) ▸ Nat.lt_irrefl _)
  · intro b hb
    rw [List.mem_singleton.mp hb]
    exact hI
  · intro p hp hI
    exact absurd (Heap.lt_size (N p hp).1) ((List.mem_singleton.mp hI) ▸ Nat.lt_irrefl _)
  · rintro i v m₁ nx s₁ own ⟨hh', tk', rfl⟩ hin ⟨t, rfl⟩ hJ hoff hown hget hall hst₁ F₁ N₁
    have hsep : OwnOff own (nx.map (·.1)) := by
      intro p hp b hb e
      obtain ⟨q, hq, rfl⟩ := List.mem_map.mp hb
      exact hoff q hq (e ▸ hown p hp)
    rw [Int.mul_one] at F₁
    have hmem := hall _ (List.mem_singleton.mpr rfl) hI _ hst₁
    refine wpAny_mono (turn i t m₁ nx hh' tk' own hin hJ hsep F₁ (fun p hp => N₁ p (by rcases List.mem_append.mp hp with h | h; exact List.mem_append_right _ h; exact List.mem_append_left _ h))) (fun f s₂ e => ?_) fun _ _ e => e
    have fin : (∃ h' tk m' nx', s₂ = { (⟨hh', s.gens, s.drawn, tk', s.os⟩ : Shared) with heap := h', toks := tk } ∧ Fr h₀ env.locals h' m' ∧ News h₀ env.locals h' (nx' ++ own) ∧ J (i + 1) m' nx') → LoopStepU h₀ env.locals [s.heap.objs.size] own (J (i + 1)) ⟨hh', s.gens, s.drawn, tk', s.os⟩ .next s₂ := by
      rintro ⟨h', tk, m', nx', e, F', N', hj⟩
      refine ⟨rfl, h', tk, m', nx', e, F', fun p hp => N' p (by rcases List.mem_append.mp hp with h | h; exact List.mem_append_right _ h; exact List.mem_append_left _ h), fun p hp hq => ?_, hj⟩
      obtain ⟨q, hq', e⟩ := List.mem_map.mp (hno _ _ _ hj p hp)
      have lt := Heap.lt_size (N q hq').1
      rw [e, List.mem_singleton.mp hq] at lt
      exact Nat.lt_irrefl _ lt
    cases f with
    | ret v => exact .ret e
    | brk => exact .brk e
    | next => exact .next (fin e)
    | cont => exact .cont (fin e)
  · rintro h' tk m' nx F' N' _ hj
    exact done m' nx h' tk hj F' N'
end
end
section
set_option maxHeartbeats 8000000
/-- the reader's loop, whole -/
theorem rd_loop {w : World} {s : Shared} {p : Program} {loose : List Str} {mg mb : Str → Option Value} {g : Heap} {L r : Addr} {m : Str → Option Value} {ring text qual : Str} {t tw tt k1 k2 k3 k4 k5 tl tp tq t₀ u₀ v₀ : Tok} {bd : List Stmt} {sc : Scope} {env : Env} {Q : Flow → Shared → Prop} {E : Value → Shared → Prop}
    {cP cT P CR FR FS DS DX XA PB Wd Gp CL : Addr} {fdS : FuncData} {slS : Array (Option Value)} {oc oT oP oCL o93 : Obj} {doc pm ct : Value} {params : Arguments} {body : List Stmt} {scope : Scope} {vc : Array Value} {ep : Nat}
    (hst : bd = forBody rdFor) (hsc : sc = rdParts.2.2) (X : (hd.heap_39 w.params).In g) (T : TopRead p loose mg mb g)
    (F : Fr g L s.heap m)
    (N : News g L s.heap [(Gp, W.listOf #[] 0), (Wd, W.listOf #[] 0), (PB, W.listOf #[] 0), (XA, instObj 80 DX),
      (DX, W.dictOf [⟨PyData.keyHash w.params (Str.ofString "lineno"), .str (Str.ofString "lineno") k1, .int 1 tl⟩, ⟨PyData.keyHash w.params (Str.ofString "instream"), .str (Str.ofString "instream") k2, .ref FS⟩,
        ⟨PyData.keyHash w.params (Str.ofString "whitespace"), .str (Str.ofString "whitespace") k3, .str (Str.ofString "_") tw⟩, ⟨PyData.keyHash w.params (Str.ofString "pushback"), .str (Str.ofString "pushback") k4, .ref PB⟩] 4),
      (DS, W.dictOf [⟨PyData.keyHash w.params (Str.ofString "read"), .str (Str.ofString "read") k5, .ref FR⟩] 1), (FS, ⟨.type "function", some DS, .func fdS, slS⟩), (CL, oCL),
      (FR, fnMade (Str.ofString "read") qual params body scope [(Str.ofString "text", cT), (Str.ofString "place", cP)] doc pm CR ct), (CR, oc), (P, W.listOf #[.int 0 tp] ep), (cT, oT), (cP, oP), (93, o93)])
    (dT : oT.data = .cell (some (.str text tt))) (dP : oP.data = .cell (some (.ref P))) (dc : oc.data = .fields vc) (dq : vc[1]? = some (.str qual tq)) (hp : (params, body, scope) = readParts)
    (eT : cT = L + 1 + 1) (eP : cP = L + 1) (hlen : ring.length ≤ 20) (htext : text = encS ring ++ Str.ofString "_\\.")
    (o2 : cT < P) (o3 : P < CR) (o4 : CR < FR) (o5 : FR < CL) (o6 : CL < FS) (o7 : FS < DS) (o8 : DS < DX) (o9 : DX < XA) (o10 : XA < PB) (o11 : PB < Wd) (o12 : Wd < Gp) (o13 : 93 < L)
    (hr : IsRange s.heap r 0 ((ring.length : Int) + 1) 1 t₀ u₀ v₀)
    (m1 : m (Str.ofString "ring") = some (.str ring t)) (m2 : m (Str.ofString "words") = some (.ref Wd)) (m3 : m (Str.ofString "gaps") = some (.ref Gp)) (m4 : m (Str.ofString "lexer") = some (.ref XA))
    (done : ∀ m₁ ws gs ew eg tl' h tk, m₁ (Str.ofString "words") = some (.ref Wd) → m₁ (Str.ofString "gaps") = some (.ref Gp) → m₁ (Str.ofString "lexer") = some (.ref XA) →
      StrsAre ws ((toks (ring.length + 1) (ring.cps.toList ++ [95, 46])).map fun x : List Nat × Int => S x.1) → IntsAre gs ((toks (ring.length + 1) (ring.cps.toList ++ [95, 46])).map fun x : List Nat × Int => x.2) →
      Fr g L h m₁ → News g L h [(Gp, W.listOf gs.toArray eg), (Wd, W.listOf ws.toArray ew), (XA, instObj 80 DX),
      (DX, W.dictOf [⟨PyData.keyHash w.params (Str.ofString "lineno"), .str (Str.ofString "lineno") k1, .int (1 + nls (ring.cps.toList)) tl'⟩, ⟨PyData.keyHash w.params (Str.ofString "instream"), .str (Str.ofString "instream") k2, .ref FS⟩,
        ⟨PyData.keyHash w.params (Str.ofString "whitespace"), .str (Str.ofString "whitespace") k3, .str (Str.ofString "_") tw⟩, ⟨PyData.keyHash w.params (Str.ofString "pushback"), .str (Str.ofString "pushback") k4, .ref PB⟩] 4), (93, o93)] → Q .next ⟨h, s.gens, s.drawn, tk, s.os⟩) :
    wpAny (model pg w) ((callerA.deeper env).deeper (envOfC (Str.ofString "_law_read") sc L 96 (.ref 95))) (pyIter (.ref r))
      (fun it s₂ => LoopAtV pg w ((callerA.deeper env).deeper (envOfC (Str.ofString "_law_read") sc L 96 (.ref 95))) g (envOfC (Str.ofString "_law_read") sc L 96 (.ref 95)) (Str.ofString "step") bd Q E it s₂) E s := by
  have eU : Str.ofString "_\\." = ⟨#[95, 92, 46]⟩ := by decide +kernel
  have etl : text.cps.toList = encL (ring.cps.toList ++ [95, 46]) := by
    rw [htext, eU, encL_append]
    show (_ ++ _ : Array Nat).toList = _
    simp [encS, encL]
  have hl20 : ring.cps.toList.length ≤ 20 := by simpa [Str.length] using hlen
  have len : text.length ≤ 100 := by
    have e : text.length = text.cps.toList.length := by simp [Str.length]
    rw [e, etl]
    have := encL_length (ring.cps.toList ++ [95, 46])
    rw [List.length_append] at this
    simp only [List.length_cons, List.length_nil] at this
    omega
  generalize ha : (⟨cP, cT, P, CR, FR, FS, DS, DX, XA, PB, k1, k2, k3, k4, k5, tw, tt, fdS, slS, oc, oT, oP, ep, text, qual, doc, pm, ct, params, body, scope, vc, tq⟩ : LexS) = a
  have q : a.cP = cP ∧ a.cT = cT ∧ a.P = P ∧ a.CR = CR ∧ a.FR = FR ∧ a.FS = FS ∧ a.DS = DS ∧ a.DX = DX ∧ a.X = XA ∧ a.PB = PB ∧ a.text = text := by subst ha; exact ⟨rfl, rfl, rfl, rfl, rfl, rfl, rfl, rfl, rfl, rfl, rfl⟩
  obtain ⟨q1, q2, q3, q4, q5, q6, q7, q8, q9, q10, q11⟩ := q
  have ok : a.Ok := by
    subst ha
    exact ⟨dT, dP, dc, dq, hp, by rw [eT, eP]; exact Nat.lt_succ_self _, o2, o3, o4, Nat.lt_trans o5 o6, o7, o8, o9, o10, len⟩
  have I : RdIn a ring L Wd Gp CL := ⟨ok, by rw [q2, eT], by rw [q1, eP], hlen, by rw [q11, etl], by rw [q10]; exact o11, o12, by rw [q5]; exact o5, by rw [q6]; exact o6, by rw [q1, eP]; exact Nat.lt_succ_of_lt o13⟩
  have N2 : News g L s.heap (lexL w a ((0 : Nat) : Int) tp 1 tl ++ ((Wd, W.listOf ([] : List Value).toArray 0) :: (Gp, W.listOf ([] : List Value).toArray 0) :: [(CL, oCL), (93, o93)])) := by
    subst ha
    intro p hp'
    unfold lexL ldict at hp'
    simp only [List.cons_append, List.nil_append] at hp'
    simp only [List.mem_cons, List.not_mem_nil, or_false] at hp'
    rcases hp' with rfl | rfl | rfl | rfl | rfl | rfl | rfl | rfl | rfl | rfl | rfl | rfl | rfl | rfl
    all_goals exact N _ (by k_mem)
  have eqs : ∀ {i : Nat} {m : Str → Option Value} {nx : List (Addr × Obj)}, readJ w a ring t Wd Gp [(CL, oCL), (93, o93)] i m nx → nx.map (·.1) = (lexL w a ((0 : Nat) : Int) tp 1 tl ++ ((Wd, W.listOf ([] : List Value).toArray 0) :: (Gp, W.listOf ([] : List Value).toArray 0) :: [(CL, oCL), (93, o93)])).map (·.1) := by
    rintro i m nx ⟨pos, tp', ln, tl', ws, gs, ew, eg, r, d, rfl, _⟩
    rfl
  refine iterRangeS (ring.length + 1) (readJ w a ring t Wd Gp [(CL, oCL), (93, o93)]) rfl hr ?hs ?hz F N2 ?h0 ?hno ?turn ?done
  case hs => exact range_small (by omega) (by omega) (by omega) (by omega)
  case hz => exact range_size (by omega)
  case h0 =>
    refine ⟨0, tp, 1, tl, [], [], 0, 0, ring.cps.toList ++ [95, 46], [], rfl, m1, m2, m3, by rw [q9]; exact m4, ?_, Nat.zero_le _, .inr ?_, by omega, rfl, .nil, .nil, rfl, .inr ?_, Nat.le_refl _⟩
    · rw [List.drop_zero, q11, etl]
    · simp
    · simp [Str.length]
  case hno =>
    intro i m nx hJ p hp'
    rw [← eqs hJ]
    exact List.mem_map_of_mem hp'
  case turn =>
    intro i ti m₁ nx h tk own hi hJ hown F' N'
    exact read_turn (s := ⟨h, s.gens, s.drawn, tk, s.os⟩) hst hsc I X T hi hJ hown F' N'
  case done =>
    rintro m₁ nx h tk ⟨pos, tp', ln, tl', ws, gs, ew, eg, r, d, rfl, e1, e2, e3, e4, e5, e6, e7, e8, e9, e10, e11, e12, e13, e14⟩ F' N'
    have hr0 : r = [] := by
      rcases e13 with h | h
      · exact h
      · exact List.eq_nil_of_length_eq_zero (by omega)
    subst hr0
    rw [toks_nil, List.append_nil] at e12
    subst e12
    have eln : ln = 1 + nls ring.cps.toList := by
      rw [nls_append] at e9
      have : nls [95, 46] = 0 := by decide
      rw [this] at e9
      simp only [nls, List.map_nil, List.sum_nil] at e9 ⊢
      omega
    subst eln
    refine done m₁ ws gs ew eg tl' h tk e2 e3 (by rw [← q9]; exact e4) e10 e11 F' ?_
    subst ha
    unfold lexL ldict at N'
    simp only [List.cons_append, List.nil_append] at N'
    intro p hp'
    simp only [List.mem_cons, List.not_mem_nil, or_false] at hp'
    rcases hp' with rfl | rfl | rfl | rfl | rfl
    all_goals exact N' _ (by k_mem)
end
section
set_option maxHeartbeats 8000000
theorem fillRx (w : World) (s : Shared) : (PySem.Challenge.rw_re0017_01.Holds ∧ (Mine.hd.heap_39 w.params).In s.heap) → True := by k_fill; intro _; trivial

local macro_rules | `(tactic| walk_at "eval ListComp") => `(tactic| (k_here; k_dflt (refine' comp_readK ?F ?N rfl ?a1 ?a2 rfl ?a3 rfl (fun _ => rfl) ?hz ?hit ?_; (case F => k_asm); (case N => k_asm); (case a1 => decide); (case a2 => decide); (case a3 => decide); (case hit => (refine' nameX_L ?F ?v ⟨?x, ?y⟩ ?z1 ?z2 ?z3; (case F => k_asm); (case x => rfl); (case y => rfl); (case v => rfl); (case z1 => rfl); (case z2 => rfl); (case z3 => decide +kernel))); (case hz => omega)); intro D' h' tk' l' n' F' N' hl'))
local macro_rules | `(tactic| walk_at "call builtin:str.join") => `(tactic| (k_here; k_dflt (refine' join_enc ?N ?hl ?hz ?_; (case N => k_asm); (case hl => assumption); (case hz => omega)); intro t' k' N' hle'))
local macro_rules | `(tactic| walk_at "setAttr ref") => `(tactic| (k_here; (with_reducible show wpAny _ _ (setAttr (Value.ref _) (Str.ofString "read") _) _ _ _); k_dflt (refine' set_fn ?F ?N ?U ?_; (case F => k_asm); (case N => k_asm); (case U => k_updF)); intro d' h' t' F' N' l1; (try dsimp only at N'); (try k_lt l1)))
theorem and_l {a b : Prop} (h : a ∧ b) : a := h.1
theorem read_call {w : World} {s : Shared} {env : Env} {h₀ : Heap} {L : Addr} {m mg mb : Str → Option Value} {p : Program} {loose : List Str} {mean : ExcName → Option Value} {ring : Str} {t : Tok} {Q : Value → Shared → Prop} {E : Value → Shared → Prop}
    (B' : Below callerA h₀ [] h₀) (F' : Fr h₀ L s.heap m) (X' : (hd.heap_39 w.params).In h₀) (N' : News h₀ L s.heap [(93, tabObj #[])]) (T' : Top p loose mean mg mb h₀) (codeHd : CodeHd h₀ 95 93)
    (hf : env.frame = some L) (hke : env.scope.kind = .function) (hring : ring.length ≤ 20)
    (k : ∀ T Wd Gp ws gs ew eg tl h tk ps, Wd < Gp → Gp < T →
      StrsAre ws ((toks (ring.length + 1) (ring.cps.toList ++ [95, 46])).map fun x : List Nat × Int => S x.1) → IntsAre gs ((toks (ring.length + 1) (ring.cps.toList ++ [95, 46])).map fun x : List Nat × Int => x.2) →
      Fr h₀ L h m → News h₀ L h [(T, { cls := .type "tuple", data := .seq #[.ref Wd, .ref Gp, .int (1 + nls ring.cps.toList) tl] }), (Gp, W.listOf gs.toArray eg), (Wd, W.listOf ws.toArray ew), (93, tabObj ps)] → Q (.ref T) ⟨h, s.gens, s.drawn, tk, s.os⟩) :
    wpAny (model pg w) (callerA.deeper env) (call (.ref 96) [.str ring t]) Q E s := by
  refine wpAny_call ?_
  refine' code_defC ?k1 ?k2 ?k3 ?k4 ?k5 ?kA ?kF ?kK ?k6 ?k7 ?k8 ?k9 ?kB ?kD ?_ ?c2 ?c3 ?c4
  case kA => exact rfl
  case kF => exact hf
  case kK => exact hke
  case k1 => exact B'
  case k2 => exact F'
  case k3 => exact X'
  case k4 => exact N'
  case k5 => exact T'
  case k6 => k_is
  case k7 => k_is
  case k8 => k_room
  case k9 => exact BindsTo.of_eq rfl
  case kB => exact rfl
  case kD => decide +kernel
  case c2 => exact rfl
  case c3 => exact rfl
  case c4 => exact rfl
  intro g' L' h' tk' cells' FG' F' N' Y' B' X' T' l1
  (try k_lt l1)
  k_cells Y'
  (try simp only [List.cons_append, List.nil_append] at N')
  (try dsimp only)
  (try k_lift B')
  (show wpAny _ _ _ _ _ _)
  k_fold
  k_steps
  refine Stop.off ?_
  rename IsRange _ _ _ _ _ _ _ _ => R9
  rename Fr _ _ _ _ => F9
  rename News _ _ _ _ => N9
  refine' rd_loop (Wd := ?Wd) (Gp := ?Gp) (XA := ?XA) ?hst ?hsc X' (topRead_of T') F9 N9 ?dT ?dP ?dc ?dq ?hp rfl rfl hring rfl ?q1 ?q2 ?q3 ?q4 ?q5 ?q6 ?q7 ?q8 ?q9 ?q10 ?q11 l1 R9 ?m1 ?m2 ?m3 ?m4 ?_
  case dT => assumption
  case dP => assumption
  case dc => assumption
  case dq => assumption
  case q1 => first | assumption | exact and_l (by assumption)
  case q2 => first | assumption | exact and_l (by assumption)
  case q3 => first | assumption | exact and_l (by assumption)
  case q4 => first | assumption | exact and_l (by assumption)
  case q5 => first | assumption | exact and_l (by assumption)
  case q6 => first | assumption | exact and_l (by assumption)
  case q7 => first | assumption | exact and_l (by assumption)
  case q8 => first | assumption | exact and_l (by assumption)
  case q9 => first | assumption | exact and_l (by assumption)
  case q10 => first | assumption | exact and_l (by assumption)
  case q11 => first | assumption | exact and_l (by assumption)
  case hst => with_unfolding_all rfl
  case hsc => with_unfolding_all rfl
  case hp => with_unfolding_all rfl
  case m1 => rfl
  case m2 => rfl
  case m3 => rfl
  case m4 => rfl
  intro m₁ ws gs ew eg tl' h tk e2 e3 e4 hws hgs F0 N0
  have F1 := known [(Str.ofString "words", .ref ?Wd), (Str.ofString "gaps", .ref ?Gp), (Str.ofString "lexer", .ref ?XA)] F0 (by
      intro p hp
      simp only [List.mem_cons, List.not_mem_nil, or_false] at hp
      rcases hp with rfl | rfl | rfl
      · exact e2
      · exact e3
      · exact e4)
  simp only [kstB] at F1
  clear F0 F9 N9
  dsimp only
  k_steps
  rename Fr _ _ _ _ => kF
  rename News _ _ _ _ => kN
  refine k _ ?Wd ?Gp ws gs ew eg tl' _ _ _ (and_l (by assumption)) (and_l (by assumption)) hws hgs kF fun p hp => kN p (by
    simp only [List.mem_cons, List.not_mem_nil, or_false] at hp
    rcases hp with rfl | rfl | rfl | rfl
    all_goals k_mem)
end
section
set_option maxHeartbeats 8000000

/-- a pair of ints that stands -/
structure Pr where
  (T : Addr) (a : Int) (t : Tok) (b : Int) (u : Tok)
def PrIn (h : Heap) (q : Pr) : Prop := h.IsTuple q.T #[.int q.a q.t, .int q.b q.u]
def prRef (q : Pr) : Value := .ref q.T

section
variable {prog : Program} {w : World} {A : Around} {E : Value → Shared → Prop} {s : Shared} {env : Env} {h₀ : Heap} {x y : Str} {px py tp : Pos} {kk : Nat} {body : List Stmt} {Q : Flow → Shared → Prop}
theorem go_list {elts : List Expr} {x1} {pos : Pos} {I l : Addr} {v : Value} {i : Nat} {Q : Unit → Shared → Prop} (hit : s.heap.IsListIter I l i) (hQ : Q () s) :
    wpAny (model prog w) A (letOwnedTupleGo (.Tuple elts x1 pos) (.ref I) v) Q E s := by
  cases v with
  | ref T => exact wpAny_letOwnedTupleGo_listiter hit hQ
  | _ => exact wpAny_pure hQ

theorem iterPairs {l : Addr} {qs : List Pr} {m₀ : Str → Option Value} {news : List (Addr × Obj)} (J : Nat → (Str → Option Value) → List (Addr × Obj) → Prop)
    (hh : A.handled = none) (hl : h₀.IsList l (qs.map prRef).toArray) (hq : ∀ q ∈ qs, PrIn h₀ q) (F : Fr h₀ env.locals s.heap m₀) (N : News h₀ env.locals s.heap news) (h0 : J 0 m₀ news)
    (hx : env.kindOf x = some .local) (hy : env.kindOf y = some .local) (hp : (env.scope.kind == .class || (env.scope.kind == .module && env.locals != env.globals)) = false)
    (hno : ∀ i m nx, J i m nx → ∀ p ∈ nx, p.1 ∈ news.map (·.1))
    (turn : ∀ i q m₁ nx h tk own, qs[i]? = some q → J i m₁ nx → OwnOff own (nx.map (·.1)) → Fr h₀ env.locals h (fun z => if z = y then some (.int q.b q.u) else if z = x then some (.int q.a q.t) else m₁ z) → News h₀ env.locals h (nx ++ own) →
      wpAny (model prog w) A (execs body env) (TurnEnd h₀ env.locals (J (i + 1)) own ⟨h, s.gens, s.drawn, tk, s.os⟩ Q) E ⟨h, s.gens, s.drawn, tk, s.os⟩)
    (done : ∀ m₁ nx h tk, J qs.length m₁ nx → Fr h₀ env.locals h m₁ → News h₀ env.locals h nx → Q .next ⟨h, s.gens, s.drawn, tk, s.os⟩) :
    wpAny (model prog w) A (pyIter (.ref l)) (fun it s₂ => TurnsAt prog w A h₀ env (.Tuple [.Name x px, .Name y py] kk tp) body Q E it s₂) E s := by
  have hls : s.heap.IsList l (qs.map prRef).toArray := hl.at fun o e => F.keep l o e
  obtain ⟨ol, hol, _⟩ := id hl
  have hlt : l < h₀.objs.size := Heap.lt_size hol
  have hne : l ≠ s.heap.objs.size := Nat.ne_of_lt (Nat.lt_trans (Nat.lt_of_lt_of_le hlt F.above) F.ns.lt)
  refine wpAny_pyIter_list hls ?_
  have W := Walks.list (prog := prog) (w := w) hh s.heap.objs.size l hne (qs.map prRef).toArray
  have hlen : (qs.map prRef).toArray.size = qs.length := by simp
  rw [hlen] at W
  have hI : h₀.get? s.heap.objs.size = none := next_is_new F
  refine ⟨_, _, _, qs.length, _, _, _, m₀, news, J, rfl, KTurns.ofWalks W (fun i v s' Q' E' st hQ => go_list st.1 hQ), ?_, ?_, ?_, ⟨⟨_, Heap.get?_push_size _ rfl, rfl, rfl⟩, hls.at fun o e => Heap.get?_push_of_some _ e⟩, F.push _, (fun p hp => ⟨Heap.get?_push_of_some _ (N p hp).1, (N p hp).2⟩), h0, ?_, ?_⟩
  · intro hm
    rcases List.mem_cons.mp hm with e | hm
    · exact absurd F.ns.lt (e ▸ Nat.lt_irrefl _)
    · exact absurd (Nat.lt_of_lt_of_le hlt F.above) ((List.mem_singleton.mp hm) ▸ Nat.lt_irrefl _)
  · intro b hb
    rw [List.mem_singleton.mp hb]
    exact hI
  · intro p hp hI
    exact absurd (Heap.lt_size (N p hp).1) ((List.mem_singleton.mp hI) ▸ Nat.lt_irrefl _)
  · rintro i v m₁ nx h₁ tk₁ own hin hP hJ hoff hown hget hall st F₁ N₁
    have hP' : (qs.map prRef)[i]? = some v := by simpa using hP
    rw [List.getElem?_map] at hP'
    obtain ⟨q, hqi, rfl⟩ := Option.map_eq_some_iff.mp hP'
    have hsep : OwnOff own (nx.map (·.1)) := by
      intro p hp b hb e
      obtain ⟨q', hq', rfl⟩ := List.mem_map.mp hb
      have h3 := hno _ _ _ hJ q' hq'
      obtain ⟨q2, hq2, e2⟩ := List.mem_map.mp h3
      have h4 := hown p hp
      rcases List.mem_cons.mp h4 with h5 | h5
      · have := Heap.lt_size (N q2 hq2).1
        rw [e2, ← e, h5] at this
        exact Nat.lt_irrefl _ this
      · have h6 := (N q2 hq2).2.2
        rw [e2, ← e, List.mem_singleton.mp h5, hol] at h6
        cases h6
    have hmem := hall s.heap.objs.size (.head _) hI
    have ht : h₁.IsTuple q.T #[.int q.a q.t, .int q.b q.u] := (hq q (List.mem_of_getElem? hqi)).at fun o e => F₁.keep _ _ e
    refine kcp_assign hh ht hx hy hp F₁.ns fun h' tk hn keep => ?_
    have hL₀ : h₀.get? env.locals = none := Heap.get?_none_of_le F₁.above
    have F₂ : Fr h₀ env.locals h' (fun z => if z = y then some (.int q.b q.u) else if z = x then some (.int q.a q.t) else m₁ z) := ⟨hn, fun b o e => keep b o (fun q => by rw [q, hL₀] at e; cases e) (F₁.keep b o e), F₁.above⟩
    have N₂ : News h₀ env.locals h' (nx ++ own) := fun p hp => by
      have z := N₁ p (by rcases List.mem_append.mp hp with h | h; exact List.mem_append_right _ h; exact List.mem_append_left _ h)
      exact ⟨keep _ _ z.2.1 z.1, z.2⟩
    refine wpAny_mono (turn i q m₁ nx h' tk own hqi hJ hsep F₂ N₂) (fun f s₂ e => ?_) fun _ _ e => e
    have fin : (∃ h₉ tk₉ m' nx', s₂ = { (⟨h', s.gens, s.drawn, tk, s.os⟩ : Shared) with heap := h₉, toks := tk₉ } ∧ Fr h₀ env.locals h₉ m' ∧ News h₀ env.locals h₉ (nx' ++ own) ∧ J (i + 1) m' nx') → LoopStepU h₀ env.locals [s.heap.objs.size] own (J (i + 1)) ⟨h₁, s.gens, s.drawn, tk₁, s.os⟩ .next s₂ := by
      rintro ⟨h₉, tk₉, m', nx', e, F', N', hj⟩
      refine ⟨rfl, h₉, tk₉, m', nx', e, F', fun p hp => N' p (by rcases List.mem_append.mp hp with h | h; exact List.mem_append_right _ h; exact List.mem_append_left _ h), fun p hp hq => ?_, hj⟩
      obtain ⟨q, hq', e⟩ := List.mem_map.mp (hno _ _ _ hj p hp)
      have lt := Heap.lt_size (N q hq').1
      rw [e, List.mem_singleton.mp hq] at lt
      exact Nat.lt_irrefl _ lt
    cases f with
    | ret v => exact .ret e
    | brk => exact .brk e
    | next => exact .next (fin e)
    | cont => exact .cont (fin e)
  · rintro h' tk m' nx F' N' _ hj
    exact done m' nx h' tk hj F' N'
end

/-- a place of a list of the ledger's is stored into -/
theorem set_row {prog : Program} {w : World} {A : Around} {E : Value → Shared → Prop} {s : Shared} {a : Addr} {row : List Value} {n : Nat} {k : Int} {t : Tok} {v : Value} {Q : Unit → Shared → Prop} {h₀ : Heap} {L : Addr} {m : Str → Option Value} {rest : List (Addr × Obj)}
    (F : Fr h₀ L s.heap m) (N : News h₀ L s.heap ((a, W.listOf row.toArray n) :: rest)) (off : OwnOff rest [a]) (h0 : 0 ≤ k) (hk : k < row.length) (hs : row.length ≤ 100)
    (h : ∀ h', Fr h₀ L h' m → News h₀ L h' ((a, W.listOf (row.set k.toNat v).toArray n) :: rest) → Q () { s with heap := h' }) :
    wpAny (model prog w) A (setItem (.ref a) (.int k t) v) Q E s := by
  have z := N (a, W.listOf row.toArray n) (.head _)
  refine ki_setAt z.1 h0 (by omega) (by simpa using hk) (h _ (F.change (Heap.SameBut.update ..) z.2.1 z.2.2) (ki_turn (pre := []) (post := rest) _ N (fun _ hp => nomatch hp) (fun p hp => off p hp a (.head _)) ?_ ?_))
  · simp
  · rw [if_pos (by simp)]
theorem intsSet : ∀ {vs : List Value} {ns : List Int} (k : Nat) (x : Int) (t : Tok), IntsAre vs ns → IntsAre (vs.set k (.int x t)) (ns.set k x)
  | _, _, _, _, _, .nil => .nil
  | _, _, 0, _, _, .cons n t h => .cons _ _ h
  | _, _, k + 1, x, u, .cons n t h => .cons _ _ (intsSet k x u h)
/-- ones from place a on, n of them -/
def fill (row : List Int) (a : Int) : Nat → List Int
  | 0 => row
  | n + 1 => (fill row a n).set (a + n).toNat 1
theorem fill_length (row : List Int) (a : Int) : ∀ n, (fill row a n).length = row.length
  | 0 => rfl
  | n + 1 => by rw [fill, List.length_set, fill_length row a n]
end
section
set_option maxHeartbeats 8000000
/-- the entry of a def with cells; all that stood before is kept -/
theorem enterC {w : World} {A : Around} {s : Shared} {K : Frag} {R : Result → Shared → Prop} {name qual : Str} {params : Arguments} {body : List Stmt} {scope : Scope} {dV kV doc pm cdv ct oc : Value} {an od : Option Addr} {osl : Array (Option Value)} {f : Addr} {args : Args} (binds : List (Str × Value))
    {p : Program} {loose : List Str} {mg mb : Str → Option Value} {prog : Program}
    (X : K.In s.heap) (T : TopRead p loose mg mb s.heap)
    (ho : K.lookup f = some ⟨oc, od, .func (fnOf name qual params body scope dV kV doc pm an cdv ct), osl⟩) (hcd : codeIn K cdv qual = true) (hroom : A.depth < recursionLimit)
    (hbind : BindsTo s (fnOf name qual params body scope dV kV doc pm an cdv ct) args binds) (hkind : (binds.all fun y => scope.names.lookup y.1 == some .local || scope.names.lookup y.1 == some .cell) = true)
    (hnd : ((cellsFrom 0 scope.names []).map (·.1)).Nodup)
    (h : ∀ L h₁ tk cells, Fr s.heap L h₁ (bindL (envOfC qual scope L f cdv).kindOf binds fun _ => none) → News s.heap L h₁ cells →
      CellsAre (bindC (envOfC qual scope L f cdv).kindOf binds fun _ => none) (cellsFrom (L + 1) scope.names []) cells →
      wpAny (model prog w) (A.deeper (envOfC qual scope L f cdv)) (execs body (envOfC qual scope L f cdv))
        (fun fl s' => R (.ok (.ret (match fl with | .ret v => v | _ => .none))) s')
        (fun _ _ => False)
        { s with heap := h₁, toks := tk })
    (hco : scope.isCoroutine = false) (hgen : scope.isGenerator = false) (hk : scope.kind = .function) : codeAny (model prog w) A (.call (.ref f) args) R s := by
  refine codeAny_call_function hroom (X _ _ ho) (fd := fnOf name qual params body scope dV kV doc pm an cdv ct) rfl hco hgen rfl (codeRec_of X hcd) (hbind _ _ _ _ ?_)
  refine wpAny_newFunctionEnv_cells hk (kindsX hkind _) fun env' he s' x => ?_
  subst he
  refine ⟨T.nolimit.keeps x.toInCall.keep, codeAny_func ?_⟩
  obtain ⟨h₁, tk, rfl, _⟩ := x.done
  have hk₁ := x.toInCall.keep
  obtain ⟨cells, NC, Y⟩ := Cl.news (h₀ := s.heap) (Nat.le_refl _) fun n c hm => ⟨x.cell n c (lookup_of_mem_nodup (cellsFrom_names scope.names 0 (s.heap.objs.size + 1) [] [] rfl ▸ hnd) hm), x.above n c hm⟩
  exact wpAny_mono (h s.heap.objs.size h₁ tk cells ⟨x.toInCall.ns, hk₁, Nat.le_refl _⟩ NC Y) (fun _ _ y => y) fun _ _ y => y.elim

def listComps : List Stmt → List Expr
  | [] => []
  | s :: r => match s with
    | .Assign _ (e@(.ListComp ..)) _ => e :: listComps r
    | _ => listComps r
def compElt : Expr → Expr
  | .ListComp e _ _ _ => e
  | e => e
def compScope : Expr → Scope
  | .ListComp _ _ sc _ => sc
  | _ => ⟨.function, [], false, false, []⟩
end
section
set_option maxHeartbeats 8000000
theorem fillTm (w : World) (s : Shared) : (PySem.Challenge.rw_re0017_01.Holds ∧ (Mine.hd.heap_39 w.params).In s.heap) → True := by k_fill; intro _; trivial

/-- what a walk of rows knows of its frame -/
structure MF (l D Ra : Addr) (st ln ct : Int) (ts tl tc : Tok) (m : Str → Option Value) : Prop where
  runs : m (Str.ofString "runs") = some (.ref l)
  told : m (Str.ofString "told") = some (.ref D)
  start : m (Str.ofString "start") = some (.int st ts)
  length : m (Str.ofString "length") = some (.int ln tl)
  cut : m (Str.ofString "cut") = some (.int ct tc)
  marks : m (Str.ofString "marks") = some (.ref Ra)

theorem MF.put {l D Ra : Addr} {st ln ct : Int} {ts tl tc : Tok} {m : Str → Option Value} (x : MF l D Ra st ln ct ts tl tc m) {y : Str} {v : Option Value} (h1 : Str.ofString "runs" ≠ y) (h2 : Str.ofString "told" ≠ y) (h3 : Str.ofString "start" ≠ y) (h4 : Str.ofString "length" ≠ y) (h5 : Str.ofString "cut" ≠ y) (h6 : Str.ofString "marks" ≠ y) :
    MF l D Ra st ln ct ts tl tc (fun z => if z = y then v else m z) :=
  ⟨by rw [if_neg h1]; exact x.runs, by rw [if_neg h2]; exact x.told, by rw [if_neg h3]; exact x.start, by rw [if_neg h4]; exact x.length, by rw [if_neg h5]; exact x.cut, by rw [if_neg h6]; exact x.marks⟩

def toldParts : Arguments × List Stmt × Scope := findDef (Str.ofString "_law_told") PySem.Challenge.rw_re0017_01.row.prog.main.body
def toldFor : Stmt := stmtAt 1 toldParts.2.1
def cutFor : Stmt := stmtAt 0 (forBody toldFor)
def ifBody : Stmt → List Stmt
  | .If _ body _ _ => body
  | _ => []
def toldSc : Scope := toldParts.2.2

local macro_rules | `(tactic| walk_at "setItem ref int") => `(tactic| (k_here; refine Stop.on ?_))

theorem known_eq {m : Str → Option Value} (ps : List (Str × Value)) (hk : ∀ p ∈ ps, m p.1 = some p.2) : kstB m ps = m := by
  funext z; exact kstB_eq hk fun _ => rfl

theorem k_turn {w : World} {s : Shared} {p : Program} {loose : List Str} {mg mb : Str → Option Value} {h₀ : Heap} {L l D Ra cc : Addr} {st ln ct k : Int} {ts tl tc tk0 : Tok} {m : Str → Option Value} {oc oD : Obj} {rest : List (Addr × Obj)} {vs : List Value} {row : List Int} {ep : Nat} {sc : Scope} {p1 p2 p3 p4 p5 : Pos} {A : Around} {Q : Flow → Shared → Prop} {E : Value → Shared → Prop}
    (hsc : sc = toldParts.2.2) (X : (hd.heap_39 w.params).In h₀) (T : TopRead p loose mg mb h₀) (M : MF l D Ra st ln ct ts tl tc m)
    (F : Fr h₀ L s.heap (fun y => if y = Str.ofString "k" then some (.int k tk0) else m y)) (N : News h₀ L s.heap ((Ra, W.listOf vs.toArray ep) :: (cc, oc) :: (D, oD) :: rest)) (off : OwnOff ((cc, oc) :: (D, oD) :: rest) [Ra])
    (hv : IntsAre vs row) (h0 : 0 ≤ k) (h1 : k < row.length) (h2 : row.length ≤ 100)
    (h : ∀ h' tk vs', Fr h₀ L h' (fun y => if y = Str.ofString "k" then some (.int k tk0) else m y) → News h₀ L h' ((Ra, W.listOf vs'.toArray ep) :: (cc, oc) :: (D, oD) :: rest) → IntsAre vs' (row.set k.toNat 1) → Q .next ⟨h', s.gens, s.drawn, tk, s.os⟩) :
    wpAny (model pg w) A (execs [.Assign [.Subscript (.Name (Str.ofString "marks") p1) (.Name (Str.ofString "k") p2) p3] (.Constant (.int 1) 0 p4) p5] (envOfC (Str.ofString "_law_told") sc L 108 (.ref 107))) Q E s := by
  (with_unfolding_all conv at hsc => rhs; whnf)
  subst hsc
  have hk : ∀ p ∈ [(Str.ofString "k", Value.int k tk0), (Str.ofString "marks", Value.ref Ra)], (fun y => if y = Str.ofString "k" then some (.int k tk0) else m y) p.1 = some p.2 := by
    intro p hp
    simp only [List.mem_cons, List.not_mem_nil, or_false] at hp
    rcases hp with rfl | rfl
    · exact if_pos rfl
    · exact (if_neg (show Str.ofString "marks" ≠ Str.ofString "k" by decide +kernel)).trans M.marks
  have F2 := known _ F hk
  have eK := known_eq (m := fun y => if y = Str.ofString "k" then some (.int k tk0) else m y) _ hk
  simp only [kstB] at F2 eK
  clear F
  refine stopQ ?_
  (show wpAny _ _ _ _ _ _)
  k_fold
  k_steps
  refine Stop.off ?_
  refine set_row F2 N off h0 (by rw [hv.length]; exact h1) (by rw [hv.length]; exact h2) fun h' F9 N9 => ?_
  dsimp only
  k_steps
  refine Stop.off ?_
  exact h _ _ _ (eK ▸ F9) N9 (intsSet _ _ _ hv)

theorem k_loop {w : World} {s : Shared} {p : Program} {loose : List Str} {mg mb : Str → Option Value} {h₀ : Heap} {L l D Ra cc r : Addr} {st ln ct a b : Int} {ts tl tc t₀ u₀ v₀ : Tok} {m : Str → Option Value} {oc oD : Obj} {rest : List (Addr × Obj)} {vs : List Value} {row : List Int} {ep n : Nat} {sc : Scope} {p1 p2 p3 p4 p5 : Pos} {A : Around} {Q : Flow → Shared → Prop} {E : Value → Shared → Prop}
    (hsc : sc = toldParts.2.2) (X : (hd.heap_39 w.params).In h₀) (T : TopRead p loose mg mb h₀) (M : MF l D Ra st ln ct ts tl tc m) (hh : A.handled = none)
    (hr : IsRange s.heap r a b 1 t₀ u₀ v₀) (hn : b - a = n ∨ (b ≤ a ∧ n = 0)) (hb : b ≤ 1000) (hb0 : -1000 ≤ b) (ha : a ≤ 1000)
    (F : Fr h₀ L s.heap m) (N : News h₀ L s.heap ((Ra, W.listOf vs.toArray ep) :: (cc, oc) :: (D, oD) :: rest)) (off : OwnOff ((cc, oc) :: (D, oD) :: rest) [Ra])
    (hv : IntsAre vs row) (h0 : 0 ≤ a) (h1 : a + n ≤ row.length) (h2 : row.length ≤ 100)
    (h : ∀ h' tk vs' m', MF l D Ra st ln ct ts tl tc m' → Fr h₀ L h' m' → News h₀ L h' ((Ra, W.listOf vs'.toArray ep) :: (cc, oc) :: (D, oD) :: rest) → IntsAre vs' (fill row a n) → Q .next ⟨h', s.gens, s.drawn, tk, s.os⟩) :
    wpAny (model pg w) A (pyIter (.ref r)) (fun it s₂ => LoopAtV pg w A h₀ (envOfC (Str.ofString "_law_told") sc L 108 (.ref 107)) (Str.ofString "k") [.Assign [.Subscript (.Name (Str.ofString "marks") p1) (.Name (Str.ofString "k") p2) p3] (.Constant (.int 1) 0 p4) p5] Q E it s₂) E s := by
  refine iterRangeS n (fun i m nx => MF l D Ra st ln ct ts tl tc m ∧ ∃ vs', nx = (Ra, W.listOf vs'.toArray ep) :: (cc, oc) :: (D, oD) :: rest ∧ IntsAre vs' (fill row a i)) hh hr (range_small (by omega) (by omega) (by omega) (by omega)) (range_size hn) F N ⟨M, vs, rfl, hv⟩ ?_ ?_ ?_
  · rintro i m nx ⟨_, vs', rfl, _⟩ p hp
    exact List.mem_map_of_mem (f := (·.1)) hp
  · rintro i t m₁ nx h₁ tk own hi ⟨M₁, vs', rfl, hvs⟩ hown F₁ N₁
    refine k_turn (s := ⟨h₁, s.gens, s.drawn, tk, s.os⟩) (rest := rest ++ own) hsc X T M₁ F₁ N₁ ?_ hvs (by omega) (by rw [fill_length]; omega) (by rw [fill_length]; exact h2) ?_
    · intro p hp b hb e
      have hp' : p ∈ ((cc, oc) :: (D, oD) :: rest) ++ own := hp
      rcases List.mem_append.mp hp' with hp | hp
      · exact off p hp b hb e
      · exact hown p hp b (by rw [List.mem_singleton.mp hb]; exact .head _) e
    · intro h' tk' vs'' F' N' hvs'
      exact ⟨h', tk', _, (Ra, W.listOf vs''.toArray ep) :: (cc, oc) :: (D, oD) :: rest, rfl, F', N', M₁.put (by decide +kernel) (by decide +kernel) (by decide +kernel) (by decide +kernel) (by decide +kernel) (by decide +kernel), vs'', rfl, hvs'⟩
  · rintro m₁ nx h₁ tk ⟨M₁, vs', rfl, hvs⟩ F₁ N₁
    exact h h₁ tk vs' m₁ M₁ F₁ N₁ hvs

def otherFor : Stmt := stmtAt 1 (ifBody (stmtAt 3 (forBody cutFor)))
def toldOther (size start cut : Int) (row : List Int) (q : Int × Int) : List Int := if q.1 ≠ start then fill row ((q.1 - start - cut) % size) (q.2 - 1).toNat else row
theorem other_turn {w : World} {s : Shared} {p : Program} {loose : List Str} {mg mb : Str → Option Value} {h₀ : Heap} {L l D Ra : Addr} {st ln ct size o1 o2 : Int} {ts tl tc tz u1 u2 : Tok} {m : Str → Option Value} {oc oD : Obj} {rest : List (Addr × Obj)} {vs : List Value} {row : List Int} {ep : Nat} {sc : Scope} {bd : List Stmt} {A : Around} {Q : Flow → Shared → Prop}
    (hst : bd = forBody otherFor) (hsc : sc = toldParts.2.2) (X : (hd.heap_39 w.params).In h₀) (T : TopRead p loose mg mb h₀) (M : MF l D Ra st ln ct ts tl tc m) (hh : A.handled = none) (dc : oc.data = .cell (some (.int size tz)))
    (F : Fr h₀ L s.heap (fun y => if y = Str.ofString "more" then some (.int o2 u2) else if y = Str.ofString "other" then some (.int o1 u1) else m y)) (N : News h₀ L s.heap ((Ra, W.listOf vs.toArray ep) :: (L + 1, oc) :: (D, oD) :: rest)) (off : OwnOff ((L + 1, oc) :: (D, oD) :: rest) [Ra])
    (hv : IntsAre vs row) (s0 : 0 < size) (s1 : size ≤ 50) (b1 : 0 ≤ o1) (b2 : o1 ≤ 50) (b3 : 1 ≤ o2) (b4 : o2 ≤ 50) (c0 : 0 ≤ st) (c1 : st ≤ 50) (c2 : 0 ≤ ct) (c3 : ct ≤ 50) (h2 : row.length ≤ 100)
    (h1 : o1 ≠ st → (o1 - st - ct) % size + o2 - 1 ≤ row.length)
    (h : ∀ h' tk vs' m', MF l D Ra st ln ct ts tl tc m' → Fr h₀ L h' m' → News h₀ L h' ((Ra, W.listOf vs'.toArray ep) :: (L + 1, oc) :: (D, oD) :: rest) → IntsAre vs' (toldOther size st ct row (o1, o2)) → Q .next ⟨h', s.gens, s.drawn, tk, s.os⟩) :
    wpAny (model pg w) A (execs bd (envOfC (Str.ofString "_law_told") sc L 108 (.ref 107))) Q (fun _ _ => False) s := by
  (with_unfolding_all conv at hst => rhs; whnf)
  (with_unfolding_all conv at hsc => rhs; whnf)
  subst hst hsc
  have M2 : MF l D Ra st ln ct ts tl tc (fun y => if y = Str.ofString "more" then some (.int o2 u2) else if y = Str.ofString "other" then some (.int o1 u1) else m y) :=
    (M.put (y := Str.ofString "other") (v := some (.int o1 u1)) (by decide +kernel) (by decide +kernel) (by decide +kernel) (by decide +kernel) (by decide +kernel) (by decide +kernel)).put (by decide +kernel) (by decide +kernel) (by decide +kernel) (by decide +kernel) (by decide +kernel) (by decide +kernel)
  have hk : ∀ p ∈ [(Str.ofString "other", Value.int o1 u1), (Str.ofString "more", Value.int o2 u2), (Str.ofString "start", Value.int st ts), (Str.ofString "cut", Value.int ct tc), (Str.ofString "marks", Value.ref Ra)], (fun y => if y = Str.ofString "more" then some (.int o2 u2) else if y = Str.ofString "other" then some (.int o1 u1) else m y) p.1 = some p.2 := by
    intro p hp
    simp only [List.mem_cons, List.not_mem_nil, or_false] at hp
    rcases hp with rfl | rfl | rfl | rfl | rfl
    · rfl
    · rfl
    · exact M2.start
    · exact M2.cut
    · exact M2.marks
  have F2 := known _ F hk
  have eK := known_eq (m := fun y => if y = Str.ofString "more" then some (.int o2 u2) else if y = Str.ofString "other" then some (.int o1 u1) else m y) _ hk
  simp only [kstB] at F2 eK
  clear F
  have ef : (o1 - st - ct).fmod size = (o1 - st - ct) % size := Int.fmod_eq_emod_of_nonneg _ (by omega)
  have f0 : 0 ≤ (o1 - st - ct).fmod size := by rw [ef]; exact Int.emod_nonneg _ (by omega)
  have f1 : (o1 - st - ct).fmod size < size := by rw [ef]; exact Int.emod_lt_of_pos _ s0
  refine stopQ ?_
  (show wpAny _ _ _ _ _ _)
  k_fold
  k_steps
  · rename_i ha tkA h8 F8 N8 tkB hh9 tk2 t1 w1 v1 R9 F9 N9 K9
    refine Stop.off ?_
    have ho := h1 ha
    have M9 := (eK.symm ▸ M2 : MF l D Ra st ln ct ts tl tc _).put (y := Str.ofString "off") (v := some (.int ((o1 - st - ct).fmod size) tkA)) (by decide +kernel) (by decide +kernel) (by decide +kernel) (by decide +kernel) (by decide +kernel) (by decide +kernel)
    refine k_loop (n := (o2 - 1).toNat) ?hsc X T M9 hh R9 (by omega) (by omega) (by omega) (by omega) F9 N9 off hv f0 (by rw [ef]; omega) h2 ?_
    case hsc => with_unfolding_all rfl
    intro h' tk vs' m' M' F' N' hvs'
    dsimp only
    k_steps
    refine Stop.off ?_
    refine h _ _ _ _ M' F' N' ?_
    rw [toldOther, if_pos ha, ← ef]
    exact hvs'
  · refine Stop.off ?_
    rename_i ha
    refine h _ _ _ _ M2 (eK ▸ F2) N ?_
    rw [toldOther, if_neg (by simpa using ha)]
    exact hv

theorem other_loop {w : World} {s : Shared} {p : Program} {loose : List Str} {mg mb : Str → Option Value} {h₀ : Heap} {L l D Ra : Addr} {st ln ct size : Int} {ts tl tc tz : Tok} {m : Str → Option Value} {oc oD : Obj} {rest : List (Addr × Obj)} {vs : List Value} {row : List Int} {ep : Nat} {sc : Scope} {bd : List Stmt} {A : Around} {Q : Flow → Shared → Prop} {qs : List Pr} {px py tp : Pos} {kk : Nat}
    (hst : bd = forBody otherFor) (hsc : sc = toldParts.2.2) (X : (hd.heap_39 w.params).In h₀) (T : TopRead p loose mg mb h₀) (M : MF l D Ra st ln ct ts tl tc m) (hh : A.handled = none) (dc : oc.data = .cell (some (.int size tz)))
    (hl : h₀.IsList l (qs.map prRef).toArray) (hq : ∀ q ∈ qs, PrIn h₀ q)
    (F : Fr h₀ L s.heap m) (N : News h₀ L s.heap ((Ra, W.listOf vs.toArray ep) :: (L + 1, oc) :: (D, oD) :: rest)) (off : OwnOff ((L + 1, oc) :: (D, oD) :: rest) [Ra])
    (hv : IntsAre vs row) (s0 : 0 < size) (s1 : size ≤ 50) (c0 : 0 ≤ st) (c1 : st ≤ 50) (c2 : 0 ≤ ct) (c3 : ct ≤ 50) (h2 : row.length ≤ 100)
    (hb : ∀ q ∈ qs, 0 ≤ q.a ∧ q.a ≤ 50 ∧ 1 ≤ q.b ∧ q.b ≤ 50 ∧ (q.a ≠ st → (q.a - st - ct) % size + q.b - 1 ≤ row.length))
    (h : ∀ h' tk vs' m', MF l D Ra st ln ct ts tl tc m' → Fr h₀ L h' m' → News h₀ L h' ((Ra, W.listOf vs'.toArray ep) :: (L + 1, oc) :: (D, oD) :: rest) → IntsAre vs' ((qs.map fun q => (q.a, q.b)).foldl (toldOther size st ct) row) → Q .next ⟨h', s.gens, s.drawn, tk, s.os⟩) :
    wpAny (model pg w) A (pyIter (.ref l)) (fun it s₂ => TurnsAt pg w A h₀ (envOfC (Str.ofString "_law_told") sc L 108 (.ref 107)) (.Tuple [.Name (Str.ofString "other") px, .Name (Str.ofString "more") py] kk tp) bd Q (fun _ _ => False) it s₂) (fun _ _ => False) s := by
  have flen : ∀ (x : List Pr) (r : List Int), ((x.map fun q => (q.a, q.b)).foldl (toldOther size st ct) r).length = r.length := by
    intro x
    induction x with
    | nil => intro r; rfl
    | cons q x ih =>
      intro r
      rw [List.map_cons, List.foldl_cons, ih]
      unfold toldOther
      split
      · rw [fill_length]
      · rfl
  refine iterPairs (fun i m nx => MF l D Ra st ln ct ts tl tc m ∧ ∃ vs', nx = (Ra, W.listOf vs'.toArray ep) :: (L + 1, oc) :: (D, oD) :: rest ∧ IntsAre vs' (((qs.take i).map fun q => (q.a, q.b)).foldl (toldOther size st ct) row)) hh hl hq F N ⟨M, vs, rfl, hv⟩ ?kx ?ky ?kp ?_ ?_ ?_
  case kx => subst hsc; with_unfolding_all rfl
  case ky => subst hsc; with_unfolding_all rfl
  case kp => subst hsc; with_unfolding_all rfl
  · rintro i m nx ⟨_, vs', rfl, _⟩ p hp
    exact List.mem_map_of_mem (f := (·.1)) hp
  · rintro i q m₁ nx h₁ tk own hi ⟨M₁, vs', rfl, hvs⟩ hown F₁ N₁
    obtain ⟨b1, b2, b3, b4, b5⟩ := hb q (List.mem_of_getElem? hi)
    refine other_turn (s := ⟨h₁, s.gens, s.drawn, tk, s.os⟩) (rest := rest ++ own) hst hsc X T M₁ hh dc F₁ N₁ ?_ hvs s0 s1 b1 b2 b3 b4 c0 c1 c2 c3 (by rw [flen]; exact h2) (fun e => by rw [flen]; exact b5 e) ?_
    · intro p hp b hb e
      have hp' : p ∈ ((L + 1, oc) :: (D, oD) :: rest) ++ own := hp
      rcases List.mem_append.mp hp' with hp | hp
      · exact off p hp b hb e
      · exact hown p hp b (by rw [List.mem_singleton.mp hb]; exact .head _) e
    · intro h' tk' vs'' m' M' F' N' hvs'
      refine ⟨h', tk', m', (Ra, W.listOf vs''.toArray ep) :: (L + 1, oc) :: (D, oD) :: rest, rfl, F', N', M', vs'', rfl, ?_⟩
      have e : qs.take (i + 1) = qs.take i ++ [q] := by rw [List.take_add_one, hi]; rfl
      rw [e, List.map_append, List.foldl_append]
      exact hvs'
  · rintro m₁ nx h₁ tk ⟨M₁, vs', rfl, hvs⟩ F₁ N₁
    rw [List.take_length] at hvs
    exact h h₁ tk vs' m₁ M₁ F₁ N₁ hvs
end
section
set_option maxHeartbeats 8000000
theorem fillTn (w : World) (s : Shared) : (PySem.Challenge.rw_re0017_01.Holds ∧ (Mine.hd.heap_39 w.params).In s.heap) → True := by k_fill; intro _; trivial
local macro_rules | `(tactic| walk_at "setItem ref int") => `(tactic| (k_here; refine Stop.on ?_))

theorem MF.known {l D Ra : Addr} {st ln ct : Int} {ts tl tc : Tok} {m : Str → Option Value} (x : MF l D Ra st ln ct ts tl tc m) :
    kstB m [(Str.ofString "runs", .ref l), (Str.ofString "start", .int st ts), (Str.ofString "length", .int ln tl), (Str.ofString "cut", .int ct tc), (Str.ofString "marks", .ref Ra)] = m := by
  refine known_eq _ fun p hp => ?_
  simp only [List.mem_cons, List.not_mem_nil, or_false] at hp
  rcases hp with rfl | rfl | rfl | rfl | rfl
  · exact x.runs
  · exact x.start
  · exact x.length
  · exact x.cut
  · exact x.marks

theorem if1_spec {w : World} {s : Shared} {p : Program} {loose : List Str} {mg mb : Str → Option Value} {h₀ : Heap} {L l D Ra : Addr} {st ln ct : Int} {ts tl tc : Tok} {m : Str → Option Value} {oc oD : Obj} {rest : List (Addr × Obj)} {vs : List Value} {row : List Int} {ep : Nat} {sc : Scope} {bd : Stmt} {A : Around} {Q : Flow → Shared → Prop}
    (hst : bd = stmtAt 1 (forBody cutFor)) (hsc : sc = toldParts.2.2) (X : (hd.heap_39 w.params).In h₀) (T : TopRead p loose mg mb h₀) (M : MF l D Ra st ln ct ts tl tc m)
    (F : Fr h₀ L s.heap m) (N : News h₀ L s.heap ((Ra, W.listOf vs.toArray ep) :: (L + 1, oc) :: (D, oD) :: rest)) (off : OwnOff ((L + 1, oc) :: (D, oD) :: rest) [Ra])
    (hv : IntsAre vs row) (h1 : 1 ≤ row.length) (h2 : row.length ≤ 100)
    (h : ∀ h' tk vs', Fr h₀ L h' m → News h₀ L h' ((Ra, W.listOf vs'.toArray ep) :: (L + 1, oc) :: (D, oD) :: rest) → IntsAre vs' (if ln = 4 ∧ ct = 2 then row.set 0 1 else row) → Q .next ⟨h', s.gens, s.drawn, tk, s.os⟩) :
    wpAny (model pg w) A (exec bd (envOfC (Str.ofString "_law_told") sc L 108 (.ref 107))) Q (fun _ _ => False) s := by
  (with_unfolding_all conv at hst => rhs; whnf)
  (with_unfolding_all conv at hsc => rhs; whnf)
  subst hst hsc
  have eK := M.known
  rw [← eK] at F
  simp only [kstB] at F eK
  refine stopQ ?_
  (show wpAny _ _ _ _ _ _)
  k_fold
  k_steps
  · refine Stop.off ?_
    refine set_row F N off (by omega) (by rw [hv.length]; omega) (by rw [hv.length]; exact h2) fun h' F9 N9 => ?_
    dsimp only
    k_steps
    refine Stop.off ?_
    refine h _ _ _ (eK ▸ F9) N9 ?_
    rw [if_pos ⟨by assumption, by assumption⟩]
    exact intsSet _ _ _ hv
  · refine Stop.off ?_
    refine h _ _ _ (eK ▸ F) N ?_
    rw [if_neg (fun e => absurd e.2 (by assumption))]
    exact hv
  · refine Stop.off ?_
    refine h _ _ _ (eK ▸ F) N ?_
    rw [if_neg (fun e => absurd e.1 (by assumption))]
    exact hv
theorem if2_spec {w : World} {s : Shared} {p : Program} {loose : List Str} {mg mb : Str → Option Value} {h₀ : Heap} {L l D Ra : Addr} {st ln ct size : Int} {ts tl tc tz : Tok} {m : Str → Option Value} {oc oD : Obj} {rest : List (Addr × Obj)} {vs : List Value} {row : List Int} {ep : Nat} {sc : Scope} {bd : Stmt} {A : Around} {Q : Flow → Shared → Prop}
    (hst : bd = stmtAt 2 (forBody cutFor)) (hsc : sc = toldParts.2.2) (X : (hd.heap_39 w.params).In h₀) (T : TopRead p loose mg mb h₀) (M : MF l D Ra st ln ct ts tl tc m) (dc : oc.data = .cell (some (.int size tz))) (s0 : 0 < size) (s1 : size ≤ 50)
    (F : Fr h₀ L s.heap m) (N : News h₀ L s.heap ((Ra, W.listOf vs.toArray ep) :: (L + 1, oc) :: (D, oD) :: rest)) (off : OwnOff ((L + 1, oc) :: (D, oD) :: rest) [Ra])
    (hv : IntsAre vs row) (h1 : size + 1 < row.length) (h2 : row.length ≤ 100)
    (h : ∀ h' tk vs', Fr h₀ L h' m → News h₀ L h' ((Ra, W.listOf vs'.toArray ep) :: (L + 1, oc) :: (D, oD) :: rest) → IntsAre vs' (if ln = 2 ∧ ct = 1 then row.set (size + 1).toNat 1 else row) → Q .next ⟨h', s.gens, s.drawn, tk, s.os⟩) :
    wpAny (model pg w) A (exec bd (envOfC (Str.ofString "_law_told") sc L 108 (.ref 107))) Q (fun _ _ => False) s := by
  (with_unfolding_all conv at hst => rhs; whnf)
  (with_unfolding_all conv at hsc => rhs; whnf)
  subst hst hsc
  have eK := M.known
  rw [← eK] at F
  simp only [kstB] at F eK
  refine stopQ ?_
  (show wpAny _ _ _ _ _ _)
  k_fold
  k_steps
  · refine Stop.off ?_
    refine set_row F N off (by omega) (by rw [hv.length]; omega) (by rw [hv.length]; exact h2) fun h' F9 N9 => ?_
    dsimp only
    k_steps
    refine Stop.off ?_
    refine h _ _ _ (eK ▸ F9) N9 ?_
    rw [if_pos ⟨by assumption, by assumption⟩]
    exact intsSet _ _ _ hv
  · refine Stop.off ?_
    refine h _ _ _ (eK ▸ F) N ?_
    rw [if_neg (fun e => absurd e.2 (by assumption))]
    exact hv
  · refine Stop.off ?_
    refine h _ _ _ (eK ▸ F) N ?_
    rw [if_neg (fun e => absurd e.1 (by assumption))]
    exact hv

theorem if3_spec {w : World} {s : Shared} {p : Program} {loose : List Str} {mg mb : Str → Option Value} {h₀ : Heap} {L l D Ra : Addr} {st ln ct size : Int} {ts tl tc tz : Tok} {m : Str → Option Value} {oc oD : Obj} {rest : List (Addr × Obj)} {vs : List Value} {row : List Int} {ep : Nat} {sc : Scope} {bd : Stmt} {A : Around} {Q : Flow → Shared → Prop} {qs : List Pr}
    (hst : bd = stmtAt 3 (forBody cutFor)) (hsc : sc = toldParts.2.2) (X : (hd.heap_39 w.params).In h₀) (T : TopRead p loose mg mb h₀) (M : MF l D Ra st ln ct ts tl tc m) (hh : A.handled = none) (dc : oc.data = .cell (some (.int size tz)))
    (hl : h₀.IsList l (qs.map prRef).toArray) (hq : ∀ q ∈ qs, PrIn h₀ q)
    (F : Fr h₀ L s.heap m) (N : News h₀ L s.heap ((Ra, W.listOf vs.toArray ep) :: (L + 1, oc) :: (D, oD) :: rest)) (off : OwnOff ((L + 1, oc) :: (D, oD) :: rest) [Ra])
    (hv : IntsAre vs row) (s0 : 0 < size) (s1 : size ≤ 50) (c0 : 0 ≤ st) (c1 : st ≤ 50) (c2 : 0 ≤ ct) (c3 : ct ≤ 50) (l0 : 1 ≤ ln) (l1 : ln ≤ row.length) (h2 : row.length ≤ 100)
    (hb : ∀ q ∈ qs, 0 ≤ q.a ∧ q.a ≤ 50 ∧ 1 ≤ q.b ∧ q.b ≤ 50 ∧ (ct < 2 → ct < ln → q.a ≠ st → (q.a - st - ct) % size + q.b - 1 ≤ row.length))
    (h : ∀ h' tk vs' m', MF l D Ra st ln ct ts tl tc m' → Fr h₀ L h' m' → News h₀ L h' ((Ra, W.listOf vs'.toArray ep) :: (L + 1, oc) :: (D, oD) :: rest) →
      IntsAre vs' (if ct < 2 ∧ ct < ln then (qs.map fun q => (q.a, q.b)).foldl (toldOther size st ct) (fill row 1 (ln - ct - 2).toNat) else row) → Q .next ⟨h', s.gens, s.drawn, tk, s.os⟩) :
    wpAny (model pg w) A (exec bd (envOfC (Str.ofString "_law_told") sc L 108 (.ref 107))) Q (fun _ _ => False) s := by
  (with_unfolding_all conv at hst => rhs; whnf)
  (with_unfolding_all conv at hsc => rhs; whnf)
  subst hst hsc
  have eK := M.known
  rw [← eK] at F
  simp only [kstB] at F eK
  refine stopQ ?_
  (show wpAny _ _ _ _ _ _)
  k_fold
  k_steps
  · rename_i hh9 tk3 t1 u1 v1 R9 F9 N9 K9
    refine Stop.off ?_
    refine k_loop (n := (ln - ct - 2).toNat) ?hsc X T (eK.symm ▸ M) hh R9 (by omega) (by omega) (by omega) (by omega) F9 N9 off hv (by omega) (by omega) h2 ?_
    case hsc => with_unfolding_all rfl
    intro h' tk vs' m' M' F' N' hvs'
    dsimp only
    clear F9 N9 R9 K9 eK
    have eK := M'.known
    rw [← eK] at F'
    simp only [kstB] at F' eK
    k_steps
    refine Stop.off ?_
    have fl : (fill row 1 (ln - ct - 2).toNat).length = row.length := fill_length ..
    rename Fr _ _ _ _ => F8
    rename News _ _ _ _ => N8
    refine other_loop (qs := qs) ?hst ?hsc X T (eK.symm ▸ M') hh dc hl hq F8 N8 off hvs' s0 s1 c0 c1 c2 c3 (by rw [fl]; exact h2) (fun q hqq => ?_) ?_
    case hst => with_unfolding_all rfl
    case hsc => with_unfolding_all rfl
    · obtain ⟨b1, b2, b3, b4, b5⟩ := hb q hqq
      exact ⟨b1, b2, b3, b4, fun e => by rw [fl]; exact b5 (by assumption) (by assumption) e⟩
    intro h' tk vs' m' M' F' N' hvs'
    dsimp only
    k_steps
    refine Stop.off ?_
    refine h _ _ _ _ M' F' N' ?_
    rw [if_pos ⟨by assumption, by assumption⟩]
    exact hvs'
  · refine Stop.off ?_
    refine h _ _ _ _ M (eK ▸ F) N ?_
    rw [if_neg (fun e => absurd e.2 (by assumption))]
    exact hv
  · refine Stop.off ?_
    refine h _ _ _ _ M (eK ▸ F) N ?_
    rw [if_neg (fun e => absurd e.1 (by assumption))]
    exact hv
end
section
set_option maxHeartbeats 8000000
theorem fillTq (w : World) (s : Shared) : (PySem.Challenge.rw_re0017_01.Holds ∧ (Mine.hd.heap_39 w.params).In s.heap) → True := by k_fill; intro _; trivial
local macro_rules | `(tactic| walk_at "subscriptTail") => `(tactic| (k_here; refine Stop.on ?_))
local macro_rules | `(tactic| walk_at "exec If BoolOp") => `(tactic| (k_here; refine Stop.on ?_))

/-- a row that stands: its place, its items -/
structure RowS where
  (a : Addr) (vs : List Value) (ep : Nat)
def rowObj (r : RowS) : Addr × Obj := (r.a, W.listOf r.vs.toArray r.ep)
def rowRef (r : RowS) : Value := .ref r.a
structure RowsJ (addrs : List Addr) (rows : List (List Int)) (rl : List RowS) : Prop where
  ad : rl.map (·.a) = addrs
  len : rows.length = rl.length
  vals : ∀ (i : Nat) r row, rl[i]? = some r → rows[i]? = some row → IntsAre r.vs row
theorem RowsJ.set {addrs : List Addr} {rows : List (List Int)} {rl : List RowS} (x : RowsJ addrs rows rl) {i : Nat} {r : RowS} (hi : rl[i]? = some r) {vs : List Value} {row : List Int} (ep : Nat) (hv : IntsAre vs row) : RowsJ addrs (rows.set i row) (rl.set i ⟨r.a, vs, ep⟩) := by
  have hlt : i < rl.length := (List.getElem?_eq_some_iff.mp hi).1
  have he : rl[i] = r := (List.getElem?_eq_some_iff.mp hi).2
  refine ⟨?_, by rw [List.length_set, List.length_set]; exact x.len, ?_⟩
  · rw [List.map_set]
    dsimp only
    rw [← x.ad, ← he]
    apply List.ext_getElem?
    intro j
    rw [List.getElem?_set]
    split
    · subst_vars; simp [hlt]
    · rfl
  · intro j r' row' hr hrow
    rw [List.getElem?_set] at hr hrow
    by_cases e : i = j
    · subst e
      rw [if_pos rfl, if_pos hlt] at hr
      rw [if_pos rfl, if_pos (by rw [x.len]; exact hlt)] at hrow
      cases hr; cases hrow
      exact hv
    · rw [if_neg e] at hr hrow
      exact x.vals j r' row' hr hrow
theorem nodup_ne {addrs : List Addr} (nd : addrs.Nodup) {rl : List RowS} (ad : rl.map (·.a) = addrs) {i j : Nat} {r q : RowS} (hi : rl[i]? = some r) (hj : rl[j]? = some q) (h : i ≠ j) : q.a ≠ r.a := by
  subst ad
  intro e
  have h1 : (rl.map (·.a))[i]? = some r.a := by rw [List.getElem?_map, hi]; rfl
  have h2 : (rl.map (·.a))[j]? = some q.a := by rw [List.getElem?_map, hj]; rfl
  have l1 := (List.getElem?_eq_some_iff.mp h1)
  have l2 := (List.getElem?_eq_some_iff.mp h2)
  obtain ⟨a1, b1⟩ := l1
  obtain ⟨a2, b2⟩ := l2
  have nd' := List.pairwise_iff_getElem.mp nd
  rcases Nat.lt_or_gt_of_ne h with q | q
  · exact nd' i j a1 a2 q (b1.trans (e.symm.trans b2.symm))
  · exact nd' j i a2 a1 q (b2.trans (e.trans b1.symm))
theorem mem_other {addrs : List Addr} (nd : addrs.Nodup) {rl : List RowS} (ad : rl.map (·.a) = addrs) {i : Nat} {r r' : RowS} (hi : rl[i]? = some r) {q : RowS} (hq : q ∈ rl.set i r') : q = r' ∨ q ∈ rl.filter (fun x => decide (x.a ≠ r.a)) := by
  obtain ⟨j, hj⟩ := List.mem_iff_getElem?.mp hq
  rw [List.getElem?_set] at hj
  by_cases e : i = j
  · subst e
    rw [if_pos rfl] at hj
    split at hj
    · cases hj; exact .inl rfl
    · cases hj
  · rw [if_neg e] at hj
    exact .inr (List.mem_filter.mpr ⟨List.mem_of_getElem? hj, decide_eq_true (nodup_ne nd ad hi hj e)⟩)

def cutRow (rs : List (Int × Int)) (n : Nat) (start length cut : Int) (row : List Int) : List Int :=
  let row := if length = 4 ∧ cut = 2 then row.set 0 1 else row
  let row := if length = 2 ∧ cut = 1 then row.set ((n : Int) + 1).toNat 1 else row
  if cut < 2 ∧ cut < length then rs.foldl (toldOther n start cut) (fill row 1 (length - cut - 2).toNat) else row
def toldCut (rs : List (Int × Int)) (n : Nat) (start length : Int) (rows : List (List Int)) (cut : Int) : List (List Int) :=
  rows.set ((start + cut) % n).toNat (cutRow rs n start length cut (rows.getD ((start + cut) % n).toNat []))

structure MG (l D : Addr) (st ln : Int) (ts tl : Tok) (m : Str → Option Value) : Prop where
  runs : m (Str.ofString "runs") = some (.ref l)
  told : m (Str.ofString "told") = some (.ref D)
  start : m (Str.ofString "start") = some (.int st ts)
  length : m (Str.ofString "length") = some (.int ln tl)
theorem MF.mg {l D Ra : Addr} {st ln ct : Int} {ts tl tc : Tok} {m : Str → Option Value} (x : MF l D Ra st ln ct ts tl tc m) : MG l D st ln ts tl m := ⟨x.runs, x.told, x.start, x.length⟩

theorem cut_turn {w : World} {s : Shared} {p : Program} {loose : List Str} {mg mb : Str → Option Value} {h₀ : Heap} {L l D : Addr} {st ln ct : Int} {n epD : Nat} {ts tl tc tz : Tok} {m : Str → Option Value} {oc : Obj} {own : List (Addr × Obj)} {sc : Scope} {bd : List Stmt} {A : Around} {Q : Flow → Shared → Prop} {qs : List Pr} {addrs : List Addr} {rows : List (List Int)} {rl : List RowS}
    (hst : bd = forBody cutFor) (hsc : sc = toldParts.2.2) (X : (hd.heap_39 w.params).In h₀) (T : TopRead p loose mg mb h₀) (G : MG l D st ln ts tl m) (hh : A.handled = none) (dc : oc.data = .cell (some (.int n tz)))
    (hl : h₀.IsList l (qs.map prRef).toArray) (hq : ∀ q ∈ qs, PrIn h₀ q) (nd : addrs.Nodup) (hD : ∀ a ∈ addrs, a ≠ D ∧ a ≠ L + 1) (R : RowsJ addrs rows rl) (hn : addrs.length = n) (hrow : ∀ row ∈ rows, row.length = n + 2)
    (F : Fr h₀ L s.heap (fun y => if y = Str.ofString "cut" then some (.int ct tc) else m y)) (N : News h₀ L s.heap (((L + 1, oc) :: (D, W.listOf (addrs.map Value.ref).toArray epD) :: rl.map rowObj) ++ own)) (off : OwnOff own addrs)
    (s0 : 0 < n) (s1 : n ≤ 50) (c0 : 0 ≤ st) (c1 : st ≤ 50) (c2 : 0 ≤ ct) (c3 : ct ≤ 50) (l0 : 1 ≤ ln) (l1 : ln ≤ n)
    (hb : ∀ q ∈ qs, 0 ≤ q.a ∧ q.a ≤ 50 ∧ 1 ≤ q.b ∧ q.b ≤ 50 ∧ (ct < 2 → ct < ln → q.a ≠ st → (q.a - st - ct) % n + q.b ≤ n + 3))
    (h : ∀ h' tk rl' m', MG l D st ln ts tl m' → Fr h₀ L h' m' → News h₀ L h' (((L + 1, oc) :: (D, W.listOf (addrs.map Value.ref).toArray epD) :: rl'.map rowObj) ++ own) → RowsJ addrs (toldCut (qs.map fun q => (q.a, q.b)) n st ln rows ct) rl' → Q .next ⟨h', s.gens, s.drawn, tk, s.os⟩) :
    wpAny (model pg w) A (execs bd (envOfC (Str.ofString "_law_told") sc L 108 (.ref 107))) Q (fun _ _ => False) s := by
  (with_unfolding_all conv at hst => rhs; whnf)
  (with_unfolding_all conv at hsc => rhs; whnf)
  subst hst hsc
  have hk : ∀ p ∈ [(Str.ofString "cut", Value.int ct tc), (Str.ofString "told", Value.ref D), (Str.ofString "start", Value.int st ts)], (fun y => if y = Str.ofString "cut" then some (.int ct tc) else m y) p.1 = some p.2 := by
    intro p hp
    simp only [List.mem_cons, List.not_mem_nil, or_false] at hp
    rcases hp with rfl | rfl | rfl
    · rfl
    · exact G.told
    · exact G.start
  have F2 := known _ F hk
  have eK := known_eq (m := fun y => if y = Str.ofString "cut" then some (.int ct tc) else m y) _ hk
  simp only [kstB] at F2 eK
  clear F
  simp only [List.cons_append] at N
  have ef : (st + ct).fmod (n : Int) = (st + ct) % n := Int.fmod_eq_emod_of_nonneg _ (by omega)
  have f0 : 0 ≤ (st + ct).fmod (n : Int) := by rw [ef]; exact Int.emod_nonneg _ (by omega)
  have f1 : (st + ct).fmod (n : Int) < n := by rw [ef]; exact Int.emod_lt_of_pos _ (by omega)
  have hlen : rl.length = n := by rw [← hn, ← R.ad, List.length_map]
  have hlt : ((st + ct).fmod (n : Int)).toNat < rl.length := by omega
  have hr : rl[((st + ct).fmod (n : Int)).toNat]? = some rl[((st + ct).fmod (n : Int)).toNat] := List.getElem?_eq_getElem hlt
  generalize rl[((st + ct).fmod (n : Int)).toNat] = r at hr
  have hlt2 : ((st + ct).fmod (n : Int)).toNat < rows.length := by rw [R.len]; exact hlt
  have hrow0 : rows[((st + ct).fmod (n : Int)).toNat]? = some rows[((st + ct).fmod (n : Int)).toNat] := List.getElem?_eq_getElem hlt2
  generalize rows[((st + ct).fmod (n : Int)).toNat] = row at hrow0
  have hrl : row.length = n + 2 := hrow row (List.mem_of_getElem? hrow0)
  have hx : (addrs.map Value.ref).toArray.toList[((st + ct).fmod (n : Int)).toNat]? = some (.ref r.a) := by
    rw [← R.ad, List.map_map]
    simp [hr]
  have hmem : r ∈ rl := List.mem_of_getElem? hr
  have ham : r.a ∈ addrs := by rw [← R.ad]; exact List.mem_map_of_mem hmem
  refine stopQ ?_
  (show wpAny _ _ _ _ _ _)
  k_fold
  k_steps
  refine Stop.off ?_
  refine my_item N (.tail _ (.head _)) f0 (by omega) hx ?_ (by with_unfolding_all rfl)
  k_steps
  refine Stop.off ?_
  rename Fr _ _ _ _ => F8
  rename News _ _ _ _ => N8
  have G2 : MG l D st ln ts tl (fun y => if y = Str.ofString "cut" then some (.int ct tc) else m y) :=
    ⟨(if_neg (by decide +kernel)).trans G.runs, (if_neg (by decide +kernel)).trans G.told, (if_neg (by decide +kernel)).trans G.start, (if_neg (by decide +kernel)).trans G.length⟩
  have G3 := (eK.symm ▸ G2 : MG l D st ln ts tl _)
  have M0 : MF l D r.a st ln ct ts tl tc (fun y => if y = Str.ofString "marks" then some (.ref r.a) else (fun z => if z = Str.ofString "cut" then some (Value.int ct tc) else if z = Str.ofString "told" then some (Value.ref D) else if z = Str.ofString "start" then some (Value.int st ts) else if z = Str.ofString "cut" then some (Value.int ct tc) else m z) y) :=
    ⟨(if_neg (by decide +kernel)).trans G3.runs, (if_neg (by decide +kernel)).trans G3.told, (if_neg (by decide +kernel)).trans G3.start, (if_neg (by decide +kernel)).trans G3.length, rfl, if_pos rfl⟩
  have N9 := fun (hh : Heap) (N8 : News h₀ L hh ((L + 1, oc) :: (D, W.listOf (addrs.map Value.ref).toArray epD) :: (rl.map rowObj ++ own))) =>
    (show News h₀ L hh ((r.a, W.listOf r.vs.toArray r.ep) :: (L + 1, oc) :: (D, W.listOf (addrs.map Value.ref).toArray epD) :: ((rl.filter fun x => decide (x.a ≠ r.a)).map rowObj ++ own)) from fun p hp => N8 p (by
      simp only [List.mem_cons, List.mem_append, List.mem_map, List.mem_filter] at hp ⊢
      rcases hp with rfl | rfl | rfl | ⟨q, ⟨hq, _⟩, rfl⟩ | hp
      · exact .inr (.inr (.inl ⟨r, hmem, rfl⟩))
      · exact .inl rfl
      · exact .inr (.inl rfl)
      · exact .inr (.inr (.inl ⟨q, hq, rfl⟩))
      · exact .inr (.inr (.inr hp))))
  have N10 := N9 _ N8
  clear N9
  have off9 : OwnOff ((L + 1, oc) :: (D, W.listOf (addrs.map Value.ref).toArray epD) :: ((rl.filter fun x => decide (x.a ≠ r.a)).map rowObj ++ own)) [r.a] := by
    intro p hp b hb
    rw [List.mem_singleton.mp hb]
    simp only [List.mem_cons, List.mem_append, List.mem_map, List.mem_filter] at hp
    rcases hp with rfl | rfl | ⟨q, ⟨_, hq⟩, rfl⟩ | hp
    · exact Ne.symm (hD _ ham).2
    · exact Ne.symm (hD _ ham).1
    · exact of_decide_eq_true hq
    · exact off p hp _ ham
  refine if1_spec ?hst ?hsc X T M0 F8 N10 off9 (R.vals _ _ _ hr hrow0) (by omega) (by omega) ?_
  case hst => with_unfolding_all rfl
  case hsc => with_unfolding_all rfl
  clear F8 N8 N10
  intro h' tk vs' F8 N8 hv8
  dsimp only
  k_steps
  refine Stop.off ?_
  rename Fr _ _ _ _ => F8
  rename News _ _ _ _ => N8
  refine if2_spec ?hst ?hsc X T M0 dc (by omega) (by omega) F8 N8 off9 hv8 (by split <;> (try rw [List.length_set]) <;> omega) (by split <;> (try rw [List.length_set]) <;> omega) ?_
  case hst => with_unfolding_all rfl
  case hsc => with_unfolding_all rfl
  clear F8 N8
  intro h' tk vs'' F8 N8 hv9
  dsimp only
  k_steps
  refine Stop.off ?_
  rename Fr _ _ _ _ => F8
  rename News _ _ _ _ => N8
  have hl9 : (if ln = 2 ∧ ct = 1 then (if ln = 4 ∧ ct = 2 then row.set 0 1 else row).set ((n : Int) + 1).toNat 1 else (if ln = 4 ∧ ct = 2 then row.set 0 1 else row)).length = n + 2 := by
    split <;> (try rw [List.length_set]) <;> split <;> (try rw [List.length_set]) <;> exact hrl
  refine if3_spec (qs := qs) ?hst ?hsc X T M0 hh dc hl hq F8 N8 off9 hv9 (by omega) (by omega) c0 c1 c2 c3 l0 (by omega) (by omega) (fun q hqq => ?_) ?_
  case hst => with_unfolding_all rfl
  case hsc => with_unfolding_all rfl
  · obtain ⟨b1, b2, b3, b4, b5⟩ := hb q hqq
    exact ⟨b1, b2, b3, b4, fun e1 e2 e3 => by have := b5 e1 e2 e3; omega⟩
  clear F8 N8
  intro h' tk vs3 m3 M3 F8 N8 hv3
  dsimp only
  k_steps
  refine Stop.off ?_
  refine h _ _ (rl.set ((st + ct).fmod (n : Int)).toNat ⟨r.a, vs3, r.ep⟩) _ M3.mg F8 ?_ ?_
  · intro p hp
    refine N8 p ?_
    simp only [List.cons_append, List.mem_cons, List.mem_append, List.mem_map] at hp ⊢
    rcases hp with rfl | rfl | ⟨q, hq, rfl⟩ | hp
    · exact .inr (.inl rfl)
    · exact .inr (.inr (.inl rfl))
    · rcases mem_other nd R.ad hr hq with rfl | hq
      · exact .inl rfl
      · exact .inr (.inr (.inr (.inl ⟨q, hq, rfl⟩)))
    · exact .inr (.inr (.inr (.inr hp)))
  · have e1 : rows.getD ((st + ct).fmod (n : Int)).toNat [] = row := by rw [List.getD_eq_getElem?_getD, hrow0]; rfl
    rw [toldCut, ← ef, e1]
    exact R.set hr r.ep hv3
end
section
set_option maxHeartbeats 8000000
theorem fillTr (w : World) (s : Shared) : (PySem.Challenge.rw_re0017_01.Holds ∧ (Mine.hd.heap_39 w.params).In s.heap) → True := by k_fill; intro _; trivial
local macro_rules | `(tactic| walk_at "CompSrc") => `(tactic| (k_here; refine Stop.on ?_))

theorem MG.put {l D : Addr} {st ln : Int} {ts tl : Tok} {m : Str → Option Value} (x : MG l D st ln ts tl m) {y : Str} {v : Option Value} (h1 : Str.ofString "runs" ≠ y) (h2 : Str.ofString "told" ≠ y) (h3 : Str.ofString "start" ≠ y) (h4 : Str.ofString "length" ≠ y) :
    MG l D st ln ts tl (fun z => if z = y then v else m z) :=
  ⟨by rw [if_neg h1]; exact x.runs, by rw [if_neg h2]; exact x.told, by rw [if_neg h3]; exact x.start, by rw [if_neg h4]; exact x.length⟩
theorem foldOther_length (n : Nat) (st ct : Int) : ∀ (x : List (Int × Int)) (r : List Int), (x.foldl (toldOther n st ct) r).length = r.length
  | [], _ => rfl
  | q :: x, r => by
    rw [List.foldl_cons, foldOther_length n st ct x]
    unfold toldOther
    split
    · rw [fill_length]
    · rfl
theorem cutRow_length (rs : List (Int × Int)) (n : Nat) (st ln ct : Int) (row : List Int) : (cutRow rs n st ln ct row).length = row.length := by
  unfold cutRow
  dsimp only
  split <;> (try rw [foldOther_length, fill_length]) <;> split <;> (try rw [List.length_set]) <;> split <;> (try rw [List.length_set]) <;> rfl
theorem toldCut_rows {rs : List (Int × Int)} {n k : Nat} {st ln ct : Int} {rows : List (List Int)} (h : ∀ row ∈ rows, row.length = k) : ∀ row ∈ toldCut rs n st ln rows ct, row.length = k := by
  intro row hr
  unfold toldCut at hr
  generalize ((st + ct) % (n : Int)).toNat = i at hr
  by_cases hi : i < rows.length
  · rcases List.mem_or_eq_of_mem_set hr with hr | rfl
    · exact h row hr
    · rw [cutRow_length, List.getD_eq_getElem?_getD, List.getElem?_eq_getElem hi]
      exact h _ (List.getElem_mem hi)
  · rw [List.set_eq_of_length_le (Nat.not_lt.mp hi)] at hr
    exact h row hr
def toldCuts (rs : List (Int × Int)) (n : Nat) (st ln : Int) (rows : List (List Int)) (c : Nat) : List (List Int) := (List.range c).foldl (fun rows (c : Nat) => toldCut rs n st ln rows (c : Int)) rows
theorem toldCuts_succ (rs : List (Int × Int)) (n : Nat) (st ln : Int) (rows : List (List Int)) (c : Nat) : toldCuts rs n st ln rows (c + 1) = toldCut rs n st ln (toldCuts rs n st ln rows c) c := by
  unfold toldCuts; rw [List.range_succ, List.foldl_append]; rfl
theorem toldCuts_rows {rs : List (Int × Int)} {n k : Nat} {st ln : Int} {rows : List (List Int)} (h : ∀ row ∈ rows, row.length = k) : ∀ c, ∀ row ∈ toldCuts rs n st ln rows c, row.length = k
  | 0 => h
  | c + 1 => by rw [toldCuts_succ]; exact toldCut_rows (toldCuts_rows h c)
def toldRun (rs : List (Int × Int)) (n : Nat) (rows : List (List Int)) (q : Int × Int) : List (List Int) := toldCuts rs n q.1 q.2 rows (q.2 + 1).toNat
def toldP (rs : List (Int × Int)) (n : Nat) : List (List Int) := rs.foldl (toldRun rs n) (List.replicate n (List.replicate (n + 2) 0))
theorem toldRuns_rows {rs : List (Int × Int)} {n k : Nat} : ∀ (x : List (Int × Int)) {rows : List (List Int)}, (∀ row ∈ rows, row.length = k) → ∀ row ∈ x.foldl (toldRun rs n) rows, row.length = k
  | [], _, h => h
  | q :: x, _, h => by rw [List.foldl_cons]; exact toldRuns_rows x (toldCuts_rows h _)

theorem cut_loop {w : World} {s : Shared} {p : Program} {loose : List Str} {mg mb : Str → Option Value} {h₀ : Heap} {L l D r : Addr} {st ln : Int} {n epD : Nat} {ts tl tz t₀ u₀ v₀ : Tok} {m : Str → Option Value} {oc : Obj} {own : List (Addr × Obj)} {sc : Scope} {bd : List Stmt} {A : Around} {Q : Flow → Shared → Prop} {qs : List Pr} {addrs : List Addr} {rows : List (List Int)} {rl : List RowS}
    (hst : bd = forBody cutFor) (hsc : sc = toldParts.2.2) (X : (hd.heap_39 w.params).In h₀) (T : TopRead p loose mg mb h₀) (G : MG l D st ln ts tl m) (hh : A.handled = none) (dc : oc.data = .cell (some (.int n tz)))
    (hl : h₀.IsList l (qs.map prRef).toArray) (hq : ∀ q ∈ qs, PrIn h₀ q) (nd : addrs.Nodup) (hD : ∀ a ∈ addrs, a ≠ D ∧ a ≠ L + 1) (R : RowsJ addrs rows rl) (hn : addrs.length = n) (hrow : ∀ row ∈ rows, row.length = n + 2)
    (hr : IsRange s.heap r 0 (ln + 1) 1 t₀ u₀ v₀)
    (F : Fr h₀ L s.heap m) (N : News h₀ L s.heap (((L + 1, oc) :: (D, W.listOf (addrs.map Value.ref).toArray epD) :: rl.map rowObj) ++ own)) (off : OwnOff own addrs)
    (s0 : 0 < n) (s1 : n ≤ 50) (c0 : 0 ≤ st) (c1 : st ≤ 50) (l0 : 1 ≤ ln) (l1 : ln ≤ n)
    (hb : ∀ q ∈ qs, 0 ≤ q.a ∧ q.a ≤ 50 ∧ 1 ≤ q.b ∧ q.b ≤ 50 ∧ ∀ ct : Int, 0 ≤ ct → ct < 2 → ct < ln → q.a ≠ st → (q.a - st - ct) % n + q.b ≤ n + 3)
    (h : ∀ h' tk rl' m', MG l D st ln ts tl m' → Fr h₀ L h' m' → News h₀ L h' (((L + 1, oc) :: (D, W.listOf (addrs.map Value.ref).toArray epD) :: rl'.map rowObj) ++ own) → RowsJ addrs (toldRun (qs.map fun q => (q.a, q.b)) n rows (st, ln)) rl' → Q .next ⟨h', s.gens, s.drawn, tk, s.os⟩) :
    wpAny (model pg w) A (pyIter (.ref r)) (fun it s₂ => LoopAtV pg w A h₀ (envOfC (Str.ofString "_law_told") sc L 108 (.ref 107)) (Str.ofString "cut") bd Q (fun _ _ => False) it s₂) (fun _ _ => False) s := by
  have hfst : ∀ rl' : List RowS, rl'.map (·.a) = addrs → ((((L + 1, oc) :: (D, W.listOf (addrs.map Value.ref).toArray epD) :: rl'.map rowObj) ++ own).map (·.1)) = (L + 1) :: D :: (addrs ++ own.map (·.1)) := by
    intro rl' e
    rw [← e]
    simp only [List.cons_append, List.map_cons, List.map_append, List.map_map]
    rfl
  refine iterRangeS (ln + 1).toNat (fun i m nx => MG l D st ln ts tl m ∧ ∃ rl', nx = (((L + 1, oc) :: (D, W.listOf (addrs.map Value.ref).toArray epD) :: rl'.map rowObj) ++ own) ∧ RowsJ addrs (toldCuts (qs.map fun q => (q.a, q.b)) n st ln rows i) rl')
    hh hr (range_small (by omega) (by omega) (by omega) (by omega)) (range_size (by omega)) F N ⟨G, rl, rfl, R⟩ ?_ ?_ ?_
  · rintro i m nx ⟨_, rl', rfl, R'⟩ p hp
    have h1 := List.mem_map_of_mem (f := (·.1)) hp
    rw [hfst rl' R'.ad] at h1
    rw [hfst rl R.ad]
    exact h1
  · rintro i t m₁ nx h₁ tk own1 hi ⟨G₁, rl', rfl, R'⟩ hown F₁ N₁
    rw [Int.zero_add] at F₁
    rw [hfst rl' R'.ad] at hown
    refine cut_turn (s := ⟨h₁, s.gens, s.drawn, tk, s.os⟩) (own := own ++ own1) hst hsc X T G₁ hh dc hl hq nd hD R' hn (toldCuts_rows hrow _) F₁ (by rw [← List.append_assoc]; exact N₁) ?_ s0 s1 c0 c1 (by omega) (by omega) l0 l1 (fun q hqq => ?_) ?_
    · intro p hp b hb
      rcases List.mem_append.mp hp with hp | hp
      · exact off p hp b hb
      · exact hown p hp b (.tail _ (.tail _ (List.mem_append_left _ hb)))
    · obtain ⟨b1, b2, b3, b4, b5⟩ := hb q hqq
      exact ⟨b1, b2, b3, b4, b5 i (by omega)⟩
    · intro h' tk' rl'' m' G' F' N' R''
      refine ⟨h', tk', m', _, rfl, F', ?_, G', rl'', rfl, ?_⟩
      · rw [List.append_assoc]; exact N'
      · rw [toldCuts_succ]; exact R''
  · rintro m₁ nx h₁ tk ⟨G₁, rl', rfl, R'⟩ F₁ N₁
    exact h h₁ tk rl' m₁ G₁ F₁ N₁ R'

structure MH (l D : Addr) (m : Str → Option Value) : Prop where
  runs : m (Str.ofString "runs") = some (.ref l)
  told : m (Str.ofString "told") = some (.ref D)

theorem run_turn {w : World} {s : Shared} {p : Program} {loose : List Str} {mg mb : Str → Option Value} {h₀ : Heap} {L l D : Addr} {st ln : Int} {n epD : Nat} {ts tl tz : Tok} {m : Str → Option Value} {oc : Obj} {own : List (Addr × Obj)} {sc : Scope} {bd : List Stmt} {A : Around} {Q : Flow → Shared → Prop} {qs : List Pr} {addrs : List Addr} {rows : List (List Int)} {rl : List RowS}
    (hst : bd = forBody toldFor) (hsc : sc = toldParts.2.2) (X : (hd.heap_39 w.params).In h₀) (T : TopRead p loose mg mb h₀) (G : MH l D m) (hh : A.handled = none) (dc : oc.data = .cell (some (.int n tz)))
    (hl : h₀.IsList l (qs.map prRef).toArray) (hq : ∀ q ∈ qs, PrIn h₀ q) (nd : addrs.Nodup) (hD : ∀ a ∈ addrs, a ≠ D ∧ a ≠ L + 1) (R : RowsJ addrs rows rl) (hn : addrs.length = n) (hrow : ∀ row ∈ rows, row.length = n + 2)
    (F : Fr h₀ L s.heap (fun y => if y = Str.ofString "length" then some (.int ln tl) else if y = Str.ofString "start" then some (.int st ts) else m y)) (N : News h₀ L s.heap (((L + 1, oc) :: (D, W.listOf (addrs.map Value.ref).toArray epD) :: rl.map rowObj) ++ own)) (off : OwnOff own addrs)
    (s0 : 0 < n) (s1 : n ≤ 50) (c0 : 0 ≤ st) (c1 : st ≤ 50) (l0 : 1 ≤ ln) (l1 : ln ≤ n)
    (hb : ∀ q ∈ qs, 0 ≤ q.a ∧ q.a ≤ 50 ∧ 1 ≤ q.b ∧ q.b ≤ 50 ∧ ∀ ct : Int, 0 ≤ ct → ct < 2 → ct < ln → q.a ≠ st → (q.a - st - ct) % n + q.b ≤ n + 3)
    (h : ∀ h' tk rl' m', MH l D m' → Fr h₀ L h' m' → News h₀ L h' (((L + 1, oc) :: (D, W.listOf (addrs.map Value.ref).toArray epD) :: rl'.map rowObj) ++ own) → RowsJ addrs (toldRun (qs.map fun q => (q.a, q.b)) n rows (st, ln)) rl' → Q .next ⟨h', s.gens, s.drawn, tk, s.os⟩) :
    wpAny (model pg w) A (execs bd (envOfC (Str.ofString "_law_told") sc L 108 (.ref 107))) Q (fun _ _ => False) s := by
  (with_unfolding_all conv at hst => rhs; whnf)
  (with_unfolding_all conv at hsc => rhs; whnf)
  subst hst hsc
  have G2 : MG l D st ln ts tl (fun y => if y = Str.ofString "length" then some (.int ln tl) else if y = Str.ofString "start" then some (.int st ts) else m y) :=
    ⟨((if_neg (by decide +kernel)).trans (if_neg (by decide +kernel))).trans G.runs, ((if_neg (by decide +kernel)).trans (if_neg (by decide +kernel))).trans G.told, (if_neg (by decide +kernel)).trans (if_pos rfl), if_pos rfl⟩
  have hk : ∀ p ∈ [(Str.ofString "length", Value.int ln tl), (Str.ofString "start", Value.int st ts)], (fun y => if y = Str.ofString "length" then some (.int ln tl) else if y = Str.ofString "start" then some (.int st ts) else m y) p.1 = some p.2 := by
    intro p hp
    simp only [List.mem_cons, List.not_mem_nil, or_false] at hp
    rcases hp with rfl | rfl
    · exact G2.length
    · exact G2.start
  have F2 := known _ F hk
  have eK := known_eq (m := fun y => if y = Str.ofString "length" then some (.int ln tl) else if y = Str.ofString "start" then some (.int st ts) else m y) _ hk
  simp only [kstB] at F2 eK
  clear F
  simp only [List.cons_append] at N
  refine stopQ ?_
  (show wpAny _ _ _ _ _ _)
  k_fold
  k_steps
  refine Stop.off ?_
  rename_i hh9 tk3 t1 u1 v1 R9 F9 N9 K9
  refine cut_loop (qs := qs) ?hst ?hsc X T (eK.symm ▸ G2) hh dc hl hq nd hD R hn hrow R9 F9 N9 off s0 s1 c0 c1 l0 l1 hb ?_
  case hst => with_unfolding_all rfl
  case hsc => with_unfolding_all rfl
  intro h' tk rl' m' G' F' N' R'
  dsimp only
  k_steps
  refine Stop.off ?_
  exact h _ _ _ _ ⟨G'.runs, G'.told⟩ F' N' R'
end
section
set_option maxHeartbeats 8000000
theorem fillTd (w : World) (s : Shared) : (PySem.Challenge.rw_re0017_01.Holds ∧ (Mine.hd.heap_39 w.params).In s.heap) → True := by k_fill; intro _; trivial
local macro_rules | `(tactic| walk_at "exec Assign cons ListComp") => `(tactic| (k_here; (k_dflt (refine LCg.Assign_ListComp_U (F₀ := by k_asm) (by rfl) (by with_unfolding_all rfl) (by with_unfolding_all rfl) (by decide) (by rfl) (by decide) (by rfl) (by rfl) (by rfl) ?_))))
local macro_rules | `(tactic| walk_at "CompSrc") => `(tactic| (k_here; refine Stop.on ?_))

/-- new rows of ints, in a new list -/
def FreshRows (s : Shared) (rows : List (List Int)) (x : Value) (h : Heap) : Prop :=
  ∃ D addrs rl ep, x = .ref D ∧ s.heap.get? D = none ∧ h.get? D = some (W.listOf (addrs.map Value.ref).toArray ep) ∧ RowsJ addrs rows rl ∧ ∀ r ∈ rl, h.get? r.a = some (W.listOf r.vs.toArray r.ep) ∧ s.heap.get? r.a = none
structure TOk (n : Nat) (qs : List Pr) : Prop where
  s0 : 0 < n
  s1 : n ≤ 50
  b : ∀ q ∈ qs, 0 ≤ q.a ∧ q.a ≤ 50 ∧ 1 ≤ q.b ∧ q.b ≤ n
  c : ∀ r ∈ qs, ∀ q ∈ qs, ∀ ct : Int, 0 ≤ ct → ct < 2 → ct < r.b → q.a ≠ r.a → (q.a - r.a - ct) % n + q.b ≤ n + 3
theorem flat_rep (n : Nat) : (List.replicate ((n : Int) + 2).toNat [(0 : Int)]).flatten = List.replicate (n + 2) 0 := by
  have : ((n : Int) + 2).toNat = n + 2 := by omega
  rw [this]
  induction (n + 2) with
  | zero => rfl
  | succ k ih => rw [List.replicate_succ, List.flatten_cons, ih]; rfl
theorem off1_mem {D : Addr} {l : List (Addr × Obj)} (x : LCg.Off1 D l) : ∀ p ∈ l, p.1 ≠ D := by
  induction l with
  | nil => intro p hp; exact absurd hp List.not_mem_nil
  | cons q l ih =>
    intro p hp
    unfold LCg.Off1 at x
    rcases List.mem_cons.mp hp with e | hp
    · rw [e]; exact x.1
    · exact ih x.2 p hp
theorem allLt_mem {d : Addr} {l : List (Addr × Obj)} (x : AllLt d l) : ∀ p ∈ l, p.1 < d := by
  induction l with
  | nil => intro p hp; exact absurd hp List.not_mem_nil
  | cons q l ih =>
    intro p hp
    unfold AllLt at x
    rcases List.mem_cons.mp hp with e | hp
    · rw [e]; exact x.1
    · exact ih x.2 p hp
theorem told_loop {w : World} {s : Shared} {p : Program} {loose : List Str} {mg mb : Str → Option Value} {h₀ : Heap} {L l D : Addr} {n epD : Nat} {tz : Tok} {m : Str → Option Value} {oc : Obj} {sc : Scope} {bd : List Stmt} {A : Around} {Q : Flow → Shared → Prop} {qs : List Pr} {addrs : List Addr} {rl : List RowS} {px py tp : Pos} {kk : Nat}
    (hst : bd = forBody toldFor) (hsc : sc = toldParts.2.2) (X : (hd.heap_39 w.params).In h₀) (T : TopRead p loose mg mb h₀) (G : MH l D m) (hh : A.handled = none) (dc : oc.data = .cell (some (.int n tz)))
    (hl : h₀.IsList l (qs.map prRef).toArray) (hq : ∀ q ∈ qs, PrIn h₀ q) (nd : addrs.Nodup) (hD : ∀ a ∈ addrs, a ≠ D ∧ a ≠ L + 1) (R : RowsJ addrs (List.replicate n (List.replicate (n + 2) 0)) rl) (hn : addrs.length = n)
    (F : Fr h₀ L s.heap m) (N : News h₀ L s.heap ((L + 1, oc) :: (D, W.listOf (addrs.map Value.ref).toArray epD) :: rl.map rowObj)) (ok : TOk n qs)
    (h : ∀ h' tk rl' m', MH l D m' → Fr h₀ L h' m' → News h₀ L h' ((L + 1, oc) :: (D, W.listOf (addrs.map Value.ref).toArray epD) :: rl'.map rowObj) → RowsJ addrs (toldP (qs.map fun q => (q.a, q.b)) n) rl' → Q .next ⟨h', s.gens, s.drawn, tk, s.os⟩) :
    wpAny (model pg w) A (pyIter (.ref l)) (fun it s₂ => TurnsAt pg w A h₀ (envOfC (Str.ofString "_law_told") sc L 108 (.ref 107)) (.Tuple [.Name (Str.ofString "start") px, .Name (Str.ofString "length") py] kk tp) bd Q (fun _ _ => False) it s₂) (fun _ _ => False) s := by
  have hfst : ∀ rl' : List RowS, rl'.map (·.a) = addrs → (((L + 1, oc) :: (D, W.listOf (addrs.map Value.ref).toArray epD) :: rl'.map rowObj).map (·.1)) = (L + 1) :: D :: addrs := by
    intro rl' e
    rw [← e]
    simp only [List.map_cons, List.map_map]
    rfl
  refine iterPairs (fun i m nx => MH l D m ∧ ∃ rl', nx = (L + 1, oc) :: (D, W.listOf (addrs.map Value.ref).toArray epD) :: rl'.map rowObj ∧ RowsJ addrs (((qs.take i).map fun q => (q.a, q.b)).foldl (toldRun (qs.map fun q => (q.a, q.b)) n) (List.replicate n (List.replicate (n + 2) 0))) rl') hh hl hq F N ⟨G, rl, rfl, R⟩ ?kx ?ky ?kp ?_ ?_ ?_
  case kx => subst hsc; with_unfolding_all rfl
  case ky => subst hsc; with_unfolding_all rfl
  case kp => subst hsc; with_unfolding_all rfl
  · rintro i m nx ⟨_, rl', rfl, R'⟩ p hp
    have h1 := List.mem_map_of_mem (f := (·.1)) hp
    rw [hfst rl' R'.ad] at h1
    rw [hfst rl R.ad]
    exact h1
  · rintro i q m₁ nx h₁ tk own1 hi ⟨G₁, rl', rfl, R'⟩ hown F₁ N₁
    rw [hfst rl' R'.ad] at hown
    have hqm := List.mem_of_getElem? hi
    obtain ⟨b1, b2, b3, b4⟩ := ok.b q hqm
    refine run_turn (s := ⟨h₁, s.gens, s.drawn, tk, s.os⟩) (own := own1) (qs := qs) hst hsc X T G₁ hh dc hl hq nd hD R' hn (toldRuns_rows _ ?_) F₁ N₁ ?_ ok.s0 ok.s1 b1 b2 b3 b4 (fun q' hq' => ?_) ?_
    · intro row hr
      rw [List.eq_of_mem_replicate hr, List.length_replicate]
    · intro p hp b hb
      exact hown p hp b (.tail _ (.tail _ hb))
    · obtain ⟨c1, c2, c3, c4⟩ := ok.b q' hq'
      have := ok.s1
      exact ⟨c1, c2, c3, by omega, ok.c q hqm q' hq'⟩
    · intro h' tk' rl'' m' G' F' N' R''
      refine ⟨h', tk', m', _, rfl, F', N', G', rl'', rfl, ?_⟩
      have e : qs.take (i + 1) = qs.take i ++ [q] := by rw [List.take_add_one, hi]; rfl
      rw [e, List.map_append, List.foldl_append]
      exact R''
  · rintro m₁ nx h₁ tk ⟨G₁, rl', rfl, R'⟩ F₁ N₁
    rw [List.take_length] at R'
    exact h h₁ tk rl' m₁ G₁ F₁ N₁ R'

theorem told_spec {w : World} {s : Shared} {p : Program} {loose : List Str} {mg mb : Str → Option Value} {l : Addr} {n : Nat} {t2 : Tok} {qs : List Pr}
    (X : (hd.heap_39 w.params).In s.heap) (T : TopRead p loose mg mb s.heap) (hl : s.heap.IsList l (qs.map prRef).toArray) (hq : ∀ q ∈ qs, PrIn s.heap q) (ok : TOk n qs) :
    codeAny (model pg w) A1 (.call (.ref 108) ⟨[.ref l, .int n t2], []⟩) (Ret s (FreshRows s (toldP (qs.map fun q => (q.a, q.b)) n))) s := by
  have hn0 := ok.s0
  have hn := ok.s1
  refine' enterC [(Str.ofString "runs", .ref l), (Str.ofString "size", .int n t2)] X T ?k6 ?k7 ?k8 ?k9 ?kB ?kD ?_ ?c2 ?c3 ?c4
  case k6 => k_is
  case k7 => k_is
  case k8 => decide
  case k9 => exact BindsTo.of_eq rfl
  case kB => exact rfl
  case kD => decide +kernel
  case c2 => exact rfl
  case c3 => exact rfl
  case c4 => exact rfl
  intro L h₁ tk cells F N Y
  k_cells Y
  (try dsimp only)
  (show wpAny _ _ _ _ _ _)
  k_fold
  k_steps
  refine Stop.off ?_
  rename_i o1 d1 N1 hh tkk t1 u1 v1 R' F' N' K'
  refine LCg.CompSrc.range (n := n) rfl F' N' R' ?_ ?_ ?_ ?_
  · exact range_small (by omega) (by omega) (by omega) (by omega)
  · exact range_size (by omega)
  · have e : sizeLine = 16777216 := by decide
    omega
  intro g
  suffices H : ∀ k i (rows : List RowS), i + k = n → rows.length = i → (∀ r ∈ rows, IntsAre r.vs (List.replicate (n + 2) 0)) → rows.Pairwise (fun r q => r.a ≠ q.a) → (∀ r ∈ rows, r.a ≠ L + 1) →
      LCg.CompRest _ _ _ _ _ _ _ _ _ _ _ _ _ _ _ k i (rows.map rowRef) ((L + 1, o1) :: rows.map rowObj) from H n 0 [] (by omega) rfl (by simp) .nil (by simp)
  intro k
  induction k with
  | zero =>
    intro i rows hi hlr hr hp hL
    refine LCg.CompRest.zero ?_
    clear F' N' R' N1 K'
    intro D h9 tk9 F9 N9 o9
    have hDs : ∀ r ∈ rows, r.a ≠ D := by
      intro r hr
      exact off1_mem o9 (rowObj r) (.tail _ (List.mem_map_of_mem hr))
    k_steps
    refine Stop.off ?_
    rename Fr _ _ _ _ => F9
    rename News _ _ _ _ => N9
    refine told_loop (qs := qs) (rl := rows) (addrs := rows.map (·.a)) (epD := (rows.map rowRef).length) (oc := o1) (tz := t2) ?hst ?hsc X T ⟨rfl, rfl⟩ rfl d1 hl hq ?nd ?hD ?R ?hn F9 ?N ok ?_
    case hst => with_unfolding_all rfl
    case hsc => with_unfolding_all rfl
    case nd => exact List.pairwise_map.mpr hp
    case hD =>
      intro a ha
      obtain ⟨r, hr, rfl⟩ := List.mem_map.mp ha
      exact ⟨hDs r hr, hL r hr⟩
    case R =>
      refine ⟨rfl, by rw [List.length_replicate]; omega, fun j r row h1 h2 => ?_⟩
      rw [List.eq_of_mem_replicate (List.mem_of_getElem? h2)]
      exact hr r (List.mem_of_getElem? h1)
    case hn => rw [List.length_map]; omega
    case N =>
      intro p hp
      refine N9 p ?_
      have e : LCg.lst (rows.map rowRef) = W.listOf ((rows.map (·.a)).map Value.ref).toArray (rows.map rowRef).length := by rw [List.map_map]; rfl
      rw [e]
      simp only [List.mem_cons] at hp ⊢
      rcases hp with rfl | rfl | hp
      · exact .inr (.inl rfl)
      · exact .inl rfl
      · exact .inr (.inr hp)
    intro h' tk rl' m' G' F' N' R'
    clear F9 N9
    dsimp only
    replace F' := known [(Str.ofString "told", .ref D)] F' (by
      intro p hp
      simp only [List.mem_cons, List.not_mem_nil, or_false] at hp
      rcases hp with rfl
      exact G'.told)
    simp only [kstB] at F'
    k_steps
    dsimp only
    rename Fr _ _ _ _ => F9
    rename News _ _ _ _ => N9
    exact Ret.mk' F9 ⟨D, _, rl', _, rfl, (N9 _ (.tail _ (.head _))).2.2, (N9 _ (.tail _ (.head _))).1, R', fun r hr => ⟨(N9 (rowObj r) (.tail _ (.tail _ (List.mem_map_of_mem hr)))).1, (N9 (rowObj r) (.tail _ (.tail _ (List.mem_map_of_mem hr)))).2.2⟩⟩
  | succ k ih =>
    intro i rows hi hlr hr hp hL
    refine LCg.CompRest.succ ?_
    intro v I oI C oC D m₂ h tk E' hv hC hx F2 N2 off ne
    (show wpAny _ _ _ _ _ _)
    generalize eR : rows.map rowObj = rest at N2 off
    k_fold
    k_steps
    rename_i l' h1 F1 N1 l1 D2 h2 F3 N3 i1 n1 s1 e1 e2 e3 l2
    have hall := allLt_mem l2.2.2.2.2.2
    have hnew := ih (i + 1) (rows ++ [⟨D2, (List.replicate ((n : Int) + 2).toNat [Value.int 0 tk]).flatten, 0⟩]) (by omega) (by rw [List.length_append, hlr]; rfl) ?_ ?_ ?_
    · rw [List.map_append, List.map_append, eR] at hnew
      refine LCg.CompEnd.intro F3 N3 ((L + 1, o1) :: (rest ++ [(D2, W.listOf (List.replicate ((n : Int) + 2).toNat [Value.int 0 tk]).flatten.toArray 0)])) ?_ ?_ trivial hnew
      · intro p hp
        simp only [List.mem_cons, List.mem_append, List.not_mem_nil, or_false] at hp ⊢
        rcases hp with h | h | h | h | h | h
        · exact .inr (.inr (.inl h))
        · exact .inr (.inr (.inr (.inl h)))
        · exact .inr (.inr (.inr (.inr (.inl h))))
        · exact .inr (.inr (.inr (.inr (.inr (.inl h)))))
        · exact .inr (.inr (.inr (.inr (.inr (.inr h)))))
        · exact .inl h
      · refine LCg.Off3.of fun p hp => ?_
        simp only [List.mem_cons, List.mem_append, List.not_mem_nil, or_false] at hp
        rcases hp with h | h | h
        · exact LCg.Off3.mem off p (by rw [h]; exact .head _)
        · exact LCg.Off3.mem off p (.tail _ h)
        · rw [h]
          exact ⟨Ne.symm (Nat.ne_of_lt l2.2.1), Ne.symm (Nat.ne_of_lt l2.2.2.1), Ne.symm (Nat.ne_of_lt l2.2.2.2.1)⟩
    · intro r hr'
      rcases List.mem_append.mp hr' with hr' | hr'
      · exact hr r hr'
      · rw [List.mem_singleton.mp hr', ← flat_rep]
        exact i1
    · refine List.pairwise_append.mpr ⟨hp, List.pairwise_singleton _ _, fun r hr' q hq' => ?_⟩
      rw [List.mem_singleton.mp hq']
      exact Nat.ne_of_lt (hall (rowObj r) (by rw [← eR]; exact List.mem_map_of_mem hr'))
    · intro r hr'
      rcases List.mem_append.mp hr' with hr' | hr'
      · exact hL r hr'
      · rw [List.mem_singleton.mp hr']
        exact Ne.symm (Nat.ne_of_lt l2.2.2.2.2.1)
end
section
set_option maxHeartbeats 8000000
section
variable {prog : Program} {w : World} {A : Around} {E : Value → Shared → Prop} {s : Shared} {env : Env} {h₀ : Heap} {x : Str} {body : List Stmt} {Q : Flow → Shared → Prop}
theorem intsAt : ∀ {vs : List Value} {xs : List Int}, IntsAre vs xs → ∀ {i : Nat} {v : Value}, vs[i]? = some v → ∃ k t, xs[i]? = some k ∧ v = .int k t
  | _, _, .nil, _, _, h => by simp at h
  | _, _, .cons n t _, 0, _, h => ⟨n, t, rfl, by simpa using h.symm⟩
  | _, _, .cons _ _ r, i + 1, _, h => by
    obtain ⟨k, t, e1, e2⟩ := intsAt r (i := i) (by simpa using h)
    exact ⟨k, t, by simpa using e1, e2⟩
/-- a loop over a list of ints that nothing touches -/
theorem iterInts {l : Addr} {vs : List Value} {xs : List Int} {m₀ : Str → Option Value} {news : List (Addr × Obj)} (as : List Addr) (J : Nat → (Str → Option Value) → List (Addr × Obj) → Prop)
    (hh : A.handled = none) (hls : s.heap.IsList l vs.toArray) (hI : IntsAre vs xs) (hlL : l ≠ env.locals) (hla : l ∉ as) (has : ∀ a ∈ as, a < s.heap.objs.size) (F : Fr h₀ env.locals s.heap m₀) (N : News h₀ env.locals s.heap news) (h0 : J 0 m₀ news)
    (hno : ∀ i m nx, J i m nx → ∀ p ∈ nx, p.1 ∈ as)
    (turn : ∀ i k t m₁ nx h tk own, xs[i]? = some k → J i m₁ nx → OwnOff own (nx.map (·.1)) → Fr h₀ env.locals h (fun y => if y = x then some (.int k t) else m₁ y) → News h₀ env.locals h (nx ++ own) →
      wpAny (model prog w) A (execs body env) (TurnEnd h₀ env.locals (J (i + 1)) own ⟨h, s.gens, s.drawn, tk, s.os⟩ Q) E ⟨h, s.gens, s.drawn, tk, s.os⟩)
    (done : ∀ m₁ nx h tk, J xs.length m₁ nx → Fr h₀ env.locals h m₁ → News h₀ env.locals h nx → Q .next ⟨h, s.gens, s.drawn, tk, s.os⟩) :
    wpAny (model prog w) A (pyIter (.ref l)) (fun it s₂ => LoopAtV prog w A h₀ env x body Q E it s₂) E s := by
  obtain ⟨ol, hol, _⟩ := id hls
  have hlt : l < s.heap.objs.size := Heap.lt_size hol
  have hne : l ≠ s.heap.objs.size := Nat.ne_of_lt hlt
  refine wpAny_pyIter_list hls ?_
  have W := Walks.list (prog := prog) (w := w) hh s.heap.objs.size l hne vs.toArray
  have hlen : vs.toArray.size = xs.length := by rw [List.size_toArray, hI.length]
  rw [hlen] at W
  have hIn : h₀.get? s.heap.objs.size = none := next_is_new F
  have hIas : s.heap.objs.size ∉ as := fun h => Nat.lt_irrefl _ (has _ h)
  refine ⟨_, _, _, xs.length, _, _, m₀, news, J, rfl, W, ?_, ?_, ?_, ⟨⟨_, Heap.get?_push_size _ rfl, rfl, rfl⟩, hls.at fun o e => Heap.get?_push_of_some _ e⟩, F.push _, (fun p hp => ⟨Heap.get?_push_of_some _ (N p hp).1, (N p hp).2⟩), h0, ?_, ?_⟩
  · intro hm
    rcases List.mem_cons.mp hm with e | hm
    · exact absurd F.ns.lt (e ▸ Nat.lt_irrefl _)
    · exact hlL (List.mem_singleton.mp hm).symm
  · intro b hb
    rw [List.mem_singleton.mp hb]
    exact hIn
  · intro p hp hI
    exact absurd (Heap.lt_size (N p hp).1) ((List.mem_singleton.mp hI) ▸ Nat.lt_irrefl _)
  · rintro i v m₁ nx s₁ own ⟨hh', tk', rfl⟩ hin hP hJ hoff hown hget hall hst₁ F₁ N₁
    obtain ⟨k, t, hk, rfl⟩ := intsAt hI (by simpa using hP)
    have hsep : OwnOff own (nx.map (·.1)) := by
      intro p hp b hb e
      obtain ⟨q, hq, rfl⟩ := List.mem_map.mp hb
      have h3 := hno _ _ _ hJ q hq
      rw [← e] at h3
      rcases List.mem_cons.mp (hown p hp) with h5 | h5
      · rw [h5] at h3; exact hIas h3
      · rw [List.mem_singleton.mp h5] at h3; exact hla h3
    refine wpAny_mono (turn i k t m₁ nx hh' tk' own hk hJ hsep F₁ (fun p hp => N₁ p (by rcases List.mem_append.mp hp with h | h; exact List.mem_append_right _ h; exact List.mem_append_left _ h))) (fun f s₂ e => ?_) fun _ _ e => e
    have fin : (∃ h' tk m' nx', s₂ = { (⟨hh', s.gens, s.drawn, tk', s.os⟩ : Shared) with heap := h', toks := tk } ∧ Fr h₀ env.locals h' m' ∧ News h₀ env.locals h' (nx' ++ own) ∧ J (i + 1) m' nx') → LoopStepU h₀ env.locals [s.heap.objs.size] own (J (i + 1)) ⟨hh', s.gens, s.drawn, tk', s.os⟩ .next s₂ := by
      rintro ⟨h', tk, m', nx', e, F', N', hj⟩
      refine ⟨rfl, h', tk, m', nx', e, F', fun p hp => N' p (by rcases List.mem_append.mp hp with h | h; exact List.mem_append_right _ h; exact List.mem_append_left _ h), fun p hp hq => ?_, hj⟩
      have h3 := hno _ _ _ hj p hp
      rw [List.mem_singleton.mp hq] at h3
      exact hIas h3
    cases f with
    | ret v => exact .ret e
    | brk => exact .brk e
    | next => exact .next (fin e)
    | cont => exact .cont (fin e)
  · rintro h' tk m' nx F' N' _ hj
    exact done m' nx h' tk hj F' N'
end
end
section
set_option maxHeartbeats 8000000
theorem fillLr (w : World) (s : Shared) : (PySem.Challenge.rw_re0017_01.Holds ∧ (Mine.hd.heap_39 w.params).In s.heap) → True := by k_fill; intro _; trivial

def lawParts : Arguments × List Stmt × Scope := findDef (Str.ofString "law") PySem.Challenge.rw_re0017_01.row.prog.main.body
def signOf (x : Int) : Nat := if x.fmod 4 < 2 then 95 else if x.fmod 4 = 2 then 98 else ((x.fdiv 4).fmod 55296).toNat
def base8 : List Nat := [97, 95, 95, 95, 95, 98, 95, 95]

theorem S_app (r : List Nat) (c : Nat) : S (r ++ [c]) = S r ++ (⟨#[c]⟩ : Str) := by
  show (⟨(r ++ [c]).toArray⟩ : Str) = ⟨r.toArray ++ #[c]⟩
  simp
theorem S_us (r : List Nat) : S (r ++ [95]) = S r ++ Str.ofString "_" := by rw [S_app]; rfl
theorem S_b (r : List Nat) : S (r ++ [98]) = S r ++ Str.ofString "b" := by rw [S_app]; rfl
theorem ring_turn {w : World} {s : Shared} {p : Program} {loose : List Str} {mg mb : Str → Option Value} {h₀ : Heap} {L fa : Addr} {cd : Value} {k : Int} {kt t : Tok} {r : List Nat} {m : Str → Option Value} {news : List (Addr × Obj)} {sc : Scope} {bd : List Stmt} {A : Around} {Q : Flow → Shared → Prop}
    (hst : bd = forBody (stmtAt 1 lawParts.2.1)) (hsc : sc = lawParts.2.2) (X : (hd.heap_39 w.params).In h₀) (T : TopRead p loose mg mb h₀) (hm : m (Str.ofString "ring") = some (.str (S r) t)) (hr : r.length ≤ 50)
    (F : Fr h₀ L s.heap (fun y => if y = Str.ofString "x" then some (.int k kt) else m y)) (N : News h₀ L s.heap news)
    (h : ∀ h' tk t' m', m' (Str.ofString "ring") = some (.str (S (r ++ [signOf k])) t') → Fr h₀ L h' m' → News h₀ L h' news → Q .next ⟨h', s.gens, s.drawn, tk, s.os⟩) :
    wpAny (model pg w) A (execs bd (envOf (Str.ofString "law") sc L fa cd)) Q (fun _ _ => False) s := by
  (with_unfolding_all conv at hst => rhs; whnf)
  (with_unfolding_all conv at hsc => rhs; whnf)
  subst hst hsc
  replace F := known [(Str.ofString "x", Value.int k kt), (Str.ofString "ring", Value.str (S r) t)] F (by
    intro p hp
    simp only [List.mem_cons, List.not_mem_nil, or_false] at hp
    rcases hp with rfl | rfl
    · rfl
    · exact hm)
  simp only [kstB] at F
  have hS : (S r).length ≤ 50 := by simpa [S, Str.length] using hr
  refine stopQ ?_
  (show wpAny _ _ _ _ _ _)
  k_fold
  k_steps
  · refine Stop.off ?_
    rename Fr _ _ _ _ => F8
    rename News _ _ _ _ => N8
    rw [signOf, if_pos (by assumption), S_us] at h
    exact h _ _ _ _ (by exact if_pos rfl) F8 N8
  · refine Stop.off ?_
    rename Fr _ _ _ _ => F8
    rename News _ _ _ _ => N8
    rw [signOf, if_neg (by assumption), if_pos (by assumption), S_b] at h
    exact h _ _ _ _ (by exact if_pos rfl) F8 N8
  · refine Stop.off ?_
    rename Fr _ _ _ _ => F8
    rename News _ _ _ _ => N8
    rw [signOf, if_neg (by assumption), if_neg (by assumption), S_app] at h
    exact h _ _ _ _ (by exact if_pos rfl) F8 N8

theorem ring_loop {w : World} {s : Shared} {p : Program} {loose : List Str} {mg mb : Str → Option Value} {h₀ : Heap} {L fa l : Addr} {cd : Value} {t : Tok} {m : Str → Option Value} {o93 : Obj} {vs : List Value} {xs : List Int} {sc : Scope} {bd : List Stmt} {A : Around} {Q : Flow → Shared → Prop}
    (hst : bd = forBody (stmtAt 1 lawParts.2.1)) (hsc : sc = lawParts.2.2) (X : (hd.heap_39 w.params).In h₀) (T : TopRead p loose mg mb h₀) (hh : A.handled = none) (hm : m (Str.ofString "ring") = some (.str (S base8) t)) (hx : xs.length ≤ 5)
    (hls : s.heap.IsList l vs.toArray) (hI : IntsAre vs xs) (hlL : l ≠ L) (hl93 : l ≠ 93)
    (F : Fr h₀ L s.heap m) (N : News h₀ L s.heap [(93, o93)])
    (h : ∀ h' tk t' m', m' (Str.ofString "ring") = some (.str (S (base8 ++ xs.map signOf)) t') → Fr h₀ L h' m' → News h₀ L h' [(93, o93)] → Q .next ⟨h', s.gens, s.drawn, tk, s.os⟩) :
    wpAny (model pg w) A (pyIter (.ref l)) (fun it s₂ => LoopAtV pg w A h₀ (envOf (Str.ofString "law") sc L fa cd) (Str.ofString "x") bd Q (fun _ _ => False) it s₂) (fun _ _ => False) s := by
  refine iterInts [93] (fun i m nx => nx = [(93, o93)] ∧ ∃ t', m (Str.ofString "ring") = some (.str (S (base8 ++ (xs.take i).map signOf)) t')) hh hls hI hlL (by simpa using hl93) ?_ F N ⟨rfl, t, hm⟩ ?_ ?_ ?_
  · intro a ha
    rw [List.mem_singleton.mp ha]
    exact Heap.lt_size (N _ (.head _)).1
  · rintro i m nx ⟨rfl, _⟩ p hp
    rw [List.mem_singleton.mp hp]; exact .head _
  · rintro i k kt m₁ nx h₁ tk own hk ⟨rfl, t', hm'⟩ hown F₁ N₁
    refine ring_turn (s := ⟨h₁, s.gens, s.drawn, tk, s.os⟩) hst hsc X T hm' ?_ F₁ N₁ ?_
    · rw [List.length_append, List.length_map, List.length_take]
      have : base8.length = 8 := rfl
      omega
    · intro h' tk' t'' m' hm'' F' N'
      refine ⟨h', tk', m', _, rfl, F', N', rfl, t'', ?_⟩
      rw [hm'', List.take_add_one, hk]
      simp
  · rintro m₁ nx h₁ tk ⟨rfl, t', hm'⟩ F₁ N₁
    rw [List.take_length] at hm'
    exact h h₁ tk t' m₁ hm' F₁ N₁
end
section
set_option maxHeartbeats 8000000
theorem fillLt (w : World) (s : Shared) : (PySem.Challenge.rw_re0017_01.Holds ∧ (Mine.hd.heap_39 w.params).In s.heap) → True := by k_fill; intro _; trivial
theorem len_S2 {prog : Program} {w : World} {A : Around} {E : Value → Shared → Prop} {s : Shared} {t : Tok} {Q : Value → Shared → Prop} {x : List Nat} (hx : x.length ≤ 1000) (h : ∀ t' k', Q (.int (x.length : Nat) t') { s with toks := k' }) : wpAny (model prog w) A (call (.builtin "len") [.str (S x) t]) Q E s := by
  have e : (S x).length = x.length := by unfold Str.length S; simp
  refine PyProof.Rows.len_str ?_ ?_
  · rw [e]; omega
  · rw [e]; exact h _ _
local macro_rules | `(tactic| walk_at "call builtin:len") => `(tactic| (k_here; (with_reducible (refine len_S2 ?a ?_)); (case a => first | omega | (simp only [List.length_cons]; omega)); intro t' tk'))
local macro_rules | `(tactic| walk_at "subscriptTail Name Name ref int") => `(tactic| (k_here; k_dflt (refine' my_item ?N ?m ?a ?b ?x ?_ ?s; (case N => k_asm); (case m => k_mem); (case x => assumption); (case a => omega); (case b => omega); (case s => with_unfolding_all rfl); k_whole)))
local macro_rules | `(tactic| walk_at "call builtin:list.append") => `(tactic| (k_here; refine Stop.on ?_))

theorem S_append (a b : List Nat) : S (a ++ b) = S a ++ S b := by
  show (⟨(a ++ b).toArray⟩ : Str) = ⟨a.toArray ++ b.toArray⟩
  simp
theorem S_len (a : List Nat) : (S a).length = a.length := by simp [S, Str.length]
theorem addSS {prog : Program} {w : World} {A : Around} {E : Value → Shared → Prop} {s : Shared} {t u : Tok} {Q : Value → Shared → Prop} {a b : List Nat} (ha : a.length ≤ 1000) (hb : b.length ≤ 1000) (h : ∀ t' k', Q (.str (S (a ++ b)) t') { s with toks := k' }) :
    wpAny (model prog w) A (binaryOp .Add (.str (S a) t) (.str (S b) u)) Q E s :=
  PyProof.Rows.add_str (fun t' k' => by rw [← S_append]; exact h t' k') (by rw [S_len, S_len]; have e : sizeLine = 16777216 := by decide
                                                                            omega)
theorem iaddSS {prog : Program} {w : World} {A : Around} {E : Value → Shared → Prop} {s : Shared} {t u : Tok} {Q : Value → Shared → Prop} {a b : List Nat} (ha : a.length ≤ 1000) (hb : b.length ≤ 1000) (h : ∀ t' k', Q (.str (S (a ++ b)) t') { s with toks := k' }) :
    wpAny (model prog w) A (inplaceOp .Add (.str (S a) t) (.str (S b) u)) Q E s :=
  PyProof.Rows.iadd_str (fun t' k' => by rw [← S_append]; exact h t' k') (by rw [S_len, S_len]; have e : sizeLine = 16777216 := by decide
                                                                             omega)
theorem add_us {prog : Program} {w : World} {A : Around} {E : Value → Shared → Prop} {s : Shared} {t u : Tok} {Q : Value → Shared → Prop} {g : Int} {b : List Nat} (g0 : 0 ≤ g) (ha : g ≤ 1000) (hb : b.length ≤ 1000) (h : ∀ t' k', Q (.str (S (List.replicate g.toNat 95 ++ b)) t') { s with toks := k' }) :
    wpAny (model prog w) A (binaryOp .Add (.str (Txt.mul (Str.ofString "_") g) t) (.str (S b) u)) Q E s := by
  obtain ⟨n, rfl⟩ := Int.eq_ofNat_of_zero_le g0
  have e : Txt.mul (Str.ofString "_") (n : Int) = S (List.replicate n 95) := mul_us n
  rw [e]
  refine addSS (by rw [List.length_replicate]; omega) hb ?_
  rw [Int.toNat_natCast] at h
  exact h
local macro_rules | `(tactic| walk_at "binaryOp Add str str") => `(tactic| (k_here; (with_reducible (refine add_us ?a ?b ?c ?_)); (case a => omega); (case b => omega); (case c => omega); intro t' k'))
local macro_rules | `(tactic| walk_at "inplaceOp Add str str") => `(tactic| (k_here; (with_reducible (refine iaddSS ?a ?b ?_)); (case a => omega); (case b => (rw [List.length_append, List.length_replicate]; omega)); intro t' k'))
def prObj (q : Pr) : Addr × Obj := (q.T, { cls := .type "tuple", data := .seq #[.int q.a q.t, .int q.b q.u] })
theorem strsAt : ∀ {vs : List Value} {xs : List Str}, StrsAre vs xs → ∀ {i : Nat} {x : Str}, xs[i]? = some x → ∃ t, vs[i]? = some (.str x t)
  | _, _, .nil, _, _, h => by simp at h
  | _, _, .cons n t _, 0, _, h => ⟨t, by simpa using h⟩
  | _, _, .cons _ _ r, i + 1, _, h => by
    obtain ⟨t, e⟩ := strsAt r (i := i) (by simpa using h)
    exact ⟨t, by simpa using e⟩
theorem intsAt' : ∀ {vs : List Value} {xs : List Int}, IntsAre vs xs → ∀ {i : Nat} {x : Int}, xs[i]? = some x → ∃ t, vs[i]? = some (.int x t)
  | _, _, .nil, _, _, h => by simp at h
  | _, _, .cons n t _, 0, _, h => ⟨t, by simpa using h⟩
  | _, _, .cons _ _ r, i + 1, _, h => by
    obtain ⟨t, e⟩ := intsAt' r (i := i) (by simpa using h)
    exact ⟨t, by simpa using e⟩

/-- what the law's frame knows ahead of the runs' loop -/
structure ML (ring : List Nat) (Wd Gp Rn : Addr) (tr ts tn : Tok) (m : Str → Option Value) : Prop where
  fring : m (Str.ofString "ring") = some (.str (S ring) tr)
  fsize : m (Str.ofString "size") = some (.int ring.length ts)
  words : m (Str.ofString "words") = some (.ref Wd)
  gaps : m (Str.ofString "gaps") = some (.ref Gp)
  lineno : m (Str.ofString "lineno") = some (.int (1 + nls ring) tn)
  runs : m (Str.ofString "runs") = some (.ref Rn)
theorem ML.put {ring : List Nat} {Wd Gp Rn : Addr} {tr ts tn : Tok} {m : Str → Option Value} (x : ML ring Wd Gp Rn tr ts tn m) {y : Str} {v : Option Value} (h1 : Str.ofString "ring" ≠ y) (h2 : Str.ofString "size" ≠ y) (h3 : Str.ofString "words" ≠ y) (h4 : Str.ofString "gaps" ≠ y) (h5 : Str.ofString "lineno" ≠ y) (h6 : Str.ofString "runs" ≠ y) :
    ML ring Wd Gp Rn tr ts tn (fun z => if z = y then v else m z) :=
  ⟨by rw [if_neg h1]; exact x.fring, by rw [if_neg h2]; exact x.fsize, by rw [if_neg h3]; exact x.words, by rw [if_neg h4]; exact x.gaps, by rw [if_neg h5]; exact x.lineno, by rw [if_neg h6]; exact x.runs⟩

theorem runs_turn {w : World} {s : Shared} {p : Program} {loose : List Str} {mg mb : Str → Option Value} {h₀ : Heap} {L fa Wd Gp Rn : Addr} {cd : Value} {k g : Int} {kt tr ts tn ta tw tg : Tok} {ring a wd : List Nat} {m : Str → Option Value} {ws gs : List Value} {ew eg er : Nat} {qs : List Pr} {rest : List (Addr × Obj)} {sc : Scope} {bd : List Stmt} {A : Around} {Q : Flow → Shared → Prop}
    (hst : bd = forBody (stmtAt 6 lawParts.2.1)) (hsc : sc = lawParts.2.2) (X : (hd.heap_39 w.params).In h₀) (T : TopRead p loose mg mb h₀) (M : ML ring Wd Gp Rn tr ts tn m) (hm : m (Str.ofString "again") = some (.str (S a) ta))
    (F : Fr h₀ L s.heap (fun y => if y = Str.ofString "at" then some (.int k kt) else m y)) (N : News h₀ L s.heap ((Rn, W.listOf (qs.map prRef).toArray er) :: (Gp, W.listOf gs.toArray eg) :: (Wd, W.listOf ws.toArray ew) :: rest))
    (off : ∀ p ∈ (Gp, W.listOf gs.toArray eg) :: (Wd, W.listOf ws.toArray ew) :: rest, p.1 ≠ Rn) (k0 : 0 ≤ k) (k1 : k < 1000) (hw : ws[k.toNat]? = some (.str (S wd) tw)) (hg : gs[k.toNat]? = some (.int g tg)) (g0 : 0 ≤ g) (g1 : g ≤ 50) (la : a.length ≤ 50) (lw : wd.length ≤ 50) (lq : qs.length ≤ 50)
    (h : ∀ h' tk t' m' qs' er', m' (Str.ofString "again") = some (.str (S (a ++ (List.replicate g.toNat 95 ++ wd))) t') → ML ring Wd Gp Rn tr ts tn m' → Fr h₀ L h' m' →
      News h₀ L h' (((Rn, W.listOf ((qs ++ qs').map prRef).toArray er') :: (Gp, W.listOf gs.toArray eg) :: (Wd, W.listOf ws.toArray ew) :: rest) ++ qs'.map prObj) → (qs'.map fun q => (q.a, q.b)) = (if 0 < g then [((a.length : Int), g)] else []) → (∀ q ∈ qs', q.T ≠ Rn) → Q .next ⟨h', s.gens, s.drawn, tk, s.os⟩) :
    wpAny (model pg w) A (execs bd (envOf (Str.ofString "law") sc L fa cd)) Q (fun _ _ => False) s := by
  (with_unfolding_all conv at hst => rhs; whnf)
  (with_unfolding_all conv at hsc => rhs; whnf)
  subst hst hsc
  have M2 := M.put (y := Str.ofString "at") (v := some (.int k kt)) (by decide +kernel) (by decide +kernel) (by decide +kernel) (by decide +kernel) (by decide +kernel) (by decide +kernel)
  have hk : ∀ p ∈ [(Str.ofString "at", Value.int k kt), (Str.ofString "words", Value.ref Wd), (Str.ofString "gaps", Value.ref Gp), (Str.ofString "runs", Value.ref Rn), (Str.ofString "again", Value.str (S a) ta)], (fun y => if y = Str.ofString "at" then some (.int k kt) else m y) p.1 = some p.2 := by
    intro p hp
    simp only [List.mem_cons, List.not_mem_nil, or_false] at hp
    rcases hp with rfl | rfl | rfl | rfl | rfl
    · rfl
    · exact M2.words
    · exact M2.gaps
    · exact M2.runs
    · exact (if_neg (show Str.ofString "again" ≠ Str.ofString "at" by decide +kernel)).trans hm
  have F2 := known _ F hk
  have eK := known_eq (m := fun y => if y = Str.ofString "at" then some (.int k kt) else m y) _ hk
  simp only [kstB] at F2 eK
  clear F
  have hw' : ws.toArray.toList[k.toNat]? = some (.str (S wd) tw) := hw
  have hg' : gs.toArray.toList[k.toNat]? = some (.int g tg) := hg
  refine stopQ ?_
  (show wpAny _ _ _ _ _ _)
  k_fold
  k_steps
  · rename_i tT kT Dq hD F9 N9 l9
    refine Stop.off ?_
    have hpush : (qs.map prRef).toArray.push (.ref Dq) = ((qs ++ [(⟨Dq, a.length, tT, g, tg⟩ : Pr)]).map prRef).toArray := by simp [prRef]
    have er1 : ((qs.map prRef).toArray.size ≤ sizeLine) := by
      have e : sizeLine = 16777216 := by decide
      rw [List.size_toArray, List.length_map]; omega
    have N10 : News h₀ L hD ((Rn, W.listOf (qs.map prRef).toArray er) :: (Dq, { cls := .type "tuple", data := .seq #[.int a.length tT, .int g tg] }) :: (Gp, W.listOf gs.toArray eg) :: (Wd, W.listOf ws.toArray ew) :: rest) := fun p hp => N9 p (by
      simp only [List.mem_cons] at hp ⊢
      rcases hp with h | h | h
      · exact .inr (.inl h)
      · exact .inl h
      · exact .inr (.inr h))
    refine append_head F9 N10 ?_ ?_ er1
    · intro p hp
      rcases List.mem_cons.mp hp with rfl | hp
      · exact Nat.ne_of_gt l9.1
      · exact off p hp
    intro h' F' N'
    clear F9 N9 N10
    rw [hpush] at N'
    dsimp only
    k_steps
    refine Stop.off ?_
    rename Fr _ _ _ _ => F8
    rename News _ _ _ _ => N8
    refine h _ _ _ _ [(⟨Dq, a.length, tT, g, tg⟩ : Pr)] (er + 1) (by exact if_pos rfl) ((eK.symm ▸ M2 : ML ring Wd Gp Rn tr ts tn _).put (y := Str.ofString "again") (by decide +kernel) (by decide +kernel) (by decide +kernel) (by decide +kernel) (by decide +kernel) (by decide +kernel)) F8 ?_ ?_ ?_
    · intro p hp
      refine N8 p ?_
      simp only [List.cons_append, List.mem_cons, List.mem_append, List.map_cons, List.map_nil, List.not_mem_nil, or_false] at hp ⊢
      rcases hp with h | h | h | h | h
      · exact .inl h
      · exact .inr (.inr (.inl h))
      · exact .inr (.inr (.inr (.inl h)))
      · exact .inr (.inr (.inr (.inr h)))
      · exact .inr (.inl h)
    · rw [if_pos (by assumption)]; rfl
    · intro q hq
      rw [List.mem_singleton.mp hq]
      exact Nat.ne_of_gt l9.1
  · refine Stop.off ?_
    rename Fr _ _ _ _ => F8
    rename News _ _ _ _ => N8
    refine h _ _ _ _ [] er (by exact if_pos rfl) ((eK.symm ▸ M2 : ML ring Wd Gp Rn tr ts tn _).put (y := Str.ofString "again") (by decide +kernel) (by decide +kernel) (by decide +kernel) (by decide +kernel) (by decide +kernel) (by decide +kernel)) F8 ?_ ?_ ?_
    · intro p hp
      refine N8 p ?_
      simpa using hp
    · rw [if_neg (by assumption)]; rfl
    · simp

/-- the runs that the law finds, and the text that it puts together -/
def runsP (pos : Nat) : List (List Nat × Int) → List (Int × Int)
  | [] => []
  | (wd, g) :: r => (if 0 < g then [((pos : Int), g)] else []) ++ runsP (pos + (g.toNat + wd.length)) r
def againP : List (List Nat × Int) → List Nat
  | [] => []
  | (wd, g) :: r => (List.replicate g.toNat 95 ++ wd) ++ againP r
theorem runsP_append (pos : Nat) (x y : List (List Nat × Int)) : runsP pos (x ++ y) = runsP pos x ++ runsP (pos + (againP x).length) y := by
  induction x generalizing pos with
  | nil => rfl
  | cons q x ih =>
    obtain ⟨wd, g⟩ := q
    rw [List.cons_append, runsP, runsP, ih, againP, List.append_assoc]
    simp only [List.length_append, List.length_replicate, Nat.add_assoc]
theorem againP_append (x y : List (List Nat × Int)) : againP (x ++ y) = againP x ++ againP y := by
  induction x with
  | nil => rfl
  | cons q x ih =>
    obtain ⟨wd, g⟩ := q
    simp [againP, ih]

theorem runs_loop {w : World} {s : Shared} {p : Program} {loose : List Str} {mg mb : Str → Option Value} {h₀ : Heap} {L fa Wd Gp Rn r : Addr} {cd : Value} {tr ts tn ta t₀ u₀ v₀ : Tok} {ring w0 : List Nat} {g0 : Int} {d : List (List Nat × Int)} {m : Str → Option Value} {ws gs : List Value} {ew eg : Nat} {o93 : Obj} {sc : Scope} {bd : List Stmt} {A : Around} {Q : Flow → Shared → Prop}
    (hst : bd = forBody (stmtAt 6 lawParts.2.1)) (hsc : sc = lawParts.2.2) (X : (hd.heap_39 w.params).In h₀) (T : TopRead p loose mg mb h₀) (hh : A.handled = none) (M : ML ring Wd Gp Rn tr ts tn m) (hm : m (Str.ofString "again") = some (.str (S w0) ta))
    (hws : StrsAre ws (((w0, g0) :: d).map fun x : List Nat × Int => S x.1)) (hgs : IntsAre gs (((w0, g0) :: d).map fun x : List Nat × Int => x.2)) (hb : ∀ q ∈ d, 0 ≤ q.2 ∧ q.2 ≤ 50 ∧ q.1.length ≤ 50) (hd2 : d.length ≤ 50) (hlen : (w0 ++ againP d).length ≤ 50)
    (hr : IsRange s.heap r 1 ((d.length : Int) + 1) 1 t₀ u₀ v₀) (h93 : o93.cls = .none) (o1 : Wd ≠ Rn) (o2 : Gp ≠ Rn) (o3 : 93 ≠ Rn)
    (F : Fr h₀ L s.heap m) (N : News h₀ L s.heap [(Rn, W.listOf (([] : List Pr).map prRef).toArray 0), (Gp, W.listOf gs.toArray eg), (Wd, W.listOf ws.toArray ew), (93, o93)])
    (h : ∀ h' tk t' m' (qs : List Pr) er, m' (Str.ofString "again") = some (.str (S (w0 ++ againP d)) t') → ML ring Wd Gp Rn tr ts tn m' → Fr h₀ L h' m' →
      News h₀ L h' ((Rn, W.listOf (qs.map prRef).toArray er) :: (Gp, W.listOf gs.toArray eg) :: (Wd, W.listOf ws.toArray ew) :: (93, o93) :: qs.map prObj) → (qs.map fun q => (q.a, q.b)) = runsP w0.length d → qs.length ≤ d.length → Q .next ⟨h', s.gens, s.drawn, tk, s.os⟩) :
    wpAny (model pg w) A (pyIter (.ref r)) (fun it s₂ => LoopAtV pg w A h₀ (envOf (Str.ofString "law") sc L fa cd) (Str.ofString "at") bd Q (fun _ _ => False) it s₂) (fun _ _ => False) s := by
  refine iterRange d.length (fun i m nx => ML ring Wd Gp Rn tr ts tn m ∧ ∃ (t' : Tok) (qs : List Pr) (er : Nat), m (Str.ofString "again") = some (.str (S (w0 ++ againP (d.take i))) t') ∧
      nx = (Rn, W.listOf (qs.map prRef).toArray er) :: (Gp, W.listOf gs.toArray eg) :: (Wd, W.listOf ws.toArray ew) :: (93, o93) :: qs.map prObj ∧ (qs.map fun q => (q.a, q.b)) = runsP w0.length (d.take i) ∧ qs.length ≤ i ∧ ∀ q ∈ qs, q.T ≠ Rn)
    hh hr (range_small (by omega) (by omega) (by omega) (by omega)) (range_size (by omega)) F N ⟨M, ta, [], 0, by rw [List.take_zero, againP, List.append_nil]; exact hm, rfl, rfl, Nat.le_refl _, by simp⟩ ?_ ?_ ?_
  · rintro i m nx ⟨_, t', qs, er, _, rfl, _⟩ p hp
    simp only [List.mem_cons, List.mem_map] at hp
    rcases hp with rfl | rfl | rfl | rfl | ⟨q, _, rfl⟩
    · exact ⟨by simp, by simp⟩
    · exact ⟨by simp, by simp⟩
    · exact ⟨by simp, by simp⟩
    · exact ⟨by rw [h93]; simp, by rw [h93]; simp⟩
    · exact ⟨by simp [prObj], by simp [prObj]⟩
  · rintro i t m₁ nx h₁ tk own hi ⟨M₁, t', qs, er, hm', rfl, hq, hql, hqT⟩ hown F₁ N₁
    have hdi : d[i]? = some d[i] := List.getElem?_eq_getElem hi
    generalize d[i] = q0 at hdi
    obtain ⟨wd, g⟩ := q0
    obtain ⟨b1, b2, b3⟩ := hb _ (List.mem_of_getElem? hdi)
    have htk : d.take (i + 1) = d.take i ++ [(wd, g)] := by rw [List.take_add_one, hdi]; rfl
    have hle : (w0 ++ againP (d.take i)).length ≤ 50 := by
      have e : d = d.take i ++ d.drop i := (List.take_append_drop i d).symm
      rw [e, againP_append] at hlen
      simp only [List.length_append] at hlen ⊢
      omega
    have ek : (1 + (i : Int)).toNat = i + 1 := by omega
    obtain ⟨tw, hw⟩ := strsAt hws (i := i + 1) (x := S wd) (by rw [List.map_cons, List.getElem?_cons_succ, List.getElem?_map, hdi]; rfl)
    obtain ⟨tg, hg⟩ := intsAt' hgs (i := i + 1) (x := g) (by rw [List.map_cons, List.getElem?_cons_succ, List.getElem?_map, hdi]; rfl)
    refine runs_turn (s := ⟨h₁, s.gens, s.drawn, tk, s.os⟩) (rest := (93, o93) :: (qs.map prObj ++ own)) hst hsc X T M₁ hm' F₁ N₁ ?_ (by omega) (by omega) (by rw [ek]; exact hw) (by rw [ek]; exact hg) b1 b2 hle b3 (by omega) ?_
    · intro p hp
      simp only [List.mem_cons, List.mem_append, List.mem_map] at hp
      rcases hp with rfl | rfl | rfl | ⟨q, hq', rfl⟩ | hp
      · exact o2
      · exact o1
      · exact o3
      · exact hqT q hq'
      · exact hown p hp Rn (.head _)
    · intro h' tk' t'' m' qs' er' hm'' M' F' N' hq' hqT'
      refine ⟨h', tk', m', _, rfl, F', ?_, M', t'', qs ++ qs', er', ?_, rfl, ?_, ?_, ?_⟩
      · intro p hp
        refine N' p ?_
        simp only [List.cons_append, List.mem_cons, List.mem_append, List.map_append] at hp ⊢
        rcases hp with h | h | h | h | (h | h) | h
        · exact .inl h
        · exact .inr (.inl h)
        · exact .inr (.inr (.inl h))
        · exact .inr (.inr (.inr (.inl h)))
        · exact .inr (.inr (.inr (.inr (.inl (.inl h)))))
        · exact .inr (.inr (.inr (.inr (.inr h))))
        · exact .inr (.inr (.inr (.inr (.inl (.inr h)))))
      · rw [hm'', htk, againP_append, againP, againP, List.append_nil, List.append_assoc]
      · rw [List.map_append, hq, hq', htk, runsP_append, runsP, runsP, List.append_nil, List.length_append]
      · have e := congrArg List.length hq'
        rw [List.length_map] at e
        rw [List.length_append, e]
        split <;> simp only [List.length_cons, List.length_nil] <;> omega
      · intro q hqq
        rcases List.mem_append.mp hqq with h | h
        · exact hqT q h
        · exact hqT' q h
  · rintro m₁ nx h₁ tk ⟨M₁, t', qs, er, hm', rfl, hq, hql, hqT⟩ F₁ N₁
    rw [List.take_length] at hm' hq
    exact h h₁ tk t' m₁ qs er hm' M₁ F₁ N₁ hq hql
end
section
set_option maxHeartbeats 8000000
theorem fillLf (w : World) (s : Shared) : (PySem.Challenge.rw_re0017_01.Holds ∧ (Mine.hd.heap_39 w.params).In s.heap) → True := by k_fill; intro _; trivial
local macro_rules | `(tactic| walk_at "mine X") => `(tactic| exact Frag.In.keeps (by k_asm) (Fr.keep (by k_asm)))
local macro_rules | `(tactic| walk_at "mine T") => `(tactic| exact TopRead.keeps (by k_asm) (Fr.keep (by k_asm)))
local macro_rules | `(tactic| walk_at "call ref") => `(tactic| (k_here; (with_reducible show wpAny _ _ (call (Value.ref 42) _) _ _ _); (refine' call_by (A' := A4) ?a1 ?a2 rfl (Nat.le_of_ble_eq_true rfl) (Nat.le_of_ble_eq_true rfl) rfl rfl (isPriv_spec ?a3 ?a4 ?a5 ?a6) ?_); (case a1 => k_asm); (case a2 => k_asm); (case a3 => walk_at "mine X"); (case a4 => walk_at "mine T"); (case a5 => omega); (case a6 => omega); intro x' h' tk' hv' F' N'; subst hv'))
local macro_rules | `(tactic| walk_at "call ref") => `(tactic| (k_here; (with_reducible show wpAny _ _ (call (Value.ref 28) _) _ _ _); (refine' call_by (A' := A4) ?a1 ?a2 rfl (Nat.le_of_ble_eq_true rfl) (Nat.le_of_ble_eq_true rfl) rfl rfl (isDunder_spec ?a3 ?a4 ?a5) ?_); (case a1 => k_asm); (case a2 => k_asm); (case a3 => walk_at "mine X"); (case a4 => walk_at "mine T"); (case a5 => omega); intro x' h' tk' hv' F' N'; subst hv'))
local macro_rules | `(tactic| walk_at "call ref") => `(tactic| (k_here; (with_reducible show wpAny _ _ (call (Value.ref 35) _) _ _ _); (refine' call_by (A' := A4) ?a1 ?a2 rfl (Nat.le_of_ble_eq_true rfl) (Nat.le_of_ble_eq_true rfl) rfl rfl (isSunder_spec ?a3 ?a4 ?a5) ?_); (case a1 => k_asm); (case a2 => k_asm); (case a3 => walk_at "mine X"); (case a4 => walk_at "mine T"); (case a5 => omega); intro x' h' tk' hv' F' N'; subst hv'))
local macro_rules | `(tactic| walk_at "call ref") => `(tactic| (k_here; (with_reducible show wpAny _ _ (call (Value.ref 91) _) _ _ _); (refine' call_by (A' := A4) ?a1 ?a2 rfl (Nat.le_of_ble_eq_true rfl) (Nat.le_of_ble_eq_true rfl) rfl rfl (yes_spec ?a3 ?a4) ?_); (case a1 => k_asm); (case a2 => k_asm); (case a3 => walk_at "mine X"); (case a4 => walk_at "mine T"); intro x' h' tk' hv' F' N'; obtain ⟨t', hv'⟩ := hv'; subst hv'))
local macro_rules | `(tactic| walk_at "call builtin:list.append") => `(tactic| (k_here; refine Stop.on ?_))

/-- what the law's frame knows while it finds -/
structure MN (ring : List Nat) (Rn Fd : Addr) (tr ts : Tok) (m : Str → Option Value) : Prop where
  fring : m (Str.ofString "ring") = some (.str (S ring) tr)
  fsize : m (Str.ofString "size") = some (.int ring.length ts)
  runs : m (Str.ofString "runs") = some (.ref Rn)
  found : m (Str.ofString "found") = some (.ref Fd)
theorem MN.put {ring : List Nat} {Rn Fd : Addr} {tr ts : Tok} {m : Str → Option Value} (x : MN ring Rn Fd tr ts m) {y : Str} {v : Option Value} (h1 : Str.ofString "ring" ≠ y) (h2 : Str.ofString "size" ≠ y) (h3 : Str.ofString "runs" ≠ y) (h4 : Str.ofString "found" ≠ y) :
    MN ring Rn Fd tr ts (fun z => if z = y then v else m z) :=
  ⟨by rw [if_neg h1]; exact x.fring, by rw [if_neg h2]; exact x.fsize, by rw [if_neg h3]; exact x.runs, by rw [if_neg h4]; exact x.found⟩
def turnFor : Stmt := stmtAt 11 lawParts.2.1
def kFor : Stmt := stmtAt 2 (forBody turnFor)

theorem priv_turn {w : World} {s : Shared} {p : Program} {loose : List Str} {mg mb : Str → Option Value} {h₀ : Heap} {L fa Rn Fd Kn : Addr} {cd : Value} {k : Int} {kt tr ts tn : Tok} {ring : List Nat} {name : Str} {m : Str → Option Value} {vs : List Value} {ns : List Int} {ek' : Nat} {rest : List (Addr × Obj)} {sc : Scope} {bd : List Stmt} {Q : Flow → Shared → Prop}
    (hst : bd = forBody kFor) (hsc : sc = lawParts.2.2) (X : (hd.heap_39 w.params).In h₀) (T : TopRead p loose mg mb h₀) (M : MN ring Rn Fd tr ts m) (hm1 : m (Str.ofString "name") = some (.str name tn)) (hm2 : m (Str.ofString "kinds") = some (.ref Kn))
    (F : Fr h₀ L s.heap (fun y => if y = Str.ofString "k" then some (.int k kt) else m y)) (N : News h₀ L s.heap ((Kn, W.listOf vs.toArray ek') :: rest)) (off : ∀ p ∈ rest, p.1 ≠ Kn) (k0 : 1 ≤ k) (k1 : k ≤ 50) (hn : name.length ≤ 50) (hI : IntsAre vs ns) (hl : ns.length ≤ 50)
    (h : ∀ h' tk m' vs' ek'', MN ring Rn Fd tr ts m' → m' (Str.ofString "name") = some (.str name tn) → m' (Str.ofString "kinds") = some (.ref Kn) → Fr h₀ L h' m' →
      News h₀ L h' ((Kn, W.listOf vs'.toArray ek'') :: rest) → IntsAre vs' (ns ++ [b2i (privS (Txt.slice name (some 1) (some k)) name)]) → Q .next ⟨h', s.gens, s.drawn, tk, s.os⟩) :
    wpAny (model pg w) (callerA.deeper (envOf (Str.ofString "law") sc L fa cd)) (execs bd (envOf (Str.ofString "law") sc L fa cd)) Q (fun _ _ => False) s := by
  (with_unfolding_all conv at hst => rhs; whnf)
  (with_unfolding_all conv at hsc => rhs; whnf)
  subst hst hsc
  have M2 := M.put (y := Str.ofString "k") (v := some (.int k kt)) (by decide +kernel) (by decide +kernel) (by decide +kernel) (by decide +kernel)
  have hk : ∀ p ∈ [(Str.ofString "k", Value.int k kt), (Str.ofString "name", Value.str name tn), (Str.ofString "kinds", Value.ref Kn)], (fun y => if y = Str.ofString "k" then some (.int k kt) else m y) p.1 = some p.2 := by
    intro p hp
    simp only [List.mem_cons, List.not_mem_nil, or_false] at hp
    rcases hp with rfl | rfl | rfl
    · rfl
    · exact (if_neg (show Str.ofString "name" ≠ Str.ofString "k" by decide +kernel)).trans hm1
    · exact (if_neg (show Str.ofString "kinds" ≠ Str.ofString "k" by decide +kernel)).trans hm2
  have F2 := known _ F hk
  have eK := known_eq (m := fun y => if y = Str.ofString "k" then some (.int k kt) else m y) _ hk
  simp only [kstB] at F2 eK
  clear F
  refine stopQ ?_
  (show wpAny _ _ _ _ _ _)
  k_fold
  k_steps
  refine Stop.off ?_
  rename Fr _ _ _ _ => F8
  rename News _ _ _ _ => N8
  have sz : vs.toArray.size ≤ sizeLine := by
    have e : sizeLine = 16777216 := by decide
    rw [List.size_toArray, hI.length]; omega
  refine append_head F8 N8 off ?_ sz
  intro h' F' N'
  dsimp only
  k_steps
  refine Stop.off ?_
  rename Fr _ _ _ _ => F9
  rename News _ _ _ _ => N9
  rw [List.push_toArray] at N9
  exact h _ _ _ _ _ M2 ((if_neg (show Str.ofString "name" ≠ Str.ofString "k" by decide +kernel)).trans hm1) ((if_neg (show Str.ofString "kinds" ≠ Str.ofString "k" by decide +kernel)).trans hm2) (eK ▸ F9) N9 (IntsAre.append hI (.cons _ _ .nil))

def privL (name : Str) (n : Nat) : List Int := (List.range n).map fun (j : Nat) => b2i (privS (Txt.slice name (some 1) (some (1 + (j : Int)))) name)
theorem privL_succ (name : Str) (n : Nat) : privL name (n + 1) = privL name n ++ [b2i (privS (Txt.slice name (some 1) (some (1 + (n : Int)))) name)] := by
  unfold privL; rw [List.range_succ, List.map_append]; rfl
theorem privL_length (name : Str) (n : Nat) : (privL name n).length = n := by simp [privL]
theorem priv_loop {w : World} {s : Shared} {p : Program} {loose : List Str} {mg mb : Str → Option Value} {h₀ : Heap} {L fa Rn Fd Kn r : Addr} {cd : Value} {tr ts tn t₀ u₀ v₀ : Tok} {ring : List Nat} {name : Str} {m : Str → Option Value} {vs : List Value} {x0 : Int} {n ek' : Nat} {rest : List (Addr × Obj)} {sc : Scope} {bd : List Stmt} {Q : Flow → Shared → Prop}
    (hst : bd = forBody kFor) (hsc : sc = lawParts.2.2) (X : (hd.heap_39 w.params).In h₀) (T : TopRead p loose mg mb h₀) (M : MN ring Rn Fd tr ts m) (hm1 : m (Str.ofString "name") = some (.str name tn)) (hm2 : m (Str.ofString "kinds") = some (.ref Kn))
    (hr : IsRange s.heap r 1 ((n : Int) + 1) 1 t₀ u₀ v₀) (hn1 : n ≤ 40) (hn : name.length ≤ 50) (hI : IntsAre vs [x0])
    (F : Fr h₀ L s.heap m) (N : News h₀ L s.heap ((Kn, W.listOf vs.toArray ek') :: rest)) (off : ∀ p ∈ rest, p.1 ≠ Kn)
    (h : ∀ h' tk m' vs' ek'', MN ring Rn Fd tr ts m' → m' (Str.ofString "name") = some (.str name tn) → m' (Str.ofString "kinds") = some (.ref Kn) → Fr h₀ L h' m' →
      News h₀ L h' ((Kn, W.listOf vs'.toArray ek'') :: rest) → IntsAre vs' (x0 :: privL name n) → Q .next ⟨h', s.gens, s.drawn, tk, s.os⟩) :
    wpAny (model pg w) (callerA.deeper (envOf (Str.ofString "law") sc L fa cd)) (pyIter (.ref r)) (fun it s₂ => LoopAtV pg w (callerA.deeper (envOf (Str.ofString "law") sc L fa cd)) h₀ (envOf (Str.ofString "law") sc L fa cd) (Str.ofString "k") bd Q (fun _ _ => False) it s₂) (fun _ _ => False) s := by
  refine iterRangeS n (fun i m nx => MN ring Rn Fd tr ts m ∧ m (Str.ofString "name") = some (.str name tn) ∧ m (Str.ofString "kinds") = some (.ref Kn) ∧ ∃ (vs' : List Value) (e : Nat), nx = (Kn, W.listOf vs'.toArray e) :: rest ∧ IntsAre vs' (x0 :: privL name i))
    rfl hr (range_small (by omega) (by omega) (by omega) (by omega)) (range_size (by omega)) F N ⟨M, hm1, hm2, vs, ek', rfl, hI⟩ ?_ ?_ ?_
  · rintro i m nx ⟨_, _, _, vs', e, rfl, _⟩ p hp
    exact List.mem_map_of_mem (f := (·.1)) hp
  · rintro i t m₁ nx h₁ tk own hi ⟨M₁, e1, e2, vs', e, rfl, hvs⟩ hown F₁ N₁
    refine priv_turn (s := ⟨h₁, s.gens, s.drawn, tk, s.os⟩) (rest := rest ++ own) hst hsc X T M₁ e1 e2 F₁ N₁ ?_ (by omega) (by omega) hn hvs (by rw [List.length_cons, privL_length]; omega) ?_
    · intro p hp
      rcases List.mem_append.mp hp with hp | hp
      · exact off p hp
      · exact hown p hp Kn (.head _)
    · intro h' tk' m' vs'' e'' M' e1' e2' F' N' hvs'
      exact ⟨h', tk', m', (Kn, W.listOf vs''.toArray e'') :: rest, rfl, F', N', M', e1', e2', vs'', e'', rfl, by rw [privL_succ]; exact hvs'⟩
  · rintro m₁ nx h₁ tk ⟨M₁, e1, e2, vs', e, rfl, hvs⟩ F₁ N₁
    exact h h₁ tk m₁ vs' e M₁ e1 e2 F₁ N₁ hvs

def rowOf (name : Str) (n : Nat) : List Int := b2i (dunS name) :: privL name n ++ [b2i (sunS name)]
theorem found_turn {w : World} {s : Shared} {p : Program} {loose : List Str} {mg mb : Str → Option Value} {h₀ : Heap} {L fa Rn Fd : Addr} {cd : Value} {i : Int} {it tr ts : Tok} {ring : List Nat} {m : Str → Option Value} {rl : List RowS} {ef : Nat} {rest : List (Addr × Obj)} {sc : Scope} {bd : List Stmt} {Q : Flow → Shared → Prop}
    (hst : bd = forBody turnFor) (hsc : sc = lawParts.2.2) (X : (hd.heap_39 w.params).In h₀) (T : TopRead p loose mg mb h₀) (M : MN ring Rn Fd tr ts m) (r1 : ring.length ≤ 13) (i0 : 0 ≤ i) (i1 : i ≤ 13) (hl : rl.length ≤ 13)
    (F : Fr h₀ L s.heap (fun y => if y = Str.ofString "turn" then some (.int i it) else m y)) (N : News h₀ L s.heap ((Fd, W.listOf (rl.map rowRef).toArray ef) :: rest)) (off : ∀ p ∈ rest, p.1 ≠ Fd)
    (h : ∀ h' tk m' r' ef', MN ring Rn Fd tr ts m' → Fr h₀ L h' m' → News h₀ L h' (((Fd, W.listOf ((rl ++ [r']).map rowRef).toArray ef') :: rest) ++ [rowObj r']) → r'.a ≠ Fd →
      IntsAre r'.vs (rowOf (Txt.slice (S ring) (some i) none ++ Txt.slice (S ring) none (some i)) ring.length) → Q .next ⟨h', s.gens, s.drawn, tk, s.os⟩) :
    wpAny (model pg w) (callerA.deeper (envOf (Str.ofString "law") sc L fa cd)) (execs bd (envOf (Str.ofString "law") sc L fa cd)) Q (fun _ _ => False) s := by
  (with_unfolding_all conv at hst => rhs; whnf)
  (with_unfolding_all conv at hsc => rhs; whnf)
  subst hst hsc
  have M2 := M.put (y := Str.ofString "turn") (v := some (.int i it)) (by decide +kernel) (by decide +kernel) (by decide +kernel) (by decide +kernel)
  have hk : ∀ p ∈ [(Str.ofString "turn", Value.int i it), (Str.ofString "ring", Value.str (S ring) tr), (Str.ofString "size", Value.int ring.length ts), (Str.ofString "found", Value.ref Fd), (Str.ofString "runs", Value.ref Rn)], (fun y => if y = Str.ofString "turn" then some (.int i it) else m y) p.1 = some p.2 := by
    intro p hp
    simp only [List.mem_cons, List.not_mem_nil, or_false] at hp
    rcases hp with rfl | rfl | rfl | rfl | rfl
    · rfl
    · exact M2.fring
    · exact M2.fsize
    · exact M2.found
    · exact M2.runs
  have F2 := known _ F hk
  have eK := known_eq (m := fun y => if y = Str.ofString "turn" then some (.int i it) else m y) _ hk
  simp only [kstB] at F2 eK
  clear F
  have hS : (S ring).length ≤ 13 := by rw [S_len]; exact r1
  refine stopQ ?_
  (show wpAny _ _ _ _ _ _)
  k_fold
  k_steps
  rename_i tN kN aN hN1 tkN2 hN3 tkN4 hN5 tkN6 tD Kn hK lK h1 F1 N1 tk1 hh9 tk3 t1 u1 v1 R9 F9 N9 K9
  refine Stop.off ?_
  have offK : ∀ p ∈ (Fd, W.listOf (rl.map rowRef).toArray ef) :: rest, p.1 ≠ Kn := by
    intro p hp
    rcases List.mem_cons.mp hp with rfl | hp
    · exact Nat.ne_of_lt lK.1
    · exact Nat.ne_of_lt (allLt_mem lK.2 p hp)
  have hnl : (Txt.slice (S ring) (some i) none ++ Txt.slice (S ring) none (some i)).length ≤ 50 := by omega
  refine priv_loop (ring := ring) (tr := tr) (ts := ts) (Fd := Fd) (Rn := Rn) (tn := tN) (name := Txt.slice (S ring) (some i) none ++ Txt.slice (S ring) none (some i)) (x0 := b2i (dunS (Txt.slice (S ring) (some i) none ++ Txt.slice (S ring) none (some i)))) ?hst ?hsc X T ?hM ?hm1 ?hm2 R9 (by omega) hnl (.cons _ _ .nil) F9 N9 offK ?_
  case hst => with_unfolding_all rfl
  case hsc => with_unfolding_all rfl
  case hM => exact ((eK.symm ▸ M2 : MN ring Rn Fd tr ts _).put (y := Str.ofString "name") (by decide +kernel) (by decide +kernel) (by decide +kernel) (by decide +kernel)).put (y := Str.ofString "kinds") (by decide +kernel) (by decide +kernel) (by decide +kernel) (by decide +kernel)
  case hm1 => rfl
  case hm2 => rfl
  clear F1 N1 F9 N9
  intro h' tk m' vs' ek'' M' e1 e2 F' N' hvs
  dsimp only
  have hk' : ∀ p ∈ [(Str.ofString "name", Value.str (Txt.slice (S ring) (some i) none ++ Txt.slice (S ring) none (some i)) tN), (Str.ofString "kinds", Value.ref Kn), (Str.ofString "found", Value.ref Fd)], m' p.1 = some p.2 := by
    intro p hp
    simp only [List.mem_cons, List.not_mem_nil, or_false] at hp
    rcases hp with rfl | rfl | rfl
    · exact e1
    · exact e2
    · exact M'.found
  replace F' := known _ F' hk'
  have eK' := known_eq _ hk'
  simp only [kstB] at F' eK'
  k_steps
  rename_i tS
  refine Stop.off ?_
  rename Fr _ _ _ _ => F8
  rename News _ _ _ _ => N8
  have sz : vs'.toArray.size ≤ sizeLine := by
    have e : sizeLine = 16777216 := by decide
    rw [List.size_toArray, hvs.length, List.length_cons, privL_length]; omega
  refine append_head F8 N8 offK ?_ sz
  intro h' F' N'
  clear F8 N8
  dsimp only
  k_steps
  refine Stop.off ?_
  rename Fr _ _ _ _ => F8
  rename News _ _ _ _ => N8
  rw [List.push_toArray] at N8
  have sz2 : (rl.map rowRef).toArray.size ≤ sizeLine := by
    have e : sizeLine = 16777216 := by decide
    rw [List.size_toArray, List.length_map]; omega
  have N10 := fun p hp => N8 p (List.mem_cons.mpr ((List.mem_cons.mp ((List.Perm.swap _ _ _).subset hp)).imp id id))
  refine append_head F8 N10 ?_ ?_ sz2
  · intro p hp
    rcases List.mem_cons.mp hp with rfl | hp
    · exact Ne.symm (offK _ (.head _))
    · exact off p hp
  intro h' F' N'
  clear F8 N8 N10
  dsimp only
  k_steps
  refine Stop.off ?_
  rename Fr _ _ _ _ => F9
  rename News _ _ _ _ => N9
  rw [List.push_toArray] at N9
  refine h _ _ _ ⟨Kn, vs' ++ [.int (b2i (sunS (Txt.slice (S ring) (some i) none ++ Txt.slice (S ring) none (some i)))) tS], ek'' + 1⟩ (ef + 1) M' (eK' ▸ F9) ?_ ?_ ?_
  · intro p hp
    refine N9 p ?_
    rw [List.map_append] at hp
    simp only [List.cons_append, List.mem_cons, List.mem_append, List.not_mem_nil, or_false] at hp ⊢
    rcases hp with h | h | h
    · exact .inl h
    · exact .inr (.inr h)
    · exact .inr (.inl h)
  · exact Ne.symm (offK _ (.head _))
  · rw [rowOf]
    exact IntsAre.append hvs (.cons _ _ .nil)

def rowsF (ring : List Nat) (i : Nat) : List (List Int) := (List.range i).map fun (j : Nat) => rowOf (Txt.slice (S ring) (some (j : Int)) none ++ Txt.slice (S ring) none (some (j : Int))) ring.length
theorem rowsF_succ (ring : List Nat) (i : Nat) : rowsF ring (i + 1) = rowsF ring i ++ [rowOf (Txt.slice (S ring) (some (i : Int)) none ++ Txt.slice (S ring) none (some (i : Int))) ring.length] := by
  unfold rowsF; rw [List.range_succ, List.map_append]; rfl
theorem rowsF_length (ring : List Nat) (i : Nat) : (rowsF ring i).length = i := by simp [rowsF]
/-- rows that stand, in order -/
def RowsAre (rl : List RowS) (rows : List (List Int)) : Prop := rl.length = rows.length ∧ ∀ (i : Nat) r row, rl[i]? = some r → rows[i]? = some row → IntsAre r.vs row
theorem RowsAre.snoc {rl : List RowS} {rows : List (List Int)} (x : RowsAre rl rows) {r : RowS} {row : List Int} (h : IntsAre r.vs row) : RowsAre (rl ++ [r]) (rows ++ [row]) := by
  refine ⟨by simp [x.1], fun i q row' h1 h2 => ?_⟩
  by_cases hi : i < rl.length
  · rw [List.getElem?_append_left hi] at h1
    rw [List.getElem?_append_left (by rw [← x.1]; exact hi)] at h2
    exact x.2 i q row' h1 h2
  · have e : i = rl.length := by
      have := (List.getElem?_eq_some_iff.mp h1).1
      rw [List.length_append] at this
      simp only [List.length_cons, List.length_nil] at this
      omega
    subst e
    rw [List.getElem?_concat_length] at h1
    rw [x.1, List.getElem?_concat_length] at h2
    cases h1; cases h2
    exact h
theorem found_loop {w : World} {s : Shared} {p : Program} {loose : List Str} {mg mb : Str → Option Value} {h₀ : Heap} {L fa Rn Fd r : Addr} {cd : Value} {tr ts t₀ u₀ v₀ : Tok} {ring : List Nat} {m : Str → Option Value} {rest : List (Addr × Obj)} {sc : Scope} {bd : List Stmt} {Q : Flow → Shared → Prop}
    (hst : bd = forBody turnFor) (hsc : sc = lawParts.2.2) (X : (hd.heap_39 w.params).In h₀) (T : TopRead p loose mg mb h₀) (M : MN ring Rn Fd tr ts m) (r1 : ring.length ≤ 13)
    (hr : IsRange s.heap r 0 (ring.length : Int) 1 t₀ u₀ v₀) (hno : NoIter rest)
    (F : Fr h₀ L s.heap m) (N : News h₀ L s.heap ((Fd, W.listOf (([] : List RowS).map rowRef).toArray 0) :: rest)) (off : ∀ p ∈ rest, p.1 ≠ Fd)
    (h : ∀ h' tk m' rl ef, MN ring Rn Fd tr ts m' → Fr h₀ L h' m' → News h₀ L h' ((Fd, W.listOf (rl.map rowRef).toArray ef) :: (rl.map rowObj ++ rest)) → RowsAre rl (rowsF ring ring.length) → Q .next ⟨h', s.gens, s.drawn, tk, s.os⟩) :
    wpAny (model pg w) (callerA.deeper (envOf (Str.ofString "law") sc L fa cd)) (pyIter (.ref r)) (fun it s₂ => LoopAtV pg w (callerA.deeper (envOf (Str.ofString "law") sc L fa cd)) h₀ (envOf (Str.ofString "law") sc L fa cd) (Str.ofString "turn") bd Q (fun _ _ => False) it s₂) (fun _ _ => False) s := by
  refine iterRange ring.length (fun i m nx => MN ring Rn Fd tr ts m ∧ ∃ (rl : List RowS) (ef : Nat), nx = (Fd, W.listOf (rl.map rowRef).toArray ef) :: (rl.map rowObj ++ rest) ∧ RowsAre rl (rowsF ring i) ∧ ∀ q ∈ rl, q.a ≠ Fd)
    rfl hr (range_small (by omega) (by omega) (by omega) (by omega)) (range_size (by omega)) F N ⟨M, [], 0, rfl, ⟨rfl, fun i r row h => by simp at h⟩, by simp⟩ ?_ ?_ ?_
  · rintro i m nx ⟨_, rl, ef, rfl, _⟩ p hp
    simp only [List.mem_cons, List.mem_append, List.mem_map] at hp
    rcases hp with rfl | ⟨q, _, rfl⟩ | hp
    · exact ⟨by simp, by simp⟩
    · exact ⟨by simp [rowObj], by simp [rowObj]⟩
    · exact hno p hp
  · rintro i t m₁ nx h₁ tk own hi ⟨M₁, rl, ef, rfl, hrl, hne⟩ hown F₁ N₁
    rw [Int.zero_add] at F₁
    have hlen : rl.length = i := by rw [hrl.1, rowsF_length]
    refine found_turn (s := ⟨h₁, s.gens, s.drawn, tk, s.os⟩) (rest := rl.map rowObj ++ rest ++ own) hst hsc X T M₁ r1 (by omega) (by omega) (by omega) F₁ N₁ ?_ ?_
    · intro p hp
      rcases List.mem_append.mp hp with hp | hp
      · rcases List.mem_append.mp hp with hp | hp
        · obtain ⟨q, hq, rfl⟩ := List.mem_map.mp hp
          exact hne q hq
        · exact off p hp
      · exact hown p hp Fd (.head _)
    · intro h' tk' m' r' ef' M' F' N' hne' hI
      refine ⟨h', tk', m', (Fd, W.listOf ((rl ++ [r']).map rowRef).toArray ef') :: ((rl ++ [r']).map rowObj ++ rest), rfl, F', ?_, M', rl ++ [r'], ef', rfl, ?_, ?_⟩
      · intro p hp
        refine N' p ?_
        simp only [List.cons_append, List.mem_cons, List.mem_append, List.map_append, List.map_cons, List.map_nil, List.not_mem_nil, or_false] at hp ⊢
        rcases hp with h | ((h | h) | h) | h
        · exact .inl h
        · exact .inr (.inl (.inl (.inl h)))
        · exact .inr (.inr h)
        · exact .inr (.inl (.inl (.inr h)))
        · exact .inr (.inl (.inr h))
      · rw [rowsF_succ]; exact hrl.snoc hI
      · intro q hq
        rcases List.mem_append.mp hq with hq | hq
        · exact hne q hq
        · rw [List.mem_singleton.mp hq]; exact hne'
  · rintro m₁ nx h₁ tk ⟨M₁, rl, ef, rfl, hrl, _⟩ F₁ N₁
    exact h h₁ tk m₁ rl ef M₁ F₁ N₁ hrl
end
section
set_option maxHeartbeats 8000000
theorem fillLv (w : World) (s : Shared) : (PySem.Challenge.rw_re0017_01.Holds ∧ (Mine.hd.heap_39 w.params).In s.heap) → True := by k_fill; intro _; trivial
local macro_rules | `(tactic| walk_at "subscriptTail Name Constant ref int") => `(tactic| (k_here; k_dflt (refine' my_item ?N ?m ?a ?b ?x ?_ ?s; (case N => k_asm); (case m => k_mem); (case x => assumption); (case a => omega); (case b => omega); (case s => with_unfolding_all rfl); k_whole)))
local macro_rules | `(tactic| walk_at "eval ListComp") => `(tactic| (k_here; (k_dflt (refine LCp.ListComp_P (F₀ := by k_asm) (by with_unfolding_all rfl) (by decide) (by rfl) (by decide) (by rfl) (by rfl) (by decide +kernel) ?_))))
local macro_rules | `(tactic| walk_at "SrcLP") => `(tactic| (k_here; refine Stop.on ?_))
theorem ML.known {ring : List Nat} {Wd Gp Rn : Addr} {tr ts tn : Tok} {m : Str → Option Value} (x : ML ring Wd Gp Rn tr ts tn m) :
    kstB m [(Str.ofString "ring", .str (S ring) tr), (Str.ofString "size", .int ring.length ts), (Str.ofString "words", .ref Wd), (Str.ofString "gaps", .ref Gp), (Str.ofString "lineno", .int (1 + nls ring) tn), (Str.ofString "runs", .ref Rn)] = m := by
  refine known_eq _ fun p hp => ?_
  simp only [List.mem_cons, List.not_mem_nil, or_false] at hp
  rcases hp with rfl | rfl | rfl | rfl | rfl | rfl
  · exact x.fring
  · exact x.fsize
  · exact x.words
  · exact x.gaps
  · exact x.lineno
  · exact x.runs
structure PlainOk (ring : List Nat) (qs : List Pr) : Prop where
  ok : TOk ring.length qs
  ne : qs ≠ []
  lq : qs.length ≤ 50
  eq : rowsF ring ring.length = toldP (qs.map fun q => (q.a, q.b)) ring.length
  bare : ∀ k, k ≤ ring.length → bareL (k + 1) = (List.replicate (3 * (k : Int) + 3).toNat [(0 : Int)]).flatten

local macro_rules | `(tactic| walk_at "call builtin:max") => `(tactic| (k_here; refine Stop.on ?_))
local macro_rules | `(tactic| walk_at "call ref") => `(tactic| (k_here; refine Stop.on ?_))
theorem prInts : ∀ qs : List Pr, IntsAre (qs.map fun q => Value.int q.b q.u) (qs.map fun q => q.b)
  | [] => .nil
  | _ :: r => .cons _ _ (prInts r)
theorem news_fresh {h₀ h h' : Heap} {L a : Addr} {m : Str → Option Value} {o : Obj} {news : List (Addr × Obj)} (F : Fr h₀ L h m) (hf : h.get? a = none) (N : News h₀ L h' news) (hg : h'.get? a = some o) : News h₀ L h' ((a, o) :: news) := fun p hp => by
  rcases List.mem_cons.mp hp with rfl | hp
  · refine ⟨hg, ?_, ?_⟩
    · rintro e
      obtain ⟨oL, _, _, hL, _⟩ := F.ns
      have e' : a = L := e
      rw [← e', hf] at hL; cases hL
    · cases q : h₀.get? a with
      | none => rfl
      | some o => have := F.keep _ _ q; rw [hf] at this; cases this
  · exact N p hp
theorem RowsAre.tail {r : RowS} {rl : List RowS} {row : List Int} {rows : List (List Int)} (x : RowsAre (r :: rl) (row :: rows)) : RowsAre rl rows :=
  ⟨by have := x.1; simpa using this, fun i q row' h1 h2 => x.2 (i + 1) q row' (by simpa using h1) (by simpa using h2)⟩
def pyRows (rows : List (List Int)) : List PyData := rows.map fun row => PyData.list (row.map PyData.int)
theorem readsAll_rows {h : Heap} : ∀ (rl : List RowS) (rows : List (List Int)), RowsAre rl rows → (∀ r ∈ rl, h.get? r.a = some (W.listOf r.vs.toArray r.ep)) → ∃ as, ReadsAll h (rl.map rowRef) (pyRows rows) as
  | [], [], _, _ => ⟨_, .nil⟩
  | [], _ :: _, x, _ => by have := x.1; simp at this
  | _ :: _, [], x, _ => by have := x.1; simp at this
  | r :: rl, row :: rows, x, hg => by
    obtain ⟨as, ha⟩ := readsAll_rows rl rows x.tail fun q hq => hg q (.tail _ hq)
    exact ⟨_, .cons (reads_of_ints ⟨_, hg r (.head _), rfl, _, rfl⟩ (x.2 0 r row rfl rfl)) ha⟩
theorem canLay_rows : ∀ rows : List (List Int), PyData.canLayAll0 (pyRows rows) = true
  | [] => by simp [pyRows, PyData.canLayAll0]
  | row :: rows => by
    have ih := canLay_rows rows
    unfold pyRows at ih ⊢
    simp only [List.map_cons, PyData.canLayAll0, PyData.canLay0, canLayAll0_ints, ih, Bool.and_self]
theorem depth_rows : ∀ rows : List (List Int), PyData.depthAll (pyRows rows) ≤ 2
  | [] => by simp [pyRows, PyData.depthAll]
  | row :: rows => by
    have ih := depth_rows rows
    have h1 := PySem.W.depthAll_ints row
    unfold pyRows at ih ⊢
    simp only [List.map_cons, PyData.depthAll, PyData.depth]
    omega
theorem shaped_rows (rows : List (List Int)) : SeqAt.shaped (.list (pyRows rows)) = true := by
  have h1 := depth_rows rows
  have h2 : PyData.depth (.list (pyRows rows)) ≤ 64 := by simp only [PyData.depth]; omega
  show (PyData.canLay0 (.list (pyRows rows)) && decide (PyData.depth (.list (pyRows rows)) ≤ 64)) = true
  rw [Bool.and_eq_true]
  exact ⟨by simp only [PyData.canLay0]; exact canLay_rows rows, decide_eq_true h2⟩
theorem eqv_rows : ∀ rows : List (List Int), PyData.eqvAll (pyRows rows) (pyRows rows) = true
  | [] => by simp [pyRows, PyData.eqvAll]
  | row :: rows => by
    have ih := eqv_rows rows
    unfold pyRows at ih ⊢
    simp only [List.map_cons, PyData.eqvAll, PyData.eqv, ked_eqvAll, ih, decide_true, Bool.and_self]
theorem eq_rows {prog : Program} {w : World} {A : Around} {E : Value → Shared → Prop} {s : Shared} {a b : Addr} {rl ql : List RowS} {ea eb : Nat} {rows : List (List Int)} {Q : Value → Shared → Prop}
    (ha : s.heap.get? a = some (W.listOf (rl.map rowRef).toArray ea)) (hra : RowsAre rl rows) (hga : ∀ r ∈ rl, s.heap.get? r.a = some (W.listOf r.vs.toArray r.ep))
    (hb : s.heap.get? b = some (W.listOf (ql.map rowRef).toArray eb)) (hrb : RowsAre ql rows) (hgb : ∀ r ∈ ql, s.heap.get? r.a = some (W.listOf r.vs.toArray r.ep)) (hu : A.units + 64 < cLine)
    (h : Q (.bool true) s) : wpAny (model prog w) A (compareOp .Eq (.ref a) (.ref b)) Q E s := by
  obtain ⟨as, r1⟩ := readsAll_rows rl rows hra hga
  obtain ⟨bs, r2⟩ := readsAll_rows ql rows hrb hgb
  refine eq_dataH (da := .list (pyRows rows)) (db := .list (pyRows rows)) (Reads.list ha rfl rfl (by simpa using r1)) (Reads.list hb rfl rfl (by simpa using r2)) (shaped_rows rows) (shaped_rows rows) hu ?_
  have e : PyData.eqv (.list (pyRows rows)) (.list (pyRows rows)) = true := by simp only [PyData.eqv]; exact eqv_rows rows
  rw [e]; exact h
theorem cnt_nl : ∀ r : List Nat, cnt 10 r = nls r
  | [] => rfl
  | c :: r => by rw [nls_cons, ← cnt_nl r, cnt_cons]; rfl
theorem count_nl (r : List Nat) : Txt.count (S r) (Str.ofString "\n") = nls r := by
  have e : Str.ofString "\n" = ⟨#[10]⟩ := by decide +kernel
  rw [e, count_is]
  have e2 : (S r).cps.toList = r := by simp [S]
  rw [e2]
  exact cnt_nl r
theorem law_tail {w : World} {s : Shared} {h₀ : Heap} {L fa Wd Gp Rn : Addr} {cd : Value} {mg mb : Str → Option Value} {p : Program} {loose : List Str} {mean : ExcName → Option Value} {ring : List Nat} {tr ts tn ta tg0 : Tok} {qs : List Pr} {er eg ew : Nat} {gs ws : List Value} {ps : Array Value} {m : Str → Option Value} {sc : Scope} {bd : List Stmt}
    (hst : bd = lawParts.2.1.drop 7) (hsc : sc = lawParts.2.2) (B : Below callerA h₀ [] h₀) (X : (hd.heap_39 w.params).In h₀) (T : Top p loose mean mg mb h₀)
    (ML' : ML ring Wd Gp Rn tr ts tn m) (hm : m (Str.ofString "again") = some (.str (S (ring ++ [46])) ta)) (hx1 : gs.toArray.toList[(0 : Int).toNat]? = some (.int 1 tg0)) (r0 : 8 ≤ ring.length) (r1 : ring.length ≤ 13) (P : PlainOk ring qs)
    (F : Fr h₀ L s.heap m) (N : News h₀ L s.heap ((Rn, W.listOf (qs.map prRef).toArray er) :: (Gp, W.listOf gs.toArray eg) :: (Wd, W.listOf ws.toArray ew) :: (93, tabObj ps) :: qs.map prObj)) :
    wpAny (model pg w) (callerA.deeper (envOf (Str.ofString "law") sc L fa cd)) (execs bd (envOf (Str.ofString "law") sc L fa cd))
      (fun fl s' => ∃ h' tk m' nx ps, fl = .ret (.bool true) ∧ s' = ⟨h', s.gens, s.drawn, tk, s.os⟩ ∧ Fr h₀ L h' m' ∧ News h₀ L h' ((93, tabObj ps) :: nx)) (fun _ _ => False) s := by
  (with_unfolding_all conv at hst => rhs; whnf)
  (with_unfolding_all conv at hsc => rhs; whnf)
  subst hst hsc
  replace F := known [(Str.ofString "again", .str (S (ring ++ [46])) ta)] F (by
      intro p hp
      simp only [List.mem_cons, List.not_mem_nil, or_false] at hp
      rcases hp with rfl
      exact hm)
  rw [← ML'.known] at F
  simp only [kstB] at F
  have hS : (S ring).length ≤ 50 := by rw [S_len]; omega
  refine stopQ ?_
  (show wpAny _ _ _ _ _ _)
  k_fold
  k_steps
  · exfalso
    rename_i hc
    have e : S (ring ++ [46]) = S ring ++ Str.ofString "." := by rw [S_app]; rfl
    rw [e] at hc
    exact absurd hc (by simp)
  · exfalso
    have hc := count_nl ring
    rename_i hc2 _
    exact hc2 (by rw [← hc])
  refine Stop.off ?_
  rename Fr _ _ _ _ => F1
  rename News _ _ _ _ => N1
  have hsz : (qs.map prRef).toArray.size ≤ sizeLine := by
    have e : sizeLine = 16777216 := by decide
    rw [List.size_toArray, List.length_map]
    have := P.lq
    omega
  refine LCp.SrcLP.ledger rfl F1 N1 (.head _) hsz ?_
  intro g
  have hn0 : (qs.map prRef).toArray.size = qs.length := by rw [List.size_toArray, List.length_map]
  rw [hn0]
  suffices H : ∀ k i, i + k = qs.length → LCp.CompRestP _ _ _ _ _ _ _ _ _ _ _ _ _ _ _ _ k i ((qs.take i).map fun q => Value.int q.b q.u) _ from H qs.length 0 (by omega)
  intro k
  induction k with
  | zero =>
    intro i hi
    refine LCp.CompRestP.zero ?_
    rw [show i = qs.length by omega, List.take_length]
    intro D h9 tk9 F9 N9 o9
    have hints := prInts qs
    k_steps
    refine Stop.off ?_
    rename Fr _ _ _ _ => F1
    rename News _ _ _ _ => N1
    refine max_list_N rfl F1 N1 ⟨_, (N1 _ (.head _)).1, rfl, _, rfl⟩ hints (by rw [List.length_map]; exact List.length_pos_iff.mpr P.ne) ?_
    intro h8 M' tM tk8 F8 N8 hM1 hM2
    obtain ⟨q, hqq, hqM⟩ := List.mem_map.mp hM1
    obtain ⟨c1, c2, c3, c4⟩ := P.ok.b q hqq
    obtain ⟨M, rfl⟩ := Int.eq_ofNat_of_zero_le (show 0 ≤ M' by omega)
    have hMr : M ≤ ring.length := by omega
    clear F1 N1
    k_steps
    refine Stop.off ?_
    rename Fr _ _ _ _ => F1
    rename News _ _ _ _ => N1
    refine call_by (A' := A1) F1 N1 rfl (Nat.le_of_ble_eq_true rfl) (Nat.le_of_ble_eq_true rfl) rfl rfl (bare_spec (n := M) (X.keeps F1.keep) ((topRead_of T).keeps F1.keep) (by omega)) ?_
    rintro x h7 tk7 ⟨a7, vs7, ep7, rfl, hf7, hg7, hi7⟩ F7 N7
    replace N7 := news_fresh F1 hf7 N7 hg7
    clear F1 N1
    rw [P.bare M hMr] at hi7
    k_steps
    · refine Stop.off ?_
      rename_i lF h6 hl6 h5 F6 N6 tk6 hh9 tk3 t1 u1 v1 R9 F9 N9 K9
      have N10 : News h₀ L hh9 ((lF, W.listOf (([] : List RowS).map rowRef).toArray 0) :: (Rn, W.listOf (qs.map prRef).toArray er) :: (93, tabObj ps) :: qs.map prObj) := fun p hp => N9 p (by
        simp only [List.mem_cons] at hp ⊢
        rcases hp with h | h | h | h
        · exact .inl h
        · exact .inr (.inr (.inr (.inr (.inr (.inl h)))))
        · exact .inr (.inr (.inr (.inr (.inr (.inr (.inr (.inr (.inl h))))))))
        · exact .inr (.inr (.inr (.inr (.inr (.inr (.inr (.inr (.inr h)))))))))
      refine found_loop (ring := ring) (Rn := Rn) (Fd := lF) (tr := tr) (ts := ts) ?hst ?hsc X (topRead_of T) ?hM r1 R9 ?hno F9 N10 ?off ?_
      case hst => with_unfolding_all rfl
      case hsc => with_unfolding_all rfl
      case hM => exact ⟨rfl, rfl, rfl, rfl⟩
      case hno =>
        intro p hp
        simp only [List.mem_cons, List.mem_map] at hp
        rcases hp with rfl | rfl | ⟨q, _, rfl⟩
        · exact ⟨by simp, by simp⟩
        · exact ⟨by simp, by simp⟩
        · exact ⟨by simp [prObj], by simp [prObj]⟩
      case off =>
        intro p hp
        simp only [List.mem_cons] at hp
        rcases hp with rfl | rfl | hp
        · exact Nat.ne_of_lt hl6.2.2.2.2.1
        · exact Nat.ne_of_lt hl6.2.2.2.2.2.2.2.1
        · exact Nat.ne_of_lt (allLt_mem hl6.2.2.2.2.2.2.2.2 p hp)
      clear F6 N6 F9 N9 N10
      intro h' tk m' rl ef M' F' N' hrl
      dsimp only
      replace F' := known [(Str.ofString "found", .ref lF), (Str.ofString "runs", .ref Rn), (Str.ofString "size", .int ring.length ts)] F' (by
        intro p hp
        simp only [List.mem_cons, List.not_mem_nil, or_false] at hp
        rcases hp with rfl | rfl | rfl
        · exact M'.found
        · exact M'.runs
        · exact M'.fsize)
      simp only [kstB] at F'
      k_steps
      refine Stop.off ?_
      rename Fr _ _ _ _ => F1
      rename News _ _ _ _ => N1
      have hRn := N1 (Rn, W.listOf (qs.map prRef).toArray er) (.tail _ (List.mem_append_right _ (.head _)))
      refine call_by (A' := A1) F1 N1 rfl (Nat.le_of_ble_eq_true rfl) (Nat.le_of_ble_eq_true rfl) rfl rfl (told_spec (qs := qs) (X.keeps F1.keep) ((topRead_of T).keeps F1.keep) ⟨_, hRn.1, rfl, _, rfl⟩ (fun q hq => ⟨_, (N1 (prObj q) (.tail _ (List.mem_append_right _ (.tail _ (.tail _ (List.mem_map_of_mem hq)))))).1, rfl, _, rfl⟩) P.ok) ?_
      rintro x h4 tk4 ⟨D4, ad4, rl4, ep4, rfl, hf4, hg4, J4, hr4⟩ F4 N4
      clear F1
      have hrl4 : rl4.map rowRef = ad4.map Value.ref := by rw [← J4.ad, List.map_map]; rfl
      rw [← hrl4] at hg4
      rw [← P.eq] at J4
      refine eq_rows (N4 _ (.head _)).1 hrl (fun r hr => (N4 (rowObj r) (.tail _ (List.mem_append_left _ (List.mem_map_of_mem hr)))).1) hg4 ⟨J4.len.symm, J4.vals⟩ (fun r hr => (hr4 r hr).1) (by units_room) ?_
      refine Stop.off ?_
      exact ⟨_, _, _, qs.map prObj, ps, rfl, rfl, F4, fun p hp => N4 p (.tail _ (List.mem_append_right _ (.tail _ hp)))⟩
  | succ k ih =>
    intro i hi
    have hlt : i < qs.length := by omega
    have hq := List.getElem?_eq_getElem hlt
    generalize qs[i] = q at hq
    have hnew := ih (i + 1) (by omega)
    rw [List.take_add_one, hq] at hnew
    refine LCp.CompRestP.succ fun v hv => ⟨q.T, (prObj q).2, .int q.a q.t, .int q.b q.u, 0, ?_, ?_, rfl, rfl, ?_⟩
    · have : (qs.map prRef)[i]? = some v := by simpa using hv
      rw [List.getElem?_map, hq] at this
      exact (Option.some.inj this).symm
    · exact .tail _ (.tail _ (.tail _ (.tail _ (List.mem_map_of_mem (f := prObj) (List.mem_of_getElem? hq)))))
    · intro I oI C oC D m₂ h9 tk9 E' hC hx hx2 F9 N9 off ne
      refine LCgL.ld_own N9 (.tail _ (.head _)) hC hx2 ?_
      refine LCg.CompEnd.intro F9 N9 _ (fun p hp => hp) off (.inr ⟨_, .head _, rfl, _, rfl⟩) ?_
      simpa using hnew
end
section
set_option maxHeartbeats 1000000
theorem SL (l : List Nat) : (S l).cps.toList = l := by simp [S]
theorem slice_pl {l : List Nat} {i j : Nat} (h : i ≤ j) (hj : j ≤ l.length) : Txt.slice (S l) (some (i : Int)) (some (j : Int)) = S ((l.drop i).take (j - i)) := by
  show StrLaws.sliceText (S l) (some (i : Int)) (some (j : Int)) = _
  rw [StrLaws.sliceText_plain ⟨by omega, by omega, by rw [SL]; omega⟩, SL, show ((i : Int)).toNat = i by omega, show ((j : Int) - (i : Int)).toNat = j - i by omega]
  rfl
theorem slice_to {l : List Nat} {j : Nat} (hj : j ≤ l.length) : Txt.slice (S l) none (some (j : Int)) = S (l.take j) := by
  show StrLaws.sliceText (S l) none (some (j : Int)) = _
  rw [StrLaws.sliceText_to ⟨by omega, by rw [SL]; omega⟩, SL, show ((j : Int) - 0).toNat = j by omega]
  rfl
theorem slice_from {l : List Nat} {i : Nat} (hi : i ≤ l.length) : Txt.slice (S l) (some (i : Int)) none = S (l.drop i) := by
  show StrLaws.sliceText (S l) (some (i : Int)) none = _
  rw [StrLaws.sliceText_from ⟨by omega, by rw [SL]; omega⟩, SL, show ((i : Int)).toNat = i by omega, show ((l.length : Int) - (i : Int)).toNat = l.length - i by omega]
  rw [List.take_of_length_le (by rw [List.length_drop]; exact Nat.le_refl _)]
  rfl
theorem slice_neg {l : List Nat} {k : Nat} (h0 : 0 < k) (hk : k ≤ l.length) : Txt.slice (S l) (some (-(k : Int))) none = S (l.drop (l.length - k)) := by
  show StrLaws.sliceText (S l) (some (-(k : Int))) none = _
  have e : (S l).length = l.length := S_len l
  rw [StrLaws.sliceText_from_neg (by omega) (by rw [e]; omega), SL, e, show (-(k : Int) + (l.length : Int)).toNat = l.length - k by omega, show ((l.length : Int) - (-(k : Int) + (l.length : Int))).toNat = k by omega]
  rw [List.take_of_length_le (by rw [List.length_drop]; omega)]
  rfl
theorem item_pos {l : List Nat} {i : Nat} (h : i < l.length) : Txt.item (S l) (i : Int) = S [l.getD i 0] := by
  have e : (S l).length = l.length := S_len l
  have e1 : seqIndex? (i : Int) l.length = some i := by
    unfold seqIndex?
    rw [if_neg (show ¬ (i : Int) < 0 by omega)]
    dsimp only
    rw [if_pos (by simp; omega)]
    simp
  unfold Txt.item Txt.charAt
  rw [e, e1]
  simp [S, List.getD_eq_getElem?_getD]
theorem item_neg {l : List Nat} {k : Nat} (h0 : 0 < k) (hk : k ≤ l.length) : Txt.item (S l) (-(k : Int)) = S [l.getD (l.length - k) 0] := by
  have e : (S l).length = l.length := S_len l
  have e1 : seqIndex? (-(k : Int)) l.length = some (l.length - k) := by
    unfold seqIndex?
    rw [if_pos (show (-(k : Int)) < 0 by omega)]
    dsimp only
    rw [if_pos (by simp; omega)]
    congr 1
    omega
  unfold Txt.item Txt.charAt
  rw [e, e1]
  simp [S, List.getD_eq_getElem?_getD]
theorem S_inj {a b : List Nat} : S a = S b ↔ a = b := ⟨fun h => by rw [← SL a, h, SL], fun h => by rw [h]⟩
theorem S_beq (a b : List Nat) : (S a == S b) = (a == b) := by
  by_cases h : a = b
  · subst h; simp
  · rw [beq_false_of_ne h, beq_false_of_ne (fun e => h (S_inj.mp e))]
theorem e_us : Str.ofString "_" = S [95] := by decide +kernel
theorem e_us2 : Str.ofString "__" = S [95, 95] := by decide +kernel

def fl (l : List Nat) : List Bool := l.map (· == 95)
def ug (u : List Bool) (i : Nat) : Bool := u.getD i false
theorem ug_fl (l : List Nat) (i : Nat) : ug (fl l) i = (l.getD i 0 == 95) := by
  unfold ug fl
  rw [List.getD_eq_getElem?_getD, List.getD_eq_getElem?_getD, List.getElem?_map]
  cases l[i]? <;> rfl
theorem one_beq (c : Nat) : ([c] == [95]) = (c == 95) := by simp
def dunB (u : List Bool) : Bool := ug u 0 && ug u 1 && ug u (u.length - 2) && ug u (u.length - 1) && !ug u 2 && !ug u (u.length - 3)
def sunB (u : List Bool) : Bool := ug u 0 && ug u (u.length - 1) && !ug u 1 && !ug u (u.length - 2)
def privB (u : List Bool) (j : Nat) : Bool := decide (j + 3 < u.length) && ug u 0 && ug u (j + 1) && ug u (j + 2) && (!ug u (u.length - 1) || !ug u (u.length - 2))
theorem fl_length (l : List Nat) : (fl l).length = l.length := by simp [fl]
theorem take_two {l : List Nat} {i : Nat} (h : i + 2 ≤ l.length) : (l.drop i).take 2 = [l.getD i 0, l.getD (i + 1) 0] := by
  have g : ∀ (k : Nat) (hk : k < l.length), l.getD k 0 = l[k] := fun k hk => by simp [List.getD_eq_getElem?_getD, List.getElem?_eq_getElem hk]
  rw [g i (by omega), g (i + 1) (by omega), List.drop_eq_getElem_cons (show i < l.length by omega), List.drop_eq_getElem_cons (show i + 1 < l.length by omega)]
  rfl
theorem eq_comm_and (a b c : List Nat) : ((a == b) && (b == c)) = ((a == c) && (b == c)) := by
  by_cases h : b = c
  · subst h; rfl
  · rw [beq_false_of_ne h, Bool.and_false, Bool.and_false]
theorem two_beq (a b : Nat) : ([a, b] == [95, 95]) = ((a == 95) && (b == 95)) := by simp

theorem dun_fl {l : List Nat} (h : 8 ≤ l.length) : dunS (S l) = dunB (fl l) := by
  unfold dunS dunB
  rw [fl_length, ug_fl, ug_fl, ug_fl, ug_fl, ug_fl, ug_fl, S_len]
  rw [show (some (2 : Int)) = some ((2 : Nat) : Int) from rfl, slice_to (by omega), show (some (-2 : Int)) = some (-((2 : Nat) : Int)) from rfl, slice_neg (by omega) (by omega), e_us2, S_beq, S_beq]
  rw [show (2 : Int) = ((2 : Nat) : Int) from rfl, item_pos (by omega), show (-3 : Int) = -((3 : Nat) : Int) from rfl, item_neg (by omega) (by omega), e_us]
  have t1 : l.take 2 = [l.getD 0 0, l.getD 1 0] := by have := take_two (l := l) (i := 0) (by omega); simpa using this
  have t2 : l.drop (l.length - 2) = [l.getD (l.length - 2) 0, l.getD (l.length - 1) 0] := by
    have := take_two (l := l) (i := l.length - 2) (by omega)
    rw [List.take_of_length_le (by rw [List.length_drop]; omega), show l.length - 2 + 1 = l.length - 1 by omega] at this
    exact this
  rw [decide_eq_true (show 4 < l.length by omega), Bool.true_and, eq_comm_and, t1, t2, two_beq, two_beq]
  simp only [bne, S_beq, one_beq, Bool.and_assoc]
theorem sun_fl {l : List Nat} (h : 8 ≤ l.length) : sunS (S l) = sunB (fl l) := by
  unfold sunS sunB
  rw [fl_length, ug_fl, ug_fl, ug_fl, ug_fl, S_len]
  rw [show (0 : Int) = ((0 : Nat) : Int) from rfl, item_pos (by omega), show (-1 : Int) = -((1 : Nat) : Int) from rfl, item_neg (by omega) (by omega), show (1 : Int) = ((1 : Nat) : Int) from rfl, item_pos (by omega), show (-2 : Int) = -((2 : Nat) : Int) from rfl, item_neg (by omega) (by omega), e_us]
  rw [decide_eq_true (show 2 < l.length by omega), Bool.true_and]
  simp only [bne, S_beq]
  rw [eq_comm_and]
  simp only [one_beq, Bool.and_assoc]
theorem pre_fl {l : List Nat} {j : Nat} (h : j + 3 < l.length) : Txt.startswith (S l) (Str.ofString "_" ++ S ((l.drop 1).take j) ++ Str.ofString "__") = ((l.getD 0 0 == 95) && (l.getD (j + 1) 0 == 95) && (l.getD (j + 2) 0 == 95)) := by
  rw [e_us, e_us2, ← S_append, ← S_append]
  have hl : (((l.drop 1).take j)).length = j := by rw [List.length_take, List.length_drop]; omega
  have hy : ([95] ++ (l.drop 1).take j ++ [95, 95]).length = j + 3 := by rw [List.length_append, List.length_append, hl]; simp; omega
  have t : l.take (j + 3) = [l.getD 0 0] ++ (l.drop 1).take j ++ [l.getD (j + 1) 0, l.getD (j + 2) 0] := by
    have a1 : l.take 1 = [l.getD 0 0] := by
      cases l with
      | nil => simp at h
      | cons a l => rfl
    have a2 : (l.drop 1).take (j + 2) = (l.drop 1).take j ++ [l.getD (j + 1) 0, l.getD (j + 2) 0] := by
      rw [List.take_add, List.drop_drop, Nat.add_comm 1 j, take_two (by omega)]
    rw [show j + 3 = 1 + (j + 2) by omega, List.take_add, a1, a2]
    simp
  unfold Txt.startswith Builtin.Str.subAt
  rw [S_len, S_len, hy, decide_eq_true (show 0 + (j + 3) ≤ l.length by omega), Bool.true_and]
  have e2 : ((S l).cps.extract 0 (0 + (j + 3)) == (S ([95] ++ (l.drop 1).take j ++ [95, 95])).cps) = (l.take (j + 3) == [95] ++ (l.drop 1).take j ++ [95, 95]) := by
    have e3 : (S l).cps.extract 0 (0 + (j + 3)) = (S (l.take (j + 3))).cps := by
      apply Array.toList_inj.mp
      simp [S]
    rw [e3]
    by_cases q : l.take (j + 3) = [95] ++ (l.drop 1).take j ++ [95, 95]
    · rw [q]; simp
    · rw [beq_false_of_ne q]
      apply beq_false_of_ne
      intro e
      exact q (by have := congrArg Array.toList e; simpa [S] using this)
  rw [e2, t]
  simp only [List.cons_append, List.nil_append]
  by_cases c0 : l.getD 0 0 = 95
  · rw [c0]
    by_cases c1 : l.getD (j + 1) 0 = 95
    · by_cases c2 : l.getD (j + 2) 0 = 95
      · rw [c1, c2]; simp
      · rw [c1, beq_false_of_ne c2, Bool.and_false]
        apply beq_false_of_ne
        intro e
        simp at e
        exact c2 (by simpa using e)
    · rw [beq_false_of_ne c1, Bool.and_false, Bool.false_and]
      apply beq_false_of_ne
      intro e
      simp at e
      exact c1 (by simpa using e.1)
  · rw [beq_false_of_ne c0, Bool.false_and, Bool.false_and]
    apply beq_false_of_ne
    intro e
    simp at e
    exact c0 (by simpa using e.1)
theorem priv_fl {l : List Nat} (h : 8 ≤ l.length) {j : Nat} (hj : j < l.length) : privS (Txt.slice (S l) (some 1) (some (1 + (j : Int)))) (S l) = privB (fl l) j := by
  unfold privS privB
  rw [fl_length, ug_fl, ug_fl, ug_fl, ug_fl, ug_fl, S_len]
  rw [show (some (1 : Int)) = some ((1 : Nat) : Int) from rfl, show (some (1 + (j : Int))) = some (((1 + j : Nat)) : Int) by congr 1, slice_pl (by omega) (by omega), show 1 + j - 1 = j by omega]
  have hl : (S ((l.drop 1).take j)).length = j := by rw [S_len, List.length_take, List.length_drop]; omega
  rw [hl, show (-1 : Int) = -((1 : Nat) : Int) from rfl, item_neg (by omega) (by omega), show (-2 : Int) = -((2 : Nat) : Int) from rfl, item_neg (by omega) (by omega)]
  by_cases hc : j + 3 < l.length
  · rw [decide_eq_true hc, Bool.true_and, pre_fl hc, e_us]
    simp only [bne, S_beq, one_beq, Bool.true_and]
  · rw [decide_eq_false hc]; simp
end
section
set_option maxHeartbeats 2000000
def rowB (u : List Bool) : List Int := b2i (dunB u) :: ((List.range u.length).map fun j => b2i (privB u j)) ++ [b2i (sunB u)]
def rowsB (u : List Bool) : List (List Int) := (List.range u.length).map fun j => rowB (u.drop j ++ u.take j)
theorem row_fl {l : List Nat} (h : 8 ≤ l.length) : rowOf (S l) l.length = rowB (fl l) := by
  unfold rowOf rowB privL
  rw [dun_fl h, sun_fl h, fl_length]
  congr 2
  apply List.map_congr_left
  intro j hj
  rw [priv_fl h (List.mem_range.mp hj)]
theorem rows_fl {l : List Nat} (h : 8 ≤ l.length) : rowsF l l.length = rowsB (fl l) := by
  unfold rowsF rowsB
  rw [fl_length]
  apply List.map_congr_left
  intro j hj
  have hj' := List.mem_range.mp hj
  rw [slice_from (by omega), slice_to (by omega), ← S_append]
  have hl : (l.drop j ++ l.take j).length = l.length := by rw [List.length_append, List.length_drop, List.length_take]; omega
  have e := row_fl (l := l.drop j ++ l.take j) (by omega)
  rw [hl] at e
  rw [e]
  congr 1
  unfold fl
  rw [List.map_append, List.map_drop, List.map_take]

/-- letters forgotten -/
def nrm (c : Nat) : Nat := if c = 95 then 95 else 98
theorem nrm_us (c : Nat) : (nrm c == 95) = (c == 95) := by
  unfold nrm
  by_cases h : c = 95
  · subst h; rfl
  · rw [if_neg h, beq_false_of_ne h]; rfl
theorem tw_map (p : Nat → Bool) (hp : ∀ c, p (nrm c) = p c) : ∀ l : List Nat, (l.map nrm).takeWhile p = (l.takeWhile p).map nrm
  | [] => rfl
  | c :: l => by
    rw [List.map_cons, List.takeWhile_cons, List.takeWhile_cons, hp]
    cases p c
    · rfl
    · simp only [if_true, List.map_cons]; rw [tw_map p hp l]
theorem dw_map (p : Nat → Bool) (hp : ∀ c, p (nrm c) = p c) : ∀ l : List Nat, (l.map nrm).dropWhile p = (l.dropWhile p).map nrm
  | [] => rfl
  | c :: l => by
    rw [List.map_cons, List.dropWhile_cons, List.dropWhile_cons, hp]
    cases p c
    · rfl
    · simp only [if_true]; rw [dw_map p hp l]
theorem nrm_ne (c : Nat) : (nrm c != 95) = (c != 95) := by unfold bne; rw [nrm_us]
theorem toks_map : ∀ (n : Nat) (r : List Nat), toks n (r.map nrm) = (toks n r).map fun q => (q.1.map nrm, q.2)
  | 0, _ => by unfold toks; rfl
  | _ + 1, [] => rfl
  | n + 1, c :: r => by
    have e := tw_map (· == 95) nrm_us (c :: r)
    have e2 := dw_map (· == 95) nrm_us (c :: r)
    rw [List.map_cons] at e e2
    rw [List.map_cons]
    unfold toks
    dsimp only
    rw [e, e2, dw_map (· != 95) nrm_ne, tw_map (· != 95) nrm_ne, List.map_cons, List.length_map]
    congr 1
    · congr 1
      congr 1
      by_cases h : List.dropWhile (fun x => x != 95) (List.dropWhile (fun x => x == 95) (c :: r)) = []
      · rw [h]; rfl
      · rw [if_neg h, if_neg (by simpa using h)]
    · rw [← List.map_tail, toks_map n]
theorem filter_dropWhile : ∀ l : List Nat, (l.dropWhile (· == 95)).filter (· != 95) = l.filter (· != 95)
  | [] => rfl
  | c :: l => by
    by_cases h : c = 95
    · subst h
      rw [List.dropWhile_cons_of_pos (by rfl), filter_dropWhile l]; rfl
    · rw [List.dropWhile_cons_of_neg (by simpa using h)]
theorem filter_tail_word : ∀ l : List Nat, l.takeWhile (· != 95) ++ (l.dropWhile (· != 95)).tail.filter (· != 95) = l.filter (· != 95)
  | [] => rfl
  | c :: l => by
    by_cases h : c = 95
    · subst h
      rw [List.takeWhile_cons_of_neg (by simp), List.dropWhile_cons_of_neg (by simp)]; rfl
    · rw [List.takeWhile_cons_of_pos (by simpa using h), List.dropWhile_cons_of_pos (by simpa using h), List.cons_append, filter_tail_word l, List.filter_cons_of_pos (by simpa using h)]
theorem dw_len (p : Nat → Bool) : ∀ l : List Nat, (l.dropWhile p).length ≤ l.length
  | [] => Nat.le_refl _
  | c :: l => by
    rw [List.dropWhile_cons]
    split
    · exact Nat.le_succ_of_le (dw_len p l)
    · exact Nat.le_refl _
theorem toks_letters : ∀ (n : Nat) (r : List Nat), r.length ≤ n → (toks n r).flatMap (·.1) = r.filter (· != 95)
  | 0, [], _ => rfl
  | 0, _ :: _, h => by simp at h
  | _ + 1, [], _ => rfl
  | n + 1, c :: r, h => by
    unfold toks
    dsimp only
    rw [List.flatMap_cons, toks_letters n]
    · rw [filter_tail_word, filter_dropWhile]
    · rw [List.length_tail]
      have h1 := dw_len (· != 95) ((c :: r).dropWhile (· == 95))
      have h2 := dw_len (· == 95) (c :: r)
      rw [List.length_cons] at h h2
      omega
theorem toks_no95 : ∀ (n : Nat) (r : List Nat), ∀ q ∈ toks n r, ∀ c ∈ q.1, c ≠ 95
  | 0, _, q, hq => by unfold toks at hq; cases hq
  | _ + 1, [], q, hq => by cases hq
  | n + 1, c :: r, q, hq => by
    unfold toks at hq
    dsimp only at hq
    rcases List.mem_cons.mp hq with rfl | hq
    · intro c hc
      exact (split_word _).1 c hc
    · exact toks_no95 n _ q hq
theorem again_filter : ∀ d : List (List Nat × Int), (∀ q ∈ d, ∀ c ∈ q.1, c ≠ 95) → (againP d).filter (· != 95) = d.flatMap (·.1)
  | [], _ => rfl
  | (w, g) :: d, h => by
    rw [againP, List.filter_append, List.filter_append, again_filter d fun q hq => h q (.tail _ hq), List.flatMap_cons]
    have e1 : (List.replicate g.toNat 95).filter (· != 95) = [] := by simp
    have e2 : w.filter (· != 95) = w := List.filter_eq_self.mpr fun c hc => by simpa using h (w, g) (.head _) c hc
    rw [e1, e2]; rfl
theorem again_map : ∀ d : List (List Nat × Int), (againP d).map nrm = againP (d.map fun q => (q.1.map nrm, q.2))
  | [] => rfl
  | (w, g) :: d => by
    rw [List.map_cons, againP, againP, List.map_append, List.map_append, again_map d, List.map_replicate]; rfl
theorem runs_map : ∀ (d : List (List Nat × Int)) (pos : Nat), runsP pos (d.map fun q => (q.1.map nrm, q.2)) = runsP pos d
  | [], _ => rfl
  | (w, g) :: d, pos => by rw [List.map_cons, runsP, runsP, runs_map d, List.length_map]
/-- a text is known by its underscores and its other signs -/
theorem known_by : ∀ x y : List Nat, x.map nrm = y.map nrm → x.filter (· != 95) = y.filter (· != 95) → x = y
  | [], [], _, _ => rfl
  | [], _ :: _, h, _ => by simp at h
  | _ :: _, [], h, _ => by simp at h
  | a :: x, b :: y, h, hf => by
    rw [List.map_cons, List.map_cons, List.cons.injEq] at h
    have hb : (a == 95) = (b == 95) := by rw [← nrm_us a, ← nrm_us b, h.1]
    by_cases ha : a = 95
    · have hb' : b = 95 := by subst ha; simpa using hb.symm
      subst ha hb'
      rw [known_by x y h.2 (by simpa using hf)]
    · have hb' : b ≠ 95 := by
        intro e
        subst e
        exact ha (by simpa using hb)
      rw [List.filter_cons_of_pos (by simpa using ha), List.filter_cons_of_pos (by simpa using hb'), List.cons.injEq] at hf
      rw [hf.1, known_by x y h.2 hf.2]

def unfl (u : List Bool) : List Nat := u.map fun b => if b then 95 else 98
theorem unfl_fl (l : List Nat) : unfl (fl l) = l.map nrm := by
  unfold unfl fl
  rw [List.map_map]
  apply List.map_congr_left
  intro c _
  unfold nrm
  by_cases h : c = 95
  · subst h; rfl
  · simp [h]
def tokOkB (n : Nat) (rs : List (Int × Int)) : Bool :=
  decide (0 < n) && decide (n ≤ 50) && rs.all (fun q => decide (0 ≤ q.1) && decide (q.1 ≤ 50) && decide (1 ≤ q.2) && decide (q.2 ≤ (n : Int))) &&
    rs.all fun r => rs.all fun q => [0, 1].all fun ct => !decide (ct < r.2) || decide (q.1 = r.1) || decide ((q.1 - r.1 - ct) % n + q.2 ≤ n + 3)
def check (u : List Bool) : Bool :=
  match toks (u.length + 1) (unfl u ++ [95, 98]) with
  | [] => false
  | (w, g) :: d => decide (g = 1) && decide (w ++ againP d = unfl u ++ [98]) && d.all (fun q => decide (0 ≤ q.2) && decide (q.2 ≤ 50) && decide (q.1.length ≤ 50)) && decide (d.length ≤ 50) &&
    decide ((runsP w.length d) ≠ []) && decide ((runsP w.length d).length ≤ 50) && tokOkB u.length (runsP w.length d) && decide (rowsB u = toldP (runsP w.length d) u.length)
def b8 : List Bool := [false, true, true, true, true, false, true, true]
def pats : Nat → List (List Bool)
  | 0 => [[]]
  | n + 1 => (pats n).flatMap fun p => [true :: p, false :: p]
theorem mem_pats : ∀ p : List Bool, p ∈ pats p.length
  | [] => .head _
  | b :: p => by
    rw [List.length_cons, pats]
    refine List.mem_flatMap.mpr ⟨p, mem_pats p, ?_⟩
    cases b <;> simp
end
section
set_option maxHeartbeats 2000000
theorem chk0 : check b8 = true := by decide +kernel
theorem chk1 (a : Bool) : check (b8 ++ [a]) = true := by cases a <;> decide +kernel
theorem chk2 : ∀ p ∈ pats 2, check (b8 ++ p) = true := by decide +kernel
theorem chk3 : ∀ p ∈ pats 3, check (b8 ++ p) = true := by decide +kernel
theorem chk4a : ∀ p ∈ pats 3, check (b8 ++ (true :: p)) = true := by decide +kernel
theorem chk4b : ∀ p ∈ pats 3, check (b8 ++ (false :: p)) = true := by decide +kernel
theorem chk5a : ∀ p ∈ pats 3, check (b8 ++ (true :: true :: p)) = true := by decide +kernel
theorem chk5b : ∀ p ∈ pats 3, check (b8 ++ (true :: false :: p)) = true := by decide +kernel
theorem chk5c : ∀ p ∈ pats 3, check (b8 ++ (false :: true :: p)) = true := by decide +kernel
theorem chk5d : ∀ p ∈ pats 3, check (b8 ++ (false :: false :: p)) = true := by decide +kernel
theorem check_all : ∀ p : List Bool, p.length ≤ 5 → check (b8 ++ p) = true
  | [], _ => chk0
  | [a], _ => chk1 a
  | [a, b], _ => chk2 _ (mem_pats [a, b])
  | [a, b, c], _ => chk3 _ (mem_pats [a, b, c])
  | [true, b, c, d], _ => chk4a _ (mem_pats [b, c, d])
  | [false, b, c, d], _ => chk4b _ (mem_pats [b, c, d])
  | [true, true, c, d, e], _ => chk5a _ (mem_pats [c, d, e])
  | [true, false, c, d, e], _ => chk5b _ (mem_pats [c, d, e])
  | [false, true, c, d, e], _ => chk5c _ (mem_pats [c, d, e])
  | [false, false, c, d, e], _ => chk5d _ (mem_pats [c, d, e])
  | _ :: _ :: _ :: _ :: _ :: _ :: _, h => by simp only [List.length_cons] at h; omega

theorem bare_all : ∀ k, k < 14 → bareL (k + 1) = (List.replicate (3 * (k : Int) + 3).toNat [(0 : Int)]).flatten := by decide +kernel
theorem toks_first {n c : Nat} {r : List Nat} (hc : c ≠ 95) : toks (n + 1) (c :: 95 :: r) = ([c], 1) :: toks n r := by
  have e : toks (n + 1) (c :: 95 :: r) = ((((c :: 95 :: r).dropWhile (· == 95)).takeWhile (· != 95)), (((c :: 95 :: r).takeWhile (· == 95)).length : Int) + if ((c :: 95 :: r).dropWhile (· == 95)).dropWhile (· != 95) = [] then 0 else 1) :: toks n (((c :: 95 :: r).dropWhile (· == 95)).dropWhile (· != 95)).tail := rfl
  rw [e]
  rw [List.dropWhile_cons_of_neg (by simpa using hc), List.takeWhile_cons_of_pos (by simpa using hc), List.takeWhile_cons_of_neg (by simp), List.takeWhile_cons_of_neg (by simpa using hc),
    List.dropWhile_cons_of_pos (by simpa using hc), List.dropWhile_cons_of_neg (by simp)]
  simp
theorem tokOk_of {n : Nat} {rs : List (Int × Int)} (h : tokOkB n rs = true) {qs : List Pr} (hq : (qs.map fun q => (q.a, q.b)) = rs) : TOk n qs := by
  subst hq
  unfold tokOkB at h
  simp only [Bool.and_eq_true, decide_eq_true_eq, List.all_eq_true, List.mem_map, Bool.or_eq_true, Bool.not_eq_true'] at h
  obtain ⟨⟨⟨h1, h2⟩, h3⟩, h4⟩ := h
  refine ⟨h1, h2, fun q hq => ?_, fun r hr q hq ct c0 c2 cr hne => ?_⟩
  · have := h3 _ ⟨q, hq, rfl⟩
    exact ⟨this.1.1.1, this.1.1.2, this.1.2, this.2⟩
  · have hct : ct ∈ [(0 : Int), 1] := by
      rcases (show ct = 0 ∨ ct = 1 by omega) with rfl | rfl <;> simp
    rcases h4 _ ⟨r, hr, rfl⟩ _ ⟨q, hq, rfl⟩ ct hct with (h | h) | h
    · exact absurd cr (of_decide_eq_false h)
    · exact absurd h hne
    · exact h

/-- the law on plain lists -/
theorem plain (xs : List Int) (hx : xs.length ≤ 5) : ∃ w0 d, toks ((base8 ++ xs.map signOf).length + 1) ((base8 ++ xs.map signOf) ++ [95, 46]) = (w0, 1) :: d ∧ w0 ++ againP d = (base8 ++ xs.map signOf) ++ [46] ∧ (∀ q ∈ d, 0 ≤ q.2 ∧ q.2 ≤ 50 ∧ q.1.length ≤ 50) ∧ d.length ≤ 50 ∧
    ∀ qs : List Pr, (qs.map fun q => (q.a, q.b)) = runsP w0.length d → PlainOk (base8 ++ xs.map signOf) qs := by
  generalize he : xs.map signOf = e
  have hel : e.length ≤ 5 := by rw [← he, List.length_map]; exact hx
  have hu : fl (base8 ++ e) = b8 ++ fl e := by
    unfold fl
    rw [List.map_append]; rfl
  have hc := check_all (fl e) (by rw [fl_length]; exact hel)
  rw [← hu] at hc
  have hr8 : 8 ≤ (base8 ++ e).length ∧ (base8 ++ e).length ≤ 13 := by
    rw [List.length_append]
    have : base8.length = 8 := rfl
    omega
  have hfirst : ∃ r, base8 ++ e = 97 :: 95 :: r := ⟨_, rfl⟩
  obtain ⟨r0, hr0⟩ := hfirst
  generalize hR : base8 ++ e = ring at hc hr8 hr0
  have ht : toks (ring.length + 1) (ring ++ [95, 46]) = ([97], 1) :: toks ring.length (r0 ++ [95, 46]) := by
    rw [hr0, List.cons_append, List.cons_append, toks_first (by decide)]
  have hm : unfl (fl ring) ++ [95, 98] = (ring ++ [95, 46]).map nrm := by
    rw [unfl_fl, List.map_append]; rfl
  unfold check at hc
  rw [fl_length, hm, toks_map, ht, List.map_cons] at hc
  dsimp only at hc
  generalize hd : toks ring.length (r0 ++ [95, 46]) = d at hc ht
  rw [runs_map, List.length_map] at hc
  simp only [Bool.and_eq_true, decide_eq_true_eq, List.all_eq_true, List.mem_map] at hc
  obtain ⟨⟨⟨⟨⟨⟨⟨_, c2⟩, c3⟩, c4⟩, c5⟩, c6⟩, c7⟩, c8⟩ := hc
  refine ⟨[97], d, ht, ?_, ?_, ?_, ?_⟩
  · refine known_by _ _ ?_ ?_
    · rw [List.map_append, again_map, c2, unfl_fl, List.map_append]; rfl
    · have hno := toks_no95 (ring.length) (r0 ++ [95, 46])
      rw [hd] at hno
      have hlet := toks_letters ring.length (r0 ++ [95, 46]) (by rw [hr0]; simp)
      rw [hd] at hlet
      rw [List.filter_append, again_filter d hno, hlet, hr0]
      simp [List.filter_append]
  · intro q hq
    have := c3 _ ⟨q, hq, rfl⟩
    rw [List.length_map] at this
    exact ⟨this.1.1, this.1.2, this.2⟩
  · exact c4
  · intro qs hqs
    refine ⟨tokOk_of c7 hqs, ?_, ?_, ?_, ?_⟩
    · rintro rfl
      exact c5 hqs.symm
    · have e := congrArg List.length hqs
      rw [List.length_map] at e
      rw [e]; exact c6
    · rw [rows_fl hr8.1, c8, hqs]; rfl
    · intro k hk
      exact bare_all k (by omega)
end
section
set_option maxHeartbeats 8000000
set_option pp.deepTerms false
theorem fillLw (w : World) (s : Shared) : (PySem.Challenge.rw_re0017_01.Holds ∧ (Mine.hd.heap_39 w.params).In s.heap) → True := by k_fill; intro _; trivial
local macro_rules | `(tactic| walk_at "exec For Name Subscript cons nil") => `(tactic| (k_here; (rename Fr _ _ _ _ => lF'); (with_unfolding_all refine' For_invVF lF' ?k1 ?k2 ?_; (case k1 => exact rfl); (case k2 => exact rfl); k_whole)))
local macro_rules | `(tactic| walk_at "call ref") => `(tactic| (k_here; (with_reducible show wpAny _ _ (call (Value.ref 96) _) _ _ _); refine Stop.on ?_))
local macro_rules | `(tactic| walk_at "call builtin:len") => `(tactic| (k_here; (with_reducible (refine len_S2 ?a ?_)); (case a => first | omega | (simp only [List.length_cons]; omega)); intro t' tk'))

local macro_rules | `(tactic| walk_at "subscriptTail Name Constant ref int") => `(tactic| (k_here; k_dflt (refine' my_item ?N ?m ?a ?b ?x ?_ ?s; (case N => k_asm); (case m => k_mem); (case x => assumption); (case a => omega); (case b => omega); (case s => with_unfolding_all rfl); k_whole)))
theorem len_L {prog : Program} {w : World} {A : Around} {E : Value → Shared → Prop} {s : Shared} {h₀ : Heap} {L l : Addr} {news : List (Addr × Obj)} {ws : List Value} {e : Nat} {k : Int} {Q : Value → Shared → Prop} (N : News h₀ L s.heap news) (hm : (l, W.listOf ws.toArray e) ∈ news) (hn : (ws.length : Int) = k) (hb : k ≤ 1000)
    (h : ∀ t' k', Q (.int k t') { s with toks := k' }) : wpAny (model prog w) A (call (.builtin "len") [.ref l]) Q E s :=
  PyProof.Rows.len_list ⟨_, (N _ hm).1, rfl, e, rfl⟩ (by rw [List.size_toArray]; omega) (by rw [List.size_toArray, hn]; exact h _ _)
local macro_rules | `(tactic| walk_at "call builtin:len") => `(tactic| (k_here; (with_reducible show wpAny _ _ (call _ [Value.ref _]) _ _ _); k_dflt (refine' len_L ?N ?m ?a ?b ?_; (case N => k_asm); (case m => k_mem); (case a => assumption); (case b => omega)); intro t' k'))
theorem law_body {w : World} {s : Shared} {h₀ : Heap} {L fa ax : Addr} {cd : Value} {mg mb : Str → Option Value} {p : Program} {loose : List Str} {mean : ExcName → Option Value} {vs : List Value} {xs : List Int} {sc : Scope} {bd : List Stmt}
    (hst : bd = lawParts.2.1) (hsc : sc = lawParts.2.2) (B : Below callerA h₀ [] h₀) (X : (hd.heap_39 w.params).In h₀) (T : Top p loose mean mg mb h₀) (cH : CodeHd h₀ 95 93)
    (hl : h₀.IsList ax vs.toArray) (hI : IntsAre vs xs) (hlen : xs.length ≤ 63)
    (F : Fr h₀ L s.heap (fun y => [(Str.ofString "script", Value.ref ax)].reverse.lookup y)) (N : News h₀ L s.heap [(93, tabObj #[])]) :
    wpAny (model pg w) (callerA.deeper (envOf (Str.ofString "law") sc L fa cd)) (execs bd (envOf (Str.ofString "law") sc L fa cd))
      (fun fl s' => ∃ h' tk m' nx ps, fl = .ret (.bool true) ∧ s' = ⟨h', s.gens, s.drawn, tk, s.os⟩ ∧ Fr h₀ L h' m' ∧ News h₀ L h' ((93, tabObj ps) :: nx)) (fun _ _ => False) s := by
  (with_unfolding_all conv at hst => rhs; whnf)
  (with_unfolding_all conv at hsc => rhs; whnf)
  subst hst hsc
  have e8 : Str.ofString "a____b__" = S base8 := by decide +kernel
  refine stopQ ?_
  (show wpAny _ _ _ _ _ _)
  k_fold
  k_steps
  refine Stop.off ?_
  rename_i tkA hA tkB D ws hB F1 N1 hI1 hC1 hL1 l1
  rw [e8] at F1
  refine ring_loop (xs := xs.take 5) ?hst ?hsc X (topRead_of T) rfl (if_pos rfl) (by omega) ⟨_, (N1 _ (.head _)).1, rfl, _, rfl⟩ hI1 (N1 _ (.head _)).2.1 (Nat.ne_of_gt l1) F1 (fun p hp => N1 p (.tail _ hp)) ?_
  case hst => with_unfolding_all rfl
  case hsc => with_unfolding_all rfl
  clear F1 N1
  intro h' tk t' m' hm' F' N'
  dsimp only
  generalize hring : base8 ++ (xs.take 5).map signOf = ring at hm'
  have hrl : 8 ≤ ring.length ∧ ring.length ≤ 13 := by
    rw [← hring, List.length_append, List.length_map]
    have : base8.length = 8 := rfl
    omega
  replace F' := known [(Str.ofString "ring", .str (S ring) t')] F' (by
      intro p hp
      simp only [List.mem_cons, List.not_mem_nil, or_false] at hp
      rcases hp with rfl
      exact hm')
  simp only [kstB] at F'
  k_steps
  refine Stop.off ?_
  rename Fr _ _ _ _ => F1
  rename News _ _ _ _ => N1
  have eS : ∀ r : List Nat, (S r).length = r.length := by intro r; simp [S, Str.length]
  have eL : ∀ r : List Nat, (S r).cps.toList = r := by intro r; simp [S]
  refine read_call B F1 X N1 T cH rfl rfl (by rw [eS]; omega) ?_
  rw [eS, eL]
  intro T' Wd Gp ws gs ew eg tl h tk ps o1 o2 hws hgs F2 N2
  clear F1 N1
  obtain ⟨w0, d, ed, eA, hdb, hdl, hP⟩ := plain (xs.take 5) (by rw [List.length_take]; omega)
  rw [hring] at ed eA hP
  rw [ed] at hws hgs
  have hwl := hws.length
  have hgl := hgs.length
  simp only [List.length_map, List.length_cons] at hwl hgl
  obtain ⟨tw0, hw0⟩ := strsAt hws (i := 0) (x := S w0) rfl
  obtain ⟨tg0, hg0⟩ := intsAt' hgs (i := 0) (x := 1) rfl
  have hwl' : (ws.length : Int) = (d.length : Int) + 1 := by omega
  have hx0 : ws.toArray.toList[(0 : Int).toNat]? = some (.str (S w0) tw0) := hw0
  have hx1 : gs.toArray.toList[(0 : Int).toNat]? = some (.int 1 tg0) := hg0
  k_steps
  refine Stop.off ?_
  rename _ < _ ∧ _ < _ ∧ _ < _ ∧ _ < _ => h3
  rename IsRange _ _ _ _ _ _ _ _ => R9
  rename Fr _ _ _ _ => F9
  rename News _ _ _ _ => N9
  rename IntsAre _ _ => hgs
  rename StrsAre _ _ => hws
  have hlenA : (w0 ++ againP d).length ≤ 50 := by rw [eA, List.length_append]; simp only [List.length_cons, List.length_nil]; omega
  refine' runs_loop (ring := ring) (ta := tw0) (o93 := tabObj ps) ?hst ?hsc X (topRead_of T) rfl ?hM ?hm hws hgs hdb hdl hlenA R9 rfl (Nat.ne_of_lt h3.2.2.1) (Nat.ne_of_lt h3.2.1) (Nat.ne_of_lt h3.2.2.2) F9 ?hN ?_
  case hst => with_unfolding_all rfl
  case hsc => with_unfolding_all rfl
  case hM => exact ⟨rfl, rfl, rfl, rfl, rfl, rfl⟩
  case hm => rfl
  case hN =>
    intro p hp
    refine N9 p ?_
    simp only [List.mem_cons, List.not_mem_nil, or_false] at hp ⊢
    rcases hp with h | h | h | h
    · exact .inl h
    · exact .inr (.inr (.inl h))
    · exact .inr (.inr (.inr (.inl h)))
    · exact .inr (.inr (.inr (.inr h)))
  clear F9 N9 R9
  intro h' tk t'' m' qs er hm'' M' F' N' hqs hql
  rw [eA] at hm''
  dsimp only
  refine wpAny_mono (law_tail ?hst ?hsc B X T M' hm'' hx1 hrl.1 hrl.2 (hP qs hqs) F' N') ?_ (fun _ _ h => h)
  case hst => with_unfolding_all rfl
  case hsc => with_unfolding_all rfl
  intro fl s' hs'
  exact Stop.on hs'

set_option maxRecDepth 100000 in
set_option maxHeartbeats 8000000 in
theorem lawX : PySem.Challenge.rw_re0017_01.Holds := hd (by
  k_go0
  refine' wpAny_mono (law_body ?a1 ?a2 ?a3 ?a4 ?a5 ?a6 ?a7 ?a8 ?a9 ?b1 ?b2) ?hq ?he
  case a1 => with_unfolding_all rfl
  case a2 => with_unfolding_all rfl
  case a3 => assumption
  case a4 => assumption
  case a5 => assumption
  case a6 => assumption
  case b1 => assumption
  case b2 => assumption
  case a7 => assumption
  case a8 => assumption
  case a9 => omega
  case he => intro _ _ h; exact h.elim
  case hq =>
    rintro fl s' ⟨h', tk, m', nx, ps, rfl, rfl, F', N'⟩
    refine ⟨?_, GrownAt.of N' (.head _), trivial⟩
    refine goodW_bool F' (by assumption) (fun _ => rfl) ?_
    wrow_post)
end
end Mine
set_option maxRecDepth 100000 in
set_option maxHeartbeats 8000000 in
theorem PySem.Challenge.cw_re0017_01_holds : PySem.Challenge.rw_re0017_01.Holds := by
  exact Mine.lawX
