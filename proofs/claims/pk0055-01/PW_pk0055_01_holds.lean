import PyProof.Rows.All
import Wide.All
import OpenK.AllK
import Wide.FinOn
import Lean
import PySem.Challenge.RW_pk0055_01
set_option Elab.async false
set_option maxRecDepth 100000
set_option maxHeartbeats 8000000
set_option compiler.extract_closed false
set_option linter.all false
section
open PySem PySem.W PyProof.Rows

set_option maxHeartbeats 8000000
namespace Mine
noncomputable def view : Program := { PySem.Challenge.pw_pk0055_01 with main := { PySem.Challenge.pw_pk0055_01.main with body := ((PySem.Challenge.pw_pk0055_01.main.body.eraseIdx 28).eraseIdx 4).eraseIdx 0 } }
local macro_rules | `(tactic| o_head $H) => `(tactic| (refine holds_open (q := Mine.view) (loose := [Str.ofString "_filemode_table"]) (Xt := fun s => xlAt Mine.view [] s && recOk (RowW.records PySem.Challenge.rw_pk0055_01.row.toRowW) s) (XP := XL Mine.view []) (Yf := Hook.obs $H) (Ya := Hook.val $H) (YP := Hook.says $H) (N := 1612) (by intro w; kernel_rfl) (Hook.of $H) (Hook.keeps $H) (fun s e => xl_of s (Bool.and_eq_true_iff.mp e).1) XL.keeps (by rfl) (by rfl) (by rfl) (fun s e => recFacts_of (Bool.and_eq_true_iff.mp e).2) (by rfl) (by first | assumption | decide +kernel) (by decide +kernel) ⟨rfl, rfl, rfl, rfl, rfl, by decide +kernel⟩ ?$(Lean.mkIdent `hw) ?$(Lean.mkIdent `hc)))
theorem bare_ : ((["vars", "dir", "locals"] : List Str).filter (readsOut PySem.Challenge.rw_pk0055_01.row.prog PySem.Challenge.rw_pk0055_01.row.prog.main.body)) = [] := by decide +kernel
theorem row_said_ : PySem.Challenge.rw_pk0055_01.row.wellSaid = true := by
  unfold OpenRow.wellSaid OpenRow.partSaid looksOpen
  rw [bare_]
  repeat' (with_reducible apply look_both)
  all_goals decide +kernel
theorem law_said_ : PySem.Challenge.rw_pk0055_01.wellSaid = true := by
  unfold OpenLaw.wellSaid
  rw [row_said_]
  repeat' (with_reducible apply look_both)
  all_goals decide +kernel
local macro_rules | `(tactic| o_law) => `(tactic| refine holds_law Mine.law_said_ (fun $(Lean.mkIdent `said) => ?_))
open_top hd for PySem.Challenge.rw_pk0055_01
end Mine
end

local macro_rules | `(tactic| omega) => `(tactic| first | lia | omega (config := {}))

section
open PySem PySem.W PyProof.Rows
set_option maxHeartbeats 8000000
namespace Mine
noncomputable abbrev TopX (mean : ExcName → Option Value) (mg mb : Str → Option Value) (h : Heap) : Prop := Top Mine.view (looseW Mine.view [Str.ofString "_filemode_table"]) mean mg mb h
noncomputable def Ext (h h' : Heap) : Prop := ∀ b o, h.get? b = some o → h'.get? b = some o
theorem Ext.trans {a b c : Heap} (x : Ext a b) (y : Ext b c) : Ext a c := fun d o e => y d o (x d o e)
theorem Ext.fr {h₀ h h' : Heap} {L : Addr} {m : Str → Option Value} (x : Ext h h') (F : Fr h₀ L h m) : Fr h₀ L h' m := ⟨F.ns.keeps x, fun b o e => x b o (F.keep b o e), F.above⟩
theorem Ext.news {h₀ h h' : Heap} {L : Addr} {news : List (Addr × Obj)} (x : Ext h h') (N : News h₀ L h news) : News h₀ L h' news := fun p hp => ⟨x _ _ (N p hp).1, (N p hp).2⟩
theorem Ext.of_fr {h₀ h : Heap} {L : Addr} {m : Str → Option Value} (F : Fr h₀ L h m) : Ext h₀ h := F.keep
theorem enter {prog : Program} {w : World} {A : Around} {s : Shared} {K : Frag} {name qual : Str} {params : Arguments} {body : List Stmt} {scope : Scope} {dV kV doc pm cdv ct oc : Value} {an od : Option Addr} {osl : Array (Option Value)} {f : Addr} {args : List Value} {binds : List (Str × Value)} {Q E : Value → Shared → Prop}
    (X : K.In s.heap) (hlim : s.heap.NoLimit) (ho : K.lookup f = some ⟨oc, od, .func (fnOf name qual params body scope dV kV doc pm an cdv ct), osl⟩) (hcd : codeIn K cdv qual = true) (hroom : A.depth < recursionLimit)
    (hbind : BindsTo s (fnOf name qual params body scope dV kV doc pm an cdv ct) ⟨args, []⟩ binds) (hloc : ∀ y ∈ binds, scope.names.lookup y.1 = some .local)
    (hcell : ∀ x ∈ scope.names, x.2 ≠ .cell) (hco : scope.isCoroutine = false) (hgen : scope.isGenerator = false) (hk : scope.kind = .function)
    (h : ∀ h₁ L tk, Fr s.heap L h₁ (fun y => binds.reverse.lookup y) → News s.heap L h₁ [] →
      wpAny (model prog w) (A.deeper (envOf qual scope L f cdv)) (execs body (envOf qual scope L f cdv))
        (fun fl s' => Q (match fl with | .ret v => v | _ => .none) s') (fun _ _ => False)
        { s with heap := h₁, toks := tk }) : wpAny (model prog w) A (call (.ref f) args) Q E s := by
  refine wpAny_call ?_
  refine codeAny_call_def (fd := fnOf name qual params body scope dV kV doc pm an cdv ct) (body := body) (binds := binds) hroom (X _ _ ho) rfl hlim (codeRec_of X hcd) rfl hbind hcell hloc (fun h₁ hn hk' => ?_) hco hgen hk
  exact wpAny_mono (h h₁ _ _ ⟨hn, hk', Nat.le_refl _⟩ News.nil) (fun _ _ q => q) fun _ _ q => q.elim
theorem kw_p01_1 : True := by
  k_with "p01_1" => ((refine' enter (by assumption) (Top.nolimit (by assumption)) (by k_is) (by k_is) (by omega) (by exact BindsTo.of_eq rfl) (by exact locs rfl) (by decide) (by exact rfl) (by exact rfl) (by exact rfl) ?_))
  trivial


/-- what _strcoll tells -/
noncomputable def coll (a b : Str) : Int := b2i (decide (b.cps.toList < a.cps.toList)) - b2i (decide (a.cps.toList < b.cps.toList))
theorem strcoll_spec {w : World} {A : Around} {s : Shared} {Q E : Value → Shared → Prop} {a b : Str} {ta tb : Tok} {mean mg mb}
  (hd : A.depth < recursionLimit) (X : (Mine.hd.heap_1 w.params).In s.heap) (T : TopX mean mg mb s.heap)
  (ret : ∀ h' tk t, Ext s.heap h' → Q (.int (coll a b) t) {s with heap := h', toks := tk}) :
  wpAny (model PySem.Challenge.rw_pk0055_01.row.prog w) A (call (.ref 21) [.str a ta, .str b tb]) Q E s := by
  revert X
  k_fill
  intro X
  k_extra "p01_1"
  intro h₁ L₁ tk₁ F₁ N₁
  k_fold
  k_steps
  exact ret _ _ _ (by intro b o e; exact F₁.keep b o e)
end Mine
end

section
open PySem PySem.W PyProof.Rows
set_option maxHeartbeats 8000000
namespace Mine
noncomputable abbrev upd (m : Str → Option Value) (x : Str) (v : Value) : Str → Option Value := fun y => if y = x then some v else m y
theorem upd_self {m : Str → Option Value} {x : Str} {v : Value} (h : m x = some v) : m = upd m x v := by
  funext y; by_cases e : y = x
  · subst e; simp [upd, h]
  · simp [upd, e]
theorem upd_upd (m : Str → Option Value) (x : Str) (v v' : Value) : upd (upd m x v) x v' = upd m x v' := by
  funext y; by_cases e : y = x <;> simp [upd, e]
theorem Ext.keep1 {K : Frag} {h h' : Heap} (x : Ext h h') (X : K.In h) : K.In h' := X.keeps x
theorem strcoll_at {w : World} {A : Around} {s : Shared} {Q E : Value → Shared → Prop} {a b : Str} {ta tb : Tok} {mean mg mb} {h₀ : Heap} {L : Addr} {m : Str → Option Value} {news : List (Addr × Obj)}
  (F : Fr h₀ L s.heap m) (N : News h₀ L s.heap news) (X : (Mine.hd.heap_1 w.params).In h₀) (T : TopX mean mg mb h₀) (hd : A.depth < recursionLimit)
  (ret : ∀ h' tk t, Fr h₀ L h' m → News h₀ L h' news → Q (.int (coll a b) t) {s with heap := h', toks := tk}) :
  wpAny (model PySem.Challenge.rw_pk0055_01.row.prog w) A (call (.ref 21) [.str a ta, .str b tb]) Q E s :=
  strcoll_spec hd (X.keeps F.keep) (T.keeps F.keep) fun h' tk t x => ret h' tk t (x.fr F) (x.news N)

section
variable {prog : Program} {w : World} {A : Around} {env : Env} {h₀ : Heap} {L : Addr} {m : Str → Option Value} {news : List (Addr × Obj)} {s : Shared} {Q : Flow → Shared → Prop} {E : Value → Shared → Prop} {test : Expr} {body : List Stmt} {pos : Pos} {x : Str} {b₀ : Int} {t₀ : Tok}
/-- a state in which the frame's int x has the value of which P is said, and all else is as it was -/
noncomputable def WEnd (h₀ : Heap) (L : Addr) (s : Shared) (m : Str → Option Value) (news : List (Addr × Obj)) (x : Str) (P : Int → Prop) (s' : Shared) : Prop :=
  ∃ h' tk b t, s' = { s with heap := h', toks := tk } ∧ Fr h₀ L h' (upd m x (.int b t)) ∧ News h₀ L h' news ∧ P b
noncomputable def WPost (h₀ : Heap) (L : Addr) (s : Shared) (m : Str → Option Value) (news : List (Addr × Obj)) (x : Str) (P : Int → Prop) (f : Flow) (s' : Shared) : Prop :=
  f = .next ∧ WEnd h₀ L s m news x P s'
theorem WEnd.intro {P : Int → Prop} {h' : Heap} {tk : Nat} {b : Int} {t : Tok} (F : Fr h₀ L h' (upd m x (.int b t))) (N : News h₀ L h' news) (p : P b) : WEnd h₀ L s m news x P { s with heap := h', toks := tk } := ⟨h', tk, b, t, rfl, F, N, p⟩
theorem WPost.intro {P : Int → Prop} {h' : Heap} {tk : Nat} {b b' : Int} {t t' : Tok} (F : Fr h₀ L h' (upd (upd m x (.int b t)) x (.int b' t'))) (N : News h₀ L h' news) (p : P b') : WPost h₀ L s m news x P .next { s with heap := h', toks := tk } :=
  ⟨rfl, h', tk, b', t', rfl, by rw [upd_upd] at F; exact F, N, p⟩
theorem while_int (P D : Int → Prop) (meas : Int → Nat) (F : Fr h₀ L s.heap m) (N : News h₀ L s.heap news) (hx : m x = some (.int b₀ t₀)) (hP : P b₀)
    (turn : ∀ b t (σ : Shared) (nw : List (Addr × Obj)) (QW : Flow → Shared → Prop) (QD : Shared → Prop), P b → Fr h₀ L σ.heap (upd m x (.int b t)) → News h₀ L σ.heap nw →
      (∀ f s', WPost h₀ L σ m nw x (fun b' => P b' ∧ meas b' < meas b) f s' → QW f s') → (∀ s', WEnd h₀ L σ m nw x D s' → QD s') →
      wpAny (model prog w) A (isTrue test env (eval test env)) (fun c s₂ => if c = true then wpAny (model prog w) A (execs body env) QW (fun _ _ => False) s₂ else QD s₂) (fun _ _ => False) σ)
    (done : ∀ b t h tk, D b → Fr h₀ L h (upd m x (.int b t)) → News h₀ L h news → Q .next { s with heap := h, toks := tk }) :
    wpAny (model prog w) A (exec (.While test body [] pos) env) Q E s := by
  refine wpAny_While (codeAny_whileLoop (fun n s' => WEnd h₀ L s m news x (fun b => P b ∧ n = meas b) s') ?_ (meas b₀) ⟨s.heap, s.toks, b₀, t₀, rfl, by rw [← upd_self hx]; exact F, N, hP, rfl⟩)
  rintro n s' ⟨h, tk, b, t, rfl, F', N', hp, rfl⟩
  refine wpAny_mono (turn b t { s with heap := h, toks := tk } news (WPost h₀ L { s with heap := h, toks := tk } m news x (fun b' => P b' ∧ meas b' < meas b)) (WEnd h₀ L { s with heap := h, toks := tk } m news x D) hp F' N' (fun _ _ q => q) (fun _ q => q)) (fun c s₂ hc => ?_) fun _ _ q => q.elim
  cases c with
  | true =>
    simp only [if_true] at hc ⊢
    refine wpAny_mono hc (fun f s₃ hf => ?_) fun _ _ q => q.elim
    obtain ⟨rfl, h', tk', b', t', rfl, F'', N'', hp', hm⟩ := hf
    exact ⟨meas b', hm, h', tk', b', t', rfl, F'', N'', hp', rfl⟩
  | false =>
    simp only [Bool.false_eq_true, if_false] at hc ⊢
    obtain ⟨h', tk', b', t', rfl, F'', N'', hd⟩ := hc
    exact wpAny_execs_nil (done b' t' h' tk' hd F'' N'')
end
end Mine
end

section
open PySem PySem.W PyProof.Rows PySem.Calls
set_option maxHeartbeats 8000000
namespace Mine
theorem enterC {prog : Program} {w : World} {A : Around} {s : Shared} {K : Frag} {name qual : Str} {params : Arguments} {body : List Stmt} {scope : Scope} {dV kV doc pm cdv ct oc : Value} {an od : Option Addr} {osl : Array (Option Value)} {f : Addr} {args : List Value} {binds : List (Str × Value)} {Q E : Value → Shared → Prop}
    (X : K.In s.heap) (hlim : s.heap.NoLimit) (ho : K.lookup f = some ⟨oc, od, .func (fnOf name qual params body scope dV kV doc pm an cdv ct), osl⟩) (hcd : codeIn K cdv qual = true) (hroom : A.depth < recursionLimit)
    (hbind : BindsTo s (fnOf name qual params body scope dV kV doc pm an cdv ct) ⟨args, []⟩ binds) (hkind : (binds.all fun y => scope.names.lookup y.1 == some .local || scope.names.lookup y.1 == some .cell) = true)
    (hnd : ((cellsFrom 0 scope.names []).map (·.1)).Nodup) (hco : scope.isCoroutine = false) (hgen : scope.isGenerator = false) (hk : scope.kind = .function)
    (h : ∀ h₁ L tk cells, Fr s.heap L h₁ (bindL (envOfC qual scope L f cdv).kindOf binds fun _ => none) → News s.heap L h₁ cells → CellsAre (bindC (envOfC qual scope L f cdv).kindOf binds fun _ => none) (cellsFrom (L + 1) scope.names []) cells →
      wpAny (model prog w) (A.deeper (envOfC qual scope L f cdv)) (execs body (envOfC qual scope L f cdv))
        (fun fl s' => Q (match fl with | .ret v => v | _ => .none) s') (fun _ _ => False)
        { s with heap := h₁, toks := tk }) : wpAny (model prog w) A (call (.ref f) args) Q E s := by
  refine wpAny_call ?_
  refine codeAny_call_function (fd := fnOf name qual params body scope dV kV doc pm an cdv ct) hroom (X _ _ ho) rfl hco hgen rfl (codeRec_of X hcd) (hbind _ _ _ _ ?_)
  refine wpAny_newFunctionEnv_cells hk (kindsX hkind _) fun env' he s' x => ?_
  subst he
  refine ⟨hlim.keeps x.toInCall.keep, codeAny_func ?_⟩
  obtain ⟨h₁, tk, rfl, _⟩ := x.done
  obtain ⟨cells, NC, Y⟩ := Cl.news (h₀ := s.heap) (Nat.le_refl _) fun n c hm => ⟨x.cell n c (lookup_of_mem_nodup (cellsFrom_names scope.names 0 (s.heap.objs.size + 1) [] [] rfl ▸ hnd) hm), x.above n c hm⟩
  exact wpAny_mono (h h₁ _ tk cells ⟨x.toInCall.ns, x.toInCall.keep, Nat.le_refl _⟩ NC Y) (fun _ _ q => q) fun _ _ q => q.elim
end Mine
end

section
open PySem PySem.W PyProof.Rows PySem.Calls
set_option maxHeartbeats 8000000
namespace Mine
section
variable {prog : Program} {w : World} {A : Around} {env : Env} {h₀ : Heap} {L : Addr} {m : Str → Option Value} {news : List (Addr × Obj)} {s : Shared} {Q : Flow → Shared → Prop} {E : Value → Shared → Prop} {target : Expr} {body orelse : List Stmt}
/-- a turn's end: the iterator's own object (I, o) stands, and J of the rest; or the loop is left -/
noncomputable def FPost (h₀ : Heap) (L : Addr) (s : Shared) (I : Addr) (o : Obj) (J : (Str → Option Value) → List (Addr × Obj) → Prop) (Q : Flow → Shared → Prop) (f : Flow) (s' : Shared) : Prop :=
  match f with
  | .next | .cont => ∃ h' tk m' news', s' = { s with heap := h', toks := tk } ∧ Fr h₀ L h' m' ∧ News h₀ L h' ((I, o) :: news') ∧ (∀ p ∈ news', p.1 ≠ I) ∧ J m' news'
  | .brk => Q .next s'
  | .ret v => Q (.ret v) s'
theorem FPost.intro {I : Addr} {o : Obj} {J : (Str → Option Value) → List (Addr × Obj) → Prop} {h' : Heap} {tk : Nat} {m' : Str → Option Value} {news' nn : List (Addr × Obj)} (F : Fr h₀ L h' m') (N : News h₀ L h' nn) (hs : ∀ p ∈ (I, o) :: news', p ∈ nn) (hI : ∀ p ∈ news', p.1 ≠ I) (j : J m' news') :
    FPost h₀ L s I o J Q .next { s with heap := h', toks := tk } := ⟨h', tk, m', news', rfl, F, fun p hp => N p (hs p hp), hI, j⟩
theorem for_range {r : Addr} {a b : Int} {t u v : Tok} (J : Nat → (Str → Option Value) → List (Addr × Obj) → Prop) (hh : A.handled = none) (hr : IsRange s.heap r a b 1 t u v) (ha : -(2 ^ 62) ≤ a) (ha' : a < 2 ^ 62) (hb : -(2 ^ 62) ≤ b) (hb' : b < 2 ^ 62)
    (F : Fr h₀ L s.heap m) (N : News h₀ L s.heap news) (hj : J 0 m news)
    (turn : ∀ (i : Nat) (I : Addr) (o : Obj) (m₁ : Str → Option Value) (news₁ : List (Addr × Obj)) (σ : Shared) (tv : Tok) (QT : Flow → Shared → Prop), i < (b - a).toNat → (∀ p ∈ news, p.1 < I) → J i m₁ news₁ → Fr h₀ L σ.heap m₁ → News h₀ L σ.heap ((I, o) :: news₁) → (∀ p ∈ news₁, p.1 ≠ I) →
      (∃ h tk, σ = { s with heap := h, toks := tk }) → (∀ f s', FPost h₀ L σ I o (J (i + 1)) Q f s' → QT f s') →
      wpAny (model prog w) A (assign target env (.int (a + i) tv)) (fun _ s₂ => wpAny (model prog w) A (execs body env) QT (fun _ _ => False) s₂) (fun _ _ => False) σ)
    (done : ∀ m₁ news₁ h tk, J (b - a).toNat m₁ news₁ → Fr h₀ L h m₁ → News h₀ L h news₁ → Q .next { s with heap := h, toks := tk })
    (ht : ∀ it v, letOwnedTupleGo target it v = pure () := by intro _ _; rfl) :
    wpAny (model prog w) A (pyIter (.ref r)) (fun it s₂ => codeAny (model prog w) A (.forLoop target it body [] env) (fun r s' => match r with | .ok f => Q f s' | .error e => cameBackBy (model prog w) A env E e s') s₂) E s := by
  refine wpAny_pyIter_range hr (small_one ha ha' hb hb') ?_
  rw [rangeSize_nat]
  generalize hn : (b - a).toNat = n at *
  have W := Walks.range (prog := prog) (w := w) (A := A) hh s.heap.objs.size a 1 n
  have hIL : s.heap.objs.size ≠ L := Nat.ne_of_gt F.ns.lt
  have hI0 : h₀.get? s.heap.objs.size = none := by
    cases hq : h₀.get? s.heap.objs.size with
    | none => rfl
    | some o => exact absurd (Heap.lt_size (F.keep _ _ hq)) (Nat.lt_irrefl _)
  have hIN : ∀ p ∈ news, p.1 ≠ s.heap.objs.size := fun p hp => Nat.ne_of_lt (Heap.lt_size (N p hp).1)
  have hIlt : ∀ p ∈ news, p.1 < s.heap.objs.size := fun p hp => Heap.lt_size (N p hp).1
  generalize hIe : s.heap.objs.size = I at *
  refine codeAny_forLoop (fun k s' => ∃ h tk m₁ news₁ i, s' = { s with heap := h, toks := tk } ∧ IsRangeIter h I (a + (i : Nat) * 1) ((n : Int) - (i : Nat)) 1 ∧ Fr h₀ L h m₁ ∧ News h₀ L h news₁ ∧ (∀ p ∈ news₁, p.1 ≠ I) ∧ J i m₁ news₁ ∧ i ≤ n ∧ k = n - i) ?_ n
    ⟨_, s.toks, m, news, 0, rfl, ?_, F.push _, (fun p hp => ⟨Heap.get?_push_of_some _ (N p hp).1, (N p hp).2⟩), hIN, hj, Nat.zero_le _, rfl⟩ (ht _)
  · rintro k s' ⟨h, tk, m₁, news₁, i, rfl, hit, F₁, N₁, hI₁, hJ, hi, rfl⟩
    by_cases hlt : i < n
    · refine W.item i _ _ _ hlt hit fun v h' tk' hv hst' hk' => ?_
      obtain ⟨tv, rfl⟩ := hv
      obtain ⟨o, ho⟩ : ∃ o, h'.get? I = some o := ⟨_, hst'⟩
      have keep : ∀ b o, b ≠ I → h.get? b = some o → h'.get? b = some o := fun b o hb e => hk' b o (by simpa using hb) e
      have F₂ : Fr h₀ L h' m₁ := ⟨F₁.ns.at' fun o e => keep _ o (Ne.symm hIL) e, fun b o e => keep b o (fun q => by rw [q, hI0] at e; cases e) (F₁.keep b o e), F₁.above⟩
      have N₂ : News h₀ L h' ((I, o) :: news₁) := fun p hp => by
        rcases List.mem_cons.mp hp with rfl | hp
        · exact ⟨ho, hIL, hI0⟩
        · exact ⟨keep _ _ (hI₁ p hp) (N₁ p hp).1, (N₁ p hp).2⟩
      have z := turn i I o m₁ news₁ { s with heap := h', toks := tk' } tv (FPost h₀ L s I o (J (i + 1)) Q) hlt hIlt hJ F₂ N₂ hI₁ ⟨_, _, rfl⟩ (fun f s' q => by cases f <;> exact q)
      rw [Int.mul_one]
      refine wpAny_mono z (fun _ s₂ h₂ => wpAny_mono h₂ (fun f s₃ h₃ => ?_) fun _ _ q => q.elim) fun _ _ q => q.elim
      have fin : (∃ h' tk m' news', s₃ = { s with heap := h', toks := tk } ∧ Fr h₀ L h' m' ∧ News h₀ L h' ((I, o) :: news') ∧ (∀ p ∈ news', p.1 ≠ I) ∧ J (i + 1) m' news') →
          ∃ m, m < n - i ∧ ∃ h tk m₁ news₁ i, s₃ = { s with heap := h, toks := tk } ∧ IsRangeIter h I (a + (i : Nat) * 1) ((n : Int) - (i : Nat)) 1 ∧ Fr h₀ L h m₁ ∧ News h₀ L h news₁ ∧ (∀ p ∈ news₁, p.1 ≠ I) ∧ J i m₁ news₁ ∧ i ≤ n ∧ m = n - i := by
        rintro ⟨h₅, tk₃, m₃, news₃, rfl, F₃, N₃, hI₃, hJ₃⟩
        refine ⟨n - (i + 1), by omega, h₅, tk₃, m₃, news₃, i + 1, rfl, ?_, F₃, fun p hp => N₃ p (.tail _ hp), hI₃, hJ₃, hlt, rfl⟩
        have e1 := (N₃ _ (.head _)).1
        exact W.frame (i + 1) h' h₅ hst' fun b hb o' e => by
          have : b = I := by simpa using hb
          subst this
          rw [ho] at e; cases e; exact e1
      cases f with
      | next => exact fin h₃
      | cont => exact fin h₃
      | brk => exact h₃
      | ret v => exact h₃
    · have hin : i = n := by omega
      subst hin
      refine W.done _ _ _ hit fun h' tk' hk' => wpAny_execs_nil ?_
      have keep : ∀ b o, b ≠ I → h.get? b = some o → h'.get? b = some o := fun b o hb e => hk' b o (by simpa using hb) e
      exact done m₁ news₁ h' tk' hJ ⟨F₁.ns.at' fun o e => keep _ o (Ne.symm hIL) e, fun b o e => keep b o (fun q => by rw [q, hI0] at e; cases e) (F₁.keep b o e), F₁.above⟩ (fun p hp => ⟨keep _ _ (hI₁ p hp) (N₁ p hp).1, (N₁ p hp).2⟩)
  · show IsRangeIter _ I _ _ 1
    have e : ∀ o : Obj, o.isFreed = false → (s.heap.push o).get? I = some o := fun o ho => by
      have := Heap.get?_push_size s.heap ho
      rw [hIe] at this; exact this
    unfold IsRangeIter
    rw [e _ rfl]
    simp
end
end Mine
end

section
open PySem PySem.W PyProof.Rows PySem.Calls
set_option maxHeartbeats 8000000
namespace Mine
theorem for_gen {prog : Program} {w : World} {A : Around} {s : Shared} {R : Result → Shared → Prop} {target it body orelse env} (I : Around → Nat → Shared → Prop) (n : Nat) (h : I A n s)
    (turn : ∀ n s, I A n s → wpAny (model prog w) A (pyNext it) (fun r s₁ => match r with
      | none => wpAny (model prog w) A (execs orelse env) (fun f s₃ => R (.ok f) s₃) (fun _ _ => False) s₁
      | some v => wpAny (model prog w) A (assign target env v) (fun _ s₂ => wpAny (model prog w) A (execs body env) (fun f s₃ => match f with
          | .next | .cont => ∃ m, m < n ∧ I A m s₃
          | .brk => R (.ok .next) s₃
          | .ret v => R (.ok (.ret v)) s₃) (fun _ _ => False) s₂) (fun _ _ => False) s₁) (fun _ _ => False) s)
    (ht : ∀ v, letOwnedTupleGo target it v = pure () := by intro _; rfl) : codeAny (model prog w) A (.forLoop target it body orelse env) R s := by
  refine codeAny_forLoop (I A) (fun n s hI => wpAny_mono (turn n s hI) (fun r s₁ h₁ => ?_) fun _ _ q => q.elim) n h ht
  cases r with
  | none => exact wpAny_mono h₁ (fun _ _ q => q) fun _ _ q => q.elim
  | some v => exact wpAny_mono h₁ (fun _ s₂ h₂ => wpAny_mono h₂ (fun _ _ q => q) fun _ _ q => q.elim) fun _ _ q => q.elim
section
variable {prog : Program} {w : World} {A : Around} {s : Shared} {R : Result → Shared → Prop} {target : Expr} {it : Value} {body orelse : List Stmt} {env : Env}
/-- one turn of a for -/
theorem for_once (turn : wpAny (model prog w) A (pyNext it) (fun r s₁ => match r with
      | none => wpAny (model prog w) A (execs orelse env) (fun f s₃ => R (.ok f) s₃) (fun _ _ => False) s₁
      | some v => wpAny (model prog w) A (letOwnedTupleGo target it v) (fun _ s₁ => wpAny (model prog w) A (assign target env v) (fun _ s₂ => wpAny (model prog w) A (execs body env) (fun f s₃ => match f with
          | .next | .cont => codeAny (model prog w) A (.forLoop target it body orelse env) R s₃
          | .brk => R (.ok .next) s₃
          | .ret v => R (.ok (.ret v)) s₃) (fun _ _ => False) s₂) (fun _ _ => False) s₁) (fun _ _ => False) s₁) (fun _ _ => False) s) : codeAny (model prog w) A (.forLoop target it body orelse env) R s := by
  refine codeAny_of_tree ?_
  show wpAny _ _ ((forTurn target it body orelse env).onRaise (fun x => do noteFrame x env; theTreesLotGoes x)) _ _ s
  refine wpAny_onRaise (wpAny_mono (Q := fun fin s' => match fin with | .done f => R (.ok f) s' | .again c' => c'.quiet = true ∧ codeAny (model prog w) A c' R s') (E := fun _ _ => False) ?_ (fun _ _ q => q) fun _ _ q => q.elim)
  simp only [forTurn]
  refine wpAny_bind (wpAny_standAt (wpAny_bind (wpAny_onRaise (wpAny_mono turn (fun r s₁ h₁ => ?_) fun _ _ h' => h'.elim))))
  cases r with
  | none => exact wpAny_pure ⟨rfl, codeAny_block (wpAny_mono h₁ (fun _ _ q => q) fun _ _ q => q.elim)⟩
  | some v =>
    refine wpAny_bind (wpAny_mono h₁ (fun _ s₁' h₁' => wpAny_bind (wpAny_mono h₁' (fun _ s₂ h₂ => wpAny_bind (wpAny_mono h₂ (fun f s₃ h₃ => ?_) fun _ _ h' => h')) fun _ _ h' => h')) fun _ _ h' => h')
    cases f with
    | next => exact wpAny_pure ⟨rfl, h₃⟩
    | cont => exact wpAny_pure ⟨rfl, h₃⟩
    | brk => exact wpAny_pure h₃
    | ret v => exact wpAny_pure h₃
end
section
variable {prog : Program} {w : World} {A : Around} {env : Env} {h₀ : Heap} {L : Addr} {m : Str → Option Value} {news : List (Addr × Obj)} {s : Shared} {Q : Flow → Shared → Prop} {E : Value → Shared → Prop} {target : Expr} {body : List Stmt}
/-- a turn's end in a loop over a list that stands -/
noncomputable def T2Post (h₀ : Heap) (L : Addr) (s : Shared) (news : List (Addr × Obj)) (J : (Str → Option Value) → Prop) (Q : Flow → Shared → Prop) (f : Flow) (s' : Shared) : Prop :=
  match f with
  | .next | .cont => ∃ h' tk m', s' = { s with heap := h', toks := tk } ∧ Fr h₀ L h' m' ∧ News h₀ L h' news ∧ J m'
  | .brk => Q .next s'
  | .ret v => Q (.ret v) s'
theorem T2Post.intro {J : (Str → Option Value) → Prop} {h' : Heap} {tk : Nat} {m' : Str → Option Value} (F : Fr h₀ L h' m') (N : News h₀ L h' news) (j : J m') : T2Post h₀ L s news J Q .next { s with heap := h', toks := tk } := ⟨h', tk, m', rfl, F, N, j⟩
theorem for_two {r a₀ a₁ : Addr} {k : Nat} {elts : List Expr} {x1} {pos : Pos} (J : Nat → (Str → Option Value) → Prop) (hh : A.handled = none) (hm : (r, listOf #[.ref a₀, .ref a₁] k) ∈ news) (F : Fr h₀ L s.heap m) (N : News h₀ L s.heap news) (hj : J 0 m)
    (turn : ∀ (i : Nat) (a : Addr) (o : Obj) (m₁ : Str → Option Value) (σ : Shared) (nw : List (Addr × Obj)) (QT : Flow → Shared → Prop), (i = 0 ∧ a = a₀ ∨ i = 1 ∧ a = a₁) → J i m₁ → Fr h₀ L σ.heap m₁ → News h₀ L σ.heap nw →
      (s.heap.objs.size, o) :: news = nw → (∃ h tk, σ = { s with heap := h, toks := tk }) → (∀ f s', T2Post h₀ L σ nw (J (i + 1)) Q f s' → QT f s') →
      wpAny (model prog w) A (assign (.Tuple elts x1 pos) env (.ref a)) (fun _ s₂ => wpAny (model prog w) A (execs body env) QT (fun _ _ => False) s₂) (fun _ _ => False) σ)
    (done : ∀ m₁ h tk, J 2 m₁ → Fr h₀ L h m₁ → News h₀ L h news → Q .next { s with heap := h, toks := tk }) :
    wpAny (model prog w) A (pyIter (.ref r)) (fun it s₂ => codeAny (model prog w) A (.forLoop (.Tuple elts x1 pos) it body [] env) (fun r s' => match r with | .ok f => Q f s' | .error e => cameBackBy (model prog w) A env E e s') s₂) E s := by
  have isl : ∀ h, News h₀ L h news → h.IsList r #[.ref a₀, .ref a₁] := fun h n => ⟨_, (n _ hm).1, rfl, k, rfl⟩
  refine wpAny_pyIter_list (isl _ N) ?_
  have hIL : @LT.lt Nat _ L s.heap.objs.size := F.ns.lt
  have hI0 : h₀.get? s.heap.objs.size = none := by
    cases hq : h₀.get? s.heap.objs.size with
    | none => rfl
    | some o => exact absurd (Heap.lt_size (F.keep _ _ hq)) (Nat.lt_irrefl _)
  have hIN : ∀ p ∈ news, p.1 ≠ s.heap.objs.size := fun p hp => Nat.ne_of_lt (Heap.lt_size (N p hp).1)
  have go : ∀ (i : Nat) (a : Addr) (h : Heap) (tk : Nat) (m₁ : Str → Option Value), (i = 0 ∧ a = a₀ ∨ i = 1 ∧ a = a₁) → h.IsListIter s.heap.objs.size r i → Fr h₀ L h m₁ → News h₀ L h news → J i m₁ →
      (∀ h tk m₁, h.IsListIter s.heap.objs.size r (i + 1) → Fr h₀ L h m₁ → News h₀ L h news → J (i + 1) m₁ →
        codeAny (model prog w) A (.forLoop (.Tuple elts x1 pos) (.ref s.heap.objs.size) body [] env) (fun r s' => match r with | .ok f => Q f s' | .error e => cameBackBy (model prog w) A env E e s') { s with heap := h, toks := tk }) →
      codeAny (model prog w) A (.forLoop (.Tuple elts x1 pos) (.ref s.heap.objs.size) body [] env) (fun r s' => match r with | .ok f => Q f s' | .error e => cameBackBy (model prog w) A env E e s') { s with heap := h, toks := tk } := by
    intro i a h tk m₁ hi hit F₁ N₁ hJ next
    have hx : #[Value.ref a₀, .ref a₁][i]? = some (.ref a) := by rcases hi with ⟨rfl, rfl⟩ | ⟨rfl, rfl⟩ <;> rfl
    refine for_once (wpAny_pyNext_list_item hit (isl _ N₁) hx fun h' hit' hs => wpAny_letOwnedTupleGo_listiter (s := { s with heap := h', toks := tk }) hit' ?_)
    obtain ⟨o, eo, ec, ed⟩ := hit'
    have F₂ := Fr.sameNew F₁ hIL hs
    have N₂ : News h₀ L h' ((s.heap.objs.size, o) :: news) := fun p hp => by
      rcases List.mem_cons.mp hp with rfl | hp
      · exact ⟨eo, Nat.ne_of_gt hIL, hI0⟩
      · exact ⟨(hs.2 _ (hIN p hp)).trans (N₁ p hp).1, (N₁ p hp).2⟩
    refine wpAny_mono (turn i a o m₁ { s with heap := h', toks := tk } _ (T2Post h₀ L s ((s.heap.objs.size, o) :: news) (J (i + 1)) Q) hi hJ F₂ N₂ rfl ⟨_, _, rfl⟩ (fun f s' q => by cases f <;> exact q)) (fun _ s₂ h₂ => wpAny_mono h₂ (fun f s₃ h₃ => ?_) fun _ _ q => q.elim) fun _ _ q => q.elim
    have fin : (∃ h' tk m', s₃ = { s with heap := h', toks := tk } ∧ Fr h₀ L h' m' ∧ News h₀ L h' ((s.heap.objs.size, o) :: news) ∧ J (i + 1) m') →
        codeAny (model prog w) A (.forLoop (.Tuple elts x1 pos) (.ref s.heap.objs.size) body [] env) (fun r s' => match r with | .ok f => Q f s' | .error e => cameBackBy (model prog w) A env E e s') s₃ := by
      rintro ⟨h₅, tk₅, m₅, rfl, F₅, N₅, j₅⟩
      exact next h₅ tk₅ m₅ ⟨o, (N₅ _ (.head _)).1, ec, ed⟩ F₅ (fun p hp => N₅ p (.tail _ hp)) j₅
    cases f with
    | next => exact fin h₃
    | cont => exact fin h₃
    | brk => exact h₃
    | ret v => exact h₃
  refine go 0 a₀ _ _ m (.inl ⟨rfl, rfl⟩) ⟨_, Heap.get?_push_size _ rfl, rfl, rfl⟩ (F.push _) (fun p hp => ⟨Heap.get?_push_of_some _ (N p hp).1, (N p hp).2⟩) hj fun h tk m₁ hit F₁ N₁ j₁ => ?_
  refine go 1 a₁ h tk m₁ (.inr ⟨rfl, rfl⟩) hit F₁ N₁ j₁ fun h tk m₁ hit F₁ N₁ j₁ => ?_
  refine for_once (wpAny_pyNext_list_end hh hit (isl _ N₁) rfl fun h' hs => wpAny_execs_nil ?_)
  have keep : ∀ b o, b ≠ s.heap.objs.size → h.get? b = some o → h'.get? b = some o := fun b o hb e => hs b o hb e
  exact done m₁ h' tk j₁ ⟨F₁.ns.at' fun o e => keep _ o (Nat.ne_of_lt hIL) e, fun b o e => keep b o (fun q => by rw [q, hI0] at e; cases e) (F₁.keep b o e), F₁.above⟩ (fun p hp => ⟨keep _ _ (hIN p hp) (N₁ p hp).1, (N₁ p hp).2⟩)
end
theorem if_join {M : Model} {A : Around} {s : Shared} {Q : Flow → Shared → Prop} {E : Value → Shared → Prop} {h₀ : Heap} {L : Addr} {m : Str → Option Value} {news : List (Addr × Obj)} {c : Bool} {test : Expr} {body orelse : List Stmt} {pos : Pos} {env : Env}
    (_ : Fr h₀ L s.heap m) (_ : News h₀ L s.heap news)
    (ht : ∀ QB : Bool → Shared → Prop, (∀ b h' tk, b = c → Fr h₀ L h' m → News h₀ L h' news → QB b { s with heap := h', toks := tk }) → wpAny M A (isTrue test env (eval test env)) QB (fun _ _ => False) s)
    (h1 : c = true → ∀ h' tk, Fr h₀ L h' m → News h₀ L h' news → wpAny M A (execs body env) Q E { s with heap := h', toks := tk })
    (h2 : c = false → ∀ h' tk, Fr h₀ L h' m → News h₀ L h' news → wpAny M A (execs orelse env) Q E { s with heap := h', toks := tk }) :
    wpAny M A (exec (.If test body orelse pos) env) Q E s := by
  refine wpAny_If (wpAny_mono (ht (fun b s₂ => ∃ h' tk, b = c ∧ Fr h₀ L h' m ∧ News h₀ L h' news ∧ s₂ = { s with heap := h', toks := tk }) fun b h' tk e F N => ⟨h', tk, e, F, N, rfl⟩) (fun b s₂ q => ?_) fun _ _ q => q.elim)
  obtain ⟨h', tk, rfl, F, N, rfl⟩ := q
  cases b with
  | true => exact h1 rfl h' tk F N
  | false => exact h2 rfl h' tk F N
end Mine
end

section
open PySem PySem.W PyProof.Rows
set_option maxHeartbeats 8000000
namespace Mine
theorem kw_p06_1 : True := by
  k_with "p06_1" => ((refine' enter (by assumption) (Top.nolimit (by assumption)) (by k_is) (by k_is) (by first | omega | k_room) (by exact BindsTo.of_eq rfl) (by exact locs rfl) (by decide) (by exact rfl) (by exact rfl) (by exact rfl) ?_))
  trivial

theorem kw_p06_2 : True := by
  k_with "p06_2" => (((with_reducible show wpAny _ _ (call (Value.ref 21) [Value.str _ _, Value.str _ _]) _ _ _); k_dflt (refine' strcoll_at (by k_asm) (by k_asm) (by k_asm) (by k_asm) (by k_room) ?_); intro h' tk' t' F' N'; (try k_sweep); (try dsimp only)))
  trivial
local macro_rules | `(tactic| walk_at "call ref") => `(tactic| k_extra "p06_2")

theorem kw_p06_3 : True := by
  k_with "p06_3" => (repeat' ((fail_if_success (with_reducible show wpAny _ _ (exec (Stmt.While _ _ _ _) _) _ _ _)); (fail_if_success (with_reducible show wpAny _ _ (exec (Stmt.For _ _ _ _ _) _) _ _ _)); (fail_if_success (with_reducible show wpAny _ _ (pyIter (Value.ref _)) _ _ _)); first | (k_unfold; (try dsimp only)) | walk1 | (dsimp only; walk1)))
  trivial

theorem upTo {R : Int → Prop} {lo b : Int} (h : ∀ j, lo ≤ j → j < b → R j) (r : R b) : ∀ j, lo ≤ j → j < b + 1 → R j := fun j h1 h2 =>
  if e : j = b then e ▸ r else h j h1 (by omega)
theorem downTo {R : Int → Prop} {f hi : Int} (h : ∀ j, f ≤ j → j < hi → R j) (r : R (f - 1)) : ∀ j, f - 1 ≤ j → j < hi → R j := fun j h1 h2 =>
  if e : j = f - 1 then e ▸ r else h j (by omega) h2
/-- where the first loop of told_at stands: no place between comes ahead -/
structure Lo1 (word : Str) (place : Int) (mark : Str) (side : Int) (b : Int) : Prop where
  lo : place + 1 ≤ b
  hi : b ≤ word.length
  no : ∀ j, place + 1 ≤ j → j < b → coll (Txt.slice word (some j) none ++ mark) (Txt.slice word (some place) none ++ mark) ≠ side
structure Lo2 (word : Str) (place step : Int) (f : Int) : Prop where
  lo : 0 ≤ f
  hi : f ≤ place
  eq : ∀ j, f ≤ j → j < place → coll (Txt.item word j) (Txt.item word (j + step)) = 0
structure Lo3 (word : Str) (b step : Int) (z : Int) : Prop where
  lo : b ≤ z
  hi : z ≤ word.length
  eq : ∀ j, b ≤ j → j < z → coll (Txt.item word j) (Txt.item word (j - step)) = 0
noncomputable def over (word : Str) (step z : Int) : Int := if z = word.length then -1 else coll (Txt.item word z) (Txt.item word (z - step))
/-- what one turn of told_at finds: the stretch's end b, the run's begin f and its end z -/
structure Tells (word : Str) (place : Int) (mark : Str) (side : Int) (b f z : Int) : Prop where
  l1 : Lo1 word place mark side b
  d1 : b < word.length → coll (Txt.slice word (some b) none ++ mark) (Txt.slice word (some place) none ++ mark) = side
  l2 : Lo2 word place (b - place) f
  d2 : 0 < f → coll (Txt.item word (f - 1)) (Txt.item word (f - 1 + (b - place))) ≠ 0
  l3 : Lo3 word b (b - place) z
  d3 : z < word.length → coll (Txt.item word z) (Txt.item word (z - (b - place))) ≠ 0
noncomputable def IsTold (word : Str) (place side b f z : Int) : Prop := f < place ∧ z - f ≥ 2 * (b - place) ∧ over word (b - place) z = side
theorem isTold_of {word : Str} {place side b f z : Int} (h1 : f < place) (h2 : 2 * (b - place) ≤ z - f) (h3 : over word (b - place) z = side) : IsTold word place side b f z := ⟨h1, h2, h3⟩
noncomputable abbrev T3 := Int × Int × Int
noncomputable def ToldAt (word : Str) (place : Int) (res : List T3) : Prop :=
  ∃ b f z, Tells word place (Str.ofString "") (-1) b f z ∧ ((IsTold word place (-1) b f z ∧ res = [(f, z, b - place)]) ∨ (¬ IsTold word place (-1) b f z ∧
    ∃ b' f' z', Tells word place (Str.ofString "~") 1 b' f' z' ∧ ((IsTold word place 1 b' f' z' ∧ res = [(f', z', b' - place)]) ∨ (¬ IsTold word place 1 b' f' z' ∧ res = []))))
noncomputable def tripObj (a b c : Int) (t1 t2 t3 : Tok) (n : Nat) : Obj := { cls := .type "tuple", data := .seq #[.int a t1, .int b t2, .int c t3] n }
section
variable {h₀ h' : Heap} {L : Addr} {s : Shared} {m m' : Str → Option Value} {news : List (Addr × Obj)}
/-- one turn's end: not told, and on; or told, and back with it -/
noncomputable def JPost (h₀ : Heap) (L : Addr) (s : Shared) (m : Str → Option Value) (news : List (Addr × Obj)) (P : Prop) (a b c : Int) (f : Flow) (s' : Shared) : Prop :=
  (f = .next ∧ ¬ P ∧ ∃ h' tk o t, s' = { s with heap := h', toks := tk } ∧ Fr h₀ L h' (upd m (Str.ofString "over") (.int o t)) ∧ News h₀ L h' news) ∨
  (P ∧ ∃ h' tk l k t1 t2 t3, f = .ret (.ref l) ∧ s' = { s with heap := h', toks := tk } ∧ (∃ m', Fr h₀ L h' m') ∧ News h₀ L h' [(l, listOf #[.ref k] 0), (k, tripObj a b c t1 t2 t3 0)] ∧ k < l)
theorem JPost.next {P : Prop} {a b c : Int} {tk : Nat} {o : Int} {t : Tok} (hP : ¬ P) (F : Fr h₀ L h' (upd m (Str.ofString "over") (.int o t))) (N : News h₀ L h' news) : JPost h₀ L s m news P a b c .next { s with heap := h', toks := tk } :=
  .inl ⟨rfl, hP, h', tk, o, t, rfl, F, N⟩
theorem JPost.ret {P : Prop} {a b c : Int} {tk : Nat} {t1 t2 t3 : Tok} {l k : Addr} (hP : P) (F : Fr h₀ L h' m') (N : News h₀ L h' ((l, listOf #[.ref k] 0) :: (k, { cls := .type "tuple", data := .seq #[.int a t1, .int b t2, .int c t3] 0 }) :: news)) (hlt : @LT.lt Nat _ k l) :
    JPost h₀ L s m news P a b c (.ret (.ref l)) { s with heap := h', toks := tk } :=
  .inr ⟨hP, h', tk, l, k, t1, t2, t3, rfl, rfl, ⟨m', F⟩, fun p hp => N p (by simp only [List.mem_cons, List.not_mem_nil, or_false] at hp; rcases hp with rfl | rfl <;> simp [tripObj]), hlt⟩
end
theorem join {prog : Program} {w : World} {A : Around} {t : Sem Flow} {Q : Flow → Shared → Prop} {E : Value → Shared → Prop} {s : Shared} {h₀ : Heap} {L : Addr} {m : Str → Option Value} {news : List (Addr × Obj)} (F : Fr h₀ L s.heap m) (N : News h₀ L s.heap news) (P : Prop) (a b c : Int)
    (h1 : ∀ QJ : Flow → Shared → Prop, (∀ f s', JPost h₀ L s m news P a b c f s' → QJ f s') → wpAny (model prog w) A t QJ (fun _ _ => False) s) (h2 : ∀ f s', JPost h₀ L s m news P a b c f s' → Q f s') : wpAny (model prog w) A t Q E s :=
  wpAny_mono (h1 _ fun _ _ q => q) h2 fun _ _ q => q.elim
noncomputable def tup2 (a : Str) (b : Int) (t u : Tok) : Obj := { cls := .type "tuple", data := .seq #[.str a t, .int b u] 0 }
theorem news_cons {h₀ h : Heap} {L a : Addr} {o : Obj} {news : List (Addr × Obj)} (N : News h₀ L h news) (ha : h.get? a = some o ∧ a ≠ L ∧ h₀.get? a = none) : News h₀ L h ((a, o) :: news) := fun q hq => by
  rcases List.mem_cons.mp hq with rfl | hq
  · exact ha
  · exact N q hq
/-- the marks and sides that the loop goes over -/
noncomputable def mk (i : Nat) : Str := if i = 0 then Str.ofString "" else Str.ofString "~"
noncomputable def sd (i : Nat) : Int := if i = 0 then -1 else 1
noncomputable def NoTold (word : Str) (place : Int) : Nat → Prop
  | 0 => True
  | i + 1 => NoTold word place i ∧ ∃ b f z, Tells word place (mk i) (sd i) b f z ∧ ¬ IsTold word place (sd i) b f z
theorem told_ret {word : Str} {place b f z : Int} {i : Nat} (hi : i = 0 ∨ i = 1) (hn : NoTold word place i) (ht : Tells word place (mk i) (sd i) b f z) (yes : IsTold word place (sd i) b f z) : ToldAt word place [(f, z, b - place)] := by
  rcases hi with rfl | rfl
  · exact ⟨b, f, z, ht, .inl ⟨yes, rfl⟩⟩
  · obtain ⟨_, b', f', z', h1, h2⟩ := hn
    exact ⟨b', f', z', h1, .inr ⟨h2, b, f, z, ht, .inl ⟨yes, rfl⟩⟩⟩
theorem told_none {word : Str} {place : Int} (hn : NoTold word place 2) : ToldAt word place [] := by
  obtain ⟨⟨_, b', f', z', h1, h2⟩, b, f, z, h3, h4⟩ := hn
  exact ⟨b', f', z', h1, .inr ⟨h2, b, f, z, h3, .inr ⟨h4, rfl⟩⟩⟩
noncomputable abbrev tl (word : Str) (place : Int) (ta tb : Tok) (o b f st si ma : Option Value) : Str → Option Value := fun y => if y = Str.ofString "over" then o else if y = Str.ofString "behind" then b else if y = Str.ofString "first" then f else
  if y = Str.ofString "step" then st else if y = Str.ofString "side" then si else if y = Str.ofString "mark" then ma else List.lookup y [(Str.ofString "word", .str word ta), (Str.ofString "place", .int place tb)].reverse
theorem tl_none {word : Str} {place : Int} {ta tb : Tok} : (fun y => List.lookup y [(Str.ofString "word", Value.str word ta), (Str.ofString "place", Value.int place tb)].reverse) = tl word place ta tb none none none none none none := by
  funext y
  have e : ∀ x, x ∈ [Str.ofString "over", Str.ofString "behind", Str.ofString "first", Str.ofString "step", Str.ofString "side", Str.ofString "mark"] → List.lookup x [(Str.ofString "word", Value.str word ta), (Str.ofString "place", Value.int place tb)].reverse = none := by
    intro x hx
    simp only [List.mem_cons, List.not_mem_nil, or_false] at hx
    rcases hx with rfl | rfl | rfl | rfl | rfl | rfl <;> rfl
  simp only [tl]
  repeat' (first | (split; (rename_i h; subst h; exact e _ (by simp))) | rfl)
theorem tl_any {word : Str} {place : Int} {ta tb : Tok} {m : Str → Option Value} (h : ∀ y, y ≠ Str.ofString "over" → y ≠ Str.ofString "behind" → y ≠ Str.ofString "first" → y ≠ Str.ofString "step" → y ≠ Str.ofString "side" → y ≠ Str.ofString "mark" →
    m y = List.lookup y [(Str.ofString "word", Value.str word ta), (Str.ofString "place", Value.int place tb)].reverse) :
    m = tl word place ta tb (m (Str.ofString "over")) (m (Str.ofString "behind")) (m (Str.ofString "first")) (m (Str.ofString "step")) (m (Str.ofString "side")) (m (Str.ofString "mark")) := by
  funext y
  simp only [tl]
  split
  · rename_i q; subst q; rfl
  split
  · rename_i q; subst q; rfl
  split
  · rename_i q; subst q; rfl
  split
  · rename_i q; subst q; rfl
  split
  · rename_i q; subst q; rfl
  split
  · rename_i q; subst q; rfl
  exact h y ‹_› ‹_› ‹_› ‹_› ‹_› ‹_›
theorem told_spec {w : World} {e : Env} {s : Shared} {Q E : Value → Shared → Prop} {word : Str} {place : Int} {ta tb : Tok} {mean mg mb}
  (X : (Mine.hd.heap_1 w.params).In s.heap) (T : TopX mean mg mb s.heap) (hw : word.length ≤ 20) (h0 : 1 ≤ place) (h1 : place < word.length)
  (ret0 : ToldAt word place [] → ∀ h' tk a, Ext s.heap h' → s.heap.get? a = none → h'.get? a = some (listOf #[] 0) → Q (.ref a) { s with heap := h', toks := tk })
  (ret1 : ∀ f z st, ToldAt word place [(f, z, st)] → ∀ h' tk a b t1 t2 t3, Ext s.heap h' → s.heap.get? a = none → s.heap.get? b = none → b < a → h'.get? a = some (listOf #[.ref b] 0) →
    h'.get? b = some (tripObj f z st t1 t2 t3 0) → Q (.ref a) { s with heap := h', toks := tk }) :
  wpAny (model PySem.Challenge.rw_pk0055_01.row.prog w) (callerA.deeper e) (call (.ref 117) [.str word ta, .int place tb]) Q E s := by
  revert X
  k_fill
  intro X
  refine' enter (binds := [(Str.ofString "word", .str word ta), (Str.ofString "place", .int place tb)]) X T.nolimit ?k6 ?k7 ?k8 ?k9 ?kB ?c5 ?c2 ?c3 ?c4 ?_; (case k6 => k_is); (case k7 => k_is); (case k8 => k_room); (case k9 => exact BindsTo.of_eq rfl); (case kB => exact locs rfl); (case c2 => exact rfl); (case c3 => exact rfl); (case c4 => exact rfl); (case c5 => decide)
  intro h₁ L₁ tk₁ F₁ N₁
  k_fold
  k_extra "p06_3"
  refine wpAny_For ?_
  k_extra "p06_3"
  rename Fr _ _ _ _ => F₂
  rename News _ _ _ _ => N₂
  rw [tl_none] at F₂
  refine for_two (fun i m₁ => (∃ o b f st si ma, m₁ = tl word place ta tb o b f st si ma) ∧ NoTold word place i) rfl (.head _) F₂ N₂ ⟨⟨_, _, _, _, _, _, rfl⟩, trivial⟩ ?turn ?done
  case done =>
    rintro m₁ h tk ⟨-, hn⟩ F' N'
    dsimp only
    k_extra "p06_3"
    rename Fr _ _ _ _ => F₇
    rename News _ _ _ _ => N₇
    exact ret0 (told_none hn) _ _ _ F₇.keep (N₇ _ (.head _)).2.2 (N₇ _ (.head _)).1
  case turn =>
    rintro i a o m₁ σ nw QT hv ⟨⟨c1, c2, c3, c4, c5, c6, rfl⟩, hn⟩ F' N' hnw hσ hQT
    have hi2 : i = 0 ∨ i = 1 := by rcases hv with q | q; exact .inl q.1; exact .inr q.1
    have hk : ∃ t u, σ.heap.get? a = some (tup2 (mk i) (sd i) t u) ∧ a ≠ L₁ ∧ s.heap.get? a = none := by
      rcases hv with ⟨rfl, rfl⟩ | ⟨rfl, rfl⟩
      · exact ⟨_, _, N' _ (by rw [← hnw]; exact .tail _ (.tail _ (.tail _ (.head _))))⟩
      · exact ⟨_, _, N' _ (by rw [← hnw]; exact .tail _ (.tail _ (.head _)))⟩
    obtain ⟨t₀, u₀, hk⟩ := hk
    have N₃ := news_cons N' hk
    clear N' F₂ N₂ hk hv hnw
    have fin : ∀ b f z, Tells word place (mk i) (sd i) b f z → ¬ IsTold word place (sd i) b f z → NoTold word place (i + 1) := fun b f z h1 h2 => ⟨hn, b, f, z, h1, h2⟩
    have yes : ∀ b f z, Tells word place (mk i) (sd i) b f z → IsTold word place (sd i) b f z → ToldAt word place [(f, z, b - place)] := fun b f z h1 h2 => told_ret hi2 hn h1 h2
    have hml : (mk i).length ≤ 1 := by rcases hi2 with rfl | rfl <;> decide
    have hsd : sd i = -1 ∨ sd i = 1 := by rcases hi2 with rfl | rfl <;> decide
    unfold tup2 at N₃
    generalize mk i = mark at *
    generalize sd i = side at *
    k_extra "p06_3"
    refine' while_int (x := Str.ofString "behind") (Lo1 word place mark side) (fun b => Lo1 word place mark side b ∧ (b < word.length → coll (Txt.slice word (some b) none ++ mark) (Txt.slice word (some place) none ++ mark) = side)) (fun b => (word.length - b).toNat) (by k_asm) (by k_asm) rfl ⟨by omega, by omega, fun j _ _ => by omega⟩ ?_ ?_
    · intro b t σ' nw' QW QD hp F' N' hW hD
      have hp1 := hp.lo
      have hp2 := hp.hi
      k_extra "p06_3"
      all_goals first
        | exact hW _ _ (WPost.intro (by k_asm) (by k_asm) ⟨⟨by omega, by omega, upTo hp.no (by assumption)⟩, by omega⟩)
        | exact hD _ (WEnd.intro (by k_asm) (by k_asm) ⟨hp, fun _ => by assumption⟩)
        | exact hD _ (WEnd.intro (by k_asm) (by k_asm) ⟨hp, fun _ => by omega⟩)
    intro b1 t h tk hp F' N'
    have hp1 := hp.1.lo
    have hp2 := hp.1.hi
    dsimp only
    k_extra "p06_3"
    refine' while_int (x := Str.ofString "first") (Lo2 word place (b1 - place)) (fun f => Lo2 word place (b1 - place) f ∧ (0 < f → coll (Txt.item word (f - 1)) (Txt.item word (f - 1 + (b1 - place))) ≠ 0)) (fun f => f.toNat) (by k_asm) (by k_asm) rfl ⟨by omega, by omega, fun j _ _ => by omega⟩ ?_ ?_
    · intro f t σ' nw' QW QD hf F' N' hW hD
      have hf1 := hf.lo
      have hf2 := hf.hi
      k_extra "p06_3"
      all_goals first
        | exact hW _ _ (WPost.intro (by k_asm) (by k_asm) ⟨⟨by omega, by omega, downTo hf.eq (by assumption)⟩, by omega⟩)
        | exact hD _ (WEnd.intro (by k_asm) (by k_asm) ⟨hf, fun _ => by assumption⟩)
        | exact hD _ (WEnd.intro (by k_asm) (by k_asm) ⟨hf, fun _ => by omega⟩)
    intro f1 t h tk hf F' N'
    have hf1 := hf.1.lo
    have hf2 := hf.1.hi
    dsimp only
    k_extra "p06_3"
    refine' while_int (x := Str.ofString "behind") (Lo3 word b1 (b1 - place)) (fun z => Lo3 word b1 (b1 - place) z ∧ (z < word.length → coll (Txt.item word z) (Txt.item word (z - (b1 - place))) ≠ 0)) (fun z => (word.length - z).toNat) (by k_asm) (by k_asm) rfl ⟨by omega, by omega, fun j _ _ => by omega⟩ ?_ ?_
    · intro z t σ' nw' QW QD hz F' N' hW hD
      have hz1 := hz.lo
      have hz2 := hz.hi
      k_extra "p06_3"
      all_goals first
        | exact hW _ _ (WPost.intro (by k_asm) (by k_asm) ⟨⟨by omega, by omega, upTo hz.eq (by assumption)⟩, by omega⟩)
        | exact hD _ (WEnd.intro (by k_asm) (by k_asm) ⟨hz, fun _ => by assumption⟩)
        | exact hD _ (WEnd.intro (by k_asm) (by k_asm) ⟨hz, fun _ => by omega⟩)
    intro z1 t h tk hz F' N'
    have hz1 := hz.1.lo
    have hz2 := hz.1.hi
    have tells : Tells word place mark side b1 f1 z1 := ⟨hp.1, hp.2, hf.1, hf.2, hz.1, hz.2⟩
    dsimp only
    refine' join (by k_asm) (by k_asm) (IsTold word place side b1 f1 z1) f1 z1 (b1 - place) ?_ ?_
    · intro QJ hQJ
      k_extra "p06_3"
      all_goals first
        | (refine' hQJ _ _ (JPost.next ?hn ?f1 ?f2); (case f1 => k_asm); (case f2 => k_asm); (case hn => (intro hT; obtain ⟨x1, x2, x3⟩ := hT; first | omega | (unfold over at x3; first | (rw [if_pos (by assumption)] at x3; omega) | (rw [if_neg (by assumption)] at x3; exact absurd x3 (by assumption))))))
        | (refine' hQJ _ _ (JPost.ret (isTold_of ?n1 ?n2 ?n3) ?f1 ?f2 ?n4); (case f1 => k_asm); (case f2 => k_asm); (case n1 => omega); (case n2 => omega); (case n4 => omega); (case n3 => (unfold over; first | exact if_pos (by assumption) | exact (if_pos (by assumption)).trans (by assumption) | exact (if_neg (by assumption)).trans (by assumption))))
    intro fl s' hJ
    rcases hJ with ⟨rfl, no1, h, tk, o', t, rfl, F', N'⟩ | ⟨yes', h, tk, l, k, t1, t2, t3, rfl, rfl, ⟨m', FR⟩, NR, hkl⟩
    · refine hQT _ _ (T2Post.intro F' (fun q hq => N' q (.tail _ (.tail _ hq))) ⟨⟨_, _, _, _, _, _, tl_any fun y y1 y2 y3 y4 y5 y6 => ?_⟩, fin _ _ _ tells no1⟩)
      simp only [upd, tl, y1, y2, y3, y4, y5, y6, if_false]
    · refine hQT _ _ ?_
      obtain ⟨hh, tkk, rfl⟩ := hσ
      k_extra "p06_3"
      exact ret1 _ _ _ (yes _ _ _ tells yes') _ _ _ _ _ _ _ FR.keep (NR _ (.head _)).2.2 (NR _ (.tail _ (.head _))).2.2 hkl (NR _ (.head _)).1 (NR _ (.tail _ (.head _))).1
end Mine
end

section
open PySem PySem.W PyProof.Rows PySem.Calls
set_option maxHeartbeats 8000000
namespace Mine
/-- the values vs are references to the ledger's triples ts -/
inductive Trips (news : List (Addr × Obj)) : List Value → List T3 → Prop where
  | nil : Trips news [] []
  | cons {a : Addr} {x y z : Int} {t1 t2 t3 : Tok} {vs : List Value} {ts : List T3} : (a, tripObj x y z t1 t2 t3 0) ∈ news → Trips news vs ts → Trips news (.ref a :: vs) ((x, y, z) :: ts)
theorem Trips.mono {n n' : List (Addr × Obj)} (hs : ∀ p ∈ n, p ∈ n') {vs : List Value} {ts : List T3} (h : Trips n vs ts) : Trips n' vs ts := by
  induction h with
  | nil => exact .nil
  | cons hm _ ih => exact .cons (hs _ hm) ih
theorem Trips.snoc {n : List (Addr × Obj)} {vs : List Value} {ts : List T3} {a : Addr} {x y z : Int} {t1 t2 t3 : Tok} (h : Trips n vs ts) (hm : (a, tripObj x y z t1 t2 t3 0) ∈ n) : Trips n (vs ++ [.ref a]) (ts ++ [(x, y, z)]) := by
  induction h with
  | nil => exact .cons hm .nil
  | cons hm' _ ih => exact .cons hm' ih
theorem Trips.length {n : List (Addr × Obj)} {vs : List Value} {ts : List T3} (h : Trips n vs ts) : vs.length = ts.length := by
  induction h with
  | nil => rfl
  | cons _ _ ih => simp [ih]
noncomputable def innerStep (word : Str) (step : Int) (st : Int × List T3) (place : Int) : Int × List T3 :=
  if place = word.length - step ∨ Txt.item word place ≠ Txt.item word (place + step) then
    (place + 1, if step ≤ place - st.1 ∧ (st.2.filter fun o => decide (o.1 = st.1) && decide (o.2.1 = place + step)) = [] then st.2 ++ [(st.1, place + step, step)] else st.2)
  else st
noncomputable def innerRun (word : Str) (step : Int) (found : List T3) : Nat → Int × List T3
  | 0 => (0, found)
  | k + 1 => innerStep word step (innerRun word step found k) k
noncomputable def outerRun (word : Str) : Nat → List T3
  | 0 => []
  | k + 1 => (innerRun word (1 + (k : Int)) (outerRun word k) ((word.length : Int) - (1 + (k : Int)) + 1 - 0).toNat).2
structure OutJ (word : Str) (L l : Addr) (m : Str → Option Value) (i : Nat) (m₁ : Str → Option Value) (news : List (Addr × Obj)) : Prop where
  hm : m₁ = m
  ex : ∃ o1 o2 o3 c1 c2 c3 vs n tups, @LT.lt Nat _ (L + 3) l ∧ (∀ p ∈ tups, @LT.lt Nat _ l p.1) ∧ news = (l, listOf vs.toArray n) :: (L + 1 + 1 + 1, o1) :: (L + 1 + 1, o2) :: (L + 1, o3) :: tups ∧ o1.data = .cell c1 ∧ o2.data = .cell c2 ∧ o3.data = .cell c3 ∧ Trips tups vs (outerRun word i)
structure InJ (word : Str) (step : Int) (L l : Addr) (m : Str → Option Value) (I : Addr) (o : Obj) (found : List T3) (i : Nat) (m₁ : Str → Option Value) (news : List (Addr × Obj)) : Prop where
  hm : m₁ = m
  ex : ∃ o1 o2 o3 c1 t2 t3 vs n tups, @LT.lt Nat _ (L + 3) l ∧ @LT.lt Nat _ l I ∧ (∀ p ∈ tups, @LT.lt Nat _ l p.1 ∧ p.1 ≠ I) ∧ news = (I, o) :: (l, listOf vs.toArray n) :: (L + 1 + 1 + 1, o1) :: (L + 1 + 1, o2) :: (L + 1, o3) :: tups ∧ o1.data = .cell c1 ∧ o2.data = .cell (some (.int (innerRun word step found i).1 t2)) ∧ o3.data = .cell (some (.int step t3)) ∧ Trips tups vs (innerRun word step found i).2
end Mine
end

section
open PySem PySem.W PyProof.Rows PySem.Calls
set_option maxHeartbeats 8000000
namespace Mine
section
variable {prog : Program} {w : World} {A : Around} {E : Value → Shared → Prop} {env : Env}
theorem listComp_ex {s : Shared} {elt iter : Expr} {x : Str} {px : Pos} {ifs : List Expr} {scope : Scope} {cl : List (Str × Addr)} {pos : Pos} {Q : Value → Shared → Prop}
    (hclos : closureFor scope env = pure cl) (hcell : ∀ y ∈ scope.names, y.2 ≠ .cell) (hkind : scope.kind = .function)
    (hnames : ∀ y ∈ scope.names, y.2 = .local → scope.names.lookup y.1 = some .local) (hx : scope.names.lookup x = some .local)
    (h : wpAny (model prog w) A (eval iter env) (fun xv s₁ => wpAny (model prog w) A (pyIter xv) (fun it s₂ => ∃ (p : Value → Bool) (F : Value → Value → Prop) (I : Addr) (fp wr : List Addr) (n : Nat) (P : Nat → Value → Prop) (St : Nat → Heap → Prop), it = .ref I ∧ Walks prog w A I fp wr n P St ∧ n ≤ sizeLine ∧ St 0 s₂.heap ∧ (∀ b ∈ fp, b < s₂.heap.objs.size) ∧
      QuietOnC prog w A env scope cl x ifs elt wr P p F s₂ ∧
      (∀ D h' tk ys (vs : List Value), s₂.heap.get? D = none → h'.IsList D ys → h'.PlainList D ys → vs.length = n → (∀ j v, vs[j]? = some v → P j v) → Paired F (vs.filter p) ys.toList →
        (∀ b o, b ∉ wr → s₂.heap.get? b = some o → h'.get? b = some o) → Q (.ref D) { s₂ with heap := h', toks := tk })) E s₁) E s)
    (hs : ∀ x, foldedSetIterable iter env x = pure x := by intro _; rfl) :
    wpAny (model prog w) A (eval (.ListComp elt [⟨.Name x px, iter, ifs, 0⟩] scope pos) env) Q E s := by
  rw [eval_ListComp]
  refine wpAny_comprehension_free (use := none) rfl hs hclos hkind hnames (wpAny_mono h (fun xv s₁ h₁ => wpAny_mono h₁ (fun it s₂ h₂ => ?_) fun _ _ e => e) fun _ _ e => e)
  obtain ⟨p, F, I, fp, wr, n, P, St, rfl, W, hsz, hst, hfp, hq, hQ⟩ := h₂
  refine comp_block_walkC (RR := fun acc C => compPost (model prog w) A E none Q acc C) W hsz p F hcell hkind hx hst hfp hq ?_
  intro D C h' tk m' ys vs hD hC hDC hn hl hpl hlen hP hF hk
  exact ⟨m', hn, fun h'' hs'' => hQ D h'' tk ys vs hD (hl.extBut hs''.extBut hDC) (hpl.extBut hs''.extBut hDC) hlen hP hF fun b o hbf e => hs''.extBut b o (by rintro rfl; rw [hC] at e; cases e) (hk b o hbf e)⟩
end
noncomputable def AllNe (d : Nat) : List (Addr × Obj) → Prop
  | [] => True
  | p :: r => @Ne Nat p.1 d ∧ AllNe d r
theorem allNe_of {d : Addr} : ∀ {l : List (Addr × Obj)}, (∀ p ∈ l, p.1 ≠ d) → AllNe d l
  | [], _ => trivial
  | p :: _, h => ⟨h p (.head _), allNe_of fun q hq => h q (.tail _ hq)⟩
section
variable {M : Model} {A : Around} {E : Value → Shared → Prop} {s : Shared} {scope : Scope} {cl : List (Str × Addr)} {C : Addr} {env : Env} {x : Str} {pos : Pos} {v : Value} {Q : Value → Shared → Prop} {h₀ : Heap} {m : Str → Option Value} {news : List (Addr × Obj)} {c : Addr} {o : Obj}
theorem nmL (F : Fr h₀ C s.heap m) (hv : m x = some v) (hk : scope.kind = .function) (hl : (compEnvC scope cl C env).kindOf x = some .local) (hd : (x == ("__debug__" : Str)) = false) (h : Q v s) : wpAny M A (eval (.Name x pos) (compEnvC scope cl C env)) Q E s :=
  wpAny_Name (wpAny_loadName_local hk hl F.ns hv h) hd
theorem nmC (N : News h₀ C s.heap news) (hk : scope.kind = .function) (hl : (compEnvC scope cl C env).kindOf x = some .cell) (hc : cl.lookup x = some c) (hm : (c, o) ∈ news) (ho : o.data = .cell (some v)) (hd : (x == ("__debug__" : Str)) = false) (h : Q v s) : wpAny M A (eval (.Name x pos) (compEnvC scope cl C env)) Q E s :=
  wpAny_Name (wpAny_loadName_cell hk hl hc ⟨o, (N _ hm).1, ho⟩ h) hd
end
theorem tripObj_inj {a b c a' b' c' : Int} {t1 t2 t3 u1 u2 u3 : Tok} (h : tripObj a b c t1 t2 t3 0 = tripObj a' b' c' u1 u2 u3 0) : (a, b, c) = (a', b', c') := by
  simp only [tripObj, Obj.mk.injEq, Data.seq.injEq, Array.mk.injEq, List.cons.injEq, Value.int.injEq] at h
  simp_all
open Classical in
noncomputable def pvOf (news : List (Addr × Obj)) (p : T3 → Bool) (v : Value) : Bool := decide (∃ a x y z t1 t2 t3, v = .ref a ∧ (a, tripObj x y z t1 t2 t3 0) ∈ news ∧ p (x, y, z) = true)
open Classical in
theorem pvOf_eq {h₀ h : Heap} {L : Addr} {news : List (Addr × Obj)} (N : News h₀ L h news) {p : T3 → Bool} {a : Addr} {x y z : Int} {t1 t2 t3 : Tok} (hm : (a, tripObj x y z t1 t2 t3 0) ∈ news) : pvOf news p (.ref a) = p (x, y, z) := by
  unfold pvOf
  cases hp : p (x, y, z) with
  | true => exact decide_eq_true ⟨a, x, y, z, t1, t2, t3, rfl, hm, hp⟩
  | false =>
    refine decide_eq_false ?_
    rintro ⟨a', x', y', z', u1, u2, u3, e, hm', hp'⟩
    cases e
    have e1 := (N _ hm).1
    have e2 := (N _ hm').1
    rw [e1] at e2
    have := tripObj_inj (Option.some.inj e2)
    rw [this, hp'] at hp; cases hp
theorem Trips.filter {h₀ h : Heap} {L : Addr} {news : List (Addr × Obj)} (N : News h₀ L h news) {p : T3 → Bool} {vs : List Value} {ts : List T3} (hT : Trips news vs ts) : Trips news (vs.filter (pvOf news p)) (ts.filter p) := by
  induction hT with
  | nil => exact .nil
  | @cons a x y z t1 t2 t3 vs ts hm _ ih =>
    rw [List.filter_cons, List.filter_cons, pvOf_eq N hm]
    cases p (x, y, z) with
    | true => exact .cons hm ih
    | false => exact ih
theorem Trips.get {news : List (Addr × Obj)} {vs : List Value} {ts : List T3} (hT : Trips news vs ts) {v : Value} (hv : v ∈ vs) : ∃ a x y z t1 t2 t3, v = .ref a ∧ (a, tripObj x y z t1 t2 t3 0) ∈ news := by
  induction hT with
  | nil => cases hv
  | cons hm _ ih =>
    rcases List.mem_cons.mp hv with rfl | hv
    · exact ⟨_, _, _, _, _, _, _, rfl, hm⟩
    · exact ih hv
theorem paired_eq {l₁ l₂ : List Value} (h : Paired (fun v y => y = v) l₁ l₂) : l₂ = l₁ := by
  induction h with
  | nil => rfl
  | cons e _ ih => rw [e, ih]
section
variable {prog : Program} {w : World} {A : Around} {E : Value → Shared → Prop} {env : Env} {s : Shared} {h₀ : Heap} {L l : Addr} {m : Str → Option Value} {news : List (Addr × Obj)} {vs : List Value} {ts : List T3} {n : Nat} {scope : Scope} {cl : List (Str × Addr)} {x : Str} {test : Expr} {pe : Pos} {Q : Value → Shared → Prop}
/-- the comprehension «[x for x in l if test]» over a list of triples -/
theorem comp_src (p : T3 → Bool) (hh : A.handled = none) (hkind : scope.kind = .function) (hx : scope.names.lookup x = some .local) (hd : (x == ("__debug__" : Str)) = false)
    (F : Fr h₀ L s.heap m) (N : News h₀ L s.heap news) (hl : (l, listOf vs.toArray n) ∈ news) (hT : Trips news vs ts) (hsz : vs.length ≤ sizeLine)
    (htest : ∀ C a y1 y2 y3 t1 t2 t3 s₃ m₃ (E' : Value → Shared → Prop), Fr h₀ C s₃.heap m₃ → m₃ x = some (.ref a) → News h₀ C s₃.heap ((a, tripObj y1 y2 y3 t1 t2 t3 0) :: news) →
      wpAny (model prog w) A (isTrue test (compEnvC scope cl C env) (eval test (compEnvC scope cl C env))) (fun ok s₄ => ok = p (y1, y2, y3) ∧ Keeps s₃ s₄) E' s₃)
    (ret : ∀ D h' tk ys k, Fr h₀ L h' m → News h₀ L h' ((D, listOf ys.toArray k) :: news) → AllNe D news → Trips news ys (ts.filter p) → ys = vs.filter (pvOf news p) → Q (.ref D) { s with heap := h', toks := tk }) :
    wpAny (model prog w) A (pyIter (.ref l)) (fun it s₂ => ∃ (p : Value → Bool) (F : Value → Value → Prop) (I : Addr) (fp wr : List Addr) (n : Nat) (P : Nat → Value → Prop) (St : Nat → Heap → Prop), it = .ref I ∧ Walks prog w A I fp wr n P St ∧ n ≤ sizeLine ∧ St 0 s₂.heap ∧ (∀ b ∈ fp, b < s₂.heap.objs.size) ∧
      QuietOnC prog w A env scope cl x [test] (.Name x pe) wr P p F s₂ ∧
      (∀ D h' tk ys (vs : List Value), s₂.heap.get? D = none → h'.IsList D ys → h'.PlainList D ys → vs.length = n → (∀ j v, vs[j]? = some v → P j v) → Paired F (vs.filter p) ys.toList →
        (∀ b o, b ∉ wr → s₂.heap.get? b = some o → h'.get? b = some o) → Q (.ref D) { s₂ with heap := h', toks := tk })) E s := by
  have hls : s.heap.IsList l vs.toArray := ⟨_, (N _ hl).1, rfl, n, rfl⟩
  refine wpAny_pyIter_list hls ?_
  have hne : l ≠ s.heap.objs.size := Nat.ne_of_lt (Heap.lt_size (N _ hl).1)
  have W := Walks.list (prog := prog) (w := w) hh s.heap.objs.size l hne vs.toArray
  have hI0 : h₀.get? s.heap.objs.size = none := by
    cases hq : h₀.get? s.heap.objs.size with
    | none => rfl
    | some o => exact absurd (Heap.lt_size (F.keep _ _ hq)) (Nat.lt_irrefl _)
  have hIN : ∀ q ∈ news, q.1 < s.heap.objs.size := fun q hq => Heap.lt_size (N q hq).1
  have inner : ∀ {C : Addr} {s₃ : Shared} {m₃ : Str → Option Value} {so : Obj}, (s.heap.push so).objs.size ≤ C → s₃.heap.Ns C m₃ → (∀ b o, b ∉ [s.heap.objs.size] → (s.heap.push so).get? b = some o → s₃.heap.get? b = some o) → Fr h₀ C s₃.heap m₃ ∧ News h₀ C s₃.heap news := by
    intro C s₃ m₃ so hC hn hk
    rw [Heap.size_push] at hC
    refine ⟨⟨hn, fun b o e => hk b o (by simp only [List.mem_singleton]; rintro rfl; rw [hI0] at e; cases e) (Heap.get?_push_of_some _ (F.keep b o e)), ?_⟩, fun q hq => ⟨hk _ _ (by simp only [List.mem_singleton]; exact Nat.ne_of_lt (hIN q hq)) (Heap.get?_push_of_some _ (N q hq).1), ?_, (N q hq).2.2⟩⟩
    · exact Nat.le_trans F.above (Nat.le_of_lt (Nat.lt_of_lt_of_le F.ns.lt (Nat.le_of_succ_le hC)))
    · have h1 := hIN q hq
      exact Nat.ne_of_lt (Nat.lt_of_lt_of_le h1 (Nat.le_of_succ_le hC))
  have getV : ∀ i v, vs.toArray[i]? = some v → v ∈ vs := fun i v e => by rw [List.getElem?_toArray] at e; exact List.mem_of_getElem? e
  refine ⟨pvOf news p, fun v y => y = v, _, _, _, _, _, _, rfl, W, by simpa using hsz, ⟨⟨_, Heap.get?_push_size _ rfl, rfl, rfl⟩, hls.at fun o e => Heap.get?_push_of_some _ e⟩, ?_, ⟨?_, ?_⟩, ?_⟩
  · intro b hb
    rw [Heap.size_push]
    simp only [List.mem_cons, List.not_mem_nil, or_false] at hb
    rcases hb with rfl | rfl
    · exact Nat.lt_succ_self _
    · exact Nat.lt_succ_of_lt (Heap.lt_size (N _ hl).1)
  · intro C i v s₃ m₃ E' hC hv hn hm hk _
    obtain ⟨a, x', y', z', t1, t2, t3, rfl, hmem⟩ := hT.get (getV i v hv)
    obtain ⟨F₃, N₃⟩ := inner hC hn hk
    have z := htest C a x' y' z' t1 t2 t3 s₃ m₃ E' F₃ hm (fun q hq => by
      rcases List.mem_cons.mp hq with rfl | hq
      · exact N₃ _ hmem
      · exact N₃ q hq)
    rw [List.forIn_cons]
    simp only [if_true]
    refine wpAny_bind (wpAny_bind (wpAny_mono z (fun ok s₄ h₄ => ?_) fun _ _ e => e))
    refine wpAny_pure ?_
    simp only [List.forIn_nil]
    exact wpAny_pure ⟨by rw [pvOf_eq N hmem]; exact h₄.1, h₄.2⟩
  · intro C i v s₃ m₃ E' hC hv _ hn hm hk _
    exact wpAny_Name (wpAny_loadName_local (by exact hkind) (lookup_relabel_local hx) hn hm ⟨rfl, s₃.heap, s₃.toks, rfl, fun _ _ e => e⟩) hd
  · intro D h' tk ys vs' hD _ hpl hlen hP hF hk
    have e1 : vs' = vs := by
      apply List.ext_getElem?
      intro j
      cases hj : vs'[j]? with
      | some v => have := hP j v hj; simpa using this.symm
      | none =>
        have : vs'.length ≤ j := by simpa using hj
        symm
        simp at hlen
        simp only [List.getElem?_eq_none_iff]
        omega
    subst e1
    have e2 := paired_eq hF
    obtain ⟨k, hk2⟩ := hpl
    have keep : ∀ b o, s.heap.get? b = some o → h'.get? b = some o := fun b o e => hk b o (by simp only [List.mem_singleton]; exact Nat.ne_of_lt (Heap.lt_size e)) (Heap.get?_push_of_some _ e)
    have hD0 : s.heap.get? D = none := by
      cases hz : s.heap.get? D with
      | none => rfl
      | some o => rw [Heap.get?_push_of_some _ hz] at hD; cases hD
    refine ret D h' tk ys.toList k ⟨F.ns.keeps keep, fun b o e => keep b o (F.keep b o e), F.above⟩ (fun q hq => ?_) (allNe_of fun q hq e => ?_) (by rw [e2]; exact hT.filter N) e2
    · rcases List.mem_cons.mp hq with rfl | hq
      · refine ⟨by simpa [PySem.W.listOf] using hk2, ?_, ?_⟩
        · rintro rfl
          obtain ⟨oL, _, _, ho, _⟩ := F.ns
          rw [hD0] at ho; cases ho
        · cases hz : h₀.get? D with
          | none => rfl
          | some o => have := F.keep D o hz; rw [hD0] at this; cases this
      · exact ⟨keep _ _ (N q hq).1, (N q hq).2⟩
    · have := (N q hq).1
      rw [e, hD0] at this; cases this
end
end Mine
end

section
open PySem PySem.W PyProof.Rows PySem.Calls
set_option maxHeartbeats 8000000
namespace Mine
section
variable {prog : Program} {w : World} {A : Around} {E : Value → Shared → Prop} {s : Shared}
theorem sliceApplied_to2 {sl : Addr} {u : Tok} {Q : Int × Int × Nat → Shared → Prop} (hs : s.heap.IsSliceOf sl .none (.int 2 u) .none) (h : Q (0, 1, 2) s) :
    wpAny (model prog w) A (Builtin.Slice.sliceApplied (.ref sl) (pure ((3 : Nat) : Int))) Q E s := by
  obtain ⟨os, hos, hcs, hds⟩ := id hs
  unfold Builtin.Slice.sliceApplied Builtin.Slice.sliceFields
  refine wpAny_bind (wpAny_bind (wpAny_field hos hds (x := .none) rfl (wpAny_bind (wpAny_field hos hds (x := .int 2 u) rfl (wpAny_bind (wpAny_field hos hds (x := .none) rfl (wpAny_pure ?_)))))))
  refine wpAny_bind (slicePart_none ?_)
  show wpAny _ _ (if ((1 : Int) == 0) = true then _ else _) _ _ s
  rw [if_neg (by decide)]
  exact wpAny_bind (slicePart_none (wpAny_bind (slicePart_int (wpAny_bind (wpAny_pure (wpAny_pure h))))))
theorem getItem_to2 {t sl : Addr} {a b c : Value} {u : Tok} {Q : Value → Shared → Prop} (ht : IsTup s.heap t #[a, b, c]) (hs : s.heap.IsSliceOf sl .none (.int 2 u) .none)
    (h : Q (.ref s.heap.objs.size) { s with heap := s.heap.push { cls := .type "tuple", data := .seq #[a, b] } }) : wpAny (model prog w) A (getItem (.ref t) (.ref sl)) Q E s := by
  have hok : sizeOk (.seq #[a, b]) := by
    show 2 ≤ sizeLine
    rw [sizeLine_eq]; decide
  obtain ⟨os, hos, hcs, hds⟩ := id hs
  have hTs : s.TypeIs (.ref sl) "slice" := ⟨os, hos, hcs⟩
  unfold getItem
  try with_reducible refine wpAny_holding ?_
  first | refine wpAny_bind (wpAny_pure ?_) | skip
  refine wpAny_bind (wpAny_sequenceKey ht.typeIs (by decide) ?_)
  refine wpAny_bind (wpAny_callSpecial?_slot (name := Str.ofString "__getitem__") ht.typeIs slot_tuple_getitem
    (wpAny_call_entry slot_tuple_getitem ht.typeIs entry_tuple_getitem ?_ (args_tuple_getitem _ _)))
  show wpAny _ _ (Builtin.Tuple.tupleItemsOf (.ref t) >>= _) _ _ s
  refine wpAny_bind (tupleItemsOf_ ht ?_)
  refine wpAny_bind (wpAny_typeOf hTs ?_)
  rw [if_pos (by decide)]
  refine wpAny_bind (sliceApplied_to2 hs ?_)
  first
    | exact wpAny_bind (m := Builtin.Tuple.tupleExact _) (wpAny_newObj_type (wpAny_pure ⟨_, rfl, wpAny_pure h⟩) hok)
    | exact wpAny_bind (m := Builtin.Tuple.tupleExact _) (wpAny_newObj_type (wpAny_bind (wpAny_pure (wpAny_pure ⟨_, rfl, wpAny_pure h⟩))) hok)
    | exact wpAny_bind (wpAny_bind (m := Builtin.Tuple.tupleExact _) (wpAny_newObj_type (wpAny_pure (wpAny_pure ⟨_, rfl, wpAny_pure h⟩)) hok))
    | exact wpAny_bind (wpAny_bind (m := Builtin.Tuple.tupleExact _) (wpAny_newObj_type (wpAny_pure ⟨_, rfl, wpAny_pure h⟩) hok))
end
end Mine
end

section
open PySem PySem.W PyProof.Rows PySem.Calls
set_option maxHeartbeats 8000000
namespace Mine
noncomputable def pdT (t : T3) : PyData := .tuple [.int t.1, .int t.2.1, .int t.2.2]
theorem reads_trip {h₀ h : Heap} {L a : Addr} {news : List (Addr × Obj)} {x y z : Int} {t1 t2 t3 : Tok} (N : News h₀ L h news) (hm : (a, tripObj x y z t1 t2 t3 0) ∈ news) : ∃ as, Reads h (.ref a) (pdT (x, y, z)) as :=
  ⟨_, reads_tuple_at (N _ hm).1 rfl rfl (.cons (.int x t1) (.cons (.int y t2) (.cons (.int z t3) .nil)))⟩
theorem reads_trips {h₀ h : Heap} {L : Addr} {news : List (Addr × Obj)} (N : News h₀ L h news) {vs : List Value} {ts : List T3} (hT : Trips news vs ts) : ∃ as, ReadsAll h vs (ts.map pdT) as := by
  induction hT with
  | nil => exact ⟨_, .nil⟩
  | cons hm _ ih =>
    obtain ⟨as, r⟩ := reads_trip N hm
    obtain ⟨bs, q⟩ := ih
    exact ⟨_, .cons r q⟩
theorem pdT_lay (t : T3) : (pdT t).canLay0 = true ∧ (pdT t).depth ≤ 8 := by
  unfold pdT; simp [PyData.canLay0, PyData.canLayAll0, PyData.depth, PyData.depthAll]
theorem pdTs_lay : ∀ ts : List T3, PyData.canLayAll0 (ts.map pdT) = true ∧ PyData.depthAll (ts.map pdT) ≤ 8
  | [] => by simp [PyData.canLayAll0, PyData.depthAll]
  | t :: ts => by
    have h1 := pdT_lay t
    have h2 := pdTs_lay ts
    simp only [List.map_cons, PyData.canLayAll0, PyData.depthAll, h1.1, h2.1, Bool.and_self, true_and]
    omega
theorem shaped_trips (ts : List T3) : SeqAt.shaped (.list (ts.map pdT)) = true := by
  have h := pdTs_lay ts
  unfold SeqAt.shaped
  simp only [PyData.canLay0, PyData.depth, h.1, Bool.true_and]
  exact decide_eq_true (by have := h.2; omega)
theorem eqv_pdT (a b : T3) : PyData.eqv (pdT a) (pdT b) = decide (a = b) := by
  obtain ⟨a1, a2, a3⟩ := a; obtain ⟨b1, b2, b3⟩ := b
  simp only [pdT, PyData.eqv, PyData.eqvAll, Prod.mk.injEq, Bool.and_true, Bool.decide_and]
  congr 1
theorem eqvAll_pdT : ∀ as bs : List T3, PyData.eqvAll (as.map pdT) (bs.map pdT) = decide (as = bs)
  | [], [] => by simp [PyData.eqvAll]
  | [], b :: bs => by simp [PyData.eqvAll]
  | a :: as, [] => by simp [PyData.eqvAll]
  | a :: as, b :: bs => by
    simp only [List.map_cons, PyData.eqvAll, eqv_pdT, eqvAll_pdT as bs, List.cons.injEq, Bool.decide_and]
section
variable {prog : Program} {w : World} {A : Around} {E : Value → Shared → Prop} {s : Shared} {h₀ : Heap} {L : Addr} {news : List (Addr × Obj)} {Q : Value → Shared → Prop}
/-- two lists of triples compared -/
theorem eq_trips {a b : Addr} {vs ws : List Value} {ts us : List T3} {k n : Nat} (N : News h₀ L s.heap news) (ha : (a, W.listOf vs.toArray k) ∈ news) (hb : (b, W.listOf ws.toArray n) ∈ news) (hT : Trips news vs ts) (hU : Trips news ws us) (hu : A.units + 64 < cLine)
    (h : Q (.bool (decide (ts = us))) s) : wpAny (model prog w) A (compareOp .Eq (.ref a) (.ref b)) Q E s := by
  obtain ⟨as, ra⟩ := reads_trips N hT
  obtain ⟨bs, rb⟩ := reads_trips N hU
  refine eq_dataH (reads_list_at (N _ ha).1 rfl rfl (by simpa using ra)) (reads_list_at (N _ hb).1 rfl rfl (by simpa using rb)) (shaped_trips ts) (shaped_trips us) hu ?_
  simp only [PyData.eqv, eqvAll_pdT]
  exact h
end
end Mine
end

section
open PySem PySem.W PyProof.Rows PySem.Calls
set_option maxHeartbeats 8000000
namespace Mine
section
variable {prog : Program} {w : World} {A : Around} {E : Value → Shared → Prop}
/-- «x[:2] == (e1, e2)» of a triple x -/
theorem comp_test {env : Env} {s : Shared} {x : Str} {p1 p2 p3 p4 p5 p6 : Pos} {k k5 : Nat} {e1 e2 : Expr} {whole : Sem Value} {a : Addr} {y1 y2 y3 u v : Int} {t1 t2 t3 : Tok}
    (hu : A.units + 64 < cLine) (ha : s.heap.get? a = some (tripObj y1 y2 y3 t1 t2 t3 0))
    (hx : ∀ (s' : Shared) (Q' : Value → Shared → Prop), Ext s.heap s'.heap → Q' (.ref a) s' → wpAny (model prog w) A (eval (.Name x p1) env) Q' E s')
    (he1 : ∀ (s' : Shared) (Q' : Value → Shared → Prop), Ext s.heap s'.heap → (∀ t tk, Q' (.int u t) { s' with toks := tk }) → wpAny (model prog w) A (eval e1 env) Q' E s')
    (he2 : ∀ (s' : Shared) (Q' : Value → Shared → Prop), Ext s.heap s'.heap → (∀ t tk, Q' (.int v t) { s' with toks := tk }) → wpAny (model prog w) A (eval e2 env) Q' E s')
    (hst1 : starEach [e1, e2] env = (false, eval e1 env) :: starEach [e2] env) (hst2 : starEach [e2] env = (false, eval e2 env) :: starEach [] env)
    (hs : ∀ c : Addr, subscripted (.Slice none (some (.Constant (.int 2) k p2)) none p3) false (.ref a) (.ref c) = operate [.ref c, .ref a] (getItem (.ref a) (.ref c)))
    (hg : ∀ r, letTemporaryGo (.Name x p1) (.ref a) r = pure ()) :
    wpAny (model prog w) A (isTrue (.Compare (.Subscript (.Name x p1) (.Slice none (some (.Constant (.int 2) k p2)) none p3) p4) [.Eq] [.Tuple [e1, e2] k5 p5] p6) env whole) (fun ok s₄ => ok = (decide (y1 = u) && decide (y2 = v)) ∧ Keeps s s₄) E s := by
  refine wpAny_isTrue_Compare1 (Subscript_ (hx s _ (fun _ _ e => e) (wpAny_Slice (evalPart_none_step (evalPart_some_step (wpAny_Constant_int (evalPart_none_step ?_)))))))
  have ht : IsTup s.heap a #[.int y1 t1, .int y2 t2, .int y3 t3] := ⟨_, ha, rfl, 0, rfl⟩
  generalize hH1 : s.heap.push { cls := .type "slice", data := .fields #[.none, .int 2 s.toks, .none] } = H1
  have X1 : Ext s.heap H1 := fun b o e => hH1 ▸ Heap.get?_push_of_some _ e
  have hsl : H1.IsSliceOf s.heap.objs.size .none (.int 2 s.toks) .none := hH1 ▸ Heap.IsSliceOf.new ..
  refine subscriptTail_ops (s := { s with heap := H1, toks := s.toks + 1 }) (ht.keeps X1).typeIs slot_tuple_getitem.lookup (getItem_to2 (ht.keeps X1) hsl ?_) (hs _) hg
  dsimp only
  generalize hH2 : H1.push { cls := .type "tuple", data := .seq #[.int y1 t1, .int y2 t2] } = H2
  have hD : H2.get? H1.objs.size = some { cls := .type "tuple", data := .seq #[.int y1 t1, .int y2 t2] } := hH2 ▸ Heap.get?_push_size _ rfl
  have X2 : Ext H1 H2 := fun b o e => hH2 ▸ Heap.get?_push_of_some _ e
  refine Tuple_ (spliced_more (he1 _ _ (X1.trans X2) fun tu tk => spliced_more (he2 _ _ (X1.trans X2) fun tv tk' => spliced_none ?_) hst2) hst1)
  refine wpAny_newTuple ?_ (by rw [sizeLine_eq]; simp)
  dsimp only
  generalize hH3 : H2.push { cls := .type "tuple", data := .seq [.int u tu, .int v tv].toArray } = H3
  have hD3 : H3.get? H2.objs.size = some { cls := .type "tuple", data := .seq [.int u tu, .int v tv].toArray } := hH3 ▸ Heap.get?_push_size _ rfl
  have X3 : Ext H2 H3 := fun b o e => hH3 ▸ Heap.get?_push_of_some _ e
  refine eq_dataH (reads_tuple_at (X3 _ _ hD) rfl rfl (.cons (.int y1 t1) (.cons (.int y2 t2) .nil))) (reads_tuple_at hD3 rfl rfl (.cons (.int u tu) (.cons (.int v tv) .nil))) ?_ ?_ hu ?_
  · simp [SeqAt.shaped, PyData.canLay0, PyData.canLayAll0, PyData.depth, PyData.depthAll]
  · simp [SeqAt.shaped, PyData.canLay0, PyData.canLayAll0, PyData.depth, PyData.depthAll]
  · refine wpAny_truthy_bool ⟨?_, H3, tk', rfl, (X1.trans X2).trans X3⟩
    simp only [PyData.eqv, PyData.eqvAll, Bool.and_true]
    rfl
end
end Mine
end

section
open PySem PySem.W PyProof.Rows PySem.Calls
namespace Mine
noncomputable def bnd : Nat → Nat
  | 0 => 0
  | k + 1 => bnd k + 20 / (k + 2)
theorem inner_bound (word : Str) (step : Nat) (found : List T3) (hs : 1 ≤ step) : ∀ k : Nat, 0 ≤ (innerRun word step found k).1 ∧ (innerRun word step found k).1 ≤ k ∧ found.length ≤ (innerRun word step found k).2.length ∧
    (((innerRun word step found k).2.length - found.length) * (step + 1) : Nat) ≤ (innerRun word step found k).1
  | 0 => by simp [innerRun]
  | k + 1 => by
    obtain ⟨h1, h2, h3, h4⟩ := inner_bound word step found hs k
    rw [innerRun]
    generalize innerRun word step found k = st at *
    unfold innerStep
    split
    · dsimp only
      split
      · rename_i _ h
        rw [List.length_append, List.length_singleton]
        refine ⟨by omega, by omega, by omega, ?_⟩
        have e : st.2.length + 1 - found.length = (st.2.length - found.length) + 1 := by omega
        rw [e, Nat.succ_mul]
        have := h.1
        omega
      · exact ⟨by omega, by omega, h3, by omega⟩
    · exact ⟨h1, by omega, h3, h4⟩
theorem inner_len (word : Str) (hw : word.length ≤ 20) (i : Nat) (found : List T3) (j : Nat) (hj : j ≤ ((word.length : Int) - (1 + (i : Int)) + 1 - 0).toNat) (hf : found.length ≤ bnd i) : (innerRun word (1 + (i : Int)) found j).2.length ≤ bnd (i + 1) := by
  obtain ⟨h1, h2, h3, h4⟩ := inner_bound word (1 + i) found (by omega) j
  rw [show (((1 + i : Nat)) : Int) = 1 + (i : Int) by omega] at h1 h2 h3 h4
  generalize innerRun word (1 + (i : Int)) found j = st at *
  have h5 : (st.2.length - found.length) * (i + 2) ≤ 20 := by
    rw [show 1 + i + 1 = i + 2 by omega] at h4
    omega
  have h6 : st.2.length - found.length ≤ 20 / (i + 2) := (Nat.le_div_iff_mul_le (by omega)).mpr h5
  rw [bnd]
  omega
theorem outer_len (word : Str) (hw : word.length ≤ 20) : ∀ i, (outerRun word i).length ≤ bnd i
  | 0 => by simp [outerRun]
  | i + 1 => by
    rw [outerRun]
    exact inner_len word hw i _ _ (Nat.le_refl _) (outer_len word hw i)
theorem bnd_le : ∀ i, i ≤ 10 → bnd i ≤ 37 := by decide
end Mine
namespace Mine
section
variable {word : Str} {step c : Int} {st : Int × List T3}
theorem innerStep_app (h : c = word.length - step ∨ Txt.item word c ≠ Txt.item word (c + step)) (h1 : step ≤ c - st.1) (h2 : (st.2.filter fun o => decide (o.1 = st.1) && decide (o.2.1 = c + step)) = []) :
    innerStep word step st c = (c + 1, st.2 ++ [(st.1, c + step, step)]) := by unfold innerStep; rw [if_pos h, if_pos ⟨h1, h2⟩]
theorem innerStep_keep1 (h : c = word.length - step ∨ Txt.item word c ≠ Txt.item word (c + step)) (h1 : ¬ step ≤ c - st.1) : innerStep word step st c = (c + 1, st.2) := by
  unfold innerStep; rw [if_pos h, if_neg fun q => h1 q.1]
theorem innerStep_keep2 (h : c = word.length - step ∨ Txt.item word c ≠ Txt.item word (c + step)) (h2 : ¬ (st.2.filter fun o => decide (o.1 = st.1) && decide (o.2.1 = c + step)) = []) : innerStep word step st c = (c + 1, st.2) := by
  unfold innerStep; rw [if_pos h, if_neg fun q => h2 q.2]
theorem innerStep_same (h : ¬ c = word.length - step) (h' : Txt.item word c = Txt.item word (c + step)) : innerStep word step st c = (st.1, st.2) := by
  unfold innerStep; rw [if_neg fun q => q.elim h fun z => z h']
end
section
variable {h₀ h' : Heap} {L l I I₂ : Addr} {s : Shared} {m : Str → Option Value} {nn tups : List (Addr × Obj)} {o o₂ o1 o2 o3 : Obj} {Q : Flow → Shared → Prop} {vs : List Value} {n tk j : Nat} {word : Str} {step f : Int} {found ts : List T3} {c1 : Option Value} {t2 t3 : Tok}
theorem turn_keep (F : Fr h₀ L h' m) (N : News h₀ L h' nn) (hs : ∀ p ∈ (I₂, o₂) :: (I, o) :: (l, W.listOf vs.toArray n) :: (L + 1 + 1 + 1, o1) :: (L + 1 + 1, o2) :: (L + 1, o3) :: tups, p ∈ nn)
    (hLl : @LT.lt Nat _ (L + 3) l) (hlI : @LT.lt Nat _ l I) (hII : @LT.lt Nat _ I I₂) (htu : ∀ p ∈ tups, @LT.lt Nat _ l p.1 ∧ p.1 ≠ I) (hq : ∀ p ∈ tups, p.1 ≠ I₂)
    (d1 : o1.data = .cell c1) (d2 : o2.data = .cell (some (.int f t2))) (d3 : o3.data = .cell (some (.int step t3))) (hT : Trips tups vs ts) (e : innerRun word step found (j + 1) = (f, ts)) :
    FPost h₀ L s I₂ o₂ (InJ word step L l m I o found (j + 1)) Q .next { s with heap := h', toks := tk } := by
  refine FPost.intro F N hs ?_ ⟨rfl, o1, o2, o3, c1, t2, t3, vs, n, tups, hLl, hlI, htu, rfl, d1, by rw [e]; exact d2, d3, by rw [e]; exact hT⟩
  have e3 : @LT.lt Nat _ l I₂ := Nat.lt_trans hlI hII
  have z : ∀ a : Nat, a ≤ L + 3 → a ≠ I₂ := fun a ha => Nat.ne_of_lt (Nat.lt_of_le_of_lt ha (Nat.lt_trans hLl e3))
  intro p hp
  simp only [List.mem_cons] at hp
  rcases hp with rfl | rfl | rfl | rfl | rfl | hp
  · exact Nat.ne_of_lt hII
  · exact Nat.ne_of_lt e3
  · exact z (L + 1 + 1 + 1) (by omega)
  · exact z (L + 1 + 1) (by omega)
  · exact z (L + 1) (by omega)
  · exact hq p hp
theorem turn_app {D : Addr} {a b c : Int} {u1 u2 u3 : Tok} (F : Fr h₀ L h' m) (N : News h₀ L h' nn) (hs : ∀ p ∈ (I₂, o₂) :: (I, o) :: (l, W.listOf (vs.toArray.push (.ref D)) n) :: (L + 1 + 1 + 1, o1) :: (L + 1 + 1, o2) :: (L + 1, o3) :: (D, { cls := .type "tuple", data := .seq #[.int a u1, .int b u2, .int c u3] 0 }) :: tups, p ∈ nn)
    (hLl : @LT.lt Nat _ (L + 3) l) (hlI : @LT.lt Nat _ l I) (hII : @LT.lt Nat _ I I₂) (hID : @LT.lt Nat _ I₂ D) (htu : ∀ p ∈ tups, @LT.lt Nat _ l p.1 ∧ p.1 ≠ I) (hq : ∀ p ∈ tups, p.1 ≠ I₂)
    (d1 : o1.data = .cell c1) (d2 : o2.data = .cell (some (.int f t2))) (d3 : o3.data = .cell (some (.int step t3))) (hT : Trips tups vs ts) (e : innerRun word step found (j + 1) = (f, ts ++ [(a, b, c)])) :
    FPost h₀ L s I₂ o₂ (InJ word step L l m I o found (j + 1)) Q .next { s with heap := h', toks := tk } := by
  refine turn_keep (vs := vs ++ [.ref D]) (ts := ts ++ [(a, b, c)]) (n := n) (tups := (D, tripObj a b c u1 u2 u3 0) :: tups) F N ?_ hLl hlI hII ?_ ?_ d1 d2 d3 ?_ e
  · have ev : (vs ++ [Value.ref D]).toArray = vs.toArray.push (Value.ref D) := by simp
    rw [ev]
    exact hs
  · intro p hp
    rcases List.mem_cons.mp hp with rfl | hp
    · exact ⟨Nat.lt_trans hlI (Nat.lt_trans hII hID), Nat.ne_of_gt (Nat.lt_trans hII hID)⟩
    · exact htu p hp
  · intro p hp
    rcases List.mem_cons.mp hp with rfl | hp
    · exact Nat.ne_of_gt hID
    · exact hq p hp
  · exact (hT.mono fun p hp => .tail _ hp).snoc (.head _)
end
end Mine
end

section
open PySem PySem.W PyProof.Rows
namespace Mine
/-- a sort's tree, asked by an order on the places -/
noncomputable def KSat {α : Type} (lt : Nat → Nat → Bool) (n : Nat) : KasT α → (α → Prop) → Prop
  | .ret a, P => P a
  | .ask i j k, P => i < n ∧ j < n ∧ KSat lt n (k (lt i j)) P
section
variable {α β : Type} {lt : Nat → Nat → Bool} {n : Nat}
theorem KSat.bind {f : α → KasT β} {P : β → Prop} : ∀ {t : KasT α}, KSat lt n t (fun a => KSat lt n (f a) P) → KSat lt n (t.bind f) P
  | .ret _, h => h
  | .ask _ _ _, h => ⟨h.1, h.2.1, KSat.bind h.2.2⟩
theorem KSat.mono {P P' : α → Prop} (hp : ∀ a, P a → P' a) : ∀ {t : KasT α}, KSat lt n t P → KSat lt n t P'
  | .ret _, h => hp _ h
  | .ask _ _ _, h => ⟨h.1, h.2.1, KSat.mono hp h.2.2⟩
theorem KSat.wp {cmp : Nat → Nat → (Bool → Shared → Prop) → Shared → Prop} {s : Shared} {P : α → Prop} {Q : α → Shared → Prop} (hc : ∀ i j C, i < n → j < n → C (lt i j) s → cmp i j C s) (hq : ∀ a, P a → Q a s) :
    ∀ {t : KasT α}, KSat lt n t P → t.kasWp cmp Q s
  | .ret _, h => hq _ h
  | .ask _ _ _, h => hc _ _ _ h.1 h.2.1 (KSat.wp hc hq h.2.2)
end
section
variable {lt : Nat → Nat → Bool} {n : Nat}
noncomputable abbrev at_ (p : Array Nat) (i : Nat) : Nat := p.getD i 0
structure Weak (lt : Nat → Nat → Bool) : Prop where
  asym : ∀ a b, lt a b = true → lt b a = false
  neg : ∀ a b c, lt a c = true → lt a b = true ∨ lt b c = true
noncomputable def Eqv (lt : Nat → Nat → Bool) (a b : Nat) : Prop := lt a b = false ∧ lt b a = false
theorem Weak.refl (h : Weak lt) (a : Nat) : lt a a = false := by
  cases e : lt a a with
  | false => rfl
  | true => have := h.asym a a e; rw [e] at this; exact this
theorem Weak.le_trans (h : Weak lt) {a b c : Nat} (h1 : lt b a = false) (h2 : lt c b = false) : lt c a = false := by
  cases e : lt c a with
  | false => rfl
  | true => rcases h.neg c b a e with q | q
            · rw [h2] at q; cases q
            · rw [h1] at q; cases q
theorem Weak.congr (h : Weak lt) {a a' b b' : Nat} (ha : Eqv lt a a') (hb : Eqv lt b b') (e : lt a b = false) : lt a' b' = false :=
  h.le_trans hb.1 (h.le_trans e ha.2)
structure Ok (n : Nat) (p : Array Nat) : Prop where
  perm : p.Perm (List.range n).toArray
theorem Ok.size {p : Array Nat} (h : Ok n p) : p.size = n := by have := h.perm.size_eq; simpa using this
theorem Ok.bd {p : Array Nat} (h : Ok n p) {i : Nat} (hi : i < n) : at_ p i < n := by
  have hs : i < p.size := by rw [h.size]; exact hi
  have e : at_ p i = p[i] := by simp [at_, Array.getD, hs]
  rw [e]
  have : p[i] ∈ p.toList := by simp
  have := (Array.perm_iff_toList_perm.mp h.perm).mem_iff.mp this
  simpa using this
theorem at_eq {p q : Array Nat} {i j : Nat} (h : p[i]? = q[j]?) : at_ p i = at_ q j := by
  simp only [at_, Array.getD_eq_getD_getElem?, h]
noncomputable def Up (lt : Nat → Nat → Bool) (p : Array Nat) (k : Nat) : Prop := ∀ i j, i ≤ j → j < k → lt (at_ p j) (at_ p i) = false
noncomputable def Down (lt : Nat → Nat → Bool) (p : Array Nat) (k : Nat) : Prop := ∀ i j, i ≤ j → j < k → lt (at_ p i) (at_ p j) = false
noncomputable def Blk (lt : Nat → Nat → Bool) (p : Array Nat) (k q : Nat) : Prop := ∀ i, k ≤ i + (q + 1) → i < k → Eqv lt (at_ p i) (at_ p (k - 1))
theorem at_rev {p : Array Nat} {i j : Nat} (hj : j ≤ p.size) (k : Nat) : at_ (kas_rev p i j) k = if i ≤ k ∧ k < j then at_ p (i + j - 1 - k) else at_ p k := by
  have e := getElem?_mirror_all (xs := p) (i := i) hj k
  unfold kas_rev
  split
  · rename_i h; rw [if_pos h] at e; exact at_eq e
  · rename_i h; rw [if_neg h] at e; exact at_eq e
theorem Ok.rev {p : Array Nat} (h : Ok n p) (i j : Nat) : Ok n (kas_rev p i j) := ⟨(mirror_perm ..).trans h.perm⟩
theorem rev_eqv (W : Weak lt) {p : Array Nat} {k q : Nat} (hk : k ≤ p.size) (hq : q + 1 ≤ k) (B : Blk lt p k q) (i : Nat) : Eqv lt (at_ p i) (at_ (kas_rev p (k - (q + 1)) k) i) := by
  rw [at_rev hk]
  split
  · rename_i h
    have e1 := B i (by omega) h.2
    have e2 := B (k - (q + 1) + k - 1 - i) (by omega) (by omega)
    exact ⟨W.le_trans e2.2 e1.1, W.le_trans e1.2 e2.1⟩
  · exact ⟨W.refl _, W.refl _⟩
theorem Down.congr (W : Weak lt) {p p' : Array Nat} {k : Nat} (h : Down lt p k) (e : ∀ i, Eqv lt (at_ p i) (at_ p' i)) : Down lt p' k := fun i j h1 h2 => W.congr (e i) (e j) (h i j h1 h2)
theorem Up.congr (W : Weak lt) {p p' : Array Nat} {k : Nat} (h : Up lt p k) (e : ∀ i, Eqv lt (at_ p i) (at_ p' i)) : Up lt p' k := fun i j h1 h2 => W.congr (e j) (e i) (h i j h1 h2)
theorem Down.snoc (W : Weak lt) {p : Array Nat} {k : Nat} (hk : 1 ≤ k) (h : Down lt p k) (e : lt (at_ p (k - 1)) (at_ p k) = false) : Down lt p (k + 1) := fun i j h1 h2 => by
  by_cases hj : j = k
  · subst hj
    by_cases hi : i = j
    · subst hi; exact W.refl _
    · exact W.le_trans e (h i (j - 1) (by omega) (by omega))
  · exact h i j h1 (by omega)
theorem Up.snoc (W : Weak lt) {p : Array Nat} {k : Nat} (hk : 1 ≤ k) (h : Up lt p k) (e : lt (at_ p k) (at_ p (k - 1)) = false) : Up lt p (k + 1) := fun i j h1 h2 => by
  by_cases hj : j = k
  · subst hj
    by_cases hi : i = j
    · subst hi; exact W.refl _
    · exact W.le_trans (h i (j - 1) (by omega) (by omega)) e
  · exact h i j h1 (by omega)
theorem asc_ok (W : Weak lt) {p : Array Nat} (ok : Ok n p) : ∀ f k, 1 ≤ k → k + f ≤ n → Up lt p k → KSat lt n (kas_asc p f k) (fun m => k ≤ m ∧ m ≤ k + f ∧ Up lt p m ∧ (m < k + f → lt (at_ p m) (at_ p (m - 1)) = true))
  | 0, k, h1, h2, u => ⟨Nat.le_refl _, Nat.le_refl _, u, fun h => by omega⟩
  | f + 1, k, h1, h2, u => by
    refine ⟨ok.bd (by omega), ok.bd (by omega), ?_⟩
    cases e : lt (p.getD k 0) (p.getD (k - 1) 0) with
    | true => exact ⟨Nat.le_refl _, by omega, u, fun _ => e⟩
    | false =>
      refine KSat.mono (fun m hm => ?_) (asc_ok W ok f (k + 1) (by omega) (by omega) (Up.snoc W h1 u e))
      exact ⟨by omega, by omega, hm.2.2.1, fun h => hm.2.2.2 (by omega)⟩
theorem desc_ok (W : Weak lt) : ∀ f (p : Array Nat) k q, Ok n p → 1 ≤ k → k + f ≤ n → q + 1 ≤ k → Down lt p k → Blk lt p k q →
    KSat lt n (kas_desc f p k q) (fun r => Ok n r.1 ∧ 1 ≤ r.2.1 ∧ r.2.1 ≤ k + f ∧ r.2.2 + 1 ≤ r.2.1 ∧ Down lt r.1 r.2.1 ∧ Blk lt r.1 r.2.1 r.2.2)
  | 0, p, k, q, ok, h1, h2, hq, d, b => ⟨ok, h1, Nat.le_refl _, hq, d, b⟩
  | f + 1, p, k, q, ok, h1, h2, hq, d, b => by
    have one : ∀ p' : Array Nat, Blk lt p' (k + 1) 0 := fun p' i hi1 hi2 => by
      have : i = k := by omega
      subst this
      exact ⟨W.refl _, W.refl _⟩
    have up : ∀ {g k'}, k' + g = k + (f + 1) → ∀ {t : KasT (Array Nat × Nat × Nat)}, KSat lt n t (fun r => Ok n r.1 ∧ 1 ≤ r.2.1 ∧ r.2.1 ≤ k' + g ∧ r.2.2 + 1 ≤ r.2.1 ∧ Down lt r.1 r.2.1 ∧ Blk lt r.1 r.2.1 r.2.2) →
        KSat lt n t (fun r => Ok n r.1 ∧ 1 ≤ r.2.1 ∧ r.2.1 ≤ k + (f + 1) ∧ r.2.2 + 1 ≤ r.2.1 ∧ Down lt r.1 r.2.1 ∧ Blk lt r.1 r.2.1 r.2.2) := fun e => by intro t h; rw [e] at h; exact h
    refine ⟨ok.bd (by omega), ok.bd (by omega), ?_⟩
    cases e : lt (p.getD k 0) (p.getD (k - 1) 0) with
    | true =>
      have e' : lt (at_ p (k - 1)) (at_ p k) = false := W.asym _ _ e
      simp only [if_true]
      split
      · have hk : k ≤ p.size := by rw [ok.size]; omega
        refine up (by omega) (desc_ok W f _ (k + 1) 0 (ok.rev _ _) (by omega) (by omega) (by omega) ?_ (one _))
        exact Down.congr W (Down.snoc W h1 d e') (rev_eqv W hk hq b)
      · exact up (by omega) (desc_ok W f p (k + 1) 0 ok (by omega) (by omega) (by omega) (Down.snoc W h1 d e') (one _))
    | false =>
      simp only [Bool.false_eq_true, if_false]
      refine ⟨ok.bd (by omega), ok.bd (by omega), ?_⟩
      cases e2 : lt (p.getD (k - 1) 0) (p.getD k 0) with
      | true => exact ⟨ok, h1, Nat.le_add_right k (f + 1), hq, d, b⟩
      | false =>
        refine up (by omega) (desc_ok W f p (k + 1) (q + 1) ok (by omega) (by omega) (by omega) (Down.snoc W h1 d e2) fun i hi1 hi2 => ?_)
        rw [Nat.add_sub_cancel]
        by_cases hi : i = k
        · subst hi; exact ⟨W.refl _, W.refl _⟩
        · have z := b i (by omega) (by omega)
          exact ⟨W.le_trans e2 z.1, W.le_trans z.2 e⟩
theorem rev_up {p : Array Nat} {k : Nat} (hk : k ≤ p.size) (d : Down lt p k) : Up lt (kas_rev p 0 k) k := fun i j h1 h2 => by
  rw [at_rev hk, at_rev hk, if_pos (by omega), if_pos (by omega)]
  exact d _ _ (by omega) (by omega)
theorem tail3_ok (W : Weak lt) {p : Array Nat} {k : Nat} (ok : Ok n p) (h1 : 1 ≤ k) (h2 : k ≤ n) (d : Down lt p k) : KSat lt n (kas_tail3 k n p) (fun r => 1 ≤ r.1 ∧ r.1 ≤ n ∧ Ok n r.2 ∧ Up lt r.2 r.1) := by
  refine KSat.bind (KSat.mono (fun m hm => ?_) (asc_ok W (ok.rev 0 k) (n - k) k h1 (by omega) (rev_up (by rw [ok.size]; omega) d)))
  exact ⟨by omega, by omega, ok.rev 0 k, hm.2.2.1⟩
theorem descPart_ok (W : Weak lt) {p : Array Nat} {k : Nat} (ok : Ok n p) (h2 : k + 1 ≤ n) (d : Down lt p (k + 1)) : KSat lt n (kas_descPart k n p) (fun r => 1 ≤ r.1 ∧ r.1 ≤ n ∧ Ok n r.2 ∧ Up lt r.2 r.1) := by
  refine KSat.bind (KSat.mono (fun r hr => ?_) (desc_ok W (n - (k + 1)) p (k + 1) 0 ok (by omega) (by omega) (by omega) d fun i hi1 hi2 => ?_))
  · obtain ⟨ok', a1, a2, a3, d', b'⟩ := hr
    split
    · exact tail3_ok W (ok'.rev _ _) a1 (by omega) (Down.congr W d' (rev_eqv W (by rw [ok'.size]; omega) a3 b'))
    · exact tail3_ok W ok' a1 (by omega) d'
  · have : i = k := by omega
    subst this
    rw [Nat.add_sub_cancel]
    exact ⟨W.refl _, W.refl _⟩
theorem count_ok (W : Weak lt) {p : Array Nat} (ok : Ok n p) (hn : 1 ≤ n) : KSat lt n (kas_count n p) (fun r => 1 ≤ r.1 ∧ r.1 ≤ n ∧ Ok n r.2 ∧ Up lt r.2 r.1) := by
  refine KSat.bind (KSat.mono (fun m hm => ?_) (asc_ok W ok (n - 1) 1 (Nat.le_refl _) (by omega) fun i j h1 h2 => by
    have : i = j := by omega
    subst this; exact W.refl _))
  obtain ⟨a1, a2, u, a3⟩ := hm
  by_cases hmn : m = n
  · rw [if_pos (by simp [hmn])]
    exact ⟨by omega, by omega, ok, u⟩
  · rw [if_neg (by simp [hmn])]
    have small := a3 (by omega)
    split
    · refine ⟨ok.bd (by omega), ok.bd (by omega), ?_⟩
      cases e : lt (p.getD 0 0) (p.getD (m - 1) 0) with
      | true => exact ⟨by omega, by omega, ok, u⟩
      | false =>
        simp only [Bool.false_eq_true, if_false]
        have all : ∀ i, i < m → Eqv lt (at_ p i) (at_ p (m - 1)) := by
          intro i hi
          refine ⟨?_, u i (m - 1) (by omega) (by omega)⟩
          cases q : lt (at_ p i) (at_ p (m - 1)) with
          | false => rfl
          | true =>
            rcases W.neg _ (at_ p 0) _ q with y | y
            · rw [u 0 i (by omega) hi] at y; cases y
            · rw [show lt (at_ p 0) (at_ p (m - 1)) = false from e] at y; cases y
        have hd : Down lt p (m + 1) := Down.snoc W (by omega) (fun i j h1 h2 => W.le_trans (all j h2).2 (all i (by omega)).1) (W.asym _ _ small)
        have hb : Blk lt p m (m - 1) := fun i _ hi => all i hi
        have := rev_eqv W (by rw [ok.size]; omega) (by omega) hb
        rw [show m - (m - 1 + 1) = 0 by omega] at this
        exact descPart_ok W (ok.rev 0 m) (by omega) (Down.congr W hd this)
    · have hm1 : m = 1 := by omega
      subst hm1
      exact descPart_ok W ok (by omega) (Down.snoc W (by omega) (fun i j h1 h2 => by have : i = j := by omega
                                                                                     subst this; exact W.refl _) (W.asym _ _ small))
theorem place_ok (W : Weak lt) {p : Array Nat} {k : Nat} (ok : Ok n p) (hk : k < n) (u : Up lt p k) : ∀ f l r, l ≤ r → r ≤ k → r - l ≤ f → (∀ i, i < l → lt (at_ p k) (at_ p i) = false) → (∀ i, r ≤ i → i < k → lt (at_ p k) (at_ p i) = true) →
    KSat lt n (kas_place p k f l r) (fun m => m ≤ k ∧ (∀ i, i < m → lt (at_ p k) (at_ p i) = false) ∧ (∀ i, m ≤ i → i < k → lt (at_ p k) (at_ p i) = true))
  | 0, l, r, h1, h2, h3, a, b => ⟨by omega, a, fun i hi => b i (by omega)⟩
  | f + 1, l, r, h1, h2, h3, a, b => by
    unfold kas_place
    split
    · exact ⟨by omega, a, fun i hi => b i (by omega)⟩
    · refine ⟨ok.bd hk, ok.bd (by omega), ?_⟩
      cases e : lt (p.getD k 0) (p.getD ((l + r) / 2) 0) with
      | true =>
        simp only [if_true]
        refine place_ok W ok hk u f l _ (by omega) (by omega) (by omega) a fun i hi1 hi2 => ?_
        have z := u ((l + r) / 2) i hi1 hi2
        rcases W.neg _ (at_ p i) _ (show lt (at_ p k) (at_ p ((l + r) / 2)) = true from e) with q | q
        · exact q
        · rw [z] at q; cases q
      | false =>
        simp only [Bool.false_eq_true, if_false]
        refine place_ok W ok hk u f _ r (by omega) (by omega) (by omega) (fun i hi => ?_) b
        exact W.le_trans (u i ((l + r) / 2) (by omega) (by omega)) e
theorem bin_ok (W : Weak lt) : ∀ f (p : Array Nat) k, Ok n p → 1 ≤ k → k + f ≤ n → Up lt p k → KSat lt n (kas_bin f p k) (fun q => Ok n q ∧ Up lt q (k + f))
  | 0, p, k, ok, h1, h2, u => ⟨ok, u⟩
  | f + 1, p, k, ok, h1, h2, u => by
    refine KSat.bind (KSat.mono (fun m hm => ?_) (place_ok W ok (by omega) u k 0 k (by omega) (Nat.le_refl _) (by omega) (fun i hi => by omega) (fun i hi1 hi2 => by omega)))
    obtain ⟨a1, a2, a3⟩ := hm
    have ok' : Ok n (bubble p k (k - m)) := ⟨(bubble_perm ..).trans ok.perm⟩
    have hget : ∀ i, at_ (bubble p k (k - m)) i = if i = m then at_ p k else if m < i ∧ i ≤ k then at_ p (i - 1) else at_ p i := fun i => by
      have e := getElem?_bubble (xs := p) (src := k) (by rw [ok.size]; omega) (k - m) (by omega) i
      rw [show k - (k - m) = m by omega] at e
      split
      · rename_i h; rw [if_pos h] at e; exact at_eq e
      · rename_i h; rw [if_neg h] at e
        split
        · rename_i h'; rw [if_pos h'] at e; exact at_eq e
        · rename_i h'; rw [if_neg h'] at e; exact at_eq e
    have u' : Up lt (bubble p k (k - m)) (k + 1) := fun i j h1 h2 => by
      rw [hget i, hget j]
      by_cases hj : j = m
      · rw [if_pos hj]
        by_cases hi : i = m
        · rw [if_pos hi]; exact W.refl _
        · rw [if_neg hi, if_neg (by omega)]; exact a2 i (by omega)
      · rw [if_neg hj]
        by_cases hj2 : m < j ∧ j ≤ k
        · rw [if_pos hj2]
          by_cases hi : i = m
          · rw [if_pos hi]; exact W.asym _ _ (a3 (j - 1) (by omega) (by omega))
          · rw [if_neg hi]
            by_cases hi2 : m < i ∧ i ≤ k
            · rw [if_pos hi2]; exact u _ _ (by omega) (by omega)
            · rw [if_neg hi2]; exact u _ _ (by omega) (by omega)
        · rw [if_neg hj2, if_neg (by omega), if_neg (by omega)]; exact u _ _ h1 (by omega)
    have z := bin_ok W f _ (k + 1) ok' (by omega) (by omega) u'
    rw [show k + 1 + f = k + (f + 1) by omega] at z
    exact z
theorem sort_ok (W : Weak lt) (hn : 1 ≤ n) : KSat lt n (kas_sort n) (fun q => Ok n q ∧ Up lt q n) := by
  refine KSat.bind (KSat.mono (fun r hr => ?_) (count_ok W ⟨Array.Perm.refl _⟩ hn))
  obtain ⟨a1, a2, ok, u⟩ := hr
  split
  · have e : max r.1 1 = r.1 := by omega
    rw [e]
    have z := bin_ok W (n - r.1) r.2 r.1 ok a1 (by omega) u
    rw [show r.1 + (n - r.1) = n by omega] at z
    exact z
  · have : r.1 = n := by omega
    rw [this] at u
    exact ⟨ok, u⟩
end
end Mine
end

section
open PySem PySem.W PyProof.Rows PySem.Calls
set_option maxHeartbeats 8000000
namespace Mine
noncomputable def lexlt (a b : T3) : Bool := decide (a.1 < b.1) || (decide (a.1 = b.1) && (decide (a.2.1 < b.2.1) || (decide (a.2.1 = b.2.1) && decide (a.2.2 < b.2.2))))
theorem lexlt_asym (a b : T3) (h : lexlt a b = true) : lexlt b a = false := by
  simp only [lexlt, Bool.or_eq_true, Bool.and_eq_true, decide_eq_true_eq, Bool.or_eq_false_iff, Bool.and_eq_false_iff, decide_eq_false_iff_not] at *
  omega
theorem lexlt_neg (a b c : T3) (h : lexlt a c = true) : lexlt a b = true ∨ lexlt b c = true := by
  simp only [lexlt, Bool.or_eq_true, Bool.and_eq_true, decide_eq_true_eq] at *
  omega
theorem lexlt_total (a b : T3) (h1 : lexlt a b = false) (h2 : lexlt b a = false) : a = b := by
  obtain ⟨a1, a2, a3⟩ := a
  obtain ⟨b1, b2, b3⟩ := b
  simp only [lexlt, Bool.or_eq_false_iff, Bool.and_eq_false_iff, decide_eq_false_iff_not, Prod.mk.injEq] at *
  omega
noncomputable def SortedL (us : List T3) : Prop := us.Pairwise fun a b => lexlt b a = false
theorem sortedL_unique : ∀ {us vs : List T3}, SortedL us → SortedL vs → us.Perm vs → us = vs
  | [], vs, _, _, h => by have := h.length_eq; simp at this; exact (List.length_eq_zero_iff.mp this.symm).symm
  | u :: us, [], _, _, h => by have := h.length_eq; simp at this
  | u :: us, v :: vs, h1, h2, h => by
    have h1' := List.pairwise_cons.mp h1
    have h2' := List.pairwise_cons.mp h2
    have e : u = v := by
      have m1 : u ∈ v :: vs := h.mem_iff.mp (.head _)
      have m2 : v ∈ u :: us := h.mem_iff.mpr (.head _)
      rcases List.mem_cons.mp m1 with e | m1
      · exact e
      rcases List.mem_cons.mp m2 with e | m2
      · exact e.symm
      exact lexlt_total _ _ (h2'.1 u m1) (h1'.1 v m2)
    subst e
    rw [sortedL_unique h1'.2 h2'.2 (List.Perm.cons_inv h)]
section
variable {prog : Program} {w : World} {A : Around} {E : Value → Shared → Prop} {s : Shared}
theorem lt_trip {a b : Addr} {x y z x' y' z' : Int} {t1 t2 t3 u1 u2 u3 : Tok} {Q : Bool → Shared → Prop} (ha : s.heap.get? a = some (tripObj x y z t1 t2 t3 0)) (hb : s.heap.get? b = some (tripObj x' y' z' u1 u2 u3 0)) (h : Q (lexlt (x, y, z) (x', y', z')) s) :
    wpAny (model prog w) A (keyLt' (tuples' true) (.ref a) (.ref b)) Q E s := by
  have low : ∀ {p q : Int} {t u : Tok}, Q (decide (p < q)) s → wpAny (model prog w) A (oneLt' false (.int p t) (.int q u)) Q (fun _ _ => False) s := fun hq => kat_one _ _ (lt_int (by exact hq))
  refine kat_lt ha rfl hb rfl (kat_cons (wpAny_eqBool_int ?_))
  cases e1 : x == x' with
  | false =>
    refine kat_no (oneLt_int ?_)
    have n1 : x ≠ x' := by simpa using e1
    have : lexlt (x, y, z) (x', y', z') = decide (x < x') := by simp [lexlt, n1]
    rw [← this]; exact h
  | true =>
    have n1 : x = x' := by simpa using e1
    subst n1
    refine kat_yes (kat_cons (wpAny_eqBool_int ?_))
    cases e2 : y == y' with
    | false =>
      refine kat_no (low ?_)
      have n2 : y ≠ y' := by simpa using e2
      have : lexlt (x, y, z) (x, y', z') = decide (y < y') := by simp [lexlt, n2]
      rw [← this]; exact h
    | true =>
      have n2 : y = y' := by simpa using e2
      subst n2
      refine kat_yes (kat_cons (wpAny_eqBool_int ?_))
      cases e3 : z == z' with
      | false =>
        refine kat_no (low ?_)
        have : lexlt (x, y, z) (x, y, z') = decide (z < z') := by simp [lexlt]
        rw [← this]; exact h
      | true =>
        have n3 : z = z' := by simpa using e3
        subst n3
        refine kat_yes (kat_nil ?_)
        have : lexlt (x, y, z) (x, y, z) = false := by simp [lexlt]
        rw [this] at h
        exact h
theorem sorted_short {l : Addr} {vs : List Value} {Q : Value → Shared → Prop} (hl : s.heap.IsList l vs.toArray) (h2 : vs.length < 2) (h : Q (.ref (s.heap.objs.size + 1)) { s with heap := sortedAll s.heap vs vs.toArray }) :
    wpAny (model prog w) A (call (.builtin "sorted") [.ref l]) Q E s := by
  refine Calls.call_function_entry kind_sorted plain_sorted entry_sorted (args_sorted1 _) ?_
  unfold Builtin.«sorted»
  refine wpAny_bind (m := checkCount "sorted" 1 1 _) (wpAny_pure ?_)
  refine wpAny_bind (collect_list hl ?_ (by rw [sizeLine_eq]; omega))
  refine wpAny_bind (wpAny_newList ?_ (by rw [sizeLine_eq]; omega))
  have hsz : ((s.heap.push (seqObj "list" #[] 0)).update s.heap.objs.size (Obj.mapSeq (· ++ vs.toArray))).objs.size = s.heap.objs.size + 1 := by
    rw [Heap.size_update, Heap.size_push]
  show wpAny _ _ _ _ _ { s with heap := ((s.heap.push (seqObj "list" #[] 0)).update s.heap.objs.size (Obj.mapSeq (· ++ vs.toArray))).push (seqObj "list" vs.toArray 0) }
  unfold sortedAll sortedHeap at h
  generalize hH : (s.heap.push (seqObj "list" #[] 0)).update s.heap.objs.size (Obj.mapSeq (· ++ vs.toArray)) = H at *
  have hoL : (H.push (seqObj "list" vs.toArray 0)).get? (s.heap.objs.size + 1) = some (seqObj "list" vs.toArray 0) := by
    rw [← hsz]; exact Heap.get?_push_size _ rfl
  rw [hsz]
  refine wpAny_bind (wpAny_holding (wpAny_call_entry slot_list_sort ⟨_, hoL, rfl⟩ entry_list_sort ?body (args_list_sort _)))
  generalize ha : s.heap.objs.size + 1 = a at *
  rw [list_sort_plain]
  have hal : a < (H.push (seqObj "list" vs.toArray 0)).objs.size := Heap.lt_size hoL
  refine wpAny_bind (listItems_at hoL rfl ?_)
  refine wpAny_bind (listUpdate_at hoL rfl ?_ (by rw [List.size_toArray, sizeLine_eq]; omega) (Nat.zero_le _))
  obtain ⟨e1, ho1⟩ : ∃ e1, ((H.push (seqObj "list" vs.toArray 0)).update a (Obj.mapSeq fun _ => #[])).get? a = some (seqObj "list" #[] e1) := ⟨_, get?_update_seq hoL (fun _ => #[])⟩
  refine wpAny_bind (seqEpoch_at ho1 rfl ?_)
  refine wpAny_bind (wpAny_newTuple ?_ (by show vs.length ≤ _; rw [sizeLine_eq]; omega))
  refine wpAny_bind (wpAny_newList ?_ (Nat.zero_le _))
  refine wpAny_holding ?_
  have ho6 : ((((H.push (seqObj "list" vs.toArray 0)).update a (Obj.mapSeq fun _ => #[])).push (seqObj "tuple" vs.toArray 0)).push (seqObj "list" #[] 0)).get? a = some (seqObj "list" #[] e1) :=
    Heap.get?_push_of_some _ (Heap.get?_push_of_some _ ho1)
  show wpAny (model prog w) _ _ _ _ { s with heap := (((H.push (seqObj "list" vs.toArray 0)).update a (Obj.mapSeq fun _ => #[])).push (seqObj "tuple" vs.toArray 0)).push (seqObj "list" #[] 0) }
  dsimp only
  have hs2 : vs.toArray.size < 2 := by rw [List.size_toArray]; exact h2
  rw [if_pos hs2, if_pos hs2]
  refine wpAny_bind (wpAny_pure ?_)
  rw [StateT.run_pure]
  refine wpAny_bind (wpAny_pure ?_)
  dsimp only
  have hout : (arrOf (SortSt.mk' general' (vs.toArray.zip vs.toArray) #[] 7 none)).map (·.2) = vs.toArray := by
    show (vs.toArray.zip vs.toArray).map (·.2) = vs.toArray
    apply Array.ext
    · simp
    · intro i h1 h2; simp
  rw [hout]
  refine wpAny_bind (seqEpoch_at ho6 rfl ?_)
  refine wpAny_bind (listUpdate_at ho6 rfl ?_ (Nat.zero_le _) (by rw [List.size_toArray, sizeLine_eq]; omega))
  simp only [bne_self_eq_false, Bool.false_eq_true, if_false]
  refine wpAny_pure ⟨_, rfl, wpAny_pure ⟨_, rfl, ?_⟩⟩
  exact h
end
end Mine
end

section
open PySem PySem.W PyProof.Rows PySem.Calls
set_option maxHeartbeats 8000000
namespace Mine
theorem Trips.at {news : List (Addr × Obj)} {vs : List Value} {ts : List T3} (hT : Trips news vs ts) : ∀ i, i < vs.length → ∃ a t1 t2 t3, vs.getD i .none = .ref a ∧ (a, tripObj (ts.getD i (0, 0, 0)).1 (ts.getD i (0, 0, 0)).2.1 (ts.getD i (0, 0, 0)).2.2 t1 t2 t3 0) ∈ news := by
  induction hT with
  | nil => intro i hi; simp at hi
  | cons hm _ ih =>
    intro i hi
    cases i with
    | zero => exact ⟨_, _, _, _, rfl, by simpa using hm⟩
    | succ i =>
      have := ih i (by simpa using hi)
      simpa using this
theorem Trips.pick {news : List (Addr × Obj)} {vs : List Value} {ts : List T3} (hT : Trips news vs ts) : ∀ l : List Nat, (∀ i ∈ l, i < vs.length) → Trips news (l.map fun i => vs.getD i .none) (l.map fun i => ts.getD i (0, 0, 0))
  | [], _ => .nil
  | i :: l, h => by
    obtain ⟨a, t1, t2, t3, e, hm⟩ := hT.at i (h i (.head _))
    rw [List.map_cons, List.map_cons, e]
    have z := Trips.cons hm (hT.pick l fun j hj => h j (.tail _ hj))
    exact z
theorem range_map_getD (ts : List T3) : (List.range ts.length).map (fun i => ts.getD i (0, 0, 0)) = ts := by
  apply List.ext_getElem?
  intro i
  by_cases h : i < ts.length
  · simp [h]
  · simp [h]
section
variable {prog : Program} {w : World} {A : Around} {E : Value → Shared → Prop} {s : Shared} {h₀ : Heap} {L l : Addr} {m : Str → Option Value} {news : List (Addr × Obj)} {vs : List Value} {ts : List T3} {n : Nat} {Q : Value → Shared → Prop}
theorem kat_tups_of {h : Heap} (N : News h₀ L h news) (hT : Trips news vs ts) : ∃ fs : List Value, KatTups h vs fs ∧ fs.length = vs.length ∧ ∀ v ∈ fs, ∃ i t, v = .int i t := by
  induction hT with
  | nil => exact ⟨[], .nil, rfl, fun _ h => nomatch h⟩
  | @cons a x y z t1 t2 t3 vs ts hm _ ih =>
    obtain ⟨fs, h1, h2, h3⟩ := ih
    refine ⟨.int x t1 :: fs, KatTups.cons (N _ hm).1 rfl rfl rfl h1, by simp [h2], fun v hv => ?_⟩
    rcases List.mem_cons.mp hv with rfl | hv
    · exact ⟨_, _, rfl⟩
    · exact h3 v hv
/-- sorted of a list of triples -/
theorem sorted_trips (F : Fr h₀ L s.heap m) (N : News h₀ L s.heap news) (hl : (l, W.listOf vs.toArray n) ∈ news) (hT : Trips news vs ts) (h64 : vs.length < 64)
    (ret : ∀ D h' ys us c, Fr h₀ L h' m → News h₀ L h' ((D, W.listOf ys.toArray c) :: news) → (∀ q ∈ news, q.1 < D) → Trips news ys us → us.Perm ts → SortedL us → Q (.ref D) { s with heap := h' }) :
    wpAny (model prog w) A (call (.builtin "sorted") [.ref l]) Q E s := by
  have hls : s.heap.IsList l vs.toArray := ⟨_, (N _ hl).1, rfl, n, rfl⟩
  by_cases h2 : 2 ≤ vs.length
  · refine kat_sorted F N hls h2 h64 fun D e1 h' F' N' hD => ?_
    have hlen := hT.length
    have N'' : News h₀ L h' news := fun p hp => N' p (.tail _ hp)
    obtain ⟨fs, k1, k2, k3⟩ := kat_tups_of N'' hT
    refine kat_kind (s := { s with heap := h' }) (T := .type "int") k1 (by omega) (fun v hv => ?_) rfl ?_
    · obtain ⟨i, t, rfl⟩ := k3 v hv
      exact Looks.of_pure rfl
    have W : Weak fun i j => lexlt (ts.getD i (0, 0, 0)) (ts.getD j (0, 0, 0)) := ⟨fun a b => lexlt_asym _ _, fun a b c => lexlt_neg _ _ _⟩
    refine KSat.wp (lt := fun i j => lexlt (ts.getD i (0, 0, 0)) (ts.getD j (0, 0, 0))) (n := vs.length) ?_ ?_ (sort_ok W (by omega))
    · intro i j C hi hj hC
      obtain ⟨a, t1, t2, t3, ea, ma⟩ := hT.at i hi
      obtain ⟨b, u1, u2, u3, eb, mb⟩ := hT.at j hj
      show wpAny _ _ (keyLt' _ (vs.getD i .none) (vs.getD j .none)) _ _ _
      rw [ea, eb]
      exact lt_trip (N'' _ ma).1 (N'' _ mb).1 hC
    · rintro p ⟨ok, up⟩
      refine KasFin.intro F' N' (UpdF.head fun q hq => Nat.ne_of_lt (hD q hq)) fun h'' c F'' N3 => ?_
      have hp : p.toList.Perm (List.range vs.length) := by have := Array.perm_iff_toList_perm.mp ok.perm; simpa using this
      refine ret D h'' _ (p.toList.map fun i => ts.getD i (0, 0, 0)) c F'' N3 hD (hT.pick p.toList fun i hi => by have := hp.mem_iff.mp hi; simpa using this) ?_ ?_
      · have z := hp.map fun i => ts.getD i (0, 0, 0)
        rw [hlen, range_map_getD] at z
        exact z
      · unfold SortedL
        rw [List.pairwise_map, List.pairwise_iff_getElem]
        intro i j hi hj hij
        have hsz := ok.size
        have z := up i j (by omega) (by simpa [hsz] using hj)
        have e1 : at_ p i = p.toList[i] := by simp [at_, Array.getD, show i < p.size by simpa using hi]
        have e2 : at_ p j = p.toList[j] := by simp [at_, Array.getD, show j < p.size by simpa using hj]
        rw [e1, e2] at z
        exact z
  · refine sorted_short hls (by omega) ?_
    obtain ⟨c, hc⟩ := sortedAll_at s.heap vs vs.toArray
    have keep : ∀ b o, s.heap.get? b = some o → (sortedAll s.heap vs vs.toArray).get? b = some o := fun b o e => sortedAll_old e
    refine ret _ _ vs ts c ⟨F.ns.keeps keep, fun b o e => keep b o (F.keep b o e), F.above⟩ (fun q hq => ?_) (fun q hq => Nat.lt_succ_of_lt (Heap.lt_size (N q hq).1)) hT (.refl _) ?_
    · rcases List.mem_cons.mp hq with rfl | hq
      · refine ⟨hc, Nat.ne_of_gt (Nat.lt_succ_of_lt F.ns.lt), Heap.get?_none_of_le (Nat.le_trans F.above (Nat.le_succ_of_le (Nat.le_of_lt F.ns.lt)))⟩
      · exact ⟨keep _ _ (N q hq).1, (N q hq).2⟩
    · have hlen := hT.length
      unfold SortedL
      match ts, hlen with
      | [], _ => exact .nil
      | [_], _ => exact List.pairwise_singleton _ _
      | _ :: _ :: _, hlen => simp at hlen; omega
end
end Mine
end

section
open PySem PySem.W PyProof.Rows
set_option maxHeartbeats 8000000
namespace Mine
local macro_rules | `(tactic| k_all) => `(tactic| assumption)
theorem kw_p16_1 : True := by
  k_with "p16_1" => (((with_reducible show wpAny _ _ (eval (Expr.Name _ _) (compEnvC _ _ _ _)) _ _ _); k_dflt (first
    | (refine' nmL (by k_asm) (by assumption) (by exact rfl) (by exact rfl) (by decide) ?_; k_whole)
    | (refine' nmC (by k_asm) (by exact rfl) (by exact rfl) (by exact rfl) (by k_mem) (by assumption) (by decide) ?_; k_whole))))
  trivial
local macro_rules | `(tactic| walk_at "eval Name") => `(tactic| k_extra "p16_1")

theorem kw_p16_2 : True := by
  k_with "p16_2" => (repeat' ((fail_if_success (with_reducible show wpAny _ _ (exec (Stmt.While _ _ _ _) _) _ _ _)); (fail_if_success (with_reducible show wpAny _ _ (pyIter (Value.ref _)) _ _ _)); (fail_if_success (with_reducible show wpAny _ _ (compareOp CmpOp.Eq (Value.ref _) (Value.ref _)) _ _ _)); (fail_if_success (with_reducible show wpAny _ _ (eval (Expr.ListComp _ _ _ _) _) _ _ _)); (fail_if_success (with_reducible show wpAny _ _ (exec (Stmt.For _ _ _ _ _) _) _ _ _)); (fail_if_success (with_reducible show wpAny _ _ (call (Value.builtin "sorted") _) _ _ _)); (fail_if_success (with_reducible show wpAny _ _ (exec (Stmt.If (Expr.BoolOp BoolOp.Or _ _) _ _ _) _) _ _ _)); first | (k_unfold; (try dsimp only)) | walk1 | (dsimp only; walk1)))
  trivial

theorem kw_p16_3 : True := by
  k_with "p16_3" => ((repeat' (first | (refine List.forall_mem_cons.mpr ⟨?_, ?_⟩; k_mem) | (intro p hp; repeat (first | exact hp | apply List.Mem.tail)))))
  trivial

theorem reps_spec {w : World} {e : Env} {s : Shared} {Q E : Value → Shared → Prop} {word : Str} {ta : Tok} {mean mg mb}
  (X : (Mine.hd.heap_1 w.params).In s.heap) (T : TopX mean mg mb s.heap) (hw : word.length ≤ 20) 
  (ret : ∀ h' tk D tups ys us c, Ext s.heap h' → s.heap.get? D = none → h'.get? D = some (W.listOf ys.toArray c) → (∀ p ∈ tups, h'.get? p.1 = some p.2 ∧ s.heap.get? p.1 = none) → Trips tups ys us → us.Perm (outerRun word (word.length / 2)) → SortedL us → Q (.ref D) { s with heap := h', toks := tk }) :
  wpAny (model PySem.Challenge.rw_pk0055_01.row.prog w) (callerA.deeper e) (call (.ref 122) [.str word ta]) Q E s := by
  revert X
  k_fill
  intro X
  refine' enterC (binds := [(Str.ofString "word", .str word ta)]) X T.nolimit ?k6 ?k7 ?k8 ?k9 ?kB ?kD ?c2 ?c3 ?c4 ?_; (case k6 => k_is); (case k7 => k_is); (case k8 => k_room); (case k9 => exact BindsTo.of_eq rfl); (case kB => exact rfl); (case kD => decide +kernel); (case c2 => exact rfl); (case c3 => exact rfl); (case c4 => exact rfl)
  intro h₁ L₁ tk₁ cells F₁ N₁ Y₁
  obtain ⟨o1, o2, o3, hE, d1, d2, d3⟩ := CellsAre.three Y₁
  subst hE
  clear Y₁
  k_fold
  k_extra "p16_2"
  refine wpAny_For ?_
  k_extra "p16_2"
  have hq1 : (word.length : Int).fdiv 2 = (word.length : Int) / 2 := by rw [Int.fdiv_eq_ediv_of_nonneg]; omega
  refine' for_range (OutJ word L₁ _ _) rfl (by assumption) (by omega) (by omega) (by omega) (by omega) (by k_asm) (by k_asm) ⟨rfl, _, _, _, _, _, _, [], 0, [], by omega, by simp, rfl, d1, d2, d3, .nil⟩ ?_ ?_
  · intro i I o m₁ news₁ σ tv QT hi hI hJ F' N' hII hσ hQT
    clear hσ
    obtain ⟨rfl, o1, o2, o3, c1, c2, c3, vs, n, tups, hLl, htu, rfl, d1, d2, d3, hT⟩ := hJ
    k_lt hI
    have q1 : ∀ p ∈ tups, p.1 ≠ L₁ + 1 := fun p hp => by have := htu p hp; refine neN ?_; omega
    have q2 : ∀ p ∈ tups, p.1 ≠ L₁ + 1 + 1 := fun p hp => by have := htu p hp; refine neN ?_; omega
    have q3 : ∀ p ∈ tups, p.1 ≠ L₁ + 1 + 1 + 1 := fun p hp => by have := htu p hp; refine neN ?_; omega
    have q4 : ∀ p ∈ tups, p.1 ≠ I := fun p hp => hII p (by simp [hp])
    clear hII
    k_extra "p16_2"
    refine wpAny_For ?_
    k_extra "p16_2"
    refine' for_range (InJ word (1 + (i : Int)) L₁ _ _ I o (outerRun word i)) rfl (by assumption) (by omega) (by omega) (by omega) (by omega) (by k_asm) (by k_asm) ⟨rfl, _, _, _, _, _, _, vs, n, tups, hLl, hI.1, fun p hp => ⟨htu p hp, q4 p hp⟩, rfl, d1, by assumption, by assumption, hT⟩ ?_ ?_
    · intro j I₂ o₂ m₂ news₂ σ₂ tv₂ QT₂ hj hI₂ hJ₂ F' N' hII hσ₂ hQT₂
      clear hσ₂
      obtain ⟨rfl, o1, o2, o3, c1, t2, t3, vs, n, tups, _, hlI, htu, rfl, d1, d2, d3, hT⟩ := hJ₂
      k_lt hI₂
      have q1 : ∀ p ∈ tups, p.1 ≠ L₁ + 1 := fun p hp => by have := htu p hp; refine neN ?_; omega
      have q2 : ∀ p ∈ tups, p.1 ≠ L₁ + 1 + 1 := fun p hp => by have := htu p hp; refine neN ?_; omega
      have q3 : ∀ p ∈ tups, p.1 ≠ L₁ + 1 + 1 + 1 := fun p hp => by have := htu p hp; refine neN ?_; omega
      have q4 : ∀ p ∈ tups, p.1 ≠ I := fun p hp => (htu p hp).2
      have q5 : ∀ p ∈ tups, p.1 ≠ I₂ := fun p hp => hII p (by simp [hp])
      have q0 : ∀ p ∈ tups, p.1 ≠ _ := fun p hp => Nat.ne_of_gt (htu p hp).1
      clear hII
      have hi10 : i + 1 ≤ 10 := by omega
      have hvl : vs.length ≤ 37 := by rw [hT.length]; exact Nat.le_trans (inner_len word hw i _ j (by omega) (outer_len word hw i)) (bnd_le _ hi10)
      generalize hst : innerRun word (1 + (i : Int)) (outerRun word i) j = st at *
      rw [Int.zero_add]
      k_extra "p16_2"
      refine if_join (c := decide ((j : Int) = word.length - (1 + (i : Int)) ∨ Txt.item word j ≠ Txt.item word (j + (1 + (i : Int))))) (by k_asm) (by k_asm) ?t1 ?t2 ?t3
      case t1 =>
        intro QB hQB
        k_extra "p16_2"
        all_goals first
          | exact hQB _ _ _ (decide_eq_true (.inl (by assumption))).symm (by k_asm) (by k_asm)
          | exact hQB _ _ _ (decide_eq_true (.inr (bne_iff_ne.mp (by assumption)))).symm (by k_asm) (by k_asm)
          | exact hQB _ _ _ (decide_eq_false fun q => q.elim (by assumption) fun z => z (bne_eq_false_iff_eq.mp (by assumption))).symm (by k_asm) (by k_asm)
      case t2 =>
        intro hc h' tk' F'' N''
        have hA := of_decide_eq_true hc
        clear hc
        k_extra "p16_2"
        · k_fold
          refine' listComp_ex (cl := _) ?hclos ?hcell ?hkind ?hnames ?hx ?_ ?hs
          case hclos => exact rfl
          case hcell => decide
          case hkind => exact rfl
          case hnames => decide
          case hx => exact rfl
          case hs => intro _; rfl
          k_extra "p16_2"
          refine' comp_src (n := n) (fun t => decide (t.1 = st.1) && decide (t.2.1 = j + (1 + (i : Int)))) rfl rfl rfl (by decide) (by k_asm) (by k_asm) (by k_mem) (hT.mono (by intro q hq; simp [hq])) (by rw [sizeLine_eq]; omega) ?_ ?_
          · intro C a y1 y2 y3 t1 t2 t3 s₃ m₃ E' F₃ hm₃ N₃
            refine' comp_test (by exact Nat.le_of_ble_eq_true rfl) (N₃ _ (.head _)).1 ?_ ?_ ?_ rfl rfl (fun _ => by with_unfolding_all rfl) (fun _ => by with_unfolding_all rfl)
            · intro s' Q' x' h'
              exact nmL (x'.fr F₃) hm₃ rfl rfl (by decide) h'
            · intro s' Q' x' h'
              exact nmC (x'.news N₃) rfl rfl rfl (by k_mem) d2 (by decide) (h' _ _)
            · intro s' Q' x' h'
              refine wpAny_BinOp (nmC (x'.news N₃) rfl rfl rfl (by k_mem) (by assumption) (by decide) (nmC (x'.news N₃) rfl rfl rfl (by k_mem) d3 (by decide) ?_))
              k_extra "p16_2"
              exact h' _ _
          · intro D h' tk' ys k F' N' hne hT' _
            simp only [AllNe] at hne
            k_unfold
            dsimp only
            k_extra "p16_2"
            refine' eq_trips (vs := ys) (ws := []) (us := []) ?e1 ?e2 ?e3 ?e4 ?e5 ?e6 ?_
            case e1 => k_asm
            case e2 => k_mem
            case e3 => k_mem
            case e4 => exact hT'.mono (by k_extra "p16_3")
            case e5 => exact .nil
            case e6 => exact Nat.le_of_ble_eq_true rfl
            k_extra "p16_2"
            · have hfil := of_decide_eq_true (by assumption)
              refine' hQT₂ _ _ (turn_app ?g1 ?g2 ?g3 ?g4 ?g5 ?g6 ?g7 htu q5 ?g8 ?g9 d3 hT ?g10)
              case g1 => k_asm
              case g2 => k_asm
              case g3 => k_extra "p16_3"
              case g4 => omega
              case g5 => omega
              case g6 => omega
              case g7 => omega
              case g8 => assumption
              case g9 => assumption
              case g10 => rw [innerRun, hst]; exact innerStep_app hA (by assumption) hfil
            · have hfil := of_decide_eq_false (by assumption)
              refine' hQT₂ _ _ (turn_keep ?g1 ?g2 ?g3 ?g4 ?g5 ?g6 htu q5 ?g8 ?g9 d3 hT ?g10)
              case g1 => k_asm
              case g2 => k_asm
              case g3 => k_extra "p16_3"
              case g4 => omega
              case g5 => omega
              case g6 => omega
              case g8 => assumption
              case g9 => assumption
              case g10 => rw [innerRun, hst]; exact innerStep_keep2 hA hfil
        · refine' hQT₂ _ _ (turn_keep ?g1 ?g2 ?g3 ?g4 ?g5 ?g6 htu q5 ?g8 ?g9 d3 hT ?g10)
          case g1 => k_asm
          case g2 => k_asm
          case g3 => k_extra "p16_3"
          case g4 => omega
          case g5 => omega
          case g6 => omega
          case g8 => assumption
          case g9 => assumption
          case g10 => rw [innerRun, hst]; exact innerStep_keep1 hA (by omega)
      case t3 =>
        intro hc h' tk' F'' N''
        have hA := of_decide_eq_false hc
        clear hc
        k_extra "p16_2"
        refine' hQT₂ _ _ (turn_keep ?g1 ?g2 ?g3 ?g4 ?g5 ?g6 htu q5 ?g8 ?g9 d3 hT ?g10)
        case g1 => k_asm
        case g2 => k_asm
        case g3 => k_extra "p16_3"
        case g4 => omega
        case g5 => omega
        case g6 => omega
        case g8 => assumption
        case g9 => assumption
        case g10 => rw [innerRun, hst]; exact innerStep_same (fun q => hA (.inl q)) (Classical.byContradiction fun q => hA (.inr q))
    · intro m₁ news₁ h tk hJ F' N'
      obtain ⟨rfl, o1, o2, o3, c1, t2, t3, vs, n, tups, _, hlI, htu, rfl, d1, d2, d3, hT⟩ := hJ
      dsimp only
      k_extra "p16_2"
      refine' hQT _ _ (FPost.intro (by k_asm) (by k_asm) ?g3 ?g4 ⟨rfl, o1, o2, o3, c1, _, _, vs, n, tups, hLl, fun p hp => (htu p hp).1, rfl, d1, d2, d3, hT⟩)
      case g3 => k_extra "p16_3"
      case g4 =>
        have z : ∀ a : Nat, a ≤ L₁ + 3 → a ≠ I := fun a ha => Nat.ne_of_lt (Nat.lt_of_le_of_lt ha (Nat.lt_trans hLl hlI))
        intro p hp
        simp only [List.mem_cons] at hp
        rcases hp with rfl | rfl | rfl | rfl | hp
        · exact Nat.ne_of_lt hlI
        · exact z (L₁ + 1 + 1 + 1) (by omega)
        · exact z (L₁ + 1 + 1) (by omega)
        · exact z (L₁ + 1) (by omega)
        · exact (htu p hp).2
  · intro m₁ news₁ h tk hJ F' N'
    obtain ⟨rfl, o1, o2, o3, c1, c2, c3, vs, n, tups, hLl, htu, rfl, d1, d2, d3, hT⟩ := hJ
    dsimp only
    k_extra "p16_2"
    have hk : ((word.length : Int).fdiv 2 + 1 - 1).toNat = word.length / 2 := by omega
    rw [hk] at hT
    have hvl : vs.length ≤ 37 := by rw [hT.length]; exact Nat.le_trans (outer_len word hw _) (bnd_le _ (by omega))
    refine' sorted_trips (n := n) (vs := vs) (ts := outerRun word (word.length / 2)) ?e1 ?e2 ?e3 ?e4 (by omega) ?_
    case e1 => k_asm
    case e2 => k_asm
    case e3 => k_mem
    case e4 => exact hT.mono (by k_extra "p16_3")
    intro D h' ys us c F'' N'' hD hT' hp hs
    k_extra "p16_2"
    exact ret _ _ D _ ys us c F''.keep (N'' _ (.head _)).2.2 (N'' _ (.head _)).1 (fun p hp => ⟨(N'' p (.tail _ hp)).1, (N'' p (.tail _ hp)).2.2⟩) hT' hp hs
end Mine
end

section
open PySem PySem.W PyProof.Rows PySem.Calls
set_option maxHeartbeats 8000000
namespace Mine
section
variable {prog : Program} {w : World} {A : Around} {E : Value → Shared → Prop} {s : Shared}
theorem tupIter_next {it t : Addr} {i : Nat} {items : Array Value} {x : Value} {Q : Value → Shared → Prop} (hit : s.heap.IsTupleIter it t i) (ht : s.heap.IsTuple t items) (hx : items[i]? = some x)
    (hQ : ∀ h', h'.IsTupleIter it t (i + 1) → Heap.SameBut it s.heap h' → Q x { s with heap := h' }) : wpAny (model prog w) A (Builtin.SmallTypes.nextOf (.ref it)) Q E s := by
  obtain ⟨o, ho, hc, hd⟩ := id hit
  obtain ⟨ol, hol, _, nl, hdl⟩ := ht
  unfold Builtin.SmallTypes.nextOf
  refine wpAny_bind (wpAny_callSpecial?_slot (name := Str.ofString "__next__") hit.typeIs F.slot_tuple_iterator_next
    (wpAny_call_entry F.slot_tuple_iterator_next hit.typeIs F.entry_tuple_iterator_next ?_ (F.args_tuple_iterator_next_1 _)))
  refine wpAny_bind (m := field (.ref it) 0) (wpAny_field ho hd (x := .ref t) rfl ?_)
  show wpAny _ _ (if (Value.ref t == Value.none) = true then _ else _) _ _ s
  rw [if_neg (show ¬ ((Value.ref t == Value.none) = true) from Bool.false_ne_true)]
  refine wpAny_bind (m := field (.ref it) 1) (wpAny_field ho hd (x := .int i 0) rfl ?_)
  refine wpAny_bind (m := seqItems? (.ref t)) (wpAny_seqItems hol hdl ?_)
  simp only [Int.toNat_natCast, hx]
  refine wpAny_bind (wpAny_setField ho hd (by simp) (wpAny_pure ⟨x, rfl, wpAny_pure (hQ _ ?_ (Heap.SameBut.update ..))⟩))
  exact ⟨_, Heap.get?_update_self _ ho (Obj.isFreed_of_fields (Obj.data_mapFields hd _)), (Obj.cls_mapFields ..).trans hc, by
    rw [Obj.data_mapFields hd]; simp [rawInt]⟩
noncomputable abbrev EnumAt (h : Heap) (e it : Addr) (f0 : Value) (i : Int) (item : Value) : Prop :=
  h.get? e = some { cls := .type "enumerate", dict := none, data := .fields #[f0, .bool false, .ref it, rawInt i, .none, item], slots := #[] }
theorem enumTup_next {e it t : Addr} {i : Nat} {items : Array Value} {x old : Value} {Q : Option Value → Shared → Prop} (he : EnumAt s.heap e it .none i old) (hit : s.heap.IsTupleIter it t i) (ht : s.heap.IsTuple t items)
    (hx : items[i]? = some x) (hne : e ≠ it)
    (hQ : ∀ (h' : Heap) (a : Addr), EnumAt h' e it (rawInt (a : Nat)) ((i : Int) + 1) x → h'.IsTupleIter it t (i + 1) → h'.get? a = some { cls := .type "tuple", data := .seq #[.int i s.toks, x] } → s.heap.objs.size = a →
      (∀ b o, b ≠ e → b ≠ it → s.heap.get? b = some o → h'.get? b = some o) → Q (some (.ref a)) { s with heap := h', toks := s.toks + 1 }) : wpAny (model prog w) A (pyNext (.ref e)) Q E s := by
  have hT : s.TypeIs (.ref e) "enumerate" := ⟨_, he, rfl⟩
  unfold pyNext
  refine wpAny_bind (wpAny_attempt (wpAny_callSpecial?_slot (name := Str.ofString "__next__") hT F.slot_enumerate_next
    (wpAny_call_entry F.slot_enumerate_next hT F.entry_enumerate_next ?_ (F.args_enumerate_next_1 _))))
  obtain ⟨hp, g, d, tk, os⟩ := s
  refine wpAny_bind (m := field (.ref e) 2) (wpAny_field he rfl (x := .ref it) rfl ?_)
  refine wpAny_bind (tupIter_next hit ht hx fun h₁ hit₁ hs₁ => ?_)
  have he₁ : EnumAt h₁ e it .none i old := (hs₁.2 e hne).trans he
  refine wpAny_bind (m := field (.ref e) 3) (wpAny_field (s := ⟨h₁, g, d, tk, os⟩) he₁ rfl (x := rawInt i) rfl ?_)
  refine wpAny_bind (m := field (.ref e) 4) (wpAny_field (s := ⟨h₁, g, d, tk, os⟩) he₁ rfl (x := .none) rfl ?_)
  refine wpAny_bind (m := mkInt i) (wpAny_mkInt ?_)
  show wpAny _ _ (setField (.ref e) 3 (rawInt ((i : Int) + 1)) >>= _) _ _ ⟨h₁, g, d, tk + 1, os⟩
  refine wpAny_bind (wpAny_setField_rec he₁ (by simp) fun h₂ he₂ hs₂ => ?_)
  replace he₂ : EnumAt h₂ e it .none ((i : Int) + 1) old := he₂
  show wpAny _ _ (setField (.ref e) 4 .none >>= _) _ _ ⟨h₂, g, d, tk + 1, os⟩
  refine wpAny_bind (wpAny_setField_rec he₂ (by simp) fun h₃ he₃ hs₃ => ?_)
  replace he₃ : EnumAt h₃ e it .none ((i : Int) + 1) old := he₃
  show wpAny _ _ (newTuple [.int i tk, x] >>= _) _ _ ⟨h₃, g, d, tk + 1, os⟩
  refine wpAny_bind (wpAny_newTuple ?_)
  have hsz : h₃.objs.size = hp.objs.size := by rw [hs₃.1, hs₂.1, hs₁.1]
  have he₄ : EnumAt (h₃.push { cls := .type "tuple", data := .seq #[.int i tk, x] }) e it .none ((i : Int) + 1) old := Heap.get?_push_of_some _ he₃
  have hel : e < hp.objs.size := Heap.lt_size he
  have ht₄ : (h₃.push { cls := .type "tuple", data := .seq #[.int i tk, x] }).get? hp.objs.size = some { cls := .type "tuple", data := .seq #[.int i tk, x] } := by rw [← hsz]; exact Heap.get?_push_size _ rfl
  have hk₄ : ∀ b o, b ≠ e → b ≠ it → hp.get? b = some o → (h₃.push { cls := .type "tuple", data := .seq #[.int i tk, x] }).get? b = some o := fun b o hbe hbi hb =>
    Heap.get?_push_of_some _ (hs₃.extBut b o hbe (hs₂.extBut b o hbe (hs₁.extBut b o hbi hb)))
  have hit₄ : (h₃.push { cls := .type "tuple", data := .seq #[.int i tk, x] }).IsTupleIter it t (i + 1) := by
    obtain ⟨o, ho, r⟩ := (hit₁.extBut hs₂.extBut (Ne.symm hne)).extBut hs₃.extBut (Ne.symm hne); exact ⟨o, Heap.get?_push_of_some _ ho, r⟩
  generalize hh₄ : h₃.push { cls := .type "tuple", data := .seq #[.int i tk, x] } = h₄ at he₄ ht₄ hk₄ hit₄
  show wpAny _ _ (Builtin.SmallTypes.ownedTupleIsFree (.ref e) >>= _) _ _ ⟨h₄, g, d, tk + 1, os⟩
  rw [hsz]
  refine wpAny_bind ?_
  unfold Builtin.SmallTypes.ownedTupleIsFree
  refine wpAny_bind (wpAny_field he₄ rfl (x := .none) rfl (wpAny_pure ?_))
  simp only [if_true]
  refine wpAny_bind (wpAny_rule ?_)
  refine wpAny_bind (wpAny_field he₄ rfl (x := old) rfl ?_)
  refine wpAny_bind (wpAny_setField_rec he₄ (by simp) fun h₅ he₅ hs₅ => ?_)
  replace he₅ : EnumAt h₅ e it .none ((i : Int) + 1) x := he₅
  show wpAny _ _ (Builtin.SmallTypes.ownedTupleHandOut (.ref e) (.ref hp.objs.size) >>= _) _ _ ⟨h₅, g, d, tk + 1, os⟩
  refine wpAny_bind ?_
  unfold Builtin.SmallTypes.ownedTupleHandOut
  refine wpAny_bind (wpAny_setField_rec he₅ (by simp) fun h₆ he₆ hs₆ => ?_)
  replace he₆ : EnumAt h₆ e it (rawInt hp.objs.size) ((i : Int) + 1) x := he₆
  refine wpAny_setField_rec he₆ (by simp) fun h₇ he₇ hs₇ => ?_
  replace he₇ : EnumAt h₇ e it (rawInt hp.objs.size) ((i : Int) + 1) x := he₇
  refine wpAny_bind (wpAny_letGo (wpAny_pure ⟨_, rfl, wpAny_pure (hQ h₇ _ he₇ ?_ ?_ rfl ?_)⟩))
  · exact ((hit₄.extBut hs₅.extBut (Ne.symm hne)).extBut hs₆.extBut (Ne.symm hne)).extBut hs₇.extBut (Ne.symm hne)
  · exact hs₇.extBut _ _ (Nat.ne_of_gt hel) (hs₆.extBut _ _ (Nat.ne_of_gt hel) (hs₅.extBut _ _ (Nat.ne_of_gt hel) ht₄))
  · exact fun b o hbe hbi hb => hs₇.extBut b o hbe (hs₆.extBut b o hbe (hs₅.extBut b o hbe (hk₄ b o hbe hbi hb)))
theorem enumTup_end {e it t : Addr} {i : Nat} {items : Array Value} {old : Value} {Q : Option Value → Shared → Prop} (hh : A.handled = none) (he : EnumAt s.heap e it .none i old) (hit : s.heap.IsTupleIter it t i) (ht : s.heap.IsTuple t items)
    (hx : items[i]? = none) (hQ : ∀ h', Heap.ExtBut it s.heap h' → Q none { s with heap := h' }) : wpAny (model prog w) A (pyNext (.ref e)) Q E s := by
  have hT : s.TypeIs (.ref e) "enumerate" := ⟨_, he, rfl⟩
  unfold pyNext
  refine wpAny_bind (wpAny_attempt (wpAny_callSpecial?_slot (name := Str.ofString "__next__") hT F.slot_enumerate_next
    (wpAny_call_entry F.slot_enumerate_next hT F.entry_enumerate_next ?_ (F.args_enumerate_next_1 _))))
  refine wpAny_bind (m := field (.ref e) 2) (wpAny_field he rfl (x := .ref it) rfl ?_)
  obtain ⟨o, ho, hc, hd⟩ := id hit
  obtain ⟨ol, hol, _, nl, hdl⟩ := ht
  refine wpAny_bind ?_
  unfold Builtin.SmallTypes.nextOf
  refine wpAny_bind (wpAny_callSpecial?_slot (name := Str.ofString "__next__") hit.typeIs F.slot_tuple_iterator_next
    (wpAny_call_entry F.slot_tuple_iterator_next hit.typeIs F.entry_tuple_iterator_next ?_ (F.args_tuple_iterator_next_1 _)))
  refine wpAny_bind (m := field (.ref it) 0) (wpAny_field ho hd (x := .ref t) rfl ?_)
  show wpAny _ _ (if (Value.ref t == Value.none) = true then _ else _) _ _ s
  rw [if_neg (show ¬ ((Value.ref t == Value.none) = true) from Bool.false_ne_true)]
  refine wpAny_bind (m := field (.ref it) 1) (wpAny_field ho hd (x := .int i 0) rfl ?_)
  refine wpAny_bind (m := seqItems? (.ref t)) (wpAny_seqItems hol hdl ?_)
  simp only [Int.toNat_natCast, hx]
  refine wpAny_bind (wpAny_rule (wpAny_bind (wpAny_setField ho hd (by simp) ?_)))
  show wpAny _ _ (newExc (.type "StopIteration") [] >>= _) _ _ _
  refine wpAny_bind ?_
  simp only [newExc, newTuple]
  refine wpAny_bind (wpAny_newObj_type ?_ (by size_fits))
  refine wpAny_bind (m := firstArgMember _ _) (wpAny_of_eq (a := Value.none) (by first | rfl | (simp only [firstArgMember]; rfl)) ?_)
  refine wpAny_newObj_type ?_ (by size_fits)
  simp only [raiseNew]
  refine wpAny_bind (wpAny_handled ?_)
  rw [show A.in1.in1.handled = none from hh]
  refine wpAny_bind (wpAny_pure (wpAny_throw ?_))
  refine wpAny_bind (wpAny_isInstance (T := "StopIteration") (b := true) ⟨_, Heap.get?_push_size _ rfl, rfl⟩ isSubtype_stop ?_)
  exact wpAny_pure (hQ _ (((Heap.SameBut.update ..).extBut.push _).push _))
end
section
variable {prog : Program} {w : World} {A : Around} {env : Env} {h₀ : Heap} {L : Addr} {m : Str → Option Value} {news : List (Addr × Obj)} {s : Shared} {Q : Flow → Shared → Prop} {E : Value → Shared → Prop} {elts : List Expr} {k1 : Nat} {p1 : Pos} {body : List Stmt}
/-- a turn's end, the objects own of the loop's iterators kept -/
noncomputable def FPostL (h₀ : Heap) (L : Addr) (s : Shared) (own : List (Addr × Obj)) (J : (Str → Option Value) → List (Addr × Obj) → Prop) (f : Flow) (s' : Shared) : Prop :=
  f = .next ∧ ∃ h' tk m' news', s' = { s with heap := h', toks := tk } ∧ Fr h₀ L h' m' ∧ News h₀ L h' (own ++ news') ∧ (∀ p ∈ news', ∀ q ∈ own, p.1 ≠ q.1) ∧ J m' news'
theorem FPostL.intro {own : List (Addr × Obj)} {J : (Str → Option Value) → List (Addr × Obj) → Prop} {h' : Heap} {tk : Nat} {m' : Str → Option Value} {news' nn : List (Addr × Obj)} (F : Fr h₀ L h' m') (N : News h₀ L h' nn) (hs : ∀ p ∈ own ++ news', p ∈ nn) (hI : ∀ p ∈ news', ∀ q ∈ own, p.1 ≠ q.1) (j : J m' news') :
    FPostL h₀ L s own J .next { s with heap := h', toks := tk } := ⟨rfl, h', tk, m', news', rfl, F, fun p hp => N p (hs p hp), hI, j⟩
/-- for .. in enumerate(t), t a tuple of the top -/
theorem for_enum {t e it : Addr} {items : Array Value} (J : Nat → (Str → Option Value) → List (Addr × Obj) → Prop) (hh : A.handled = none) (he : EnumAt s.heap e it .none 0 .none) (hit : s.heap.IsTupleIter it t 0) (ht : h₀.IsTuple t items)
    (hei : e ≠ it) (heL : e ≠ L) (hiL : it ≠ L) (he0 : h₀.get? e = none) (hi0 : h₀.get? it = none) (hen : ∀ p ∈ news, p.1 ≠ e ∧ p.1 ≠ it)
    (F : Fr h₀ L s.heap m) (N : News h₀ L s.heap news) (hj : J 0 m news)
    (turn : ∀ (i : Nat) (x : Value) (oe oi : Obj) (a : Addr) (ti : Tok) (m₁ : Str → Option Value) (news₁ : List (Addr × Obj)) (h : Heap) (tk : Nat), items[i]? = some x → J i m₁ news₁ → Fr h₀ L h m₁ →
      News h₀ L h ((a, { cls := .type "tuple", data := .seq #[.int i ti, x] }) :: (e, oe) :: (it, oi) :: news₁) → (∀ p ∈ (e, oe) :: (it, oi) :: news₁, p.1 < a) → (∀ p ∈ news₁, p.1 ≠ e ∧ p.1 ≠ it) →
      wpAny (model prog w) A (assign (.Tuple elts k1 p1) env (.ref a)) (fun _ s₂ => wpAny (model prog w) A (execs body env) (FPostL h₀ L s [(e, oe), (it, oi)] (J (i + 1))) (fun _ _ => False) s₂) (fun _ _ => False) { s with heap := h, toks := tk })
    (done : ∀ m₁ news₁ h tk, J items.size m₁ news₁ → Fr h₀ L h m₁ → News h₀ L h news₁ → Q .next { s with heap := h, toks := tk }) :
    codeAny (model prog w) A (.forLoop (.Tuple elts k1 p1) (.ref e) body [] env) (fun r s' => match r with | .ok f => Q f s' | .error e => cameBackBy (model prog w) A env E e s') s := by
  have tupAt : ∀ {h : Heap} {m₁}, Fr h₀ L h m₁ → h.IsTuple t items := fun F₁ => let ⟨o, ho, r⟩ := ht; ⟨o, F₁.keep _ _ ho, r⟩
  have body' : ∀ {h : Heap} {m₁ : Str → Option Value} {news₁ : List (Addr × Obj)} {h' : Heap}, Fr h₀ L h m₁ → News h₀ L h news₁ → (∀ p ∈ news₁, p.1 ≠ e ∧ p.1 ≠ it) → (∀ b o, b ≠ e → b ≠ it → h.get? b = some o → h'.get? b = some o) → Fr h₀ L h' m₁ ∧ News h₀ L h' news₁ := fun F₁ N₁ hI k =>
    ⟨⟨F₁.ns.at' fun o x => k _ o (Ne.symm heL) (Ne.symm hiL) x, fun b o x => k b o (fun q => by rw [q, he0] at x; cases x) (fun q => by rw [q, hi0] at x; cases x) (F₁.keep b o x), F₁.above⟩, fun p hp => ⟨k _ _ (hI p hp).1 (hI p hp).2 (N₁ p hp).1, (N₁ p hp).2⟩⟩
  refine codeAny_forLoop_any (fun k s' => ∃ h tk m₁ news₁ i old, s' = { s with heap := h, toks := tk } ∧ EnumAt h e it .none (i : Nat) old ∧ h.IsTupleIter it t i ∧ Fr h₀ L h m₁ ∧ News h₀ L h news₁ ∧ (∀ p ∈ news₁, p.1 ≠ e ∧ p.1 ≠ it) ∧ J i m₁ news₁ ∧ i ≤ items.size ∧ k = items.size - i) ?_ items.size
    ⟨s.heap, s.toks, m, news, 0, .none, rfl, he, hit, F, N, hen, hj, Nat.zero_le _, rfl⟩
  rintro k s' ⟨h, tk, m₁, news₁, i, old, rfl, he₁, hit₁, F₁, N₁, hI₁, hJ, hi, rfl⟩
  cases hv : items[i]? with
  | none =>
    have hsz : i = items.size := Nat.le_antisymm hi (by simpa using hv)
    subst hsz
    refine enumTup_end hh he₁ hit₁ (tupAt F₁) hv fun h' hx => wpAny_execs_nil ?_
    obtain ⟨F₂, N₂⟩ := body' F₁ N₁ hI₁ fun b o _ hb e => hx b o hb e
    exact done m₁ news₁ h' tk hJ F₂ N₂
  | some v =>
    have hlt : i < items.size := (Array.getElem?_eq_some_iff.mp hv).1
    refine enumTup_next he₁ hit₁ (tupAt F₁) hv hei fun h₂ a heo hit₂ ha has hk₂ => ?_
    refine wpAny_letOwnedTupleGo_enum heo fun h₃ he₃ hs₃ => ?_
    replace he₃ : EnumAt h₃ e it .none ((i : Int) + 1) v := he₃
    have hea : e < a := by rw [← has]; exact Heap.lt_size he₁
    obtain ⟨oi0, hoi0, _⟩ := id hit₁
    have hia : it < a := by rw [← has]; exact Heap.lt_size hoi0
    have ha₃ : h₃.get? a = some { cls := .type "tuple", data := .seq #[.int i tk, v] } := (hs₃.2 a (Nat.ne_of_gt hea)).trans ha
    have hit₃ : h₃.IsTupleIter it t (i + 1) := hit₂.extBut hs₃.extBut (Ne.symm hei)
    obtain ⟨oi, hoi, ri⟩ := id hit₃
    obtain ⟨F₃, N₃⟩ := body' F₁ N₁ hI₁ fun b o hbe hbi e => hs₃.extBut b o hbe (hk₂ b o hbe hbi e)
    have hLa : L < a := by rw [← has]; exact F₁.ns.lt
    have ha0 : h₀.get? a = none := Heap.get?_none_of_le (Nat.le_trans F₁.above (Nat.le_of_lt hLa))
    have z := turn i v _ oi a tk m₁ news₁ h₃ (tk + 1) hv hJ F₃ (fun p hp => by
      simp only [List.mem_cons] at hp
      rcases hp with rfl | rfl | rfl | hp
      · exact ⟨ha₃, Nat.ne_of_gt hLa, ha0⟩
      · exact ⟨he₃, heL, he0⟩
      · exact ⟨hoi, hiL, hi0⟩
      · exact N₃ p hp) (fun p hp => by
      simp only [List.mem_cons] at hp
      rcases hp with rfl | rfl | hp
      · exact hea
      · exact hia
      · rw [← has]; exact Heap.lt_size (N₁ p hp).1) hI₁
    refine wpAny_mono z (fun _ s₂ h₂ => wpAny_mono h₂ (fun f s₄ h₄ => ?_) fun _ _ q => q.elim) fun _ _ q => q.elim
    obtain ⟨rfl, h₅, tk₅, m₅, news₅, rfl, F₅, N₅, hI₅, hJ₅⟩ := h₄
    have e5 : EnumAt h₅ e it .none ((i : Int) + 1) v := (N₅ _ (.head _)).1
    have i5 := (N₅ _ (.tail _ (.head _))).1
    refine ⟨items.size - (i + 1), by omega, h₅, tk₅, m₅, news₅, i + 1, v, rfl, e5, ⟨oi, i5, ri⟩, F₅, fun p hp => N₅ p (List.mem_append_right _ hp), fun p hp => ⟨hI₅ p hp _ (.head _), hI₅ p hp _ (.tail _ (.head _))⟩, hJ₅, hlt, rfl⟩
end
end Mine
end

section
open PySem PySem.W PyProof.Rows PySem.Calls
set_option maxHeartbeats 8000000
namespace Mine
section
variable {prog : Program} {w : World} {A : Around} {s : Shared} {R : Result → Shared → Prop} {target : Expr} {it : Value} {body orelse : List Stmt} {env : Env}
theorem owned_tup {I : Addr} {o : Obj} {v : Value} {vs : Array Value} {Q : Unit → Shared → Prop} {E : Value → Shared → Prop} (ho : s.heap.get? I = some o) (hc : o.cls = .type "tuple_iterator") (hd : o.data = .fields vs) (h : Q () s) :
    wpAny (model prog w) A (letOwnedTupleGo target (.ref I) v) Q E s := by
  have main : ∀ a : Addr, wpAny (model prog w) A (do
      let o ← load I
      match o.cls, o.data with
      | .type n, .fields vs =>
        if ["enumerate", "zip", "dict_itemiterator", "dict_reverseitemiterator", "odict_iterator", "itertools.zip_longest", "itertools.pairwise"].contains n && vs[0]? == some (rawInt a) then
          rule "for.unpacks-the-owned-tuple"
          updateField I 0 .none
      | _, _ => pure ()) Q E s := fun a => by
    refine wpAny_bind (wpAny_load ho ?_)
    rw [hc, hd]
    dsimp only
    rw [if_neg (by simp)]
    exact wpAny_pure h
  unfold letOwnedTupleGo
  split
  · cases v <;> first | exact wpAny_pure h | exact main _
  · cases v <;> first | exact wpAny_pure h | exact main _
  · exact wpAny_pure h
structure ItOk (o : Obj) (t : Addr) (k : Nat) : Prop where
  cls : o.cls = .type "tuple_iterator"
  data : o.data = .fields #[.ref t, .int k 0]
variable {h₀ : Heap} {L I t : Addr} {m : Str → Option Value} {news : List (Addr × Obj)} {items : Array Value} {k : Nat} {o : Obj}
theorem tup_start {Q : Value → Shared → Prop} {E : Value → Shared → Prop} (F : Fr h₀ L s.heap m) (N : News h₀ L s.heap news) (ht : h₀.IsTuple t items) (h : ∀ I o h', ItOk o t 0 → Fr h₀ L h' m → News h₀ L h' ((I, o) :: news) → (∀ p ∈ news, p.1 < I) → Q (.ref I) { s with heap := h' }) :
    wpAny (model prog w) A (pyIter (.ref t)) Q E s := by
  have ht' : s.heap.IsTuple t items := let ⟨o, ho, r⟩ := ht; ⟨o, F.keep _ _ ho, r⟩
  exact wpAny_pyIter_tuple ht' (h _ _ _ ⟨rfl, rfl⟩ (F.push _) (News.push F N { cls := .type "tuple_iterator", data := .fields #[.ref t, .int 0 0] }) fun p hp => Heap.lt_size (N p hp).1)
theorem tup_item {x : Value} (F : Fr h₀ L s.heap m) (N : News h₀ L s.heap ((I, o) :: news)) (ho : ItOk o t k) (hI : ∀ p ∈ news, p.1 < I) (ht : h₀.IsTuple t items) (hx : items[k]? = some x)
    (h : ∀ h' o', ItOk o' t (k + 1) → Fr h₀ L h' m → News h₀ L h' ((I, o') :: news) → wpAny (model prog w) A (assign target env x) (fun _ s₂ => wpAny (model prog w) A (execs body env) (fun f s₃ => match f with
          | .next | .cont => codeAny (model prog w) A (.forLoop target (.ref I) body orelse env) R s₃
          | .brk => R (.ok .next) s₃
          | .ret v => R (.ok (.ret v)) s₃) (fun _ _ => False) s₂) (fun _ _ => False) { s with heap := h' })
 : codeAny (model prog w) A (.forLoop target (.ref I) body orelse env) R s := by
  have ht' : s.heap.IsTuple t items := let ⟨o, ho, r⟩ := ht; ⟨o, F.keep _ _ ho, r⟩
  have n0 := N _ (.head _)
  refine for_once (wpAny_pyNext_tuple_item ⟨_, n0.1, ho.cls, ho.data⟩ ht' hx fun h' hit' hs' => ?_)
  obtain ⟨o', ho', hc, hd⟩ := hit'
  refine owned_tup (s := { s with heap := h' }) ho' hc hd ?_
  refine h h' o' ⟨hc, hd⟩ ⟨F.ns.sameBut hs' (Ne.symm n0.2.1), fun b o e => (hs'.2 b (fun q => by rw [q, n0.2.2] at e; cases e)).trans (F.keep b o e), F.above⟩ fun p hp => ?_
  rcases List.mem_cons.mp hp with rfl | hp
  · exact ⟨ho', n0.2⟩
  · exact ⟨(hs'.2 _ (Nat.ne_of_lt (hI p hp))).trans (N p (.tail _ hp)).1, (N p (.tail _ hp)).2⟩
theorem tup_end (hh : A.handled = none) (F : Fr h₀ L s.heap m) (N : News h₀ L s.heap ((I, o) :: news)) (ho : ItOk o t k) (hI : ∀ p ∈ news, p.1 < I) (ht : h₀.IsTuple t items) (hx : items[k]? = none)
    (h : ∀ h', Fr h₀ L h' m → News h₀ L h' news → wpAny (model prog w) A (execs orelse env) (fun f s₃ => R (.ok f) s₃) (fun _ _ => False) { s with heap := h' })
 : codeAny (model prog w) A (.forLoop target (.ref I) body orelse env) R s := by
  have ht' : s.heap.IsTuple t items := let ⟨o, ho, r⟩ := ht; ⟨o, F.keep _ _ ho, r⟩
  have n0 := N _ (.head _)
  refine for_once (wpAny_pyNext_tuple_end hh ⟨_, n0.1, ho.cls, ho.data⟩ ht' hx fun h' hx' => ?_)
  refine h h' ⟨F.ns.at' fun o e => hx' _ o (Ne.symm n0.2.1) e, fun b o e => hx' b o (fun q => by rw [q, n0.2.2] at e; cases e) (F.keep b o e), F.above⟩ fun p hp => ?_
  exact ⟨hx' _ _ (Nat.ne_of_lt (hI p hp)) (N p (.tail _ hp)).1, (N p (.tail _ hp)).2⟩
/-- a turn of a for over a tuple: on, or left by a break -/
noncomputable def TPost (h₀ : Heap) (L : Addr) (s : Shared) (I : Addr) (o : Obj) (J : (Str → Option Value) → List (Addr × Obj) → Prop) (Q : Flow → Shared → Prop) (f : Flow) (s' : Shared) : Prop :=
  match f with
  | .next | .cont => ∃ h' tk m' news', s' = { s with heap := h', toks := tk } ∧ Fr h₀ L h' m' ∧ News h₀ L h' ((I, o) :: news') ∧ (∀ p ∈ news', p.1 < I) ∧ J m' news'
  | .brk => Q .next s'
  | .ret v => Q (.ret v) s'
theorem TPost.intro {Q : Flow → Shared → Prop} {J : (Str → Option Value) → List (Addr × Obj) → Prop} {h' : Heap} {tk : Nat} {m' : Str → Option Value} {news' nn : List (Addr × Obj)} (F : Fr h₀ L h' m') (N : News h₀ L h' nn) (hs : ∀ p ∈ (I, o) :: news', p ∈ nn) (hI : ∀ p ∈ news', p.1 < I) (j : J m' news') :
    TPost h₀ L s I o J Q .next { s with heap := h', toks := tk } := ⟨h', tk, m', news', rfl, F, fun p hp => N p (hs p hp), hI, j⟩
theorem for_tup {Q : Flow → Shared → Prop} {E : Value → Shared → Prop} (J : Nat → (Str → Option Value) → List (Addr × Obj) → Prop) (hh : A.handled = none) (ht : h₀.IsTuple t items) (F : Fr h₀ L s.heap m) (N : News h₀ L s.heap news) (hj : J 0 m news)
    (turn : ∀ (k : Nat) (x : Value) (I : Addr) (o : Obj) (m₁ : Str → Option Value) (news₁ : List (Addr × Obj)) (h : Heap) (tk : Nat), items[k]? = some x → J k m₁ news₁ → Fr h₀ L h m₁ → News h₀ L h ((I, o) :: news₁) → (∀ p ∈ news, p.1 < I) → (∀ p ∈ news₁, p.1 < I) →
      wpAny (model prog w) A (assign target env x) (fun _ s₂ => wpAny (model prog w) A (execs body env) (TPost h₀ L s I o (J (k + 1)) Q) (fun _ _ => False) s₂) (fun _ _ => False) { s with heap := h, toks := tk })
    (fin : ∀ m₁ news₁ h tk, J items.size m₁ news₁ → Fr h₀ L h m₁ → News h₀ L h news₁ → wpAny (model prog w) A (execs orelse env) Q (fun _ _ => False) { s with heap := h, toks := tk }) :
    wpAny (model prog w) A (pyIter (.ref t)) (fun it s₂ => codeAny (model prog w) A (.forLoop target it body orelse env) (fun r s' => match r with | .ok f => Q f s' | .error e => cameBackBy (model prog w) A env E e s') s₂) E s := by
  refine tup_start F N ht fun I o h' ho F' N' hI => ?_
  have main : ∀ (n k : Nat) (o : Obj) (h : Heap) (tk : Nat) (m₁ : Str → Option Value) (news₁ : List (Addr × Obj)), k + n = items.size → ItOk o t k → Fr h₀ L h m₁ → News h₀ L h ((I, o) :: news₁) → (∀ p ∈ news₁, p.1 < I) → J k m₁ news₁ →
      codeAny (model prog w) A (.forLoop target (.ref I) body orelse env) (fun r s' => match r with | .ok f => Q f s' | .error e => cameBackBy (model prog w) A env E e s') { s with heap := h, toks := tk } := by
    intro n
    induction n with
    | zero =>
      intro k o h tk m₁ news₁ hk ho F₁ N₁ hI₁ hJ
      refine tup_end (s := { s with heap := h, toks := tk }) hh F₁ N₁ ho hI₁ ht (by simp; omega) (fun h' F₂ N₂ => ?_)
      have : k = items.size := by omega
      subst this
      exact fin m₁ news₁ h' tk hJ F₂ N₂
    | succ n ih =>
      intro k o h tk m₁ news₁ hk ho F₁ N₁ hI₁ hJ
      have hlt' : k < items.size := by omega
      refine tup_item (s := { s with heap := h, toks := tk }) (x := items[k]) F₁ N₁ ho hI₁ ht (by simp [hlt']) (fun h' o' ho' F₂ N₂ => ?_)
      refine wpAny_mono (turn k items[k] I o' m₁ news₁ h' tk (by simp [hlt']) hJ F₂ N₂ hI hI₁) (fun _ s₂ h₂ => wpAny_mono h₂ (fun f s₃ h₃ => ?_) fun _ _ q => q) fun _ _ q => q
      cases f with
      | next =>
        obtain ⟨h₄, tk₄, m₄, news₄, rfl, F₄, N₄, hI₄, hJ₄⟩ := h₃
        exact ih (k + 1) o' h₄ tk₄ m₄ news₄ (by omega) ho' F₄ N₄ hI₄ hJ₄
      | cont =>
        obtain ⟨h₄, tk₄, m₄, news₄, rfl, F₄, N₄, hI₄, hJ₄⟩ := h₃
        exact ih (k + 1) o' h₄ tk₄ m₄ news₄ (by omega) ho' F₄ N₄ hI₄ hJ₄
      | brk => exact h₃
      | ret v => exact h₃
  exact main items.size 0 o h' s.toks m news (by omega) ho F' N' hI hj
end
end Mine
end

section
open PySem PySem.W PyProof.Rows
set_option maxHeartbeats 8000000
namespace Mine
theorem and_even (x y : Int) (hy : y % 2 = 0) : Builtin.bitAnd x y = 2 * Builtin.bitAnd (x / 2) (y / 2) := by
  rw [kbt_halves]
  have : ¬ (x % 2 = 1 ∧ y % 2 = 1) := by omega
  rw [if_neg this]; omega
theorem and_odd (x y : Int) (hy : y % 2 = 1) : Builtin.bitAnd x y = 2 * Builtin.bitAnd (x / 2) (y / 2) + x % 2 := by
  rw [kbt_halves]
  split <;> omega
theorem and_4095 (x : Int) : Builtin.bitAnd x 4095 = x % 4096 := kbt_mask x 12
theorem and_61440 (x : Int) : Builtin.bitAnd x 61440 = x / 4096 % 16 * 4096 := by
  rw [and_even _ _ (by decide), and_even _ _ (by decide), and_even _ _ (by decide), and_even _ _ (by decide), and_even _ _ (by decide), and_even _ _ (by decide),
    and_even _ _ (by decide), and_even _ _ (by decide), and_even _ _ (by decide), and_even _ _ (by decide), and_even _ _ (by decide), and_even _ _ (by decide)]
  rw [show (61440 / 2 / 2 / 2 / 2 / 2 / 2 / 2 / 2 / 2 / 2 / 2 / 2 : Int) = 15 by decide, bitAnd_m4]
  omega
theorem and_2112 (x : Int) : Builtin.bitAnd x 2112 = 2048 * (x / 2048 % 2) + 64 * (x / 64 % 2) := by
  rw [and_even _ _ (by decide), and_even _ _ (by decide), and_even _ _ (by decide), and_even _ _ (by decide), and_even _ _ (by decide), and_even _ _ (by decide), and_odd _ _ (by decide)]
  rw [show (2112 / 2 / 2 / 2 / 2 / 2 / 2 / 2 : Int) = 2 ^ 4 by decide, kbt_bit]
  omega
theorem and_1032 (x : Int) : Builtin.bitAnd x 1032 = 1024 * (x / 1024 % 2) + 8 * (x / 8 % 2) := by
  rw [and_even _ _ (by decide), and_even _ _ (by decide), and_even _ _ (by decide), and_odd _ _ (by decide)]
  rw [show (1032 / 2 / 2 / 2 / 2 : Int) = 2 ^ 6 by decide, kbt_bit]
  omega
theorem and_513 (x : Int) : Builtin.bitAnd x 513 = 512 * (x / 512 % 2) + x % 2 := by
  rw [and_odd _ _ (by decide)]
  rw [show (513 / 2 : Int) = 2 ^ 8 by decide, kbt_bit]
  omega
theorem and_one (x : Int) (k : Nat) (b : Int) (hb : b = 2 ^ k) : Builtin.bitAnd x b = x / b % 2 * b := by subst hb; exact kbt_bit x k
theorem kw_p19_1 : True := by
  k_with "p19_1" => (repeat' (first | (k_unfold; (try dsimp only)) | walk1 | (dsimp only; walk1)))
  trivial

theorem imode_at {w : World} {A : Around} {s : Shared} {Q E : Value → Shared → Prop} {a : Int} {ta : Tok} {mean mg mb} {h₀ : Heap} {L : Addr} {m : Str → Option Value} {news : List (Addr × Obj)}
  (F : Fr h₀ L s.heap m) (N : News h₀ L s.heap news) (X₀ : (Mine.hd.heap_1 w.params).In h₀) (T₀ : TopX mean mg mb h₀) (hd : A.depth < recursionLimit)
  (ret : ∀ h' tk t, Fr h₀ L h' m → News h₀ L h' news → Q (.int (a % 4096) t) {s with heap := h', toks := tk}) :
  wpAny (model PySem.Challenge.rw_pk0055_01.row.prog w) A (call (.ref 35) [.int a ta]) Q E s := by
  have T : TopX mean mg mb s.heap := T₀.keeps F.keep
  have X := X₀.keeps F.keep
  revert X
  k_fill
  intro X
  refine' enter (binds := [(Str.ofString "mode", .int a ta)]) X T.nolimit ?k6 ?k7 ?k8 ?k9 ?kB ?c5 ?c2 ?c3 ?c4 ?_; (case k6 => k_is); (case k7 => k_is); (case k8 => omega); (case k9 => exact BindsTo.of_eq rfl); (case kB => exact locs rfl); (case c2 => exact rfl); (case c3 => exact rfl); (case c4 => exact rfl); (case c5 => decide)
  intro h₁ L₁ tk₁ F₁ N₁
  k_fold
  k_extra "p19_1"
  rw [and_4095]
  exact ret _ _ _ (Ext.fr F₁.keep F) (Ext.news F₁.keep N)
theorem ifmt_at {w : World} {A : Around} {s : Shared} {Q E : Value → Shared → Prop} {a : Int} {ta : Tok} {mean mg mb} {h₀ : Heap} {L : Addr} {m : Str → Option Value} {news : List (Addr × Obj)}
  (F : Fr h₀ L s.heap m) (N : News h₀ L s.heap news) (X₀ : (Mine.hd.heap_1 w.params).In h₀) (T₀ : TopX mean mg mb h₀) (hd : A.depth < recursionLimit)
  (ret : ∀ h' tk t, Fr h₀ L h' m → News h₀ L h' news → Q (.int (a / 4096 % 16 * 4096) t) {s with heap := h', toks := tk}) :
  wpAny (model PySem.Challenge.rw_pk0055_01.row.prog w) A (call (.ref 42) [.int a ta]) Q E s := by
  have T : TopX mean mg mb s.heap := T₀.keeps F.keep
  have X := X₀.keeps F.keep
  revert X
  k_fill
  intro X
  refine' enter (binds := [(Str.ofString "mode", .int a ta)]) X T.nolimit ?k6 ?k7 ?k8 ?k9 ?kB ?c5 ?c2 ?c3 ?c4 ?_; (case k6 => k_is); (case k7 => k_is); (case k8 => omega); (case k9 => exact BindsTo.of_eq rfl); (case kB => exact locs rfl); (case c2 => exact rfl); (case c3 => exact rfl); (case c4 => exact rfl); (case c5 => decide)
  intro h₁ L₁ tk₁ F₁ N₁
  k_fold
  k_extra "p19_1"
  rw [and_61440]
  exact ret _ _ _ (Ext.fr F₁.keep F) (Ext.news F₁.keep N)
end Mine
end

section
open PySem PySem.W PyProof.Rows
set_option maxHeartbeats 8000000
namespace Mine
theorem mem_ext {h₀ h : Heap} {news : List (Addr × Obj)} (D : W.X.Mem h₀ h [] news) : Ext h₀ h := fun b o e => D.keep b o e (by simp [W.X.away])
theorem enum_end {s : Shared} {Q : Value → Shared → Prop} {h : Heap} {a b : Addr} (ret : ∀ h' e it, Ext s.heap h' → EnumAt h' e it .none 0 .none → h'.IsTupleIter it 75 0 → s.heap.get? e = none → s.heap.get? it = none → e ≠ it → Q (.ref e) { s with heap := h' })
    (D : W.X.Mem s.heap h [] [(a, { cls := .type "enumerate", data := .fields #[.none, .bool false, .ref b, rawInt 0, .none, .none] }), (b, { cls := .type "tuple_iterator", data := .fields #[.ref 75, rawInt 0] })]) :
    Q (.ref a) { s with heap := h } := by
  have n1 := D.nw _ (.head _)
  have n2 := D.nw _ (.tail _ (.head _))
  have o := (List.pairwise_cons.mp D.ord).1 b (by simp)
  exact ret h a b (mem_ext D) n1.1 ⟨_, n2.1, rfl, rfl⟩ n1.2 n2.2 (Nat.ne_of_gt o)
local macro_rules | `(tactic| x_close) => `(tactic| exact enum_end (by assumption) (by assumption))
theorem enum_call {w : World} {e e' : Env} {s : Shared} {Q E : Value → Shared → Prop} (X : (Mine.hd.heap_1 w.params).In s.heap)
   (ret : ∀ h' e it, Ext s.heap h' → EnumAt h' e it .none 0 .none → h'.IsTupleIter it 75 0 → s.heap.get? e = none → s.heap.get? it = none → e ≠ it → Q (.ref e) { s with heap := h' }) :
  wpAny (model PySem.Challenge.rw_pk0055_01.row.prog w) ((callerA.deeper e).deeper e') (call (.type "enumerate") [.ref 75]) Q E s := by
  revert X
  k_fill
  intro X
  x_run

noncomputable def fmPairs : Nat → List (Int × Str)
  | 0 => [(40960, Str.ofString "l"), (49152, Str.ofString "s"), (32768, Str.ofString "-"), (24576, Str.ofString "b"), (16384, Str.ofString "d"), (8192, Str.ofString "c"), (4096, Str.ofString "p")]
  | 1 => [(256, Str.ofString "r")]
  | 2 => [(128, Str.ofString "w")]
  | 3 => [(2112, Str.ofString "s"), (2048, Str.ofString "S"), (64, Str.ofString "x")]
  | 4 => [(32, Str.ofString "r")]
  | 5 => [(16, Str.ofString "w")]
  | 6 => [(1032, Str.ofString "s"), (1024, Str.ofString "S"), (8, Str.ofString "x")]
  | 7 => [(4, Str.ofString "r")]
  | 8 => [(2, Str.ofString "w")]
  | 9 => [(513, Str.ofString "t"), (512, Str.ofString "T"), (1, Str.ofString "x")]
  | _ => []
noncomputable def fmCond (a : Int) (i : Nat) (b : Int) : Bool := if i = 0 then decide (a / 4096 % 16 * 4096 = b) else decide (Builtin.bitAnd a b = b)
noncomputable def pick (cond : Int → Bool) (d : Str) : List (Int × Str) → Str
  | [] => d
  | (b, c) :: r => if cond b = true then c else pick cond d r
noncomputable def fmDef (i : Nat) : Str := if i = 0 then Str.ofString "?" else Str.ofString "-"
noncomputable def fmChar (a : Int) (i : Nat) : Str := pick (fmCond a i) (fmDef i) (fmPairs i)
theorem pick_hit {cond : Int → Bool} {d : Str} : ∀ {ps : List (Int × Str)} {k : Nat} {b : Int} {c : Str}, (∀ p ∈ ps.take k, cond p.1 = false) → ps[k]? = some (b, c) → cond b = true → pick cond d ps = c
  | [], k, b, c, _, h, _ => by simp at h
  | (b', c') :: r, 0, b, c, _, h, hc => by
    simp only [List.getElem?_cons_zero, Option.some.injEq, Prod.mk.injEq] at h
    obtain ⟨rfl, rfl⟩ := h
    simp [pick, hc]
  | (b', c') :: r, k + 1, b, c, ha, h, hc => by
    have h0 : cond b' = false := ha (b', c') (by simp)
    simp only [pick, h0, Bool.false_eq_true, if_false]
    exact pick_hit (k := k) (fun p hp => ha p (by simp [hp])) (by simpa using h) hc
theorem pick_none {cond : Int → Bool} {d : Str} : ∀ {ps : List (Int × Str)}, (∀ p ∈ ps, cond p.1 = false) → pick cond d ps = d
  | [], _ => rfl
  | (b, c) :: r, h => by
    simp only [pick, h (b, c) (.head _), Bool.false_eq_true, if_false]
    exact pick_none fun p hp => h p (.tail _ hp)
structure TabOk (h : Heap) (items : Array Value) (ps : List (Int × Str)) : Prop where
  size : items.size = ps.length
  item : ∀ (k : Nat) (x : Value), items[k]? = some x → ∃ (p : Addr) (b : Int) (c : Str) (tb tc : Tok), x = .ref p ∧ h.get? p = some { cls := .type "tuple", data := .seq #[.int b tb, .str c tc] } ∧ ps[k]? = some (b, c)
theorem TabOk.nil {h : Heap} : TabOk h #[] [] := ⟨rfl, fun k x e => by simp at e⟩
theorem tabOk_of {h : Heap} : ∀ {vs : List Value} {ps : List (Int × Str)}, (∀ q ∈ vs.zip ps, ∃ (p : Addr) (tb tc : Tok), q.1 = .ref p ∧ h.get? p = some { cls := .type "tuple", data := .seq #[.int q.2.1 tb, .str q.2.2 tc] }) → vs.length = ps.length → TabOk h vs.toArray ps := by
  intro vs ps hq hl
  refine ⟨by simpa using hl, fun k x e => ?_⟩
  have e' : vs[k]? = some x := by simpa using e
  have hk : k < vs.length := (List.getElem?_eq_some_iff.mp e').1
  have hk2 : k < ps.length := by omega
  have hm : (x, ps[k]) ∈ vs.zip ps := by
    have : (vs.zip ps)[k]? = some (x, ps[k]) := by rw [List.getElem?_zip_eq_some]; exact ⟨e', by simp [hk2]⟩
    exact List.mem_of_getElem? this
  obtain ⟨p, tb, tc, h1, h2⟩ := hq _ hm
  exact ⟨p, ps[k].1, ps[k].2, tb, tc, h1, h2, by simp [hk2]⟩
theorem tab_at {w : World} {h : Heap} (X : (Mine.hd.heap_1 w.params).In h) : ∀ (i : Nat) (x : Value), (#[Value.ref 50, .ref 52, .ref 54, .ref 58, .ref 60, .ref 62, .ref 66, .ref 68, .ref 70, .ref 74] : Array Value)[i]? = some x →
    ∃ T items, x = .ref T ∧ h.IsTuple T items ∧ TabOk h items (fmPairs i) := by
  revert X
  k_fill
  intro X i x hx
  have hi : i < 10 := by
    have := (Array.getElem?_eq_some_iff.mp hx).1
    simpa using this
  match i, hi with
  | 0, _ => cases hx; exact ⟨50, #[.ref 43, .ref 44, .ref 45, .ref 46, .ref 47, .ref 48, .ref 49], rfl, ⟨_, X 50 _ (by k_is), rfl, 0, rfl⟩, tabOk_of (vs := [.ref 43, .ref 44, .ref 45, .ref 46, .ref 47, .ref 48, .ref 49]) (by
      simp only [fmPairs, List.zip_cons_cons, List.zip_nil_left, List.forall_mem_cons]
      exact ⟨⟨_, _, _, rfl, X 43 _ (by k_is)⟩, ⟨_, _, _, rfl, X 44 _ (by k_is)⟩, ⟨_, _, _, rfl, X 45 _ (by k_is)⟩, ⟨_, _, _, rfl, X 46 _ (by k_is)⟩, ⟨_, _, _, rfl, X 47 _ (by k_is)⟩, ⟨_, _, _, rfl, X 48 _ (by k_is)⟩, ⟨_, _, _, rfl, X 49 _ (by k_is)⟩, by simp⟩) rfl⟩
  | 1, _ => cases hx; exact ⟨52, #[.ref 51], rfl, ⟨_, X 52 _ (by k_is), rfl, 0, rfl⟩, tabOk_of (vs := [.ref 51]) (by
      simp only [fmPairs, List.zip_cons_cons, List.zip_nil_left, List.forall_mem_cons]
      exact ⟨⟨_, _, _, rfl, X 51 _ (by k_is)⟩, by simp⟩) rfl⟩
  | 2, _ => cases hx; exact ⟨54, #[.ref 53], rfl, ⟨_, X 54 _ (by k_is), rfl, 0, rfl⟩, tabOk_of (vs := [.ref 53]) (by
      simp only [fmPairs, List.zip_cons_cons, List.zip_nil_left, List.forall_mem_cons]
      exact ⟨⟨_, _, _, rfl, X 53 _ (by k_is)⟩, by simp⟩) rfl⟩
  | 3, _ => cases hx; exact ⟨58, #[.ref 55, .ref 56, .ref 57], rfl, ⟨_, X 58 _ (by k_is), rfl, 0, rfl⟩, tabOk_of (vs := [.ref 55, .ref 56, .ref 57]) (by
      simp only [fmPairs, List.zip_cons_cons, List.zip_nil_left, List.forall_mem_cons]
      exact ⟨⟨_, _, _, rfl, X 55 _ (by k_is)⟩, ⟨_, _, _, rfl, X 56 _ (by k_is)⟩, ⟨_, _, _, rfl, X 57 _ (by k_is)⟩, by simp⟩) rfl⟩
  | 4, _ => cases hx; exact ⟨60, #[.ref 59], rfl, ⟨_, X 60 _ (by k_is), rfl, 0, rfl⟩, tabOk_of (vs := [.ref 59]) (by
      simp only [fmPairs, List.zip_cons_cons, List.zip_nil_left, List.forall_mem_cons]
      exact ⟨⟨_, _, _, rfl, X 59 _ (by k_is)⟩, by simp⟩) rfl⟩
  | 5, _ => cases hx; exact ⟨62, #[.ref 61], rfl, ⟨_, X 62 _ (by k_is), rfl, 0, rfl⟩, tabOk_of (vs := [.ref 61]) (by
      simp only [fmPairs, List.zip_cons_cons, List.zip_nil_left, List.forall_mem_cons]
      exact ⟨⟨_, _, _, rfl, X 61 _ (by k_is)⟩, by simp⟩) rfl⟩
  | 6, _ => cases hx; exact ⟨66, #[.ref 63, .ref 64, .ref 65], rfl, ⟨_, X 66 _ (by k_is), rfl, 0, rfl⟩, tabOk_of (vs := [.ref 63, .ref 64, .ref 65]) (by
      simp only [fmPairs, List.zip_cons_cons, List.zip_nil_left, List.forall_mem_cons]
      exact ⟨⟨_, _, _, rfl, X 63 _ (by k_is)⟩, ⟨_, _, _, rfl, X 64 _ (by k_is)⟩, ⟨_, _, _, rfl, X 65 _ (by k_is)⟩, by simp⟩) rfl⟩
  | 7, _ => cases hx; exact ⟨68, #[.ref 67], rfl, ⟨_, X 68 _ (by k_is), rfl, 0, rfl⟩, tabOk_of (vs := [.ref 67]) (by
      simp only [fmPairs, List.zip_cons_cons, List.zip_nil_left, List.forall_mem_cons]
      exact ⟨⟨_, _, _, rfl, X 67 _ (by k_is)⟩, by simp⟩) rfl⟩
  | 8, _ => cases hx; exact ⟨70, #[.ref 69], rfl, ⟨_, X 70 _ (by k_is), rfl, 0, rfl⟩, tabOk_of (vs := [.ref 69]) (by
      simp only [fmPairs, List.zip_cons_cons, List.zip_nil_left, List.forall_mem_cons]
      exact ⟨⟨_, _, _, rfl, X 69 _ (by k_is)⟩, by simp⟩) rfl⟩
  | 9, _ => cases hx; exact ⟨74, #[.ref 71, .ref 72, .ref 73], rfl, ⟨_, X 74 _ (by k_is), rfl, 0, rfl⟩, tabOk_of (vs := [.ref 71, .ref 72, .ref 73]) (by
      simp only [fmPairs, List.zip_cons_cons, List.zip_nil_left, List.forall_mem_cons]
      exact ⟨⟨_, _, _, rfl, X 71 _ (by k_is)⟩, ⟨_, _, _, rfl, X 72 _ (by k_is)⟩, ⟨_, _, _, rfl, X 73 _ (by k_is)⟩, by simp⟩) rfl⟩
end Mine
end

section
open PySem PySem.W PyProof.Rows
namespace Mine
noncomputable def codeK (k : Int) : Nat := if k = 10 then 108 else if k = 12 then 115 else if k = 8 then 45 else if k = 6 then 98 else if k = 4 then 100 else if k = 2 then 99 else if k = 1 then 112 else 63
noncomputable def codeB (b : Int) (c : Nat) : Nat := if b = 1 then c else 45
noncomputable def codeX (x s : Int) (c3 c2 c1 : Nat) : Nat := if s = 1 then (if x = 1 then c3 else c2) else if x = 1 then c1 else 45
/-- the ten signs of a kind and of rights -/
noncomputable def signStr (k r : Int) : Str := ⟨#[codeK k, codeB (r / 256 % 2) 114, codeB (r / 128 % 2) 119, codeX (r / 64 % 2) (r / 2048 % 2) 115 83 120, codeB (r / 32 % 2) 114, codeB (r / 16 % 2) 119, codeX (r / 8 % 2) (r / 1024 % 2) 115 83 120,
  codeB (r / 4 % 2) 114, codeB (r / 2 % 2) 119, codeX (r % 2) (r / 512 % 2) 116 84 120]⟩
theorem fmChar0 (a : Int) : fmChar a 0 = ⟨#[codeK (a / 4096 % 16)]⟩ := by
  simp only [fmChar, fmPairs, pick, fmCond, fmDef, if_true, decide_eq_true_eq, codeK]
  generalize a / 4096 % 16 = k
  rcases (show k = 10 ∨ k ≠ 10 by omega) with rfl | h1
  · rfl
  rw [if_neg (by omega), if_neg h1]
  rcases (show k = 12 ∨ k ≠ 12 by omega) with rfl | h2
  · rfl
  rw [if_neg (by omega), if_neg h2]
  rcases (show k = 8 ∨ k ≠ 8 by omega) with rfl | h3
  · rfl
  rw [if_neg (by omega), if_neg h3]
  rcases (show k = 6 ∨ k ≠ 6 by omega) with rfl | h4
  · rfl
  rw [if_neg (by omega), if_neg h4]
  rcases (show k = 4 ∨ k ≠ 4 by omega) with rfl | h5
  · rfl
  rw [if_neg (by omega), if_neg h5]
  rcases (show k = 2 ∨ k ≠ 2 by omega) with rfl | h6
  · rfl
  rw [if_neg (by omega), if_neg h6]
  rcases (show k = 1 ∨ k ≠ 1 by omega) with rfl | h7
  · rfl
  rw [if_neg (by omega), if_neg h7]
  rfl
theorem pick1 (a : Int) (i : Nat) (hi : i ≠ 0) (b : Int) (k : Nat) (hb : b = 2 ^ k) (hb0 : 0 < b) (c : String) (n : Nat) (hc : Str.ofString c = ⟨#[n]⟩) : pick (fmCond a i) (fmDef i) [(b, Str.ofString c)] = ⟨#[codeB (a / b % 2) n]⟩ := by
  have hd : fmDef i = ⟨#[45]⟩ := by unfold fmDef; rw [if_neg hi]; rfl
  simp only [pick, fmCond, if_neg hi, decide_eq_true_eq, and_one a k b hb, codeB, hd, hc]
  have h1 : a / b % 2 = 0 ∨ a / b % 2 = 1 := by omega
  rcases h1 with h1 | h1
  · rw [h1, if_neg (by omega), if_neg (by omega)]
  · rw [h1, if_pos (by omega), if_pos rfl]
theorem pick3 (a : Int) (i : Nat) (hi : i ≠ 0) (b s x : Int) (ks kx : Nat) (hs : s = 2 ^ ks) (hx : x = 2 ^ kx) (hs0 : 0 < s) (hx0 : 0 < x) (hb : b = s + x) (hbb : Builtin.bitAnd a b = s * (a / s % 2) + x * (a / x % 2)) (c3 c2 c1 : String) (n3 n2 n1 : Nat)
    (e3 : Str.ofString c3 = ⟨#[n3]⟩) (e2 : Str.ofString c2 = ⟨#[n2]⟩) (e1 : Str.ofString c1 = ⟨#[n1]⟩) :
    pick (fmCond a i) (fmDef i) [(b, Str.ofString c3), (s, Str.ofString c2), (x, Str.ofString c1)] = ⟨#[codeX (a / x % 2) (a / s % 2) n3 n2 n1]⟩ := by
  have hd : fmDef i = ⟨#[45]⟩ := by unfold fmDef; rw [if_neg hi]; rfl
  simp only [pick, fmCond, if_neg hi, decide_eq_true_eq, and_one a ks s hs, and_one a kx x hx, hbb, codeX, hd, e1, e2, e3]
  have h1 : a / s % 2 = 0 ∨ a / s % 2 = 1 := by omega
  have h2 : a / x % 2 = 0 ∨ a / x % 2 = 1 := by omega
  rcases h1 with h1 | h1 <;> rcases h2 with h2 | h2 <;> rw [h1, h2]
  · rw [if_neg (by omega), if_neg (by omega), if_neg (by omega), if_neg (by omega), if_neg (by omega)]
  · rw [if_neg (by omega), if_neg (by omega), if_pos (by omega), if_neg (by omega), if_pos rfl]
  · rw [if_neg (by omega), if_pos (by omega), if_pos rfl, if_neg (by omega)]
  · rw [if_pos (by omega), if_pos rfl, if_pos rfl]
theorem fmChars (a : Int) : (List.range 10).map (fmChar a) = [⟨#[codeK (a / 4096 % 16)]⟩, ⟨#[codeB (a / 256 % 2) 114]⟩, ⟨#[codeB (a / 128 % 2) 119]⟩, ⟨#[codeX (a / 64 % 2) (a / 2048 % 2) 115 83 120]⟩, ⟨#[codeB (a / 32 % 2) 114]⟩, ⟨#[codeB (a / 16 % 2) 119]⟩,
    ⟨#[codeX (a / 8 % 2) (a / 1024 % 2) 115 83 120]⟩, ⟨#[codeB (a / 4 % 2) 114]⟩, ⟨#[codeB (a / 2 % 2) 119]⟩, ⟨#[codeX (a / 1 % 2) (a / 512 % 2) 116 84 120]⟩] := by
  show [fmChar a 0, fmChar a 1, fmChar a 2, fmChar a 3, fmChar a 4, fmChar a 5, fmChar a 6, fmChar a 7, fmChar a 8, fmChar a 9] = _
  have c1 : fmChar a 1 = _ := pick1 a 1 (by omega) 256 8 (by decide) (by decide) "r" 114 (by decide +kernel)
  have c2 : fmChar a 2 = _ := pick1 a 2 (by omega) 128 7 (by decide) (by decide) "w" 119 (by decide +kernel)
  have c3 : fmChar a 3 = _ := pick3 a 3 (by omega) 2112 2048 64 11 6 (by decide) (by decide) (by decide) (by decide) (by decide) (and_2112 a) "s" "S" "x" 115 83 120 (by decide +kernel) (by decide +kernel) (by decide +kernel)
  have c4 : fmChar a 4 = _ := pick1 a 4 (by omega) 32 5 (by decide) (by decide) "r" 114 (by decide +kernel)
  have c5 : fmChar a 5 = _ := pick1 a 5 (by omega) 16 4 (by decide) (by decide) "w" 119 (by decide +kernel)
  have c6 : fmChar a 6 = _ := pick3 a 6 (by omega) 1032 1024 8 10 3 (by decide) (by decide) (by decide) (by decide) (by decide) (and_1032 a) "s" "S" "x" 115 83 120 (by decide +kernel) (by decide +kernel) (by decide +kernel)
  have c7 : fmChar a 7 = _ := pick1 a 7 (by omega) 4 2 (by decide) (by decide) "r" 114 (by decide +kernel)
  have c8 : fmChar a 8 = _ := pick1 a 8 (by omega) 2 1 (by decide) (by decide) "w" 119 (by decide +kernel)
  have c9 : fmChar a 9 = _ := pick3 a 9 (by omega) 513 512 1 9 0 (by decide) (by decide) (by decide) (by decide) (by decide) (by rw [and_513]; omega) "t" "T" "x" 116 84 120 (by decide +kernel) (by decide +kernel) (by decide +kernel)
  rw [fmChar0, c1, c2, c3, c4, c5, c6, c7, c8, c9]
theorem join_signs (x0 x1 x2 x3 x4 x5 x6 x7 x8 x9 : Nat) : Txt.join (Str.ofString "") [⟨#[x0]⟩, ⟨#[x1]⟩, ⟨#[x2]⟩, ⟨#[x3]⟩, ⟨#[x4]⟩, ⟨#[x5]⟩, ⟨#[x6]⟩, ⟨#[x7]⟩, ⟨#[x8]⟩, ⟨#[x9]⟩] = ⟨#[x0, x1, x2, x3, x4, x5, x6, x7, x8, x9]⟩ := by rfl
/-- what filemode writes -/
theorem fm_join (k r : Int) (hk : 0 ≤ k) (hk' : k < 16) (hr : 0 ≤ r) (hr' : r < 4096) : Txt.join (Str.ofString "") ((List.range 10).map (fmChar (k * 4096 + r))) = signStr k r := by
  rw [fmChars, join_signs, signStr]
  have e : ∀ d m : Int, 0 < d → d * m = 4096 → (k * 4096 + r) / d % 2 = r / d % 2 → True := fun _ _ _ _ _ => trivial
  rw [show (k * 4096 + r) / 4096 % 16 = k by omega, show (k * 4096 + r) / 256 % 2 = r / 256 % 2 by omega, show (k * 4096 + r) / 128 % 2 = r / 128 % 2 by omega, show (k * 4096 + r) / 64 % 2 = r / 64 % 2 by omega,
    show (k * 4096 + r) / 2048 % 2 = r / 2048 % 2 by omega, show (k * 4096 + r) / 32 % 2 = r / 32 % 2 by omega, show (k * 4096 + r) / 16 % 2 = r / 16 % 2 by omega, show (k * 4096 + r) / 8 % 2 = r / 8 % 2 by omega,
    show (k * 4096 + r) / 1024 % 2 = r / 1024 % 2 by omega, show (k * 4096 + r) / 4 % 2 = r / 4 % 2 by omega, show (k * 4096 + r) / 2 % 2 = r / 2 % 2 by omega, show (k * 4096 + r) / 1 % 2 = r % 2 by omega, show (k * 4096 + r) / 512 % 2 = r / 512 % 2 by omega]
end Mine
end

section
open PySem PySem.W PyProof.Rows
set_option maxHeartbeats 8000000
namespace Mine
structure FmJ (a : Int) (ta : Tok) (l : Addr) (i : Nat) (m₁ : Str → Option Value) (news : List (Addr × Obj)) : Prop where
  ex : ∃ (g : Str → Option Value) (vs : List Value) (n : Nat), m₁ = (fun y => if y = Str.ofString "perm" then some (.ref l) else if y = Str.ofString "mode" then some (.int a ta) else g y) ∧ news = [(l, W.listOf vs.toArray n)] ∧ StrsAre vs ((List.range i).map (fmChar a))
structure FmI (a : Int) (ta : Tok) (l : Addr) (i : Nat) (ti : Tok) (news₀ : List (Addr × Obj)) (k : Nat) (m₁ : Str → Option Value) (news : List (Addr × Obj)) : Prop where
  ex : ∃ (g : Str → Option Value), m₁ = (fun y => if y = Str.ofString "perm" then some (.ref l) else if y = Str.ofString "mode" then some (.int a ta) else if y = Str.ofString "index" then some (.int i ti) else g y)
  nw : news = news₀
  no : ∀ p ∈ (fmPairs i).take k, fmCond a i p.1 = false
theorem norm2 {m : Str → Option Value} {x1 x2 : Str} {v1 v2 : Value} (h1 : m x1 = some v1) (h2 : m x2 = some v2) : m = fun y => if y = x1 then some v1 else if y = x2 then some v2 else m y := by
  funext y
  by_cases e1 : y = x1
  · subst e1; simp [h1]
  · by_cases e2 : y = x2
    · subst e2; simp [e1, h2]
    · simp [e1, e2]
theorem norm3 {m : Str → Option Value} {x1 x2 x3 : Str} {v1 v2 v3 : Value} (h1 : m x1 = some v1) (h2 : m x2 = some v2) (h3 : m x3 = some v3) : m = fun y => if y = x1 then some v1 else if y = x2 then some v2 else if y = x3 then some v3 else m y := by
  funext y
  by_cases e1 : y = x1
  · subst e1; simp [h1]
  · by_cases e2 : y = x2
    · subst e2; simp [e1, h2]
    · by_cases e3 : y = x3
      · subst e3; simp [e1, e2, h3]
      · simp [e1, e2, e3]
theorem fresh_ne {h₀ h : Heap} {L b : Addr} {m : Str → Option Value} (F : Fr h₀ L h m) (hb : h.get? b = none) : b ≠ L ∧ h₀.get? b = none := by
  refine ⟨fun q => ?_, ?_⟩
  · obtain ⟨oL, _, _, hL, _⟩ := F.ns
    rw [q, hL] at hb; cases hb
  · cases hz : h₀.get? b with
    | none => rfl
    | some o => have := F.keep _ _ hz; rw [this] at hb; cases hb
theorem news_ne {h₀ h : Heap} {L b : Addr} {news : List (Addr × Obj)} (N : News h₀ L h news) (hb : h.get? b = none) : ∀ p ∈ news, p.1 ≠ b := fun p hp q => by
  have := (N p hp).1
  rw [q, hb] at this; cases this
theorem kw_p22_1 : True := by
  k_with "p22_1" => (((with_reducible show wpAny _ _ (call (Value.ref 42) [Value.int _ _]) _ _ _); k_dflt (refine' ifmt_at (by k_asm) (by k_asm) (by k_asm) (by k_asm) (by k_room) ?_); intro h' tk' t' F' N'; (try k_sweep); (try dsimp only)))
  trivial
local macro_rules | `(tactic| walk_at "call ref") => `(tactic| k_extra "p22_1")

theorem kw_p22_2 : True := by
  k_with "p22_2" => ((repeat' (first | (refine List.forall_mem_cons.mpr ⟨?_, ?_⟩; k_mem) | (intro p hp; first | ((repeat (first | exact hp | apply List.Mem.tail)); done) | (simp at hp; done)))))
  trivial

theorem strs_snoc {vs : List Value} {ss : List Str} {c : Str} {t : Tok} (h : StrsAre vs ss) : StrsAre (vs ++ [.str c t]) (ss ++ [c]) := by
  induction h with
  | nil => exact .cons c t .nil
  | cons y u _ ih => exact .cons y u ih
section
variable {h₀ h' : Heap} {L l en it I : Addr} {s : Shared} {m₁ g : Str → Option Value} {nn news₀ : List (Addr × Obj)} {a : Int} {ta ti tc : Tok} {i k n tk : Nat} {oe oi o : Obj} {vs : List Value} {b : Int} {c : Str} {Q : Flow → Shared → Prop}
theorem fm_put (hS : StrsAre vs ((List.range i).map (fmChar a))) (hc : fmChar a i = c) (F : Fr h₀ L h' m₁) (N : News h₀ L h' nn)
    (hm : m₁ = fun y => if y = Str.ofString "perm" then some (.ref l) else if y = Str.ofString "mode" then some (.int a ta) else g y) (hs : ∀ p ∈ [(en, oe), (it, oi)] ++ [(l, W.listOf (vs.toArray.push (.str c tc)) n)], p ∈ nn) (h1 : @Ne Nat l en) (h2 : @Ne Nat l it) :
    FPostL h₀ L s [(en, oe), (it, oi)] (FmJ a ta l (i + 1)) .next { s with heap := h', toks := tk } := by
  refine FPostL.intro F N hs ?_ ⟨g, vs ++ [.str c tc], n, hm, by simp, ?_⟩
  · intro p hp q hq
    simp only [List.mem_cons, List.not_mem_nil, or_false] at hp hq
    subst hp
    rcases hq with rfl | rfl
    · exact h1
    · exact h2
  · rw [List.range_succ, List.map_append]
    simp only [List.map_cons, List.map_nil, hc]
    exact strs_snoc hS
theorem fm_hit (hS : StrsAre vs ((List.range i).map (fmChar a))) (hno : ∀ p ∈ (fmPairs i).take k, fmCond a i p.1 = false) (hp : (fmPairs i)[k]? = some (b, c)) (hb : fmCond a i b = true) (h1 : @Ne Nat l en) (h2 : @Ne Nat l it) (F : Fr h₀ L h' m₁) (N : News h₀ L h' nn)
    (hm : m₁ = fun y => if y = Str.ofString "perm" then some (.ref l) else if y = Str.ofString "mode" then some (.int a ta) else g y) (hs : ∀ p ∈ [(en, oe), (it, oi)] ++ [(l, W.listOf (vs.toArray.push (.str c tc)) n)], p ∈ nn) :
    FPostL h₀ L s [(en, oe), (it, oi)] (FmJ a ta l (i + 1)) .next { s with heap := h', toks := tk } := fm_put hS (pick_hit hno hp hb) F N hm hs h1 h2
theorem fm_miss (hno : ∀ p ∈ (fmPairs i).take k, fmCond a i p.1 = false) (hp : (fmPairs i)[k]? = some (b, c)) (hb : fmCond a i b = false) (F : Fr h₀ L h' m₁) (N : News h₀ L h' nn)
    (hm : m₁ = fun y => if y = Str.ofString "perm" then some (.ref l) else if y = Str.ofString "mode" then some (.int a ta) else if y = Str.ofString "index" then some (.int i ti) else g y) (hs : ∀ p ∈ (I, o) :: news₀, p ∈ nn) (hI : ∀ p ∈ news₀, p.1 < I) :
    TPost h₀ L s I o (FmI a ta l i ti news₀ (k + 1)) Q .next { s with heap := h', toks := tk } := by
  refine TPost.intro F N hs hI ⟨⟨g, hm⟩, rfl, fun p hq => ?_⟩
  rw [List.take_add_one, hp] at hq
  rcases List.mem_append.mp hq with hq | hq
  · exact hno p hq
  · have : p = (b, c) := by simpa using hq
    subst this; exact hb
end
theorem kw_p22_3 : True := by
  k_with "p22_3" => (repeat' ((fail_if_success (with_reducible show wpAny _ _ (pyIter (Value.ref _)) _ _ _)); (fail_if_success (with_reducible show wpAny _ _ (call (Value.type "enumerate") _) _ _ _)); (fail_if_success (with_reducible show wpAny _ _ (exec (Stmt.For _ _ _ _ _) _) _ _ _)); (fail_if_success (with_reducible show wpAny _ _ (call (Value.builtin "str.join") _) _ _ _)); first | (k_unfold; (try dsimp only)) | walk1 | (dsimp only; walk1)))
  trivial

theorem fm_weight (a : Int) : (((List.range 10).map (fmChar a)).map (·.length)).sum + ((List.range 10).map (fmChar a)).length ≤ 1048576 := by
  rw [fmChars]; simp [Str.length]
theorem filemode_spec {w : World} {e : Env} {s : Shared} {Q E : Value → Shared → Prop} {a : Int} {ta : Tok} {mean mg mb}
  (X : (Mine.hd.heap_1 w.params).In s.heap) (T : TopX mean mg mb s.heap) (h0 : 0 ≤ a) (h1 : a < 65536)
  (ret : ∀ h' tk t, Ext s.heap h' → Q (.str (signStr (a / 4096) (a % 4096)) t) { s with heap := h', toks := tk }) :
  wpAny (model PySem.Challenge.rw_pk0055_01.row.prog w) (callerA.deeper e) (call (.ref 82) [.int a ta]) Q E s := by
  revert X
  k_fill
  intro X
  refine' enter (binds := [(Str.ofString "mode", .int a ta)]) X T.nolimit ?k6 ?k7 ?k8 ?k9 ?kB ?c5 ?c2 ?c3 ?c4 ?_; (case k6 => k_is); (case k7 => k_is); (case k8 => k_room); (case k9 => exact BindsTo.of_eq rfl); (case kB => exact locs rfl); (case c2 => exact rfl); (case c3 => exact rfl); (case c4 => exact rfl); (case c5 => decide)
  intro h₁ L₁ tk₁ F₁ N₁
  k_fold
  k_extra "p22_3"
  refine wpAny_For ?_
  k_extra "p22_3"
  refine enum_call (X.keeps (Fr.keep (by k_asm))) ?_
  intro h' en it x' hE hI he0 hi0 hne
  rename Fr _ _ _ _ => F₂
  rename News _ _ _ _ => N₂
  have F₃ := x'.fr F₂
  have N₃ := x'.news N₂
  have ht : s.heap.IsTuple 75 #[.ref 50, .ref 52, .ref 54, .ref 58, .ref 60, .ref 62, .ref 66, .ref 68, .ref 70, .ref 74] := ⟨_, X 75 _ (by k_is), rfl, 0, rfl⟩
  refine wpAny_pyIter_enum hE ?_
  refine' for_enum (FmJ a ta _) rfl hE hI ht hne (fresh_ne F₂ he0).1 (fresh_ne F₂ hi0).1 (fresh_ne F₂ he0).2 (fresh_ne F₂ hi0).2 (fun p hp => ⟨news_ne N₂ he0 p hp, news_ne N₂ hi0 p hp⟩) F₃ N₃ ⟨_, [], 0, norm2 rfl rfl, rfl, .nil⟩ ?_ ?_
  · intro i x oe oi at' ti m₁ news₁ h tk hx hJ F' N' hlt hne'
    obtain ⟨g, vs, n, rfl, rfl, hS⟩ := hJ
    obtain ⟨T', items, rfl, hT', hO⟩ := tab_at X i x hx
    k_lt hlt
    have hl1 : @Ne Nat _ en := (hne' _ (.head _)).1
    have hl2 : @Ne Nat _ it := (hne' _ (.head _)).2
    have hi10 : i < 10 := by
      have := (Array.getElem?_eq_some_iff.mp hx).1
      simpa using this
    have hvl : vs.length ≤ 10 := by rw [hS.len_eq]; simp; omega
    k_extra "p22_3"
    refine wpAny_For ?_
    k_extra "p22_3"
    refine' for_tup (FmI a ta _ i ti _) rfl hT' (by k_asm) (by k_asm) ⟨⟨_, norm3 rfl rfl rfl⟩, rfl, by simp⟩ ?_ ?_
    · intro k x I o m₂ news₂ h tk hx₂ hJ₂ F' N' hlt₂ hlt₃
      obtain ⟨⟨g₂, rfl⟩, rfl, hno⟩ := hJ₂
      obtain ⟨p, b, c, tb, tc, rfl, hp, hps⟩ := hO.item k x hx₂
      have hIT : IsTup s.heap p #[.int b tb, .str c tc] := ⟨_, hp, rfl, 0, rfl⟩
      k_lt hlt₂
      clear hlt₃
      k_extra "p22_3"
      · show wpAny _ _ (execs [] _) (FPostL _ _ _ _ _) _ _
        refine wpAny_execs_nil ?_
        refine' fm_hit hS hno hps ?c1 hl1 hl2 ?g1 ?g2 ?g3 ?g4
        case c1 => simp only [fmCond]; rw [if_pos (by omega)]; exact decide_eq_true (by assumption)
        case g1 => k_asm
        case g2 => k_asm
        case g3 => exact norm2 rfl rfl
        case g4 => k_extra "p22_2"
      · refine' fm_miss hno hps ?c1 ?g1 ?g2 ?g3 ?g4 ?g5
        case c1 => simp only [fmCond]; rw [if_pos (by omega)]; exact decide_eq_false (by assumption)
        case g1 => k_asm
        case g2 => k_asm
        case g3 => exact norm3 rfl rfl rfl
        case g4 => k_extra "p22_2"
        case g5 => (refine List.forall_mem_cons.mpr ⟨?_, List.forall_mem_cons.mpr ⟨?_, List.forall_mem_cons.mpr ⟨?_, List.forall_mem_cons.mpr ⟨?_, by simp⟩⟩⟩⟩) <;> (refine ltN ?_; omega)
      · show wpAny _ _ (execs [] _) (FPostL _ _ _ _ _) _ _
        refine wpAny_execs_nil ?_
        refine' fm_hit hS hno hps ?c1 hl1 hl2 ?g1 ?g2 ?g3 ?g4
        case c1 => simp only [fmCond]; rw [if_neg (by omega)]; exact decide_eq_true (by assumption)
        case g1 => k_asm
        case g2 => k_asm
        case g3 => exact norm2 rfl rfl
        case g4 => k_extra "p22_2"
      · refine' fm_miss hno hps ?c1 ?g1 ?g2 ?g3 ?g4 ?g5
        case c1 => simp only [fmCond]; rw [if_neg (by omega)]; exact decide_eq_false (by assumption)
        case g1 => k_asm
        case g2 => k_asm
        case g3 => exact norm3 rfl rfl rfl
        case g4 => k_extra "p22_2"
        case g5 => (refine List.forall_mem_cons.mpr ⟨?_, List.forall_mem_cons.mpr ⟨?_, List.forall_mem_cons.mpr ⟨?_, List.forall_mem_cons.mpr ⟨?_, by simp⟩⟩⟩⟩) <;> (refine ltN ?_; omega)
    · intro m₂ news₂ h tk hJ₂ F' N'
      obtain ⟨⟨g₂, rfl⟩, rfl, hno⟩ := hJ₂
      have hall : ∀ p ∈ fmPairs i, fmCond a i p.1 = false := fun p hp => hno p (by rw [hO.size, List.take_length]; exact hp)
      k_extra "p22_3"
      · refine' fm_put hS (c := Str.ofString "?") ?c1 ?g1 ?g2 ?g3 ?g4 hl1 hl2
        case c1 => unfold fmChar; rw [pick_none hall]; unfold fmDef; rw [if_pos (by omega)]
        case g1 => k_asm
        case g2 => k_asm
        case g3 => exact norm2 rfl rfl
        case g4 => k_extra "p22_2"
      · refine' fm_put hS (c := Str.ofString "-") ?c1 ?g1 ?g2 ?g3 ?g4 hl1 hl2
        case c1 => unfold fmChar; rw [pick_none hall]; unfold fmDef; rw [if_neg (by omega)]
        case g1 => k_asm
        case g2 => k_asm
        case g3 => exact norm2 rfl rfl
        case g4 => k_extra "p22_2"
  · intro m₁ news₁ h tk hJ F' N'
    obtain ⟨g, vs, n, rfl, rfl, hS⟩ := hJ
    dsimp only
    k_extra "p22_3"
    refine' join_listW (ys := (List.range 10).map (fmChar a)) ?g1 ?g2 ?g3 ?g4 ?_
    case g1 => exact News.isList (by assumption) (by k_mem)
    case g2 => exact hS
    case g3 => decide
    case g4 => exact fm_weight a
    intro t' k'
    have hj := fm_join (a / 4096) (a % 4096) (by omega) (by omega) (by omega) (by omega)
    rw [show a / 4096 * 4096 + a % 4096 = a by omega] at hj
    k_extra "p22_3"
    rw [hj]
    exact ret _ _ _ (Fr.keep (by k_asm))
end Mine
end

section
open PySem PySem.W PyProof.Rows
set_option maxHeartbeats 2000000
namespace Mine
theorem kw_p23_1 : True := by
  k_with "p23_1" => (repeat' ((fail_if_success (with_reducible show wpAny _ _ (pyIter (Value.ref _)) _ _ _)); (fail_if_success (with_reducible show wpAny _ _ (exec (Stmt.For _ _ _ _ _) _) _ _ _)); first | (k_unfold; (try dsimp only)) | walk1 | (dsimp only; walk1)))
  trivial

theorem pw {prog : Program} {w : World} {A : Around} {E : Value → Shared → Prop} {s : Shared} {a n : Int} {t u : Tok} {Q : Value → Shared → Prop} (v : Int) (hv : a ^ n.toNat = v) (hn : 0 ≤ n) (hn2 : n ≤ 1000000) (ha : a.natAbs < 2 ^ 64) (h : Q (.int v s.toks) { s with toks := s.toks + 1 }) :
    wpAny (model prog w) A (binaryOp .Pow (.int a t) (.int n u)) Q E s := pow_int_small hn hn2 ha (by rw [hv]; exact h)
theorem kw_p23_2 : True := by
  k_with "p23_2" => (first
    | refine pw 64 (by decide +kernel) (by decide) (by decide) (by decide) ?_ | refine pw 8 (by decide +kernel) (by decide) (by decide) (by decide) ?_ | refine pw 1 (by decide +kernel) (by decide) (by decide) (by decide) ?_
    | refine pw 2048 (by decide +kernel) (by decide) (by decide) (by decide) ?_ | refine pw 1024 (by decide +kernel) (by decide) (by decide) (by decide) ?_ | refine pw 512 (by decide +kernel) (by decide) (by decide) (by decide) ?_)
  trivial
local macro_rules | `(tactic| walk_at "binaryOp Pow int int") => `(tactic| k_extra "p23_2")

/-- the first signs -/
noncomputable def pre (k r : Int) : Nat → Str
  | 0 => ⟨#[codeK k]⟩
  | 1 => ⟨#[codeK k, codeB (r / 256 % 2) 114, codeB (r / 128 % 2) 119, codeX (r / 64 % 2) (r / 2048 % 2) 115 83 120]⟩
  | 2 => ⟨#[codeK k, codeB (r / 256 % 2) 114, codeB (r / 128 % 2) 119, codeX (r / 64 % 2) (r / 2048 % 2) 115 83 120, codeB (r / 32 % 2) 114, codeB (r / 16 % 2) 119, codeX (r / 8 % 2) (r / 1024 % 2) 115 83 120]⟩
  | _ => signStr k r
theorem item_k (k : Int) (h0 : 0 ≤ k) (h1 : k < 16) : Txt.item (Str.ofString "?pc?d?b?-?l?s???") k = ⟨#[codeK k]⟩ := by
  have : k = 0 ∨ k = 1 ∨ k = 2 ∨ k = 3 ∨ k = 4 ∨ k = 5 ∨ k = 6 ∨ k = 7 ∨ k = 8 ∨ k = 9 ∨ k = 10 ∨ k = 11 ∨ k = 12 ∨ k = 13 ∨ k = 14 ∨ k = 15 := by omega
  rcases this with rfl | rfl | rfl | rfl | rfl | rfl | rfl | rfl | rfl | rfl | rfl | rfl | rfl | rfl | rfl | rfl <;> decide +kernel
theorem item_r (x : Int) (h : x = 0 ∨ x = 1) : Txt.item (Str.ofString "-r") x = ⟨#[codeB x 114]⟩ := by rcases h with rfl | rfl <;> decide +kernel
theorem item_w (x : Int) (h : x = 0 ∨ x = 1) : Txt.item (Str.ofString "-w") x = ⟨#[codeB x 119]⟩ := by rcases h with rfl | rfl <;> decide +kernel
theorem item_s (x s : Int) (h : x = 0 ∨ x = 1) (h' : s = 0 ∨ s = 1) : Txt.item (Str.ofString "-xSs") (x + 2 * s) = ⟨#[codeX x s 115 83 120]⟩ := by rcases h with rfl | rfl <;> rcases h' with rfl | rfl <;> decide +kernel
theorem item_t (x s : Int) (h : x = 0 ∨ x = 1) (h' : s = 0 ∨ s = 1) : Txt.item (Str.ofString "-xTt") (x + 2 * s) = ⟨#[codeX x s 116 84 120]⟩ := by rcases h with rfl | rfl <;> rcases h' with rfl | rfl <;> decide +kernel
theorem sg_step {x : Str} {k r : Int} {d m : Int} {T : Str} {i : Nat} {c3 c2 c1 : Nat} (hT : ∀ x s : Int, x = 0 ∨ x = 1 → s = 0 ∨ s = 1 → Txt.item T (x + 2 * s) = ⟨#[codeX x s c3 c2 c1]⟩)
    (b4 b2 b1 bm : Int) (e4 : ((r.fdiv d).fmod 8).fdiv 4 = b4) (e2 : (((r.fdiv d).fmod 8).fdiv 2).fmod 2 = b2) (e1 : ((r.fdiv d).fmod 8).fmod 2 = b1) (em : (r.fdiv m).fmod 2 = bm) (h4 : b4 = 0 ∨ b4 = 1) (h2 : b2 = 0 ∨ b2 = 1) (h1 : b1 = 0 ∨ b1 = 1) (hm : bm = 0 ∨ bm = 1)
    (hp : pre k r (i + 1) = ⟨x.cps ++ #[codeB b4 114, codeB b2 119, codeX b1 bm c3 c2 c1]⟩) :
    x ++ Txt.item (Str.ofString "-r") (((r.fdiv d).fmod 8).fdiv 4) ++ Txt.item (Str.ofString "-w") ((((r.fdiv d).fmod 8).fdiv 2).fmod 2) ++ Txt.item T (((r.fdiv d).fmod 8).fmod 2 + 2 * (r.fdiv m).fmod 2) = pre k r (i + 1) := by
  rw [e4, e2, e1, em, item_r _ h4, item_w _ h2, hT _ _ h1 hm, hp]
  show (⟨x.cps ++ #[_] ++ #[_] ++ #[_]⟩ : Str) = _
  refine congrArg Str.mk (Array.ext' ?_)
  simp
theorem kw_p23_3 : True := by
  k_with "p23_3" => ((simp (disch := decide) only [Int.fdiv_eq_ediv_of_nonneg, Int.fmod_eq_emod_of_nonneg] <;> omega))
  trivial

theorem sg0 (k r : Int) (h2 : 0 ≤ r) (h3 : r < 4096) : pre k r 0 ++ Txt.item (Str.ofString "-r") (((r.fdiv 64).fmod 8).fdiv 4) ++ Txt.item (Str.ofString "-w") ((((r.fdiv 64).fmod 8).fdiv 2).fmod 2) ++ Txt.item (Str.ofString "-xSs") (((r.fdiv 64).fmod 8).fmod 2 + 2 * (r.fdiv 2048).fmod 2) = pre k r 1 :=
  sg_step (i := 0) item_s (r / 256 % 2) (r / 128 % 2) (r / 64 % 2) (r / 2048 % 2) (by k_extra "p23_3") (by k_extra "p23_3") (by k_extra "p23_3") (by k_extra "p23_3") (by omega) (by omega) (by omega) (by omega) (by simp [pre])
theorem sg1 (k r : Int) (h2 : 0 ≤ r) (h3 : r < 4096) : pre k r 1 ++ Txt.item (Str.ofString "-r") (((r.fdiv 8).fmod 8).fdiv 4) ++ Txt.item (Str.ofString "-w") ((((r.fdiv 8).fmod 8).fdiv 2).fmod 2) ++ Txt.item (Str.ofString "-xSs") (((r.fdiv 8).fmod 8).fmod 2 + 2 * (r.fdiv 1024).fmod 2) = pre k r 2 :=
  sg_step (i := 1) item_s (r / 32 % 2) (r / 16 % 2) (r / 8 % 2) (r / 1024 % 2) (by k_extra "p23_3") (by k_extra "p23_3") (by k_extra "p23_3") (by k_extra "p23_3") (by omega) (by omega) (by omega) (by omega) (by simp [pre])
theorem sg2 (k r : Int) (h2 : 0 ≤ r) (h3 : r < 4096) : pre k r 2 ++ Txt.item (Str.ofString "-r") (((r.fdiv 1).fmod 8).fdiv 4) ++ Txt.item (Str.ofString "-w") ((((r.fdiv 1).fmod 8).fdiv 2).fmod 2) ++ Txt.item (Str.ofString "-xTt") (((r.fdiv 1).fmod 8).fmod 2 + 2 * (r.fdiv 512).fmod 2) = pre k r 3 :=
  sg_step (i := 2) item_t (r / 4 % 2) (r / 2 % 2) (r % 2) (r / 512 % 2) (by k_extra "p23_3") (by k_extra "p23_3") (by k_extra "p23_3") (by k_extra "p23_3") (by omega) (by omega) (by omega) (by omega) (by simp [pre, signStr])
theorem kw_p23_4 : True := by
  k_with "p23_4" => ((repeat' (first | (refine List.forall_mem_cons.mpr ⟨?_, ?_⟩; k_mem) | (intro p hp; first | ((repeat (first | exact hp | apply List.Mem.tail)); done) | (simp at hp; done)))))
  trivial

structure SgJ (k r : Int) (ta tb : Tok) (i : Nat) (m₁ : Str → Option Value) (news : List (Addr × Obj)) : Prop where
  ex : ∃ (g : Str → Option Value) (t : Tok), m₁ = (fun y => if y = Str.ofString "signs" then some (.str (pre k r i) t) else if y = Str.ofString "rights" then some (.int r tb) else g y)
  nw : news = []
theorem signs_spec {w : World} {e : Env} {s : Shared} {Q E : Value → Shared → Prop} {k r : Int} {ta tb : Tok} {mean mg mb}
  (X : (Mine.hd.heap_1 w.params).In s.heap) (T : TopX mean mg mb s.heap) (h0 : 0 ≤ k) (h1 : k < 16) (h2 : 0 ≤ r) (h3 : r < 4096)
  (ret : ∀ h' tk t, Ext s.heap h' → Q (.str (signStr k r) t) { s with heap := h', toks := tk }) :
  wpAny (model PySem.Challenge.rw_pk0055_01.row.prog w) (callerA.deeper e) (call (.ref 103) [.int k ta, .int r tb]) Q E s := by
  revert X
  k_fill
  intro X
  refine' enter (binds := [(Str.ofString "kind", .int k ta), (Str.ofString "rights", .int r tb)]) X T.nolimit ?k6 ?k7 ?k8 ?k9 ?kB ?c5 ?c2 ?c3 ?c4 ?_; (case k6 => k_is); (case k7 => k_is); (case k8 => k_room); (case k9 => exact BindsTo.of_eq rfl); (case kB => exact locs rfl); (case c2 => exact rfl); (case c3 => exact rfl); (case c4 => exact rfl); (case c5 => decide)
  intro h₁ L₁ tk₁ F₁ N₁
  k_fold
  k_extra "p23_1"
  refine wpAny_For ?_
  k_extra "p23_1"
  rename IsRange _ _ _ _ _ _ _ _ => hr
  refine' for_range (SgJ k r ta tb) rfl hr (by decide) (by decide) (by decide) (by decide) (by k_asm) (by exact News.nil) ⟨⟨_, _, norm2 (by rw [if_pos rfl, item_k k h0 h1]; rfl) rfl⟩, rfl⟩ ?_ ?_
  · intro i I o m₁ news₁ σ tv QT hi hlt hJ F' N' hne hσ hQT
    clear hσ
    obtain ⟨⟨g, t, rfl⟩, rfl⟩ := hJ
    have hi3 : i = 0 ∨ i = 1 ∨ i = 2 := by
      have : ((3 : Int) - 0).toNat = 3 := rfl
      omega
    clear hi
    rcases hi3 with rfl | rfl | rfl
    · show wpAny _ _ (assign _ _ (.int 0 tv)) _ _ _
      k_extra "p23_1"
      refine' hQT _ _ (FPost.intro (by k_asm) (by k_asm) ?g3 ?g4 ⟨⟨_, _, norm2 (congrArg some (congrArg (Value.str · _) (sg0 k r h2 h3))) rfl⟩, rfl⟩)
      case g3 => k_extra "p23_4"
      case g4 => simp
    · show wpAny _ _ (assign _ _ (.int 1 tv)) _ _ _
      k_extra "p23_1"
      refine' hQT _ _ (FPost.intro (by k_asm) (by k_asm) ?g3 ?g4 ⟨⟨_, _, norm2 (congrArg some (congrArg (Value.str · _) (sg1 k r h2 h3))) rfl⟩, rfl⟩)
      case g3 => k_extra "p23_4"
      case g4 => simp
    · show wpAny _ _ (assign _ _ (.int 2 tv)) _ _ _
      k_extra "p23_1"
      refine' hQT _ _ (FPost.intro (by k_asm) (by k_asm) ?g3 ?g4 ⟨⟨_, _, norm2 (congrArg some (congrArg (Value.str · _) (sg2 k r h2 h3))) rfl⟩, rfl⟩)
      case g3 => k_extra "p23_4"
      case g4 => simp
  · intro m₁ news₁ h tk hJ F' N'
    obtain ⟨⟨g, t, rfl⟩, rfl⟩ := hJ
    dsimp only
    k_extra "p23_1"
    exact ret _ _ _ (Fr.keep (by k_asm))
end Mine
end

section
open PySem PySem.W PyProof.Rows
set_option maxHeartbeats 2000000
namespace Mine
/-- the word that grows by turns -/
noncomputable def wordRun (a b : Str) (zs : List Int) : Nat → Str
  | 0 => a
  | i + 1 => wordRun a b zs i ++ (if i % 2 = 0 then Txt.slice b (some (-(zs.getD i 0))) none else Txt.slice a none (some (zs.getD i 0)))
theorem kw_p24_1 : True := by
  k_with "p24_1" => (repeat' ((fail_if_success (with_reducible show wpAny _ _ (pyIter (Value.ref _)) _ _ _)); (fail_if_success (with_reducible show wpAny _ _ (exec (Stmt.For _ _ _ _ _) _) _ _ _)); first | (k_unfold; (try dsimp only)) | walk1 | (dsimp only; walk1)))
  trivial

structure WdJ (a b : Str) (zs : List Int) (D : Addr) (ta tb : Tok) (i : Nat) (m₁ : Str → Option Value) (news : List (Addr × Obj)) : Prop where
  ex : ∃ (g : Str → Option Value) (t : Tok), m₁ = (fun y => if y = Str.ofString "word" then some (.str (wordRun a b zs i) t) else if y = Str.ofString "first" then some (.str a ta) else if y = Str.ofString "second" then some (.str b tb) else if y = Str.ofString "sizes" then some (.ref D) else g y)
  nw : news = []
theorem norm4 {m : Str → Option Value} {x1 x2 x3 x4 : Str} {v1 v2 v3 v4 : Value} (h1 : m x1 = some v1) (h2 : m x2 = some v2) (h3 : m x3 = some v3) (h4 : m x4 = some v4) : m = fun y => if y = x1 then some v1 else if y = x2 then some v2 else if y = x3 then some v3 else if y = x4 then some v4 else m y := by
  funext y
  by_cases e1 : y = x1
  · subst e1; simp [h1]
  · by_cases e2 : y = x2
    · subst e2; simp [e1, h2]
    · by_cases e3 : y = x3
      · subst e3; simp [e1, e2, h3]
      · by_cases e4 : y = x4
        · subst e4; simp [e1, e2, e3, h4]
        · simp [e1, e2, e3, e4]
theorem wordRun_len (a b : Str) (zs : List Int) (ha : a.length = 10) (hb : b.length = 10) : ∀ i, 10 ≤ (wordRun a b zs i).length ∧ (wordRun a b zs i).length ≤ 10 + 10 * i
  | 0 => by simp [wordRun, ha]
  | i + 1 => by
    have := wordRun_len a b zs ha hb i
    rw [wordRun, Str.length_append]
    have h1 := PyProof.Txt.length_slice_le b (some (-(zs.getD i 0))) none
    have h2 := PyProof.Txt.length_slice_le a none (some (zs.getD i 0))
    split <;> omega
theorem wd_even {a b : Str} {zs : List Int} {i : Nat} (h : (0 + (i : Int)).fmod 2 = 0) : wordRun a b zs i ++ Txt.slice b (some (-(zs.getD (0 + (i : Int)).toNat 0))) none = wordRun a b zs (i + 1) := by
  rw [Int.fmod_eq_emod_of_nonneg _ (by decide)] at h
  rw [show (0 + (i : Int)).toNat = i by omega, wordRun, if_pos (by omega)]
theorem wd_odd {a b : Str} {zs : List Int} {i : Nat} (h : (0 + (i : Int)).fmod 2 ≠ 0) : wordRun a b zs i ++ Txt.slice a none (some (zs.getD (0 + (i : Int)).toNat 0)) = wordRun a b zs (i + 1) := by
  rw [Int.fmod_eq_emod_of_nonneg _ (by decide)] at h
  rw [show (0 + (i : Int)).toNat = i by omega, wordRun, if_neg (by omega)]
theorem kw_p24_2 : True := by
  k_with "p24_2" => ((repeat' (first | (refine List.forall_mem_cons.mpr ⟨?_, ?_⟩; k_mem) | (intro p hp; first | ((repeat (first | exact hp | apply List.Mem.tail)); done) | (simp at hp; done)))))
  trivial

theorem word_spec {w : World} {e : Env} {s : Shared} {Q E : Value → Shared → Prop} {a b : Str} {ta tb : Tok} {D : Addr} {items : Array Value} {zs : List Int} {mean mg mb}
  (X : (Mine.hd.heap_1 w.params).In s.heap) (T : TopX mean mg mb s.heap) (ha : a.length = 10) (hb : b.length = 10) (hl : s.heap.IsList D items) (hi : IntsAre items.toList zs) (hz : ∀ z ∈ zs, 1 ≤ z ∧ z ≤ 5) (hn : zs.length ≤ 10)
  (ret : ∀ h' tk t, Ext s.heap h' → Q (.str (Txt.slice (wordRun a b zs zs.length) none (some 20)) t) { s with heap := h', toks := tk }) :
  wpAny (model PySem.Challenge.rw_pk0055_01.row.prog w) (callerA.deeper e) (call (.ref 110) [.str a ta, .str b tb, .ref D]) Q E s := by
  revert X
  k_fill
  intro X
  refine' enter (binds := [(Str.ofString "first", .str a ta), (Str.ofString "second", .str b tb), (Str.ofString "sizes", .ref D)]) X T.nolimit ?k6 ?k7 ?k8 ?k9 ?kB ?c5 ?c2 ?c3 ?c4 ?_; (case k6 => k_is); (case k7 => k_is); (case k8 => k_room); (case k9 => exact BindsTo.of_eq rfl); (case kB => exact locs rfl); (case c2 => exact rfl); (case c3 => exact rfl); (case c4 => exact rfl); (case c5 => decide)
  intro h₁ L₁ tk₁ F₁ N₁
  k_fold
  k_extra "p24_1"
  refine wpAny_For ?_
  k_extra "p24_1"
  rename IsRange _ _ _ _ _ _ _ _ => hr
  refine' for_range (WdJ a b zs D ta tb) rfl hr (by decide) (by decide) (by omega) (by omega) (by k_asm) (by exact News.nil) ⟨⟨_, _, norm4 rfl rfl rfl rfl⟩, rfl⟩ ?_ ?_
  · intro i I o m₁ news₁ σ tv QT hi' hlt hJ F' N' hne hσ hQT
    clear hσ
    obtain ⟨⟨g, t, rfl⟩, rfl⟩ := hJ
    have hw := wordRun_len a b zs ha hb i
    have hi'' : i < zs.length := by omega
    have hzi := hz _ (List.getElem_mem hi'')
    k_extra "p24_1"
    · refine' hQT _ _ (FPost.intro (by k_asm) (by k_asm) ?g3 ?g4 ⟨⟨_, _, norm4 (congrArg some (congrArg (Value.str · _) (wd_even (by assumption)))) rfl rfl rfl⟩, rfl⟩)
      case g3 => k_extra "p24_2"
      case g4 => simp
    · refine' hQT _ _ (FPost.intro (by k_asm) (by k_asm) ?g3 ?g4 ⟨⟨_, _, norm4 (congrArg some (congrArg (Value.str · _) (wd_odd (by assumption)))) rfl rfl rfl⟩, rfl⟩)
      case g3 => k_extra "p24_2"
      case g4 => simp
  · intro m₁ news₁ h tk hJ F' N'
    obtain ⟨⟨g, t, rfl⟩, rfl⟩ := hJ
    dsimp only
    have hw := wordRun_len a b zs ha hb (((zs.length : Int) - 0).toNat)
    k_extra "p24_1"
    rw [show (((zs.length : Int) - 0).toNat) = zs.length by omega]
    exact ret _ _ _ (Fr.keep (by k_asm))
end Mine
end

section
open PySem PySem.W PyProof.Rows
set_option maxHeartbeats 2000000
namespace Mine
theorem kw_p25_1 : True := by
  k_with "p25_1" => (repeat' ((fail_if_success (with_reducible show wpAny _ _ (pyIter (Value.ref _)) _ _ _)); (fail_if_success (with_reducible show wpAny _ _ (subscriptTail _ _ (Value.ref _) (Value.int _ _)) _ _ _)); first | (k_unfold; (try dsimp only)) | walk1 | (dsimp only; walk1)))
  trivial

/-- the row of sizes that a number asks for, and the sizes that it tells -/
noncomputable def rowK (k o t h : Int) : List Int := if k = 0 then [o, 0] else if k = 1 then [o, t, 0, 7] else if k = 2 then [o, t, h, 0] else if k = 3 then [o, t, 127, 0] else if k = 4 then [o, t, h] else [0, o]
noncomputable def sizesK (k o t h : Int) : List Int := if k = 0 then [o, o, o, o, o, o, o, o, o, o] else if k = 1 then [o, t, t, t, t, t, t, t, t, t] else if k = 2 then [o, t, h, h, h, h, h, h, h, h] else if k = 3 then [o, t] else if k = 4 then [o, t, h] else []
noncomputable def rowOf (n : Int) : List Int := rowK ((n.fdiv 125).fmod 6) (1 + n.fmod 5) (1 + (n.fdiv 5).fmod 5) (1 + (n.fdiv 25).fmod 5)
noncomputable def sizesOf (n : Int) : List Int := sizesK ((n.fdiv 125).fmod 6) (1 + n.fmod 5) (1 + (n.fdiv 5).fmod 5) (1 + (n.fdiv 25).fmod 5)
theorem rowOf_is {n k : Int} (h : (n.fdiv 125).fmod 6 = k) : rowOf n = rowK k (1 + n.fmod 5) (1 + (n.fdiv 5).fmod 5) (1 + (n.fdiv 25).fmod 5) := by rw [rowOf, h]
theorem sizesOf_is {n k : Int} (h : (n.fdiv 125).fmod 6 = k) : sizesOf n = sizesK k (1 + n.fmod 5) (1 + (n.fdiv 5).fmod 5) (1 + (n.fdiv 25).fmod 5) := by rw [sizesOf, h]
theorem row_end {n k : Int} {s : Shared} {Q : Value → Shared → Prop} {h' : Heap} {L p r z : Addr} {m : Str → Option Value} {nn : List (Addr × Obj)} {tk : Nat} {vr vz : Array Value} {nr nz : Nat}
    (ret : ∀ h' tk p r z vr vz nr nz, Ext s.heap h' → s.heap.get? p = none → s.heap.get? r = none → s.heap.get? z = none → h'.get? p = some { cls := .type "tuple", data := .seq #[.ref r, .ref z] } → h'.get? r = some (listOf vr nr) → h'.get? z = some (listOf vz nz) →
      IntsAre vr.toList (rowOf n) → IntsAre vz.toList (sizesOf n) → Q (.ref p) { s with heap := h', toks := tk })
    (hk : (n.fdiv 125).fmod 6 = k) (F : Fr s.heap L h' m) (N : News s.heap L h' nn) (m1 : (p, ({ cls := .type "tuple", data := .seq #[.ref r, .ref z] } : Obj)) ∈ nn) (m2 : (r, listOf vr nr) ∈ nn) (m3 : (z, listOf vz nz) ∈ nn)
    (i1 : IntsAre vr.toList (rowK k (1 + n.fmod 5) (1 + (n.fdiv 5).fmod 5) (1 + (n.fdiv 25).fmod 5))) (i2 : IntsAre vz.toList (sizesK k (1 + n.fmod 5) (1 + (n.fdiv 5).fmod 5) (1 + (n.fdiv 25).fmod 5))) :
    Q (.ref p) { s with heap := h', toks := tk } :=
  ret h' tk p r z vr vz nr nz F.keep (N _ m1).2.2 (N _ m2).2.2 (N _ m3).2.2 (N _ m1).1 (N _ m2).1 (N _ m3).1 (by rw [rowOf_is hk]; exact i1) (by rw [sizesOf_is hk]; exact i2)
theorem pick_at {prog : Program} {w : World} {A : Around} {E : Value → Shared → Prop} {s : Shared} {h₀ : Heap} {L : Addr} {nn : List (Addr × Obj)} {value slice : Expr} {l a0 a1 a2 a3 a4 a5 : Addr} {c n0 n1 n2 n3 n4 n5 : Nat} {v0 v1 v2 v3 v4 v5 : Array Value} {k : Int} {u : Tok} {Q : Value → Shared → Prop} (f : Int → List Int)
    (N : News h₀ L s.heap nn) (hk : 0 ≤ k ∧ k < 6) (hl : (l, listOf #[.ref a0, .ref a1, .ref a2, .ref a3, .ref a4, .ref a5] c) ∈ nn) (m0 : (a0, listOf v0 n0) ∈ nn) (m1 : (a1, listOf v1 n1) ∈ nn) (m2 : (a2, listOf v2 n2) ∈ nn) (m3 : (a3, listOf v3 n3) ∈ nn) (m4 : (a4, listOf v4 n4) ∈ nn) (m5 : (a5, listOf v5 n5) ∈ nn)
    (i0 : IntsAre v0.toList (f 0)) (i1 : IntsAre v1.toList (f 1)) (i2 : IntsAre v2.toList (f 2)) (i3 : IntsAre v3.toList (f 3)) (i4 : IntsAre v4.toList (f 4)) (i5 : IntsAre v5.toList (f 5))
    (h : ∀ r vr nr, (r, listOf vr nr) ∈ nn → IntsAre vr.toList (f k) → Q (.ref r) s)
    (hs : subscripted slice false (.ref l) (.int k u) = operate [.ref l, .int k u] (getItem (.ref l) (.int k u)) := by with_unfolding_all rfl) (hg : ∀ r, letTemporaryGo value (.ref l) r = pure () := by intro _; with_unfolding_all rfl) :
    wpAny (model prog w) A (subscriptTail value slice (.ref l) (.int k u)) Q E s := by
  have pick : ∃ r vr nr, #[Value.ref a0, .ref a1, .ref a2, .ref a3, .ref a4, .ref a5][k.toNat]? = some (.ref r) ∧ (r, listOf vr nr) ∈ nn ∧ IntsAre vr.toList (f k) := by
    rcases (show k = 0 ∨ k = 1 ∨ k = 2 ∨ k = 3 ∨ k = 4 ∨ k = 5 by omega) with rfl | rfl | rfl | rfl | rfl | rfl
    · exact ⟨_, _, _, rfl, m0, i0⟩
    · exact ⟨_, _, _, rfl, m1, i1⟩
    · exact ⟨_, _, _, rfl, m2, i2⟩
    · exact ⟨_, _, _, rfl, m3, i3⟩
    · exact ⟨_, _, _, rfl, m4, i4⟩
    · exact ⟨_, _, _, rfl, m5, i5⟩
  obtain ⟨r, vr, nr, hx, hm, hi⟩ := pick
  exact item_list ⟨_, (N _ hl).1, rfl, c, rfl⟩ hk.1 (by omega) hx (h r vr nr hm hi) hs hg
theorem row_spec {w : World} {e : Env} {s : Shared} {Q E : Value → Shared → Prop} {n : Int} {ta : Tok} {mean mg mb}
  (X : (Mine.hd.heap_1 w.params).In s.heap) (T : TopX mean mg mb s.heap) (h0 : 0 ≤ n) (h1 : n < 16777216)
  (ret : ∀ h' tk p r z vr vz nr nz, Ext s.heap h' → s.heap.get? p = none → s.heap.get? r = none → s.heap.get? z = none → h'.get? p = some { cls := .type "tuple", data := .seq #[.ref r, .ref z] } → h'.get? r = some (listOf vr nr) → h'.get? z = some (listOf vz nz) →
      IntsAre vr.toList (rowOf n) → IntsAre vz.toList (sizesOf n) → Q (.ref p) { s with heap := h', toks := tk }) :
  wpAny (model PySem.Challenge.rw_pk0055_01.row.prog w) (callerA.deeper e) (call (.ref 89) [.int n ta]) Q E s := by
  revert X
  k_fill
  intro X
  refine' enter (binds := [(Str.ofString "number", .int n ta)]) X T.nolimit ?k6 ?k7 ?k8 ?k9 ?kB ?c5 ?c2 ?c3 ?c4 ?_; (case k6 => k_is); (case k7 => k_is); (case k8 => k_room); (case k9 => exact BindsTo.of_eq rfl); (case kB => exact locs rfl); (case c2 => exact rfl); (case c3 => exact rfl); (case c4 => exact rfl); (case c5 => decide)
  intro h₁ L₁ tk₁ F₁ N₁
  k_fold
  have k6 : 0 ≤ (n.fdiv 125).fmod 6 ∧ (n.fdiv 125).fmod 6 < 6 := by rw [Int.fmod_eq_emod_of_nonneg _ (by decide)]; omega
  k_extra "p25_1"
  refine' pick_at (fun k => rowK k (1 + n.fmod 5) (1 + (n.fdiv 5).fmod 5) (1 + (n.fdiv 25).fmod 5)) ?a1 k6 ?a2 ?b0 ?b1 ?b2 ?b3 ?b4 ?b5 ?c0 ?c1 ?c2 ?c3 ?c4 ?c5 ?_
  case a1 => k_asm
  case a2 => k_mem
  case b0 => k_mem
  case b1 => k_mem
  case b2 => k_mem
  case b3 => k_mem
  case b4 => k_mem
  case b5 => k_mem
  case c0 => (repeat constructor)
  case c1 => (repeat constructor)
  case c2 => (repeat constructor)
  case c3 => (repeat constructor)
  case c4 => (repeat constructor)
  case c5 => (repeat constructor)
  intro r vr nr hrm i1
  k_extra "p25_1"
  refine' pick_at (fun k => sizesK k (1 + n.fmod 5) (1 + (n.fdiv 5).fmod 5) (1 + (n.fdiv 25).fmod 5)) ?a1 k6 ?a2 ?b0 ?b1 ?b2 ?b3 ?b4 ?b5 ?c0 ?c1 ?c2 ?c3 ?c4 ?c5 ?_
  case a1 => k_asm
  case a2 => k_mem
  case b0 => k_mem
  case b1 => k_mem
  case b2 => k_mem
  case b3 => k_mem
  case b4 => k_mem
  case b5 => k_mem
  case c0 => (repeat constructor)
  case c1 => (repeat constructor)
  case c2 => (repeat constructor)
  case c3 => (repeat constructor)
  case c4 => (repeat constructor)
  case c5 => (repeat constructor)
  intro z vz nz hzm i2
  k_extra "p25_1"
  rename Fr _ _ _ _ => F₂
  rename News _ _ _ _ => N₂
  exact row_end (s := s) ret rfl F₂ N₂ (.head _) (.tail _ hrm) (.tail _ hzm) i1 i2
end Mine
end

section
open PySem PySem.W PyProof.Rows PySem.Calls
set_option maxHeartbeats 8000000
namespace Mine
section
variable {prog : Program} {w : World} {A : Around} {R : Result → Shared → Prop} {s : Shared} {elt i1 i2 : Expr} {x y : Str} {px py : Pos} {scope : Scope} {pos : Pos} {env : Env} {it acc : Value}
noncomputable abbrev LC2 (elt i1 i2 : Expr) (x y : Str) (px py : Pos) (scope : Scope) (pos : Pos) : Expr := .ListComp elt [⟨.Name x px, i1, [], 0⟩, ⟨.Name y py, i2, [], 0⟩] scope pos
theorem compTurn2_1 : compTurn (LC2 elt i1 i2 x y px py scope pos) 1 it acc env = (standAt i2.pos >>= fun _ => pyNext it >>= fun r => match r with
      | none => pure (.done .next)
      | some v => letOwnedTupleGo (.Name y py) it v >>= fun _ => assign (.Name y py) env v >>= fun _ =>
        (eval elt env >>= fun x => call (.builtin "list.append") [acc, x] >>= fun _ => pure ()) >>= fun _ =>
          again (.compLoop (LC2 elt i1 i2 x y px py scope pos) 1 it acc env)) := by rfl
theorem compTurn2_0 : compTurn (LC2 elt i1 i2 x y px py scope pos) 0 it acc env = (standAt i1.pos >>= fun _ => pyNext it >>= fun r => match r with
      | none => pure (.done .next)
      | some v => letOwnedTupleGo (.Name x px) it v >>= fun _ => assign (.Name x px) env v >>= fun _ =>
        eval i2 env >>= fun z => standAt i2.pos >>= fun _ => foldedSetIterable i2 env z >>= fun z => holding [z] (pyIter z) >>= fun it' => runOwn (.compStart (LC2 elt i1 i2 x y px py scope pos) 1 it' acc env) env >>= fun _ =>
          again (.compLoop (LC2 elt i1 i2 x y px py scope pos) 0 it acc env)) := by rfl
theorem compStart2_1 (h0 : codeAny (model prog w) A (.compLoop (LC2 elt i1 i2 x y px py scope pos) 1 it acc env) R s)
    (h : wpAny (model prog w) A (pyIter it) (fun it' s' => codeAny (model prog w) A (.compLoop (LC2 elt i1 i2 x y px py scope pos) 1 it' acc env) R s')
      (notedBy (model prog w) A env fun x s' => R (.error x) s') s) :
    codeAny (model prog w) A (.compStart (LC2 elt i1 i2 x y px py scope pos) 1 it acc env) R s := by
  refine codeAny_of_tree ?_
  show wpAny _ _ ((compStart (LC2 elt i1 i2 x y px py scope pos) 1 it acc env).onRaise (fun x => do noteFrame x env; standAt theWindowsPlace)) _ _ s
  refine wpAny_notedAt ?_
  unfold compStart
  show wpAny _ _ (ask >>= _) _ _ s
  refine wpAny_bind (wpAny_askSetting (wpAny_ite ?_))
  split
  · first
      | exact wpAny_bind (wpAny_pure (wpAny_pure (And.intro rfl h0)))
      | exact wpAny_pure (And.intro rfl h0)
  · first
      | exact wpAny_bind (wpAny_rule (wpAny_bind (wpAny_standAt (wpAny_bind (wpAny_mono h (fun it' s' h' => wpAny_pure (And.intro rfl h')) fun _ _ x => x)))))
      | (refine wpAny_bind (wpAny_rule ?_); show wpAny _ _ (standAt i2.pos >>= _) _ _ s; exact wpAny_bind (wpAny_standAt (wpAny_bind (wpAny_mono h (fun it' s' h' => wpAny_pure (And.intro rfl h')) fun _ _ x => x))))
end
section
variable {prog : Program} {w : World} {A : Around} {R : Result → Shared → Prop} {s : Shared} {elt i1 i2 : Expr} {x y : Str} {px py : Pos} {scope : Scope} {pos : Pos} {cenv : Env}
theorem inner_walk {m : Str → Option Value} {I ax D : Addr} {xs acc : List Value} {v : Value} (F : Value → Value → Prop) (hh : A.handled = none) (hy : cenv.kindOf y = some .local)
    (hp : (cenv.scope.kind == .class || (cenv.scope.kind == .module && cenv.locals != cenv.globals)) = false) (hxy : x ≠ y)
    (hDI : D ≠ I) (hDC : D ≠ cenv.locals) (hIC : I ≠ cenv.locals) (haI : ax ≠ I) (haC : ax ≠ cenv.locals) (haD : ax ≠ D)
    (hit : s.heap.IsListIter I ax 0) (hl : s.heap.IsList ax xs.toArray) (hacc : s.heap.PlainList D acc.toArray) (hn : s.heap.Ns cenv.locals m) (hmx : m x = some v)
    (helt : ∀ u s₂ m₂ (E' : Value → Shared → Prop), u ∈ xs → s₂.heap.Ns cenv.locals m₂ → m₂ x = some v → m₂ y = some u → (∀ b o, b ≠ cenv.locals → b ≠ I → b ≠ D → s.heap.get? b = some o → s₂.heap.get? b = some o) →
      wpAny (model prog w) A (eval elt cenv) (fun r s₃ => F u r ∧ Keeps s₂ s₃) E' s₂)
    (hR : ∀ h' tk m' rs, h'.Ns cenv.locals m' → h'.PlainList D (acc ++ rs).toArray → Paired F xs rs →
      (∀ b o, b ≠ cenv.locals → b ≠ I → b ≠ D → s.heap.get? b = some o → h'.get? b = some o) → R (.ok .next) { s with heap := h', toks := tk })
    (hsz : acc.length + xs.length ≤ sizeLine) :
    codeAny (model prog w) A (.compLoop (LC2 elt i1 i2 x y px py scope pos) 1 (.ref I) (.ref D) cenv) R s := by
  refine codeAny_loop rfl (fun k s' => ∃ h' tk m' rs i, s' = { s with heap := h', toks := tk } ∧ h'.IsListIter I ax i ∧ h'.IsList ax xs.toArray ∧ h'.PlainList D (acc ++ rs).toArray ∧ h'.Ns cenv.locals m' ∧ m' x = some v ∧
      Paired F (xs.take i) rs ∧ i ≤ xs.length ∧ k = xs.length + 1 - i ∧
      ∀ b o, b ≠ cenv.locals → b ≠ I → b ≠ D → s.heap.get? b = some o → h'.get? b = some o) ?_ (xs.length + 1)
    ⟨s.heap, s.toks, m, [], 0, rfl, hit, hl, by simpa using hacc, hn, hmx, by simpa using Paired.nil, Nat.zero_le _, rfl, fun _ _ _ _ _ e => e⟩
  rintro k s' ⟨H, tk, m', rs, i, rfl, hit', hl', hacc', hn', hm', hF, hi, rfl, hk⟩
  show wpAny _ _ ((compTurn (LC2 elt i1 i2 x y px py scope pos) 1 (.ref I) (.ref D) cenv).onRaise (fun x => do noteFrame x cenv; theTreesLotGoes x)) _ _ _
  refine wpAny_noted ?_
  rw [compTurn2_1]
  refine wpAny_bind (wpAny_standAt (wpAny_bind ?_))
  cases hv : xs[i]? with
  | none =>
    have hsz : xs.length ≤ i := by simpa using hv
    refine wpAny_pyNext_list_end hh hit' hl' (by simpa using hv) fun h₁ he₁ => wpAny_pure ?_
    refine hR h₁ tk m' rs (hn'.extBut he₁ (Ne.symm hIC)) (hacc'.extBut he₁ hDI) ?_ fun b o hbC hbI hbD e => he₁ b o hbI (hk b o hbC hbI hbD e)
    rwa [List.take_of_length_le hsz] at hF
  | some u =>
    have hlt : i < xs.length := (List.getElem?_eq_some_iff.mp hv).1
    have hmem : u ∈ xs := List.mem_of_getElem? hv
    refine wpAny_pyNext_list_item hit' hl' (by simpa using hv) fun h₁ hit₁ hs₁ => ?_
    refine wpAny_bind (wpAny_of_eq (by rfl) ?_)
    refine wpAny_bind (wpAny_assign_Name (wpAny_storeName_local hy (hn'.sameBut hs₁ (Ne.symm hIC)) (fun h₂ hn₂ hs₂ => ?_) hp))
    refine wpAny_bind (wpAny_bind (wpAny_mono (helt u _ _ _ hmem hn₂ (by simp [hxy, hm']) (by simp) fun b o hbC hbI hbD e => hs₂.extBut b o hbC (hs₁.extBut b o hbI (hk b o hbC hbI hbD e))) (fun r s₃ h₃ => ?_) fun _ _ e => e))
    obtain ⟨hFr, h₃, tk₃, rfl, hk₃⟩ := h₃
    have up₃ : ∀ b o, b ≠ cenv.locals → b ≠ I → H.get? b = some o → h₃.get? b = some o := fun b o hbC hbI e => hk₃ b o (hs₂.extBut b o hbC (hs₁.extBut b o hbI e))
    have hlen := hF.length
    have hys : (acc ++ rs).toArray.size ≤ sizeLine := by
      simp only [List.size_toArray, List.length_append]
      rw [List.length_take] at hlen
      omega
    refine wpAny_bind (wpAny_list_append_plain (hsz := hys) (hacc'.at fun o e => up₃ D o hDC hDI e) fun h₄ hl₄ hs₄ => wpAny_pure (wpAny_pure ⟨rfl, ?_⟩))
    refine ⟨xs.length + 1 - (i + 1), by omega, h₄, tk₃, _, rs ++ [r], i + 1, rfl, ((hit₁.extBut hs₂.extBut hIC).at fun o e => hk₃ _ o e).extBut hs₄.extBut (Ne.symm hDI), (hl'.at fun o e => up₃ ax o haC haI e).extBut hs₄.extBut haD, by simpa [← List.append_assoc] using hl₄,
      (hn₂.keeps hk₃).sameBut hs₄ (Ne.symm hDC), by simp [hxy, hm'], ?_, hlt, rfl, fun b o hbC hbI hbD e => hs₄.extBut b o hbD (up₃ b o hbC hbI (hk b o hbC hbI hbD e))⟩
    rw [List.take_add_one, hv]
    exact Paired.snoc hF hFr
theorem paired_app {α β : Type} {F : α → β → Prop} : ∀ {l₁ l₂ : List α} {r₁ r₂ : List β}, Paired F l₁ r₁ → Paired F l₂ r₂ → Paired F (l₁ ++ l₂) (r₁ ++ r₂)
  | _, _, _, _, .nil, h => h
  | _, _, _, _, .cons e t, h => .cons e (paired_app t h)
theorem paired_pair {F : Value → Value → Value → Prop} {v : Value} : ∀ {l : List Value} {r : List Value}, Paired (F v) l r → Paired (fun p r => F p.1 p.2 r) (l.map fun u => (v, u)) r
  | _, _, .nil => .nil
  | _, _, .cons e t => .cons e (paired_pair t)
theorem outer_walk {m : Str → Option Value} {I ax D : Addr} {xs ys : List Value} (F : Value → Value → Value → Prop) (hh : A.handled = none) (hx : cenv.kindOf x = some .local) (hy : cenv.kindOf y = some .local)
    (hp : (cenv.scope.kind == .class || (cenv.scope.kind == .module && cenv.locals != cenv.globals)) = false) (hxy : x ≠ y)
    (hDI : D ≠ I) (hDC : D ≠ cenv.locals) (hIC : I ≠ cenv.locals) (haI : ax ≠ I) (haC : ax ≠ cenv.locals) (haD : ax ≠ D)
    (hit : s.heap.IsListIter I ax 0) (hl : s.heap.IsList ax xs.toArray) (hacc : s.heap.PlainList D #[]) (hn : s.heap.Ns cenv.locals m)
    (hsrc : ∀ s₂ m₂ (E' : Value → Shared → Prop), s₂.heap.Ns cenv.locals m₂ → (∀ b o, b ≠ cenv.locals → b ≠ I → b ≠ D → s.heap.get? b = some o → s₂.heap.get? b = some o) →
      wpAny (model prog w) A (eval i2 cenv) (fun z s₃ => ∃ az, z = .ref az ∧ s₃.heap.IsList az ys.toArray ∧ (s₂.heap.get? az = none ∨ (az ≠ cenv.locals ∧ az ≠ I ∧ az ≠ D)) ∧ Keeps s₂ s₃) E' s₂)
    (helt : ∀ v u s₂ m₂ (E' : Value → Shared → Prop), v ∈ xs → u ∈ ys → s₂.heap.Ns cenv.locals m₂ → m₂ x = some v → m₂ y = some u → (∀ b o, b ≠ cenv.locals → b ≠ I → b ≠ D → s.heap.get? b = some o → s₂.heap.get? b = some o) →
      wpAny (model prog w) A (eval elt cenv) (fun r s₃ => F v u r ∧ Keeps s₂ s₃) E' s₂)
    (hR : ∀ h' tk m' rs, h'.Ns cenv.locals m' → h'.PlainList D rs.toArray → Paired (fun p r => F p.1 p.2 r) (xs.flatMap fun v => ys.map fun u => (v, u)) rs →
      (∀ b o, b ≠ cenv.locals → b ≠ I → b ≠ D → s.heap.get? b = some o → h'.get? b = some o) → R (.ok .next) { s with heap := h', toks := tk })
    (hsz : (xs.flatMap fun v => ys.map fun u => (v, u)).length + ys.length ≤ sizeLine) (hfs : ∀ z, foldedSetIterable i2 cenv z = pure z) :
    codeAny (model prog w) A (.compLoop (LC2 elt i1 i2 x y px py scope pos) 0 (.ref I) (.ref D) cenv) R s := by
  refine codeAny_loop rfl (fun k s' => ∃ h' tk m' rs i, s' = { s with heap := h', toks := tk } ∧ h'.IsListIter I ax i ∧ h'.IsList ax xs.toArray ∧ h'.PlainList D rs.toArray ∧ h'.Ns cenv.locals m' ∧
      Paired (fun p r => F p.1 p.2 r) ((xs.take i).flatMap fun v => ys.map fun u => (v, u)) rs ∧ i ≤ xs.length ∧ k = xs.length + 1 - i ∧
      ∀ b o, b ≠ cenv.locals → b ≠ I → b ≠ D → s.heap.get? b = some o → h'.get? b = some o) ?_ (xs.length + 1)
    ⟨s.heap, s.toks, m, [], 0, rfl, hit, hl, hacc, hn, by simpa using Paired.nil, Nat.zero_le _, rfl, fun _ _ _ _ _ e => e⟩
  rintro k s' ⟨H, tk, m', rs, i, rfl, hit', hl', hacc', hn', hF, hi, rfl, hk⟩
  show wpAny _ _ ((compTurn (LC2 elt i1 i2 x y px py scope pos) 0 (.ref I) (.ref D) cenv).onRaise (fun x => do noteFrame x cenv; theTreesLotGoes x)) _ _ _
  refine wpAny_noted ?_
  rw [compTurn2_0]
  refine wpAny_bind (wpAny_standAt (wpAny_bind ?_))
  cases hv : xs[i]? with
  | none =>
    have hsz : xs.length ≤ i := by simpa using hv
    refine wpAny_pyNext_list_end hh hit' hl' (by simpa using hv) fun h₁ he₁ => wpAny_pure ?_
    refine hR h₁ tk m' rs (hn'.extBut he₁ (Ne.symm hIC)) (hacc'.extBut he₁ hDI) ?_ fun b o hbC hbI hbD e => he₁ b o hbI (hk b o hbC hbI hbD e)
    rwa [List.take_of_length_le hsz] at hF
  | some v =>
    have hlt : i < xs.length := (List.getElem?_eq_some_iff.mp hv).1
    have hmem : v ∈ xs := List.mem_of_getElem? hv
    refine wpAny_pyNext_list_item hit' hl' (by simpa using hv) fun h₁ hit₁ hs₁ => ?_
    refine wpAny_bind (wpAny_of_eq (by rfl) ?_)
    refine wpAny_bind (wpAny_assign_Name (wpAny_storeName_local hx (hn'.sameBut hs₁ (Ne.symm hIC)) (fun h₂ hn₂ hs₂ => ?_) hp))
    have up₂ : ∀ b o, b ≠ cenv.locals → b ≠ I → H.get? b = some o → h₂.get? b = some o := fun b o hbC hbI e => hs₂.extBut b o hbC (hs₁.extBut b o hbI e)
    refine wpAny_bind (wpAny_mono (hsrc _ _ _ hn₂ fun b o hbC hbI hbD e => up₂ b o hbC hbI (hk b o hbC hbI hbD e)) (fun z s₃ h₃ => ?_) fun _ _ e => e)
    obtain ⟨az, rfl, hlz, haz, h₃, tk₃, rfl, hk₃⟩ := h₃
    have hn₃ := hn₂.keeps hk₃
    have hacc₂ : h₂.PlainList D rs.toArray := hacc'.at fun o e => up₂ D o hDC hDI e
    have hacc₃ : h₃.PlainList D rs.toArray := hacc₂.at fun o e => hk₃ _ o e
    have hit₂ := hit₁.extBut hs₂.extBut hIC
    have hit₃ : h₃.IsListIter I ax (i + 1) := hit₂.at fun o e => hk₃ _ o e
    have hl₃ : h₃.IsList ax xs.toArray := hl'.at fun o e => hk₃ _ o (up₂ ax o haC haI e)
    have haz' : az ≠ cenv.locals ∧ az ≠ I ∧ az ≠ D := by
      rcases haz with hz | hz
      · refine ⟨?_, ?_, ?_⟩
        · rintro rfl
          obtain ⟨o, _, _, ho, _⟩ := hn₂
          rw [hz] at ho; cases ho
        · rintro rfl
          obtain ⟨o, ho, _⟩ := hit₂
          rw [hz] at ho; cases ho
        · rintro rfl
          obtain ⟨o, ho⟩ := hacc₂
          rw [hz] at ho; cases ho
      · exact hz
    refine wpAny_bind (wpAny_standAt (wpAny_bind (wpAny_of_eq (hfs _) ?_)))
    refine wpAny_bind (wpAny_holding (wpAny_pyIter_list hlz ?_))
    dsimp only
    generalize hI2 : h₃.objs.size = I2
    generalize hh4 : h₃.push { cls := .type "list_iterator", data := .fields #[.ref az, .int 0 0] } = h₄
    have k₄ : ∀ b o, h₃.get? b = some o → h₄.get? b = some o := fun b o e => hh4 ▸ Heap.get?_push_of_some _ e
    have ne2 : ∀ b o, h₃.get? b = some o → b ≠ I2 := fun b o e => hI2 ▸ Nat.ne_of_lt (Heap.lt_size e)
    have hit2 : h₄.IsListIter I2 az 0 := hh4 ▸ hI2 ▸ ⟨_, Heap.get?_push_size _ rfl, rfl, rfl⟩
    have hC2 : cenv.locals ≠ I2 := by obtain ⟨o, _, _, ho, _⟩ := hn₃; exact ne2 _ o ho
    have hD2 : D ≠ I2 := by obtain ⟨o, ho⟩ := hacc₃; exact ne2 _ _ ho
    have hI22 : I ≠ I2 := by obtain ⟨o, ho, _⟩ := hit₃; exact ne2 _ o ho
    have hz2 : az ≠ I2 := by obtain ⟨o, ho, _⟩ := hlz; exact ne2 _ o ho
    have ha2 : ax ≠ I2 := by obtain ⟨o, ho, _⟩ := hl₃; exact ne2 _ o ho
    have up₄ : ∀ b o, b ≠ cenv.locals → b ≠ I → H.get? b = some o → h₄.get? b = some o := fun b o hbC hbI e => k₄ b o (hk₃ b o (up₂ b o hbC hbI e))
    have lens : rs.length = ((xs.take i).flatMap fun v => ys.map fun u => (v, u)).length := hF.length.symm
    have hle : ((xs.take i).flatMap fun v => ys.map fun u => (v, u)).length ≤ (xs.flatMap fun v => ys.map fun u => (v, u)).length := by
      conv => rhs; rw [← List.take_append_drop i xs, List.flatMap_append, List.length_append]
      omega
    have key : ∀ R' : Result → Shared → Prop, (∀ h₅ tk₅ m₅ rs₅, h₅.Ns cenv.locals m₅ → h₅.PlainList D (rs ++ rs₅).toArray → Paired (F v) ys rs₅ → (∀ b o, b ≠ cenv.locals → b ≠ I2 → b ≠ D → h₄.get? b = some o → h₅.get? b = some o) → R' (.ok .next) { s with heap := h₅, toks := tk₅ }) →
        codeAny (model prog w) (A.mark none) (.compLoop (LC2 elt i1 i2 x y px py scope pos) 1 (.ref I2) (.ref D) cenv) R' { s with heap := h₄, toks := tk₃ } := by
      intro R' hR'
      rw [show A.mark none = A by cases A; simp only [Around.mark] at *; simp_all]
      refine inner_walk (v := v) (F v) hh hy hp hxy hD2 hDC (Ne.symm hC2) hz2 haz'.1 haz'.2.2 hit2 (hlz.at fun o e => k₄ _ o e) (hacc₃.at fun o e => k₄ _ o e) (hn₃.keeps k₄) (by simp) ?_ hR' (by omega)
      intro u s₅ m₅ E' hu hn₅ hx₅ hy₅ hk₅
      exact helt v u s₅ m₅ E' hmem hu hn₅ hx₅ hy₅ fun b o hbC hbI hbD e => hk₅ b o hbC (ne2 b o (hk₃ b o (up₂ b o hbC hbI (hk b o hbC hbI hbD e)))) hbD (up₄ b o hbC hbI (hk b o hbC hbI hbD e))
    refine wpAny_bind (wpAny_runOwn (compStart2_1 (key _ ?_) (wpAny_pyIter_listiter hit2 (key _ ?_))) (by intro z; cases z))
    all_goals
      intro h₅ tk₅ m₅ rs₅ hn₅ hacc₅ hF₅ hk₅
      refine wpAny_pure ⟨rfl, xs.length + 1 - (i + 1), by omega, h₅, tk₅, m₅, rs ++ rs₅, i + 1, rfl, hit₃.at fun o e => hk₅ I o hIC hI22 (Ne.symm hDI) (k₄ _ o e), hl₃.at fun o e => hk₅ ax o haC ha2 haD (k₄ _ o e), hacc₅, hn₅, ?_, hlt, rfl, fun b o hbC hbI hbD e => ?_⟩
      · rw [List.take_add_one, hv, List.flatMap_append]
        refine paired_app hF ?_
        simpa using paired_pair hF₅
      · exact hk₅ b o hbC (ne2 b o (hk₃ b o (up₂ b o hbC hbI (hk b o hbC hbI hbD e)))) hbD (up₄ b o hbC hbI (hk b o hbC hbI hbD e))
end
section
variable {prog : Program} {w : World} {A : Around} {E : Value → Shared → Prop} {env : Env}
theorem block2 {s₁ : Shared} {elt i1 i2 : Expr} {x y : Str} {px py : Pos} {scope : Scope} {cl : List (Str × Addr)} {pos : Pos} {ax : Addr} {xs ys : List Value} (F : Value → Value → Value → Prop) {RR : Value → Addr → Result → Shared → Prop}
    (hh : A.handled = none) (hcell : ∀ y ∈ scope.names, y.2 ≠ .cell) (hkind : scope.kind = .function)
    (hx : scope.names.lookup x = some .local) (hy : scope.names.lookup y = some .local) (hxy : x ≠ y)
    (hl : s₁.heap.IsList ax xs.toArray) (hsz : (xs.flatMap fun v => ys.map fun u => (v, u)).length + ys.length ≤ sizeLine)
    (hsrc : ∀ C s₂ m₂ (E' : Value → Shared → Prop), s₁.heap.objs.size ≤ C → s₂.heap.Ns C m₂ → (∀ b o, s₁.heap.get? b = some o → s₂.heap.get? b = some o) →
        wpAny (model prog w) A (eval i2 (compEnvC scope cl C env)) (fun z s₃ => ∃ az, z = .ref az ∧ s₃.heap.IsList az ys.toArray ∧ (s₂.heap.get? az = none ∨ s₁.heap.get? az ≠ none) ∧ Keeps s₂ s₃) E' s₂)
    (helt : ∀ C v u s₂ m₂ (E' : Value → Shared → Prop), s₁.heap.objs.size ≤ C → v ∈ xs → u ∈ ys → s₂.heap.Ns C m₂ → m₂ x = some v → m₂ y = some u → (∀ b o, s₁.heap.get? b = some o → s₂.heap.get? b = some o) →
        wpAny (model prog w) A (eval elt (compEnvC scope cl C env)) (fun r s₃ => F v u r ∧ Keeps s₂ s₃) E' s₂)
    (hRR : ∀ D C h' tk m' rs, s₁.heap.get? D = none → s₁.heap.get? C = none → D ≠ C → h'.Ns C m' → h'.PlainList D rs.toArray → Paired (fun p r => F p.1 p.2 r) (xs.flatMap fun v => ys.map fun u => (v, u)) rs →
        (∀ b o, s₁.heap.get? b = some o → h'.get? b = some o) → RR (.ref D) C (.ok .next) { s₁ with heap := h', toks := tk })
    (hs2 : ∀ C z, foldedSetIterable i2 (compEnvC scope cl C env) z = pure z) :
    wpAny (model prog w) A (pyIter (.ref ax)) (fun it s₂ => wpAny (model prog w) A (newList []) (fun acc s₃ => wpAny (model prog w) A (newFunctionEnv scope env.globals cl [] env.qual none .none (some env)) (fun cenv s₄ =>
      codeAny (model prog w) A (.compStart (LC2 elt i1 i2 x y px py scope pos) 0 it acc { cenv with scope := relabel scope env }) (RR acc cenv.locals) s₄) E s₃) E s₂) E s₁ := by
  refine wpAny_pyIter_list hl ?_
  refine wpAny_newObj_type (wpAny_newFunctionEnv hcell (by intro y hy; simp at hy) (fun h₁ hns₁ hsb₁ => ?_) hkind)
  dsimp only at hns₁ hsb₁ ⊢
  obtain ⟨ol, hol, hol'⟩ := id hl
  have hax : ax < s₁.heap.objs.size := Heap.lt_size hol
  generalize hH1 : s₁.heap.push { cls := .type "list_iterator", data := .fields #[.ref ax, .int 0 0] } = H1 at hns₁ hsb₁ ⊢
  have hD : H1.objs.size = s₁.heap.objs.size + 1 := by rw [← hH1, Heap.size_push]
  generalize hH2 : H1.push { cls := .type "list", dict := none, data := .seq ([] : List Value).toArray } = H2 at hns₁ hsb₁ ⊢
  have hC : H2.objs.size = s₁.heap.objs.size + 2 := by rw [← hH2, Heap.size_push, hD]
  have hDI : H1.objs.size ≠ s₁.heap.objs.size := by rw [hD]; exact Nat.succ_ne_self _
  have hDC : H1.objs.size ≠ H2.objs.size := by rw [hD, hC]; exact Nat.ne_of_lt (Nat.lt_succ_self _)
  have hIC : s₁.heap.objs.size ≠ H2.objs.size := by rw [hC]; exact Nat.ne_of_lt (Nat.lt_succ_of_lt (Nat.lt_succ_self _))
  have hCle : s₁.heap.objs.size ≤ H2.objs.size := by rw [hC]; exact Nat.le_add_right _ _
  have below : ∀ b, b < s₁.heap.objs.size → b ≠ H2.objs.size ∧ b ≠ s₁.heap.objs.size ∧ b ≠ H1.objs.size := fun b hb =>
    ⟨by rw [hC]; exact Nat.ne_of_lt (Nat.lt_succ_of_lt (Nat.lt_succ_of_lt hb)), Nat.ne_of_lt hb, by rw [hD]; exact Nat.ne_of_lt (Nat.lt_succ_of_lt hb)⟩
  have old : ∀ b o, s₁.heap.get? b = some o → h₁.get? b = some o := fun b o e =>
    hsb₁.extBut b o (below b (Heap.lt_size e)).1 (Heap.get?_push_of_some _ (hH2 ▸ Heap.get?_push_of_some _ (hH1 ▸ Heap.get?_push_of_some _ e)))
  have hit : h₁.IsListIter s₁.heap.objs.size ax 0 :=
    ⟨_, hsb₁.extBut _ _ hIC (Heap.get?_push_of_some _ (hH2 ▸ Heap.get?_push_of_some _ (hH1 ▸ Heap.get?_push_size _ rfl))), rfl, rfl⟩
  have hacc : h₁.PlainList H1.objs.size #[] := ⟨_, hsb₁.extBut _ _ hDC (Heap.get?_push_of_some _ (hH2 ▸ Heap.get?_push_size _ rfl))⟩
  have hl₁ : h₁.IsList ax xs.toArray := ⟨ol, old _ _ hol, hol'⟩
  have hnew : ∀ a, s₁.heap.objs.size ≤ a → s₁.heap.get? a = none := fun a ha => by
    cases e : s₁.heap.get? a with
    | none => rfl
    | some o' => exact absurd (Heap.lt_size e) (Nat.not_lt.mpr ha)
  have kk : ∀ {h₂ : Heap}, (∀ b o, b ≠ (compEnvC scope cl H2.objs.size env).locals → b ≠ s₁.heap.objs.size → b ≠ H1.objs.size → h₁.get? b = some o → h₂.get? b = some o) → ∀ b o, s₁.heap.get? b = some o → h₂.get? b = some o :=
    fun hk b o e => hk b o (below b (Heap.lt_size e)).1 (below b (Heap.lt_size e)).2.1 (below b (Heap.lt_size e)).2.2 (old b o e)
  have loop : ∀ s₃ : Shared, s₃ = { s₁ with heap := h₁, toks := s₁.toks + ([] : List (Str × Value)).length } →
      codeAny (model prog w) A (.compLoop (LC2 elt i1 i2 x y px py scope pos) 0 (.ref s₁.heap.objs.size) (.ref H1.objs.size) (compEnvC scope cl H2.objs.size env))
        (RR (.ref H1.objs.size) H2.objs.size) s₃ := by
    rintro s₃ rfl
    refine outer_walk (cenv := compEnvC scope cl H2.objs.size env) (ys := ys) F hh (lookup_relabel_local hx) (lookup_relabel_local hy) (by simp [compEnvC, relabel, hkind]) hxy hDI hDC hIC (below ax hax).2.1 (below ax hax).1 (below ax hax).2.2 hit hl₁ hacc hns₁ ?_ ?_ ?_ hsz (hs2 _)
    · intro s₂ m₂ E' hn₂ hk₂
      refine wpAny_mono (hsrc _ s₂ m₂ E' hCle hn₂ (kk hk₂)) (fun z s₃ h₃ => ?_) fun _ _ e => e
      obtain ⟨az, rfl, q1, q2, q3⟩ := h₃
      refine ⟨az, rfl, q1, q2.imp id (fun q => ?_), q3⟩
      have hlt : az < s₁.heap.objs.size := Nat.lt_of_not_le fun hle => q (hnew az hle)
      exact ⟨(below az hlt).1, (below az hlt).2.1, (below az hlt).2.2⟩
    · exact fun v u s₂ m₂ E' hv hu hn₂ hx₂ hy₂ hk₂ => helt _ v u s₂ m₂ E' hCle hv hu hn₂ hx₂ hy₂ (kk hk₂)
    · intro h' tk m' rs hn hpl hF hk
      exact hRR _ _ h' tk m' rs (hnew _ (by rw [hD]; exact Nat.le_succ _)) (hnew _ hCle) hDC hn hpl hF (kk hk)
  exact codeAny_compStart_list (loop _ rfl) (wpAny_pyIter_listiter hit (loop _ rfl))
/-- a comprehension with two clauses over lists -/
theorem listComp2 {s : Shared} {elt i1 i2 : Expr} {x y : Str} {px py : Pos} {scope : Scope} {cl : List (Str × Addr)} {pos : Pos} {Q : Value → Shared → Prop}
    (hh : A.handled = none) (hclos : closureFor scope env = pure cl) (hcell : ∀ y ∈ scope.names, y.2 ≠ .cell) (hkind : scope.kind = .function)
    (hnames : ∀ y ∈ scope.names, y.2 = .local → scope.names.lookup y.1 = some .local) (hx : scope.names.lookup x = some .local) (hy : scope.names.lookup y = some .local) (hxy : x ≠ y)
    (h : wpAny (model prog w) A (eval i1 env) (fun xv s₁ => ∃ (ax : Addr) (xs ys : List Value) (F : Value → Value → Value → Prop), xv = .ref ax ∧ s₁.heap.IsList ax xs.toArray ∧
      (xs.flatMap fun v => ys.map fun u => (v, u)).length + ys.length ≤ sizeLine ∧
      (∀ C s₂ m₂ (E' : Value → Shared → Prop), s₁.heap.objs.size ≤ C → s₂.heap.Ns C m₂ → (∀ b o, s₁.heap.get? b = some o → s₂.heap.get? b = some o) →
        wpAny (model prog w) A (eval i2 (compEnvC scope cl C env)) (fun z s₃ => ∃ az, z = .ref az ∧ s₃.heap.IsList az ys.toArray ∧ (s₂.heap.get? az = none ∨ s₁.heap.get? az ≠ none) ∧ Keeps s₂ s₃) E' s₂) ∧
      (∀ C v u s₂ m₂ (E' : Value → Shared → Prop), s₁.heap.objs.size ≤ C → v ∈ xs → u ∈ ys → s₂.heap.Ns C m₂ → m₂ x = some v → m₂ y = some u → (∀ b o, s₁.heap.get? b = some o → s₂.heap.get? b = some o) →
        wpAny (model prog w) A (eval elt (compEnvC scope cl C env)) (fun r s₃ => F v u r ∧ Keeps s₂ s₃) E' s₂) ∧
      (∀ D h' tk rs, s₁.heap.get? D = none → h'.PlainList D rs.toArray → Paired (fun p r => F p.1 p.2 r) (xs.flatMap fun v => ys.map fun u => (v, u)) rs →
        (∀ b o, s₁.heap.get? b = some o → h'.get? b = some o) → Q (.ref D) { s₁ with heap := h', toks := tk })) E s)
    (hs : ∀ z, foldedSetIterable i1 env z = pure z := by intro _; rfl) (hs2 : ∀ C z, foldedSetIterable i2 (compEnvC scope cl C env) z = pure z := by intro _ _; rfl) :
    wpAny (model prog w) A (eval (LC2 elt i1 i2 x y px py scope pos) env) Q E s := by
  show wpAny (model prog w) A (eval (.ListComp elt [⟨.Name x px, i1, [], 0⟩, ⟨.Name y py, i2, [], 0⟩] scope pos) env) Q E s
  rw [eval_ListComp]
  refine wpAny_comprehension_free (use := none) rfl hs hclos hkind hnames (wpAny_mono h (fun xv s₁ h₁ => ?_) fun _ _ e => e)
  obtain ⟨ax, xs, ys, F, rfl, hl, hsz, hsrc, helt, hQ⟩ := h₁
  refine block2 (RR := fun acc C => compPost (model prog w) A E none Q acc C) F hh hcell hkind hx hy hxy hl hsz hsrc helt ?_ hs2
  intro D C h' tk m' rs hD hC hDC hn hpl hF hk
  exact ⟨m', hn, fun h'' hs'' => hQ _ h'' tk rs hD (hpl.extBut hs''.extBut hDC) hF fun b o e => hs''.extBut b o (by rintro rfl; rw [hC] at e; cases e) (hk b o e)⟩
/-- the same, stored under a name of the frame -/
theorem assignComp2 {s : Shared} {elt i1 i2 : Expr} {x y z : Str} {px py pz : Pos} {scope : Scope} {cl : List (Str × Addr)} {pos spos : Pos} {Q : Flow → Shared → Prop}
    (hsw : swapsWith (LC2 elt i1 i2 x y px py scope pos) (some (.Name z pz)) spos.line env = pure true)
    (hh : A.handled = none) (hclos : closureFor scope env = pure cl) (hcell : ∀ y ∈ scope.names, y.2 ≠ .cell) (hkind : scope.kind = .function)
    (hnames : ∀ y ∈ scope.names, y.2 = .local → scope.names.lookup y.1 = some .local) (hx : scope.names.lookup x = some .local) (hy : scope.names.lookup y = some .local) (hxy : x ≠ y)
    (hz : env.kindOf z = some .local) (hp : (env.scope.kind == .class || (env.scope.kind == .module && env.locals != env.globals)) = false)
    (h : wpAny (model prog w) A (eval i1 env) (fun xv s₁ => ∃ (ax : Addr) (xs ys : List Value) (F : Value → Value → Value → Prop) (m : Str → Option Value), xv = .ref ax ∧ s₁.heap.IsList ax xs.toArray ∧ s₁.heap.Ns env.locals m ∧
      (xs.flatMap fun v => ys.map fun u => (v, u)).length + ys.length ≤ sizeLine ∧
      (∀ C s₂ m₂ (E' : Value → Shared → Prop), s₁.heap.objs.size ≤ C → s₂.heap.Ns C m₂ → (∀ b o, s₁.heap.get? b = some o → s₂.heap.get? b = some o) →
        wpAny (model prog w) A (eval i2 (compEnvC scope cl C env)) (fun z s₃ => ∃ az, z = .ref az ∧ s₃.heap.IsList az ys.toArray ∧ (s₂.heap.get? az = none ∨ s₁.heap.get? az ≠ none) ∧ Keeps s₂ s₃) E' s₂) ∧
      (∀ C v u s₂ m₂ (E' : Value → Shared → Prop), s₁.heap.objs.size ≤ C → v ∈ xs → u ∈ ys → s₂.heap.Ns C m₂ → m₂ x = some v → m₂ y = some u → (∀ b o, s₁.heap.get? b = some o → s₂.heap.get? b = some o) →
        wpAny (model prog w) A (eval elt (compEnvC scope cl C env)) (fun r s₃ => F v u r ∧ Keeps s₂ s₃) E' s₂) ∧
      (∀ D h' tk rs, s₁.heap.get? D = none → h'.PlainList D rs.toArray → Paired (fun p r => F p.1 p.2 r) (xs.flatMap fun v => ys.map fun u => (v, u)) rs → h'.Ns env.locals (fun u => if u = z then some (.ref D) else m u) →
        (∀ b o, b ≠ env.locals → s₁.heap.get? b = some o → h'.get? b = some o) → Q .next { s₁ with heap := h', toks := tk })) E s)
    (hs : ∀ z, foldedSetIterable i1 env z = pure z := by intro _; rfl) (hs2 : ∀ C z, foldedSetIterable i2 (compEnvC scope cl C env) z = pure z := by intro _ _; rfl) :
    wpAny (model prog w) A (exec (.Assign [.Name z pz] (LC2 elt i1 i2 x y px py scope pos) spos) env) Q E s := by
  rw [exec_Assign_Name_used _ _ _ _ hsw]
  refine wpAny_bind (wpAny_standAt (wpAny_bind ?_))
  show wpAny _ A (do let _ ← comprehension (LC2 elt i1 i2 x y px py scope pos) scope env _ (newList []) false (eval i1 env) (some (assign (.Name z pz) env))) _ _ s
  refine wpAny_bind (wpAny_mono (wpAny_comprehension_free (use := some (assign (.Name z pz) env)) (Q := fun _ s' => Q .next s') rfl hs hclos hkind hnames
    (wpAny_mono h (fun xv s₁ h₁ => ?_) fun _ _ e => e)) (fun _ s' hq => wpAny_pure (wpAny_pure hq)) fun _ _ e => e)
  obtain ⟨ax, xs, ys, F, m, rfl, hl, hns, hsz, hsrc, helt, hQ⟩ := h₁
  refine block2 (RR := fun acc C => compPost (model prog w) A E (some (assign (.Name z pz) env)) (fun _ s' => Q .next s') acc C) F hh hcell hkind hx hy hxy hl hsz hsrc helt ?_ hs2
  intro D C h' tk m' rs hD hC hDC hnC hplD hF hk
  have hLC : env.locals ≠ C := by rintro rfl; obtain ⟨o, _, _, ho, _⟩ := hns; rw [hC] at ho; cases ho
  have hLD : env.locals ≠ D := by rintro rfl; obtain ⟨o, _, _, ho, _⟩ := hns; rw [hD] at ho; cases ho
  show wpAny _ A (assign (.Name z pz) env (.ref D)) _ _ _
  refine wpAny_assign_Name (wpAny_storeName_local hz (hns.keeps hk) (fun h₂ hn₂ hs₂ => ?_) hp)
  refine ⟨m', hnC.sameBut hs₂ (Ne.symm hLC), fun h₃ hs₃ => ?_⟩
  exact hQ D h₃ _ rs hD ((hplD.extBut hs₂.extBut (Ne.symm hLD)).extBut hs₃.extBut hDC) hF (hn₂.sameBut hs₃ hLC) fun b o hbL e =>
    hs₃.extBut b o (by rintro rfl; rw [hC] at e; cases e) (hs₂.extBut b o hbL (hk b o e))
end
end Mine
end

section
open PySem PySem.W PyProof.Rows PySem.Calls
set_option maxHeartbeats 8000000
namespace Mine
section
variable {prog : Program} {w : World} {A : Around} {E : Value → Shared → Prop} {env : Env} {s : Shared} {h₀ : Heap} {L l : Addr} {m : Str → Option Value} {news : List (Addr × Obj)} {vs : List Value} {n : Nat} {scope : Scope} {cl : List (Str × Addr)} {x : Str} {elt iter : Expr} {px pos : Pos} {Q : Value → Shared → Prop}
/-- a comprehension without a test over a list: what the element tells -/
theorem comp_map {m₀ : Str → Option Value} (_F₀ : Fr h₀ L s.heap m₀) (F : Value → Value → Prop) (hh : A.handled = none) (hclos : closureFor scope env = pure cl) (hcell : ∀ y ∈ scope.names, y.2 ≠ .cell) (hkind : scope.kind = .function)
    (hnames : ∀ y ∈ scope.names, y.2 = .local → scope.names.lookup y.1 = some .local) (hx : scope.names.lookup x = some .local)
    (h : wpAny (model prog w) A (eval iter env) (fun xv s₁ => ∃ l vs m news, xv = .ref l ∧ Fr h₀ L s₁.heap m ∧ News h₀ L s₁.heap news ∧ s₁.heap.IsList l vs.toArray ∧ vs.length ≤ sizeLine ∧
      (∀ C v s₃ m₃ (E' : Value → Shared → Prop), v ∈ vs → Fr h₀ C s₃.heap m₃ → News h₀ C s₃.heap news → m₃ x = some v → wpAny (model prog w) A (eval elt (compEnvC scope cl C env)) (fun y s₄ => F v y ∧ Keeps s₃ s₄) E' s₃) ∧
      (∀ D h' tk ys k, Fr h₀ L h' m → News h₀ L h' ((D, listOf ys.toArray k) :: news) → AllNe D news → Paired F vs ys → Q (.ref D) { s₁ with heap := h', toks := tk })) E s)
    (hs : ∀ x, foldedSetIterable iter env x = pure x := by intro _; rfl) :
    wpAny (model prog w) A (eval (.ListComp elt [⟨.Name x px, iter, [], 0⟩] scope pos) env) Q E s := by
  refine listComp_ex hclos hcell hkind hnames hx (wpAny_mono h (fun xv s₁ h₁ => ?_) fun _ _ e => e) hs
  obtain ⟨l, vs, m, news, rfl, F₁, N, hls, hsz, helt, ret⟩ := h₁
  refine wpAny_pyIter_list hls ?_
  obtain ⟨ol, hol, _⟩ := id hls
  have hne : l ≠ s₁.heap.objs.size := Nat.ne_of_lt (Heap.lt_size hol)
  have W := Walks.list (prog := prog) (w := w) hh s₁.heap.objs.size l hne vs.toArray
  have hI0 : h₀.get? s₁.heap.objs.size = none := by
    cases hq : h₀.get? s₁.heap.objs.size with
    | none => rfl
    | some o => exact absurd (Heap.lt_size (F₁.keep _ _ hq)) (Nat.lt_irrefl _)
  have hIN : ∀ q ∈ news, q.1 < s₁.heap.objs.size := fun q hq => Heap.lt_size (N q hq).1
  have inner : ∀ {C : Addr} {s₃ : Shared} {m₃ : Str → Option Value} {so : Obj}, (s₁.heap.push so).objs.size ≤ C → s₃.heap.Ns C m₃ → (∀ b o, b ∉ [s₁.heap.objs.size] → (s₁.heap.push so).get? b = some o → s₃.heap.get? b = some o) → Fr h₀ C s₃.heap m₃ ∧ News h₀ C s₃.heap news := by
    intro C s₃ m₃ so hC hn hk
    rw [Heap.size_push] at hC
    refine ⟨⟨hn, fun b o e => hk b o (by simp only [List.mem_singleton]; rintro rfl; rw [hI0] at e; cases e) (Heap.get?_push_of_some _ (F₁.keep b o e)), ?_⟩, fun q hq => ⟨hk _ _ (by simp only [List.mem_singleton]; exact Nat.ne_of_lt (hIN q hq)) (Heap.get?_push_of_some _ (N q hq).1), ?_, (N q hq).2.2⟩⟩
    · exact Nat.le_trans F₁.above (Nat.le_of_lt (Nat.lt_of_lt_of_le F₁.ns.lt (Nat.le_of_succ_le hC)))
    · have h1 := hIN q hq
      exact Nat.ne_of_lt (Nat.lt_of_lt_of_le h1 (Nat.le_of_succ_le hC))
  have getV : ∀ i v, vs.toArray[i]? = some v → v ∈ vs := fun i v e => by rw [List.getElem?_toArray] at e; exact List.mem_of_getElem? e
  refine ⟨fun _ => true, F, _, _, _, _, _, _, rfl, W, by simpa using hsz, ⟨⟨_, Heap.get?_push_size _ rfl, rfl, rfl⟩, hls.at fun o e => Heap.get?_push_of_some _ e⟩, ?_, ⟨?_, ?_⟩, ?_⟩
  · intro b hb
    rw [Heap.size_push]
    simp only [List.mem_cons, List.not_mem_nil, or_false] at hb
    rcases hb with rfl | rfl
    · exact Nat.lt_succ_self _
    · exact Nat.lt_succ_of_lt (Heap.lt_size hol)
  · intro C i v s₃ m₃ E' hC hv hn hm hk _
    exact wpAny_tests_nil ⟨rfl, s₃.heap, s₃.toks, rfl, fun _ _ e => e⟩
  · intro C i v s₃ m₃ E' hC hv _ hn hm hk _
    obtain ⟨F₃, N₃⟩ := inner hC hn hk
    exact helt C v s₃ m₃ E' (getV i v hv) F₃ N₃ hm
  · intro D h' tk ys vs' hD _ hpl hlen hP hF hk
    have e1 : vs' = vs := by
      apply List.ext_getElem?
      intro j
      cases hj : vs'[j]? with
      | some v => have := hP j v hj; simpa using this.symm
      | none =>
        have : vs'.length ≤ j := by simpa using hj
        symm
        simp at hlen
        simp only [List.getElem?_eq_none_iff]
        omega
    subst e1
    rw [List.filter_eq_self.mpr (fun _ _ => rfl)] at hF
    obtain ⟨k, hk2⟩ := hpl
    have keep : ∀ b o, s₁.heap.get? b = some o → h'.get? b = some o := fun b o e => hk b o (by simp only [List.mem_singleton]; exact Nat.ne_of_lt (Heap.lt_size e)) (Heap.get?_push_of_some _ e)
    have hD0 : s₁.heap.get? D = none := by
      cases hz : s₁.heap.get? D with
      | none => rfl
      | some o => rw [Heap.get?_push_of_some _ hz] at hD; cases hD
    refine ret D h' tk ys.toList k ⟨F₁.ns.keeps keep, fun b o e => keep b o (F₁.keep b o e), F₁.above⟩ (fun q hq => ?_) (allNe_of fun q hq e => ?_) hF
    · rcases List.mem_cons.mp hq with rfl | hq
      · refine ⟨by simpa [PySem.W.listOf] using hk2, ?_, ?_⟩
        · rintro rfl
          obtain ⟨oL, _, _, ho, _⟩ := F₁.ns
          rw [hD0] at ho; cases ho
        · cases hz : h₀.get? D with
          | none => rfl
          | some o => have := F₁.keep D o hz; rw [hD0] at this; cases this
      · exact ⟨keep _ _ (N q hq).1, (N q hq).2⟩
    · have := (N q hq).1
      rw [e, hD0] at this; cases this
/-- a comprehension with two clauses over lists -/
theorem comp_two {i1 i2 : Expr} {y : Str} {py : Pos} {m₀ : Str → Option Value} (_F₀ : Fr h₀ L s.heap m₀) (hh : A.handled = none) (hclos : closureFor scope env = pure cl) (hcell : ∀ y ∈ scope.names, y.2 ≠ .cell) (hkind : scope.kind = .function)
    (hnames : ∀ y ∈ scope.names, y.2 = .local → scope.names.lookup y.1 = some .local) (hx : scope.names.lookup x = some .local) (hy : scope.names.lookup y = some .local) (hxy : x ≠ y)
    (h : wpAny (model prog w) A (eval i1 env) (fun xv s₁ => ∃ (l : Addr) (xs ys : List Value) (F : Value → Value → Value → Prop) (m : Str → Option Value) (news : List (Addr × Obj)), xv = .ref l ∧ Fr h₀ L s₁.heap m ∧ News h₀ L s₁.heap news ∧ s₁.heap.IsList l xs.toArray ∧
      (xs.flatMap fun v => ys.map fun u => (v, u)).length + ys.length ≤ sizeLine ∧
      (∀ C s₂ m₂ (E' : Value → Shared → Prop), Fr h₀ C s₂.heap m₂ → News h₀ C s₂.heap news →
        wpAny (model prog w) A (eval i2 (compEnvC scope cl C env)) (fun z s₃ => ∃ az, z = .ref az ∧ s₃.heap.IsList az ys.toArray ∧ (s₂.heap.get? az = none ∨ az ∈ news.map (·.1)) ∧ Keeps s₂ s₃) E' s₂) ∧
      (∀ C v u s₂ m₂ (E' : Value → Shared → Prop), v ∈ xs → u ∈ ys → Fr h₀ C s₂.heap m₂ → News h₀ C s₂.heap news → m₂ x = some v → m₂ y = some u →
        wpAny (model prog w) A (eval elt (compEnvC scope cl C env)) (fun r s₃ => F v u r ∧ Keeps s₂ s₃) E' s₂) ∧
      (∀ D h' tk rs k, Fr h₀ L h' m → News h₀ L h' ((D, listOf rs.toArray k) :: news) → AllNe D news → Paired (fun p r => F p.1 p.2 r) (xs.flatMap fun v => ys.map fun u => (v, u)) rs → Q (.ref D) { s₁ with heap := h', toks := tk })) E s)
    (hs : ∀ z, foldedSetIterable i1 env z = pure z := by intro _; rfl) (hs2 : ∀ C z, foldedSetIterable i2 (compEnvC scope cl C env) z = pure z := by intro _ _; rfl) :
    wpAny (model prog w) A (eval (LC2 elt i1 i2 x y px py scope pos) env) Q E s := by
  refine listComp2 hh hclos hcell hkind hnames hx hy hxy (wpAny_mono h (fun xv s₁ h₁ => ?_) fun _ _ e => e) hs hs2
  obtain ⟨l, xs, ys, F, m, news, rfl, F₁, N, hl, hsz, hsrc, helt, hQ⟩ := h₁
  have inner : ∀ {C : Addr} {s₃ : Shared} {m₃ : Str → Option Value}, s₁.heap.objs.size ≤ C → s₃.heap.Ns C m₃ → (∀ b o, s₁.heap.get? b = some o → s₃.heap.get? b = some o) → Fr h₀ C s₃.heap m₃ ∧ News h₀ C s₃.heap news := by
    intro C s₃ m₃ hC hn hk
    refine ⟨⟨hn, fun b o e => hk b o (F₁.keep b o e), ?_⟩, fun q hq => ⟨hk _ _ (N q hq).1, ?_, (N q hq).2.2⟩⟩
    · exact Nat.le_trans F₁.above (Nat.le_of_lt (Nat.lt_of_lt_of_le F₁.ns.lt hC))
    · exact Nat.ne_of_lt (Nat.lt_of_lt_of_le (Heap.lt_size (N q hq).1) hC)
  refine ⟨l, xs, ys, F, rfl, hl, hsz, ?_, ?_, ?_⟩
  · intro C s₂ m₂ E' hC hn hk
    obtain ⟨F₂, N₂⟩ := inner hC hn hk
    refine wpAny_mono (hsrc C s₂ m₂ E' F₂ N₂) (fun z s₃ h₃ => ?_) fun _ _ e => e
    obtain ⟨az, rfl, q1, q2, q3⟩ := h₃
    refine ⟨az, rfl, q1, q2.imp id (fun q => ?_), q3⟩
    obtain ⟨p, hp, rfl⟩ := List.mem_map.mp q
    rw [(N p hp).1]; simp
  · intro C v u s₂ m₂ E' hC hv hu hn hx₂ hy₂ hk
    obtain ⟨F₂, N₂⟩ := inner hC hn hk
    exact helt C v u s₂ m₂ E' hv hu F₂ N₂ hx₂ hy₂
  · intro D h' tk rs hD hpl hF keep
    obtain ⟨k, hk2⟩ := hpl
    refine hQ D h' tk rs k ⟨F₁.ns.keeps keep, fun b o e => keep b o (F₁.keep b o e), F₁.above⟩ (fun q hq => ?_) (allNe_of fun q hq e => ?_) hF
    · rcases List.mem_cons.mp hq with rfl | hq
      · refine ⟨by simpa [PySem.W.listOf] using hk2, ?_, ?_⟩
        · rintro rfl
          obtain ⟨oL, _, _, ho, _⟩ := F₁.ns
          rw [hD] at ho; cases ho
        · cases hz : h₀.get? D with
          | none => rfl
          | some o => have := F₁.keep D o hz; rw [hD] at this; cases this
      · exact ⟨keep _ _ (N q hq).1, (N q hq).2⟩
    · have := (N q hq).1
      rw [e, hD] at this; cases this
/-- a comprehension with two clauses over lists, stored under a name of the frame -/
theorem comp_two_assign {i1 i2 : Expr} {y z : Str} {py pz spos : Pos} {m₀ : Str → Option Value} {Q : Flow → Shared → Prop} (_F₀ : Fr h₀ L s.heap m₀)
    (hsw : swapsWith (LC2 elt i1 i2 x y px py scope pos) (some (.Name z pz)) spos.line env = pure true) (hL : env.locals = L)
    (hh : A.handled = none) (hclos : closureFor scope env = pure cl) (hcell : ∀ y ∈ scope.names, y.2 ≠ .cell) (hkind : scope.kind = .function)
    (hnames : ∀ y ∈ scope.names, y.2 = .local → scope.names.lookup y.1 = some .local) (hx : scope.names.lookup x = some .local) (hy : scope.names.lookup y = some .local) (hxy : x ≠ y)
    (hz : env.kindOf z = some .local) (hp : (env.scope.kind == .class || (env.scope.kind == .module && env.locals != env.globals)) = false)
    (h : wpAny (model prog w) A (eval i1 env) (fun xv s₁ => ∃ (l : Addr) (xs ys : List Value) (F : Value → Value → Value → Prop) (m : Str → Option Value) (news : List (Addr × Obj)), xv = .ref l ∧ Fr h₀ L s₁.heap m ∧ News h₀ L s₁.heap news ∧ s₁.heap.IsList l xs.toArray ∧
      (xs.flatMap fun v => ys.map fun u => (v, u)).length + ys.length ≤ sizeLine ∧
      (∀ C s₂ m₂ (E' : Value → Shared → Prop), Fr h₀ C s₂.heap m₂ → News h₀ C s₂.heap news →
        wpAny (model prog w) A (eval i2 (compEnvC scope cl C env)) (fun z s₃ => ∃ az, z = .ref az ∧ s₃.heap.IsList az ys.toArray ∧ (s₂.heap.get? az = none ∨ az ∈ news.map (·.1)) ∧ Keeps s₂ s₃) E' s₂) ∧
      (∀ C v u s₂ m₂ (E' : Value → Shared → Prop), v ∈ xs → u ∈ ys → Fr h₀ C s₂.heap m₂ → News h₀ C s₂.heap news → m₂ x = some v → m₂ y = some u →
        wpAny (model prog w) A (eval elt (compEnvC scope cl C env)) (fun r s₃ => F v u r ∧ Keeps s₂ s₃) E' s₂) ∧
      (∀ D h' tk rs k, Fr h₀ L h' (fun u => if u = z then some (.ref D) else m u) → News h₀ L h' ((D, listOf rs.toArray k) :: news) → AllNe D news → Paired (fun p r => F p.1 p.2 r) (xs.flatMap fun v => ys.map fun u => (v, u)) rs → Q .next { s₁ with heap := h', toks := tk })) E s)
    (hs : ∀ z, foldedSetIterable i1 env z = pure z := by intro _; rfl) (hs2 : ∀ C z, foldedSetIterable i2 (compEnvC scope cl C env) z = pure z := by intro _ _; rfl) :
    wpAny (model prog w) A (exec (.Assign [.Name z pz] (LC2 elt i1 i2 x y px py scope pos) spos) env) Q E s := by
  refine assignComp2 hsw hh hclos hcell hkind hnames hx hy hxy hz hp (wpAny_mono h (fun xv s₁ h₁ => ?_) fun _ _ e => e) hs hs2
  obtain ⟨l, xs, ys, F, m, news, rfl, F₁, N, hl, hsz, hsrc, helt, hQ⟩ := h₁
  have inner : ∀ {C : Addr} {s₃ : Shared} {m₃ : Str → Option Value}, s₁.heap.objs.size ≤ C → s₃.heap.Ns C m₃ → (∀ b o, s₁.heap.get? b = some o → s₃.heap.get? b = some o) → Fr h₀ C s₃.heap m₃ ∧ News h₀ C s₃.heap news := by
    intro C s₃ m₃ hC hn hk
    refine ⟨⟨hn, fun b o e => hk b o (F₁.keep b o e), ?_⟩, fun q hq => ⟨hk _ _ (N q hq).1, ?_, (N q hq).2.2⟩⟩
    · exact Nat.le_trans F₁.above (Nat.le_of_lt (Nat.lt_of_lt_of_le F₁.ns.lt hC))
    · exact Nat.ne_of_lt (Nat.lt_of_lt_of_le (Heap.lt_size (N q hq).1) hC)
  refine ⟨l, xs, ys, F, m, rfl, hl, by rw [hL]; exact F₁.ns, hsz, ?_, ?_, ?_⟩
  · intro C s₂ m₂ E' hC hn hk
    obtain ⟨F₂, N₂⟩ := inner hC hn hk
    refine wpAny_mono (hsrc C s₂ m₂ E' F₂ N₂) (fun z s₃ h₃ => ?_) fun _ _ e => e
    obtain ⟨az, rfl, q1, q2, q3⟩ := h₃
    refine ⟨az, rfl, q1, q2.imp id (fun q => ?_), q3⟩
    obtain ⟨p, hp, rfl⟩ := List.mem_map.mp q
    rw [(N p hp).1]; simp
  · intro C v u s₂ m₂ E' hC hv hu hn hx₂ hy₂ hk
    obtain ⟨F₂, N₂⟩ := inner hC hn hk
    exact helt C v u s₂ m₂ E' hv hu F₂ N₂ hx₂ hy₂
  · intro D h' tk rs hD hpl hF hns keep
    rw [hL] at hns keep
    obtain ⟨k, hk2⟩ := hpl
    have hDL : D ≠ L := by
      rintro rfl
      obtain ⟨oL, _, _, ho, _⟩ := F₁.ns
      rw [hD] at ho; cases ho
    refine hQ D h' tk rs k ⟨hns, fun b o e => keep b o (Nat.ne_of_lt (Nat.lt_of_lt_of_le (Heap.lt_size e) F₁.above)) (F₁.keep b o e), F₁.above⟩ (fun q hq => ?_) (allNe_of fun q hq e => ?_) hF
    · rcases List.mem_cons.mp hq with rfl | hq
      · refine ⟨by simpa [PySem.W.listOf] using hk2, hDL, ?_⟩
        cases hz : h₀.get? D with
        | none => rfl
        | some o => have := F₁.keep D o hz; rw [hD] at this; cases this
      · exact ⟨keep _ _ (N q hq).2.1 (N q hq).1, (N q hq).2⟩
    · have := (N q hq).1
      rw [e, hD] at this; cases this
end
end Mine
end

section
open PySem PySem.W PyProof.Rows
set_option maxHeartbeats 8000000
namespace Mine
/-- the heap has grown; of the frame at L its slots alone may be others -/
structure ExtL (L : Addr) (h h' : Heap) : Prop where
  keep : ∀ b o, b ≠ L → h.get? b = some o → h'.get? b = some o
  ns : ∀ m, h.Ns L m → h'.Ns L m
theorem Ext.toL {L : Addr} {h h' : Heap} (x : Ext h h') : ExtL L h h' := ⟨fun b o _ e => x b o e, fun _ n => n.keeps x⟩
theorem ExtL.fr {h₀ h h' : Heap} {L : Addr} {m : Str → Option Value} (x : ExtL L h h') (F : Fr h₀ L h m) : Fr h₀ L h' m :=
  ⟨x.ns _ F.ns, fun b o e => x.keep b o (Nat.ne_of_lt (Nat.lt_of_lt_of_le (Heap.lt_size e) F.above)) (F.keep b o e), F.above⟩
theorem ExtL.news {h₀ h h' : Heap} {L : Addr} {news : List (Addr × Obj)} (x : ExtL L h h') (N : News h₀ L h news) : News h₀ L h' news := fun p hp => ⟨x.keep _ _ (N p hp).2.1 (N p hp).1, (N p hp).2⟩
noncomputable def tupObj (z : Addr) (txt : Str) (tt : Tok) : Obj := { cls := .type "tuple", data := .seq #[.ref z, .str txt tt] }
/-- what is handed back by _law_walk -/
noncomputable def WalkRet (L : Addr) (s : Shared) (Q : Value → Shared → Prop) (txt : Str) (sizes : List Int) : Prop :=
  ∀ (s' : Shared) (h' : Heap) (tk : Nat) (p z : Addr) (tt : Tok) (vz : Array Value) (nz : Nat), s'.drawn = s.drawn → s'.os = s.os → AllBare s'.gens → ExtL L s.heap h' → s.heap.get? p = none → s.heap.get? z = none → z ≠ p →
    h'.get? p = some (tupObj z txt tt) → h'.get? z = some (W.listOf vz nz) → IntsAre vz.toList sizes → Q (.ref p) { s' with heap := h', toks := tk }
end Mine
end

section
open PySem PySem.W PyProof.Rows PySem.Calls
set_option maxHeartbeats 4000000
namespace Mine
section
variable {prog : Program} {w : World} {A : Around} {E : Value → Shared → Prop} {s : Shared}
noncomputable def genObj (g : Nat) (nm qn : Value) : Obj := { cls := .type "generator", data := .fields #[.int g 0, nm, qn] }
/-- a call of a generator function -/
theorem enterG {K : Frag} {name qual : Str} {params : Arguments} {body : List Stmt} {scope : Scope} {dV kV doc pm cdv ct oc : Value} {an od : Option Addr} {osl : Array (Option Value)} {f : Addr} {args : List Value} {binds : List (Str × Value)} {Q : Value → Shared → Prop}
    (X : K.In s.heap) (hlim : s.heap.NoLimit) (ho : K.lookup f = some ⟨oc, od, .func (fnOf name qual params body scope dV kV doc pm an cdv ct), osl⟩) (hcd : codeIn K cdv qual = true) (hroom : A.depth < recursionLimit)
    (hbind : BindsTo s (fnOf name qual params body scope dV kV doc pm an cdv ct) ⟨args, []⟩ binds) (hloc : ∀ y ∈ binds, scope.names.lookup y.1 = some .local)
    (hcell : ∀ x ∈ scope.names, x.2 ≠ .cell) (hco : scope.isCoroutine = false) (hgen : scope.isGenerator = true) (hk : scope.kind = .function)
    (h : ∀ h₁ L tk nm qn, Fr s.heap L h₁ (fun y => binds.reverse.lookup y) → Q (.ref h₁.objs.size) { s with heap := h₁.push (genObj s.gens.size nm qn), gens := s.gens.push (.fresh (.func body (envOf qual scope L f cdv))), toks := tk }) :
    wpAny (model prog w) A (call (.ref f) args) Q E s := by
  refine wpAny_call ?_
  refine codeAny_call_generator hroom (X _ _ ho) rfl hco hgen rfl (codeRec_of X hcd) (hbind _ _ _ _ ?_)
  refine wpAny_newFunctionEnv hcell hloc (fun h' hn' hs' => ?_) hk
  have keep : ∀ b o, s.heap.get? b = some o → h'.get? b = some o := fun b o e => hs'.extBut b o (Nat.ne_of_lt (Heap.lt_size e)) (Heap.get?_push_of_some _ e)
  exact ⟨hlim.keeps keep, h h' _ _ _ _ ⟨hn', keep, Nat.le_refl _⟩⟩
theorem isSub_stop (T : String) (h : isSubtype (.type T) (.type "StopIteration") = pure false) : isSubtype (.type T) (.type "StopIteration") = pure false := h
theorem sub_VE : isSubtype (.type "ValueError") (.type "StopIteration") = pure false := by rw [isSubtype_type]; kernel_rfl
theorem isGen_at {h : Heap} {a : Addr} {g : Nat} {nm qn : Value} (hg : h.get? a = some (genObj g nm qn)) : h.IsGen a g := ⟨_, nm, qn, hg, rfl, rfl, rfl⟩
/-- the first turn of a generator that raises a ValueError -/
theorem pyNext_raises {a g : Nat} {nm qn : Value} {body : List Stmt} {env : Env} {P : Addr → Shared → Prop} {Q : Option Value → Shared → Prop} (hl : s.heap.NoLimit) (hroom : A.depth < recursionLimit)
    (hg : s.heap.get? a = some (genObj g nm qn)) (hgs : s.gens[g]? = some (.fresh (.func body env)))
    (hgo : wpAny (model prog w) (A.in1.over (.func body env) []) ((execs body env).onRaise (leaving env)) (fun _ _ => False) (fun x s₁ => ∃ e, x = .ref e ∧ P e s₁) (s.setGen g .running))
    (hP : ∀ e s₁, P e s₁ → (∃ ob, s₁.heap.get? e = some ob ∧ ob.cls = .type "ValueError") ∧ s₁.heap.get? a = some (genObj g nm qn) ∧ E (.ref e) (s₁.setGen g .finished)) :
    wpAny (model prog w) A (pyNext (.ref a)) Q E s := by
  have hgen := isGen_at hg
  unfold pyNext
  refine wpAny_bind (wpAny_attempt (wpAny_callSpecial?_slot (name := Str.ofString "__next__") hgen.typeIs slot_gen_next
    (wpAny_call_entry slot_gen_next hgen.typeIs entry_gen_next ?_ (args_gen_next _))))
  show wpAny _ _ (Builtin.Generator.genWake (.ref a) (.send .none)) _ _ s
  unfold Builtin.Generator.genWake
  refine wpAny_bind (wpAny_holding (wpAny_genNumber hgen (wpAny_bind (wpAny_genState hgs ?_))))
  refine wpAny_bind (wpAny_roomToWake hl hroom ?_)
  show wpAny _ _ (.resume g (.send .none) [] _) _ _ s
  refine wpAny_resume (n := 0) (R := fun _ _ r s₁ => ∃ e, r = .error (.ref e) ∧ P e s₁) (Y := fun _ _ _ _ _ => False) hgs ⟨rfl, ?_⟩ (fun x s₁ hx => ?_) (fun v s₁ gs' hv => hv.elim)
  · show Seg _ _ _ _ _ _ _ (do point; match ← (execs body env).onRaise (leaving env) with | .ret v => ret v | _ => ret .none) _ _
    refine seg_bind (wpAny_point ?_)
    refine seg_bind (wpAny_mono hgo (fun _ _ q => q.elim) fun x s₁ hx => ?_)
    obtain ⟨e, rfl, hp⟩ := hx
    exact seg_end (.error (.ref e)) ⟨e, rfl, hp⟩
  · obtain ⟨e, rfl, hp⟩ := hx
    obtain ⟨⟨ob, hob, hcls⟩, hga, hE⟩ := hP e s₁ hp
    have hT : (s₁.setGen g .finished).TypeIs (.ref e) "ValueError" := ⟨ob, hob, hcls⟩
    show wpAny _ _ (Builtin.Generator.genLeft (.ref a) (.ref e)) _ _ _
    unfold Builtin.Generator.genLeft Builtin.Generator.madeByALambda
    refine wpAny_bind (wpAny_bind (wpAny_load (s := s₁.setGen g .finished) hga (wpAny_pure ?_)))
    refine wpAny_bind (wpAny_isInstance hT sub_VE ?_)
    show wpAny _ _ (Builtin.Generator.genEscaped (.ref e)) _ _ _
    unfold Builtin.Generator.genEscaped
    refine wpAny_bind (wpAny_isInstance hT sub_VE ?_)
    show wpAny _ _ (throw (Value.ref e) : Sem Fin) _ _ _
    refine wpAny_throw ?_
    refine wpAny_bind (wpAny_isInstance hT sub_VE ?_)
    show wpAny _ _ (throw (Value.ref e) : Sem (Option Value)) _ _ _
    exact wpAny_throw hE
end
end Mine
end

section
open PySem PySem.W PyProof.Rows PySem.Calls
set_option maxHeartbeats 8000000
namespace Mine
section
variable {M : Model} {A : Around} {R : GenEnd} {Y : Protocol} {n : Nat} {s₀ : Shared} {c : Code} {fs : List Frame} {s : Shared} {env : Env}
  {K : Flow → Sem Fin} {H : Value → Sem Fin} {gd : Bool → Bool} {lv : List Value → List Value}
/-- what stands behind a loop that runs as a code of its own -/
noncomputable def ownRet (env : Env) (K : Flow → Sem Fin) (H : Value → Sem Fin) (gd : Bool → Bool) (lv : List Value → List Value) : Result → Sem Fin := fun r =>
  ((match r with | .ok f => (.pure f : Sem Flow) | .error e => .raise e).onRaise fun (x : Value) => do
    if (← field x 1) == Value.none then unsupported "frame.own-activation:exception-without-traceback"
    setFlight x env.frame).wrap K H gd lv
theorem ownRet_ok (f : Flow) : ownRet env K H gd lv (.ok f) = K f := rfl
noncomputable abbrev ownFrame (env : Env) (K : Flow → Sem Fin) (H : Value → Sem Fin) (gd : Bool → Bool) (lv : List Value → List Value) (c : Code) (p : Pos) : Frame := .ret (ownRet env K H gd lv) none (gd false) (lv []) c p []
theorem seg_own {c' : Code} (h : ∀ p, Seg M A R Y n s₀ c' (M.den c') (ownFrame env K H gd lv c p :: fs) s) : Seg M A R Y n s₀ c ((runOwn c' env).wrap K H gd lv) fs s := seg_call h
theorem seg_For {target iter : Expr} {body orelse : List Stmt} {pos : Pos}
    (h : wpAny M (A.over c fs) (eval iter env) (fun x s₁ => wpAny M (A.over c fs) (pyIter x) (fun it s₂ => ∀ p,
      Seg M A R Y n s₀ (.forLoop target it body orelse env) (M.den (.forLoop target it body orelse env)) (ownFrame env K H gd lv c p :: fs) s₂) (fun _ _ => False) s₁) (fun _ _ => False) s)
    (hs : ∀ x, foldedSetIterable iter env x = pure x := by intro _; rfl) : Seg M A R Y n s₀ c ((exec (.For target iter body orelse pos) env).wrap K H gd lv) fs s := by
  rw [exec_For]
  refine seg_bind_wrap (wpAny_standAt (seg_bind_wrap (wpAny_mono h (fun x s₁ h₁ => ?_) fun _ _ q => q.elim)))
  refine seg_bind_wrap (wpAny_of_eq (hs x) (seg_bind_wrap (wpAny_standAt (seg_bind_wrap (wpAny_holding (wpAny_mono h₁ (fun it s₂ h₂ => ?_) fun _ _ q => q.elim))))))
  exact seg_own h₂
theorem seg_If {test : Expr} {body orelse : List Stmt} {pos : Pos}
    (h : wpAny M (A.over c fs) (isTrue test env (eval test env)) (fun b s₁ => if b = true then Seg M A R Y n s₀ c ((execs body env).wrap K H gd lv) fs s₁ else Seg M A R Y n s₀ c ((execs orelse env).wrap K H gd lv) fs s₁) (fun _ _ => False) s) :
    Seg M A R Y n s₀ c ((exec (.If test body orelse pos) env).wrap K H gd lv) fs s := by
  rw [exec_If]
  refine seg_bind_wrap (wpAny_standAt (seg_bind_wrap (wpAny_mono h (fun b s₁ h₁ => ?_) fun _ _ q => q.elim)))
  cases b <;> exact h₁
/-- a statement with no yield in it -/
theorem seg_plain {st : Stmt} (h : wpAny M (A.over c fs) (exec st env) (fun f s₁ => Seg M A R Y n s₀ c (K f) fs s₁) (fun _ _ => False) s) : Seg M A R Y n s₀ c ((exec st env).wrap K H gd lv) fs s :=
  seg_wrap (wpAny_mono h (fun _ _ q => q) fun _ _ q => q.elim)
theorem seg_While' {test : Expr} {body orelse : List Stmt} {pos : Pos}
    (h : ∀ p, Seg M A R Y n s₀ (.whileLoop test body orelse env) (M.den (.whileLoop test body orelse env)) (ownFrame env K H gd lv c p :: fs) s) : Seg M A R Y n s₀ c ((exec (.While test body orelse pos) env).wrap K H gd lv) fs s := seg_While h
end
section
variable {prog : Program} {w : World} {A : Around} {R : GenEnd} {Y : Protocol} {n : Nat} {s₀ : Shared} {fs : List Frame} {s : Shared} {env : Env}
noncomputable abbrev loopK (c : Code) : Flow → Sem Fin := fun f => match f with
  | .next | .cont => .pure (.again c)
  | .brk => .pure (.done .next)
  | .ret v => .pure (.done (.ret v))
noncomputable abbrev loopH (env : Env) : Value → Sem Fin := fun e => (do noteFrame e env; theTreesLotGoes e : Sem Unit).wrap (fun _ => .raise e) .raise id id
theorem seg_forLoop {target : Expr} {it : Value} {body : List Stmt}
    (h : wpAny (model prog w) (A.over (.forLoop target it body [] env) fs) (pyNext it) (fun r s₁ => match r with
      | none => Seg (model prog w) A R Y n s₀ (.block [] env) (.pure (.done .next)) fs s₁
      | some v => wpAny (model prog w) (A.over (.forLoop target it body [] env) fs) (assign target env v) (fun _ s₂ =>
          Seg (model prog w) A R Y n s₀ (.forLoop target it body [] env) ((execs body env).wrap (loopK (.forLoop target it body [] env)) (loopH env) id id) fs s₂) (fun _ _ => False) s₁) (fun _ _ => False) s)
    (ht : ∀ v, letOwnedTupleGo target it v = pure () := by intro _; rfl) :
    Seg (model prog w) A R Y n s₀ (.forLoop target it body [] env) ((model prog w).den (.forLoop target it body [] env)) fs s := by
  show Seg _ A R Y n s₀ _ ((forTurn target it body [] env).onRaise (fun x => do noteFrame x env; theTreesLotGoes x)) fs s
  unfold forTurn
  rw [Sem.onRaise_eq_wrap]
  refine seg_bind_wrap (wpAny_standAt (seg_bind_wrap (wpAny_onRaise (wpAny_mono h (fun r s₁ h₁ => ?_) fun _ _ q => q.elim))))
  cases r with
  | none =>
    refine seg_again rfl ?_
    show Seg _ A R Y n s₀ _ (do return Fin.done (← (execs [] env).onRaise (fun x => do noteFrame x env; theTreesLotGoes x))) fs s₁
    exact seg_bind (wpAny_noted (wpAny_execs_nil h₁))
  | some v =>
    refine seg_bind_wrap (wpAny_of_eq (ht v) (seg_bind_wrap (wpAny_mono h₁ (fun _ s₂ h₂ => ?_) fun _ _ q => q.elim)))
    rw [Sem.bind_eq_wrap', Sem.wrap_wrap]
    rw [Sem.wrap_congr (execs body env) _ _ (K' := loopK (.forLoop target it body [] env)) (H' := loopH env) (fun f => by cases f <;> rfl)
      (fun e => by first | exact Sem.bind_eq_wrap _ _ | (show (do noteFrame e env; theTreesLotGoes e : Sem Unit).bind (fun _ => .raise e) = _; rw [Sem.bind_eq_wrap]))]
    exact h₂
/-- the generator's while True -/
theorem seg_whileTrue {test : Expr} {body : List Stmt}
    (h : wpAny (model prog w) (A.over (.whileLoop test body [] env) fs) (isTrue test env (eval test env)) (fun b s' => b = true ∧
          Seg (model prog w) A R Y n s₀ (.whileLoop test body [] env) ((execs body env).wrap (loopK (.whileLoop test body [] env)) (loopH env) id id) fs s') (fun _ _ => False) s) :
    Seg (model prog w) A R Y n s₀ (.whileLoop test body [] env) ((model prog w).den (.whileLoop test body [] env)) fs s :=
  seg_whileLoop (wpAny_mono h (fun b s' hb => by rw [if_pos hb.1]; exact hb.2) fun _ _ q => q.elim)
/-- control comes back from a loop of its own -/
theorem seg_back {c c' : Code} {p : Pos} {K : Flow → Sem Fin} {H : Value → Sem Fin} {gd : Bool → Bool} {lv : List Value → List Value} {f : Flow} {en : Env} (h : Seg (model prog w) A R Y n s₀ c (K f) fs s) :
    Seg (model prog w) A R Y n s₀ c' (.pure (.done f)) (ownFrame en K H gd lv c p :: fs) s := seg_leaf (.ok f) (by rw [ownRet_ok]; exact h)
end
end Mine
end

section
open PySem PySem.W PyProof.Rows PySem.Calls
set_option maxHeartbeats 8000000
namespace Mine
section
variable {prog : Program} {w : World} {A : Around} {E : Value → Shared → Prop} {s : Shared}
/-- a turn of a generator function's generator -/
theorem pyNext_turn {a g n : Nat} {gs : GenState} {P : Nat → Shared → Shared → Prop} {Y : Protocol} {Q : Option Value → Shared → Prop} (hh : A.handled = none) (hl : s.heap.NoLimit) (hroom : A.depth < recursionLimit)
    (hg : s.heap.IsGen a g) (hgs : s.gens[g]? = some gs)
    (hgo : gs.Goes (model prog w) A.in1 (fun n s₀ r s₁ => r = .ok (.ret .none) ∧ P n s₀ s₁) Y n (.send .none) (s.setGen g .running))
    (hY : ∀ v s₁ gs', gs'.bare = true → Y (n - 1) (s.setGen g .running) v s₁ (fun r' s'' => match n with
        | 0 => False
        | m + 1 => gs'.Goes (model prog w) A.in1 (fun n s₀ r s₁ => r = .ok (.ret .none) ∧ P n s₀ s₁) Y m r' s'') → Q (some v) (s₁.setGen g gs'))
    (hP : ∀ s₁, P n (s.setGen g .running) s₁ → ∀ h', (∀ b o, s₁.heap.get? b = some o → h'.get? b = some o) → Q none { s₁.setGen g .finished with heap := h' }) :
    wpAny (model prog w) A (pyNext (.ref a)) Q E s := by
  have go : wpAny (model prog w) A.in1 (Builtin.Generator.genWake (.ref a) (.send .none)) (fun f s' => ∃ v, f = .done (.ret v) ∧ Q (some v) s') (fun x s' => (s'.TypeIs x "StopIteration") ∧ Q none s') s := by
    unfold Builtin.Generator.genWake
    refine wpAny_bind (wpAny_holding (wpAny_genNumber hg (wpAny_bind (wpAny_genState hgs ?_))))
    cases gs with
    | running => exact hgo.elim
    | finished => exact hgo.elim
    | _ =>
      refine wpAny_bind (wpAny_roomToWake hl hroom ?_)
      show wpAny _ _ (.resume g (.send .none) [] _) _ _ s
      refine wpAny_resumeQ hgs hgo (fun x s₁ hx => ?_) (fun v s₁ gs' hb hv => wpAny_pure ⟨v, rfl, hY v s₁ gs' hb hv⟩)
      obtain ⟨rfl, hp⟩ := hx
      show wpAny _ _ (newExc (.type "StopIteration") [] >>= _) _ _ _
      refine wpAny_bind ?_
      simp only [newExc, newTuple]
      refine wpAny_bind (wpAny_newObj_type ?_ (by size_fits))
      refine wpAny_bind (m := firstArgMember _ _) (wpAny_of_eq (a := Value.none) (by first | rfl | (simp only [firstArgMember]; rfl)) ?_)
      refine wpAny_newObj_type ?_ (by size_fits)
      simp only [raiseNew]
      refine wpAny_bind (wpAny_bind (wpAny_handled ?_))
      rw [show A.in1.handled = none from hh]
      exact wpAny_throw ⟨⟨_, Heap.get?_push_size _ rfl, rfl⟩, hP s₁ hp _ fun b o hb => Heap.get?_push_of_some _ (Heap.get?_push_of_some _ hb)⟩
  unfold pyNext
  refine wpAny_bind (wpAny_attempt (wpAny_callSpecial?_slot (name := Str.ofString "__next__") hg.typeIs slot_gen_next
    (wpAny_call_entry slot_gen_next hg.typeIs entry_gen_next ?_ (args_gen_next _))))
  refine wpAny_mono go (fun f s' q => ?_) fun x s' q => ?_
  · obtain ⟨v, rfl, q⟩ := q
    exact ⟨v, rfl, wpAny_pure q⟩
  · exact wpAny_bind (wpAny_isInstance (T := "StopIteration") (b := true) q.1 isSubtype_stop (wpAny_pure q.2))
end
/-- the first n places of a heap -/
noncomputable def low (h : Heap) (n : Nat) : Heap := { h with objs := h.objs.extract 0 n }
theorem low_get {h : Heap} {n b : Nat} (hb : b < n) : (low h n).get? b = h.get? b := by
  unfold low Heap.get?
  simp only [Array.getElem?_extract]
  by_cases hs : b < h.objs.size
  · rw [if_pos (by omega), Nat.zero_add]
  · rw [if_neg (by omega), Array.getElem?_eq_none (by omega)]
theorem low_none {h : Heap} {n b : Nat} (hb : n ≤ b) : (low h n).get? b = none := by
  unfold low Heap.get?
  simp only [Array.getElem?_extract]
  rw [if_neg (by omega)]
theorem low_lt {h : Heap} {n b : Nat} {o : Obj} (e : (low h n).get? b = some o) : b < n := by
  rcases Nat.lt_or_ge b n with q | q
  · exact q
  · rw [low_none q] at e; cases e
theorem low_size (h : Heap) (n : Nat) : (low h n).objs.size ≤ n := by unfold low; simp; omega
/-- what is left of the row, the last size, how many sizes are still to come -/
inductive Plan (Z : Nat → Int) (fin : Bool) : List Int → Option Int → Nat → Prop
  | done {l} (h : fin = true) : Plan Z fin [] l 0
  | stop {xs l} (h : fin = true) : Plan Z fin (127 :: xs) l 0
  | pos {x xs l n} (h1 : 1 ≤ x) (h2 : x ≤ 5) (hz : Z n = x) (h : Plan Z fin xs (some x) n) : Plan Z fin (x :: xs) l (n + 1)
  | zero {y xs n} (h : fin = false) (hz : ∀ k, k < n + 1 → Z k = y) : Plan Z fin (0 :: xs) (some y) (n + 1)
noncomputable def GKeep (L₃ ga : Addr) (s₀ s : Shared) : Prop := (∃ h tk, s = { s₀ with heap := h, toks := tk }) ∧ ∀ b o, (b < L₃ ∨ b = ga) → s₀.heap.get? b = some o → s.heap.get? b = some o
theorem GKeep.refl (L₃ ga : Addr) (s : Shared) : GKeep L₃ ga s s := ⟨⟨_, _, rfl⟩, fun _ _ _ e => e⟩
/-- where the generator may go on -/
noncomputable def GAgain (h₀ : Heap) (ga : Addr) (go : Obj) (ws : List (Addr × Obj)) (s : Shared) : Prop := (∀ p ∈ ws, s.heap.get? p.1 = some p.2) ∧ s.heap.get? ga = some go ∧ ∀ b o, h₀.get? b = some o → s.heap.get? b = some o
noncomputable def GY (h₀ : Heap) (L₃ ga : Addr) (go : Obj) (Z : Nat → Int) (fin : Bool) : Protocol := fun m s₀ v s kap =>
  (∃ t, v = .int (Z m) t) ∧ GKeep L₃ ga s₀ s ∧ ((fin = true ∨ 0 < m) → ∃ ws : List (Addr × Obj), (∀ p ∈ ws, L₃ ≤ p.1 ∧ p.1 ≠ ga ∧ s.heap.get? p.1 = some p.2) ∧ ∀ s'', GAgain h₀ ga go ws s'' → kap (.send .none) s'')
theorem plan_loop {M : Model} {A : Around} {R : GenEnd} {Y : Protocol} {C : Code} {fs : List Frame} {Z : Nat → Int} {fin : Bool} {J : List Int → Option Int → Shared → Shared → Prop}
    (stop : ∀ rest last s₀ s, (rest = [] ∨ ∃ xs, rest = 127 :: xs) → fin = true → J rest last s₀ s → Seg M A R Y 0 s₀ C (M.den C) fs s)
    (pos : ∀ x xs last n s₀ s, 1 ≤ x → x ≤ 5 → Z n = x → J (x :: xs) last s₀ s → (fin = true ∨ 0 < n → ∀ s₀' s', J xs (some x) s₀' s' → Seg M A R Y n s₀' C (M.den C) fs s') → Seg M A R Y (n + 1) s₀ C (M.den C) fs s)
    (zero : ∀ y xs n s₀ s, fin = false → (∀ k, k < n + 1 → Z k = y) → J (0 :: xs) (some y) s₀ s → Seg M A R Y (n + 1) s₀ C (M.den C) fs s) :
    ∀ {rest last n}, Plan Z fin rest last n → ∀ {s₀ s}, J rest last s₀ s → Seg M A R Y n s₀ C (M.den C) fs s := by
  intro rest last n p
  induction p with
  | done h => exact fun j => stop _ _ _ _ (.inl rfl) h j
  | stop h => exact fun j => stop _ _ _ _ (.inr ⟨_, rfl⟩) h j
  | pos h1 h2 hz _ ih => exact fun j => pos _ _ _ _ _ _ h1 h2 hz j fun _ _ _ j' => ih j'
  | zero h hz => exact fun j => zero _ _ _ _ _ h hz j
/-- the generator's locals -/
noncomputable abbrev gm (r : Addr) (ci : Option Value) (lv : Value) : Str → Option Value := fun y => if y = Str.ofString "interval" then ci else if y = Str.ofString "last_interval" then some lv else List.lookup y [(Str.ofString "grouping", Value.ref r)].reverse
theorem gm_item {r : Addr} {ci : Option Value} {lv v : Value} : (fun y => if y = Str.ofString "interval" then some v else gm r ci lv y) = gm r (some v) lv := by
  funext y
  by_cases h : y = Str.ofString "interval" <;> simp [gm, h]
theorem gm_last {r : Addr} {ci : Option Value} {lv v : Value} : (fun y => if y = Str.ofString "last_interval" then some v else gm r ci lv y) = gm r ci v := by
  funext y
  by_cases h : y = Str.ofString "last_interval"
  · subst h
    have e : Str.ofString "last_interval" ≠ Str.ofString "interval" := by decide
    simp [gm, e]
  · simp [gm, h]
theorem gm_first {r : Addr} {v : Value} : (fun y => if y = Str.ofString "last_interval" then some v else List.lookup y [(Str.ofString "grouping", Value.ref r)].reverse) = gm r none v := by
  funext y
  by_cases h : y = Str.ofString "interval"
  · subst h
    have e : Str.ofString "interval" ≠ Str.ofString "last_interval" := by decide
    have e' : List.lookup (Str.ofString "interval") [(Str.ofString "grouping", Value.ref r)].reverse = none := rfl
    simp only [gm, if_neg e, e', if_true]
  · simp [gm, h]
/-- the generator's own things at the head of its loop -/
structure GenJ (w : World) (mean : ExcName → Option Value) (mg mb : Str → Option Value) (L₃ I r ga : Addr) (go : Obj) (its : Array Value) (rest : List Int) (last : Option Int) (s₀ s : Shared) : Prop where
  keep : GKeep L₃ ga s₀ s
  gen : s₀.heap.get? ga = some go
  more : ∃ B ci lv it i, Fr B L₃ s.heap (gm r ci lv) ∧ News B L₃ s.heap [(I, it), (ga, go)] ∧ (∀ b o, b < L₃ → s₀.heap.get? b = some o → B.get? b = some o) ∧ (Mine.hd.heap_1 w.params).In B ∧ TopX mean mg mb B ∧ B.IsList r its ∧
    s.heap.IsListIter I r i ∧ IntsAre (its.toList.drop i) rest ∧ (∀ y, last = some y → ∃ t, lv = .int y t)
/-- the generator's own things at the head of its endless loop -/
structure GenZ (w : World) (mean : ExcName → Option Value) (mg mb : Str → Option Value) (L₃ I r ga : Addr) (go : Obj) (y : Int) (s₀ s : Shared) : Prop where
  keep : GKeep L₃ ga s₀ s
  gen : s₀.heap.get? ga = some go
  more : ∃ B ci t it, Fr B L₃ s.heap (gm r ci (.int y t)) ∧ News B L₃ s.heap [(I, it), (ga, go)] ∧ (∀ b o, b < L₃ → s₀.heap.get? b = some o → B.get? b = some o) ∧ (Mine.hd.heap_1 w.params).In B ∧ TopX mean mg mb B
theorem zero_loop {M : Model} {A : Around} {R : GenEnd} {Y : Protocol} {C : Code} {fs : List Frame} {Z : Nat → Int} {y : Int} {J : Shared → Shared → Prop}
    (turn : ∀ n s₀ s, Z n = y → J s₀ s → (0 < n → ∀ s₀' s', J s₀' s' → Seg M A R Y n s₀' C (M.den C) fs s') → Seg M A R Y (n + 1) s₀ C (M.den C) fs s) :
    ∀ n, (∀ k, k < n + 1 → Z k = y) → ∀ s₀ s, J s₀ s → Seg M A R Y (n + 1) s₀ C (M.den C) fs s := by
  intro n
  induction n with
  | zero => exact fun hz s₀ s j => turn 0 s₀ s (hz 0 (Nat.lt_succ_self _)) j fun q => absurd q (Nat.lt_irrefl _)
  | succ n ih => exact fun hz s₀ s j => turn (n + 1) s₀ s (hz _ (Nat.lt_succ_self _)) j fun _ s₀' s' j' => ih (fun k hk => hz k (Nat.lt_succ_of_lt hk)) s₀' s' j'
theorem gkeep {B h₀ h : Heap} {L₃ ga : Addr} {m : Str → Option Value} {nw : List (Addr × Obj)} {go : Obj} (F : Fr B L₃ h m) (N : News B L₃ h nw) (hm : (ga, go) ∈ nw) (hlow : ∀ b o, b < L₃ → h₀.get? b = some o → B.get? b = some o) (hg : h₀.get? ga = some go) :
    ∀ b o, (b < L₃ ∨ b = ga) → h₀.get? b = some o → h.get? b = some o := by
  rintro b o (q | rfl) e
  · exact F.keep b o (hlow b o q e)
  · rw [hg] at e; cases e
    exact (N _ hm).1
theorem ints_at {a : Array Value} {i : Nat} {x : Int} {xs : List Int} (h : IntsAre (a.toList.drop i) (x :: xs)) : ∃ t, a[i]? = some (.int x t) ∧ IntsAre (a.toList.drop (i + 1)) xs := by
  obtain ⟨l⟩ := a
  generalize e : l.drop i = d at h
  cases h with
  | cons x t h =>
    refine ⟨t, ?_, ?_⟩
    · have := congrArg (fun z : List Value => z[0]?) e
      simpa using this
    · have := congrArg List.tail e
      simp only [List.tail_drop, List.tail_cons] at this
      rw [this]; exact h
theorem ints_end {a : Array Value} {i : Nat} (h : IntsAre (a.toList.drop i) []) : a[i]? = none := by
  obtain ⟨l⟩ := a
  generalize e : l.drop i = d at h
  cases h
  simpa using e
theorem regain {h₀ h' h'' : Heap} {L₃ I ga : Addr} {m₃ : Str → Option Value} {it go o₃ : Obj} (h0 : h₀.objs.size ≤ L₃) (ns : h'.Ns L₃ m₃) (e' : h'.get? L₃ = some o₃) (hI : L₃ < I) (hga : L₃ < ga)
    (e₃ : h''.get? L₃ = some o₃) (eI : h''.get? I = some it) (eg : h''.get? ga = some go) (k : ∀ b o, h₀.get? b = some o → h''.get? b = some o) :
    Fr (low h'' L₃) L₃ h'' m₃ ∧ News (low h'' L₃) L₃ h'' [(I, it), (ga, go)] ∧ (∀ b o, h₀.get? b = some o → (low h'' L₃).get? b = some o) := by
  refine ⟨⟨?_, fun b o e => ?_, low_size _ _⟩, ?_, fun b o e => ?_⟩
  · obtain ⟨o, es, ep, q, r⟩ := ns
    rw [e'] at q; cases q
    exact ⟨_, es, ep, e₃, r⟩
  · rw [← low_get (low_lt e)]; exact e
  · intro p hp
    rcases List.mem_cons.mp hp with rfl | hp
    · exact ⟨eI, Nat.ne_of_gt hI, low_none (Nat.le_of_lt hI)⟩
    · rcases List.mem_cons.mp hp with rfl | hp
      · exact ⟨eg, Nat.ne_of_gt hga, low_none (Nat.le_of_lt hga)⟩
      · cases hp
  · rw [low_get (Nat.lt_of_lt_of_le (Heap.lt_size e) h0)]; exact k b o e
theorem split_hag {b : Prop} {P : List (Addr × Obj) → Prop} {C : List (Addr × Obj) → Shared → Prop} {G : Shared → Prop} (p0 : P []) (hag : b → ∃ ws, P ws ∧ ∀ s'', C ws s'' → G s'') : ∃ ws, P ws ∧ (b → ∀ s'', C ws s'' → G s'') := by
  by_cases hq : b
  · obtain ⟨ws, p, q⟩ := hag hq
    exact ⟨ws, p, fun _ => q⟩
  · exact ⟨[], p0, fun q => absurd q hq⟩
end Mine
end

section
open PySem PySem.W PyProof.Rows
set_option maxHeartbeats 4000000
namespace Mine
theorem kw_p32_1 : True := by
  k_with "p32_1" => (repeat' ((fail_if_success (with_reducible show wpAny _ _ (exec (Stmt.Try _ _ _ _ _) _) _ _ _)); (fail_if_success (with_reducible show wpAny _ _ (exec (Stmt.For _ _ _ _ _) _) _ _ _)); (fail_if_success (with_reducible show wpAny _ _ (call (Value.ref 28) _) _ _ _)); (fail_if_success (with_reducible show wpAny _ _ (pyIter (Value.ref _)) _ _ _)); first | (k_unfold; (try dsimp only)) | walk1 | (dsimp only; walk1)))
  trivial

theorem kw_p32_2 : True := by
  k_with "p32_2" => (repeat' ((fail_if_success (with_reducible show wpAny _ _ (exec (Stmt.Try _ _ _ _ _) _) _ _ _)); (fail_if_success (with_reducible show wpAny _ _ (exec (Stmt.Raise _ _ _) _) _ _ _)); (fail_if_success (with_reducible show wpAny _ _ (call (Value.ref 28) _) _ _ _)); (fail_if_success (with_reducible show wpAny _ _ (pyIter (Value.ref _)) _ _ _)); first | (k_unfold; (try dsimp only)) | walk1 | (dsimp only; walk1)))
  trivial

noncomputable abbrev newsOf {h₀ h : Heap} {L : Addr} {news : List (Addr × Obj)} (_ : News h₀ L h news) : List (Addr × Obj) := news
theorem news0 {h₀ h : Heap} {L : Addr} {m : Str → Option Value} (_ : Fr h₀ L h m) : News h₀ L h [] := News.nil
theorem list_kept {h₀ h : Heap} {L r : Addr} {m : Str → Option Value} {its : Array Value} {n : Nat} (hr : h₀.get? r = some { cls := .type "list", data := .seq its n }) (F : Fr h₀ L h m) : h.IsList r its := ⟨_, F.keep _ _ hr, rfl, n, rfl⟩
noncomputable def PV (h₀ D : Heap) (l : List Env) (nw : List (Addr × Obj)) (ga : Addr) (og : Obj) (d : Drawn) (os : OsState) : Addr → Shared → Prop := fun e s₁ =>
  ∃ t u, s₁.gens.size = 1 ∧ s₁.drawn = d ∧ s₁.os = os ∧ RaisedS h₀ (hideAll D (nw.map (·.1))) l e (.type "ValueError") t [.str (Str.ofString "invalid grouping") u] nw s₁.heap ∧ s₁.heap.get? ga = some og ∧ D.UpToSlots s₁.heap
theorem leave_gen {M : Model} {A : Around} {E : Value → Shared → Prop} {Q : Unit → Shared → Prop} {s' : Shared} {h₀ G h : Heap} {n₃ : Str} {sc₃ : Scope} {L₃ L₁ L a₃ e ga : Addr} {c₃ cls : Value} {ew el : Env} {m : Str → Option Value} {nw : List (Addr × Obj)} {vs : List Value} {og : Obj}
    (hfr : A.frames = some [envOf n₃ sc₃ L₃ a₃ c₃, ew, el]) (hk : sc₃.kind = .function) (hw : ew.frame = some L₁) (hl : el.frame = some L) (FF : G.FunFrames h₀ [ew, el]) (k0 : h₀.StaysIn G)
    (hx : Heap.MadeExcOf h s'.heap e cls vs) (F : Fr G L₃ h m) (hL₁ : ∃ o, G.get? L₁ = some o) (hL : ∃ o, G.get? L = some o) (hga : h.get? ga = some og) (hg3 : ga ≠ L₃) (hgn : G.get? ga = none)
    (hnw : ∀ q ∈ nw, G.get? q.1 = some q.2 ∧ q.1 ≠ L₁ ∧ q.1 ≠ L ∧ h₀.get? q.1 = none)
    (hQ : ∀ h' t, (∃ B, h₀.StaysIn B ∧ (∀ b o, G.get? b = some o → b ∉ [ew, el].filterMap (·.frame) → B.get? b = some o) ∧ (∀ q ∈ nw, B.get? q.1 = some q.2) ∧ Heap.FlyingW B [ew, el] e cls (.ref t) h' ∧ B.get? t = none) → h'.TupAt t vs → h'.get? ga = some og → G.UpToSlots h' → Q () { s' with heap := h' }) :
    wpAny M A (leaving (envOf n₃ sc₃ L₃ a₃ c₃) (.ref e)) Q E s' := by
  have h0L₃ : G.get? L₃ = none := kts_self F
  have FF' : h.FunFrames h₀ [envOf n₃ sc₃ L₃ a₃ c₃, ew, el] := .cons (by show sc₃.kind ≠ .module; rw [hk]; decide) rfl F.ns (fresh_of_stays k0 h0L₃) (FF.of_keeps fun b o q _ => ⟨o, F.keep b o q, rfl⟩)
  have hin : ∀ env ∈ [envOf n₃ sc₃ L₃ a₃ c₃, ew, el], ∀ b, env.frame = some b → b ∈ [L₃, L₁, L] := by
    intro env he b hb
    rcases List.mem_cons.mp he with rfl | he
    · cases hb; exact .head _
    rcases List.mem_cons.mp he with rfl | he
    · rw [hw] at hb; cases hb; exact .tail _ (.head _)
    rcases List.mem_cons.mp he with rfl | he
    · rw [hl] at hb; cases hb; exact .tail _ (.tail _ (.head _))
    cases he
  have z₁ : h₀.get? L₁ = none := (FF.mem (List.mem_filterMap.mpr ⟨ew, .head _, hw⟩)).1
  have z₂ : h₀.get? L = none := (FF.mem (List.mem_filterMap.mpr ⟨el, .tail _ (.head _), hl⟩)).1
  have get : ∀ b o, G.get? b = some o → b ≠ L₁ → b ≠ L → (hideAll h [L₃, L₁, L]).get? b = some o := fun b o q q1 q2 => hideAll_get _ (F.keep b o q) fun hm => by
    rcases List.mem_cons.mp hm with rfl | hm
    · rw [h0L₃] at q; cases q
    rcases List.mem_cons.mp hm with rfl | hm
    · exact q1 rfl
    rcases List.mem_cons.mp hm with rfl | hm
    · exact q2 rfl
    cases hm
  have st : h₀.StaysIn (hideAll h [L₃, L₁, L]) := fun b o q => get b o (k0 b o q) (fun z => by rw [z, z₁] at q; cases q) (fun z => by rw [z, z₂] at q; cases q)
  have gB : (hideAll h [L₃, L₁, L]).get? ga = some og := hideAll_get _ hga fun hm => by
    rcases List.mem_cons.mp hm with z | hm
    · exact hg3 z
    rcases List.mem_cons.mp hm with rfl | hm
    · obtain ⟨o, ho⟩ := hL₁; rw [ho] at hgn; cases hgn
    rcases List.mem_cons.mp hm with rfl | hm
    · obtain ⟨o, ho⟩ := hL; rw [ho] at hgn; cases hgn
    cases hm
  exact wpAny_leaves_madeW hfr rfl (fun b o q => of_hideAll _ q) (funFrames_hide FF' hin) hx fun h' t x1 x2 x3 x4 =>
    hQ h' t ⟨_, st, fun b o q nm => get b o q (fun z => nm (List.mem_filterMap.mpr ⟨ew, .head _, z ▸ hw⟩)) (fun z => nm (List.mem_filterMap.mpr ⟨el, .tail _ (.head _), z ▸ hl⟩)),
      fun q hq => get _ _ (hnw q hq).1 (hnw q hq).2.1 (hnw q hq).2.2.1, x1, x3⟩ x2 (x1.1 _ _ gB) (((Heap.UpToSlots.of_keeps F.keep).trans (Heap.UpToSlots.of_keeps hx.keeps)).trans x4)
theorem pyNext_raisesW {prog : Program} {w : World} {A : Around} {E : Value → Shared → Prop} {s : Shared} {a g : Nat} {nm qn : Value} {body : List Stmt} {env : Env} {Q : Option Value → Shared → Prop} {l : List Env} {h₀ hS D : Heap} {L₁ : Addr} {m : Str → Option Value} {nw : List (Addr × Obj)} (_ : A.frames = some l) (_ : Fr hS L₁ D m) (_ : News hS L₁ D nw) (hl : s.heap.NoLimit) (hroom : A.depth < recursionLimit)
    (hg : s.heap.get? a = some (genObj g nm qn)) (hgs : s.gens[g]? = some (.fresh (.func body env)))
    (hgo : wpAny (model prog w) (A.in1.over (.func body env) []) ((execs body env).onRaise (leaving env)) (fun _ _ => False) (fun x s₁ => ∃ e, x = .ref e ∧ PV h₀ D l nw a (genObj g nm qn) s.drawn s.os e s₁) (s.setGen g .running))
    (hP : ∀ e s₁, PV h₀ D l nw a (genObj g nm qn) s.drawn s.os e s₁ → E (.ref e) (s₁.setGen g .finished)) :
    wpAny (model prog w) A (pyNext (.ref a)) Q E s :=
  pyNext_raises hl hroom hg hgs hgo fun e s₁ hp => by
    have hp' := hp
    obtain ⟨t, u, _, _, _, R, hga, _⟩ := hp'
    obtain ⟨⟨_, _, _, _, fl, _⟩, _⟩ := R
    exact ⟨fl.there, hga, hP e s₁ hp⟩
theorem fr_hide {g h : Heap} {L : Addr} {m : Str → Option Value} {nw : List (Addr × Obj)} (F : Fr g L h m) (N : News g L h nw) : Fr g L (hideAll h (nw.map (·.1))) m := by
  obtain ⟨oL, a1, a2, hL, a3⟩ := F.ns
  refine ⟨⟨oL, a1, a2, hideAll_get _ hL fun hm => ?_, a3⟩, fun b o q => hideAll_get _ (F.keep b o q) fun hm => ?_, F.above⟩
  · obtain ⟨q, hq, z⟩ := List.mem_map.mp hm
    exact (N q hq).2.1 z
  · obtain ⟨p, hp, z⟩ := List.mem_map.mp hm
    rw [← z, (N p hp).2.2] at q; cases q
theorem setGen_one {s : Shared} {g : Nat} {x : GenState} (h : s.gens.size = 1) (hg : g = 0) : (s.setGen g x).gens = #[x] := by
  subst hg
  obtain ⟨hp, ⟨l⟩, d, tk, os⟩ := s
  cases l with
  | nil => cases h
  | cons y l => cases l with
    | nil => rfl
    | cons y' l => simp at h
theorem walk5 {w : World} {s : Shared} {Q E : Value → Shared → Prop} {mean : ExcName → Option Value} {mg mb : Str → Option Value} {h₀ : Heap} {L : Addr} {m : Str → Option Value} {o : Int} {r fa : Addr} {t1 t2 : Tok} {n : Nat} {name : Str} {scope : Scope} {cd : Value} (F : Fr h₀ L s.heap m) (X₀ : (Mine.hd.heap_1 w.params).In h₀) (T₀ : TopX mean mg mb h₀) (K0 : Below callerA h₀ [] h₀) (hg : s.gens = #[]) (h0 : 1 ≤ o) (h1 : o ≤ 5)
  (hr : s.heap.get? r = some { cls := .type "list", data := .seq #[.int 0 t1, .int o t2] n }) (hk : scope.kind = .function) (ret : WalkRet L s Q (Str.ofString "invalid grouping") []) :
  wpAny (model PySem.Challenge.rw_pk0055_01.row.prog w) (callerA.deeper (envOfC name scope L fa cd)) (call (.ref 96) [.ref r]) Q E s := by
  have X := X₀.keeps F.keep
  have T : TopX mean mg mb s.heap := T₀.keeps F.keep
  revert X
  k_fill
  intro X
  refine' enter (binds := [(Str.ofString "row", .ref r)]) X T.nolimit ?k6 ?k7 ?k8 ?k9 ?kB ?c5 ?c2 ?c3 ?c4 ?_; (case k6 => k_is); (case k7 => k_is); (case k8 => k_room); (case k9 => exact BindsTo.of_eq rfl); (case kB => exact locs rfl); (case c2 => exact rfl); (case c3 => exact rfl); (case c4 => exact rfl); (case c5 => decide)
  intro h₁ L₁ tk₁ F₁ N₁
  k_fold
  k_extra "p32_1"
  refine wpAny_Try_except ?_
  k_extra "p32_1"
  refine wpAny_For ?_
  k_extra "p32_1"
  rename Fr _ _ _ _ => F₂
  rename News _ _ _ _ => N₂
  have X₂ := X.keeps F₂.keep
  have T₂ : TopX mean mg mb _ := T.keeps F₂.keep
  refine' enterG (binds := [(Str.ofString "grouping", .ref r)]) X₂ T₂.nolimit ?j6 ?j7 ?j8 ?j9 ?jB ?jc5 ?jc2 ?jc3 ?jc4 ?_; (case j6 => k_is); (case j7 => k_is); (case j8 => k_room); (case j9 => exact BindsTo.of_eq rfl); (case jB => exact locs rfl); (case jc2 => exact rfl); (case jc3 => exact rfl); (case jc4 => exact rfl); (case jc5 => decide)
  intro h₃ L₃ tk₃ nm qn F₃
  dsimp only at F₃
  show wpAny _ _ (pyIter (Value.ref _)) _ _ _
  have hga : (h₃.push (genObj s.gens.size nm qn)).get? h₃.objs.size = some (genObj s.gens.size nm qn) := Heap.get?_push_size _ rfl
  refine wpAny_pyIter_gen (isGen_at hga) ?_
  refine codeAny_forLoop (fun k s' => k = 1 ∧ s' = _) ?_ 1 ⟨rfl, rfl⟩ (by intro _; rfl)
  rintro k s' ⟨rfl, rfl⟩
  have Pk := And.intro F₂ N₂
  clear F₂ N₂
  refine' pyNext_raisesW (h₀ := h₀) rfl Pk.1 Pk.2 ?y1 ?y2 hga ?y3 ?y4 ?y5
  case y3 => exact Array.getElem?_push_size ..
  case y1 => exact T₂.nolimit.keeps (fun b o e => Heap.get?_push_of_some _ (F₃.keep b o e))
  case y2 => k_room
  case y4 =>
    refine wpAny_onRaise ?_
    show wpAny _ _ _ _ _ ⟨h₃.push (genObj s.gens.size nm qn), _, _, _, _⟩
    have F₄ := F₃.push (genObj s.gens.size nm qn)
    have N₄ := News.push F₃ (news0 F₃) (genObj s.gens.size nm qn)
    have hl₄ : (h₃.push (genObj s.gens.size nm qn)).IsList r #[.int 0 t1, .int o t2] := ⟨_, F₄.keep _ _ (Pk.1.keep _ _ hr), rfl, n, rfl⟩
    have hr₂ := Pk.1.keep _ _ hr
    k_extra "p32_1"
    refine wpAny_For ?_
    k_extra "p32_1"
    rename Fr _ _ _ _ => F₅
    rename News _ _ _ _ => N₅
    have hl₅ := list_kept hr₂ F₅
    refine wpAny_pyIter_list hl₅ ?_
    refine codeAny_forLoop (fun k s' => k = 1 ∧ s' = _) ?_ 1 ⟨rfl, rfl⟩ (by intro _; rfl)
    rintro k s' ⟨rfl, rfl⟩
    refine wpAny_pyNext_list_item (x := .int 0 t1) (i := 0) ⟨_, Heap.get?_push_size _ rfl, rfl, rfl⟩ (list_kept hr₂ (F₅.push _)) rfl fun h₅ hit₅ hs₅ => ?_
    have F₆ := Fr.sameNew (F₅.push _) F₅.ns.lt hs₅
    have gk₆ := (hs₅.2 _ (Nat.ne_of_lt (Heap.lt_size (N₅ _ (.head _)).1))).trans (Heap.get?_push_of_some _ (N₅ _ (.head _)).1)
    have N₆ : News _ L₃ h₅ [(h₃.objs.size, genObj s.gens.size nm qn)] := fun q hq => by
      cases hq with
      | head => exact ⟨gk₆, (N₅ _ (.head _)).2⟩
      | tail _ hm => cases hm
    clear hs₅ hit₅ F₅ N₅
    try clear N₄
    try clear F₄
    try clear hl₅
    try clear hl₄
    k_extra "p32_2"
    rename Fr _ _ _ _ => F₇
    refine Raise_madeB PySem.F.excCall_ValueError PySem.F.excRaise_ValueError rfl ?_
    refine' name_B F₇ X₂ (topRead_of T₂) ?z1 ?z2 ?z3 ⟨rfl, ?_⟩
    case z1 => k_is
    case z2 => boot_by_name
    case z3 => decide
    rename News _ _ _ _ => N₇
    k_extra "p32_1"
    rename Heap.MadeExc _ _ _ _ _ => hx
    refine PassesOwn.leaving _ _ ?_
    have z₁ : s.heap.get? L₁ = none := kts_self Pk.1
    have z₀ : ∀ b, s.heap.get? b = none → h₀.get? b = none := fun b q => fresh_of_stays F.keep q
    have g₇ := N₇ _ (.head _)
    refine leave_gen (nw := newsOf Pk.2) rfl rfl rfl rfl (.cons (by intro q; cases q) rfl Pk.1.ns (z₀ _ z₁) (.cons (by show scope.kind ≠ .module; rw [hk]; decide) rfl (F.ns.keeps Pk.1.keep) (kts_self F) trivial))
      (fun b o q => Pk.1.keep b o (F.keep b o q)) (Heap.MadeExc.of hx) F₇ ?_ ?_ g₇.1 g₇.2.1 g₇.2.2 ?_ fun h' t B hT hga' hU => ?_
    · obtain ⟨o₁, _, _, e₁, _⟩ := Pk.1.ns; exact ⟨o₁, e₁⟩
    · obtain ⟨o₁, _, _, e₁, _⟩ := F.ns.keeps Pk.1.keep; exact ⟨o₁, e₁⟩
    · intro q hq
      have hq' := Pk.2 q hq
      refine ⟨hq'.1, hq'.2.1, ?_, z₀ _ hq'.2.2⟩
      intro z
      obtain ⟨o₁, _, _, e₁, _⟩ := F.ns
      rw [← z, hq'.2.2] at e₁; cases e₁
    · obtain ⟨B, b1, b2, b3, b4, b5⟩ := B
      refine ⟨_, rfl, t, _, ?_, rfl, rfl, ⟨⟨B, b1, fun b o q nm => b2 b o (of_hideAll _ q) nm, fun q hq => ⟨b3 q hq, hideAll_none _ (List.mem_map_of_mem hq), z₀ _ (Pk.2 q hq).2.2⟩, b4, b5⟩, hT⟩, hga', hU⟩
      simp [hg]
  case y5 =>
    rintro e s₁ ⟨t, u, hgs, hdr, hos, R, hg₁, hU⟩
    refine PassesOwn.looking _ _ ?_
    have K : Below (callerA.deeper (envOfC name scope L fa cd)) h₀ [envOfC name scope L fa cd] s.heap :=
      ⟨Around.frames_deeper K0.stack, F.keep, .cons (by show scope.kind ≠ .module; rw [hk]; decide) rfl F.ns (kts_self F) trivial⟩
    have Dk : KtsDicts ([envOfC name scope L fa cd].filterMap (·.frame)) s.heap := fun b hb => by
      have hb' : b ∈ [L] := hb
      cases hb' with
      | head => obtain ⟨oL, es, ep, hL, hd, _⟩ := F.ns; exact ⟨oL, _, _, hL, hd⟩
      | tail _ hm => cases hm
    refine caught_SB (T' := "ValueError") R (fr_hide Pk.1 Pk.2) K ((Heap.UpToSlots.of_keeps fun b o q => of_hideAll _ q).trans hU) X₀ T₀ Dk .refl ?e1 PyProof.Rows.Boot.«ValueError» ?e2 PySem.F.isExc_ValueError PySem.F.notTuple_ValueError (by rw [isSubtype_type]; kernel_rfl) ?_
    case e1 => k_is
    case e2 => decide
    clear T₂ X₂ T X
    intro h' g' n₂ tk' TT F' N₂ G' N' K' X' P' D'
    k_extra "p32_1"
    rename Fr _ _ _ _ => FE
    rename News _ _ _ _ => NE
    rename @LT.lt Nat _ _ _ => lt1
    have back : ∀ b, g'.get? b = none → s.heap.get? b = none := fun b q => by
      cases e₁ : s.heap.get? b with
      | none => rfl
      | some o₁ => obtain ⟨sl, hs⟩ := TT.up e₁; rw [q] at hs; cases hs
    refine ret (s₁.setGen s.gens.size GenState.finished) _ _ _ _ _ _ _ hdr hos ?_ ⟨fun b o hb q => FE.keep b o (TT.other b o q ?_), fun m' hn => ?_⟩ (back _ (NE _ (.head _)).2.2) (back _ (NE _ (.tail _ (.head _))).2.2) (Nat.ne_of_lt lt1) (NE _ (.head _)).1 (NE _ (.tail _ (.head _))).1 ?_
    · rw [setGen_one hgs (by rw [hg]; rfl)]; exact (AllBare.empty.push (g := GenState.finished) rfl)
    · intro hm
      have hm' : b ∈ [L] := hm
      cases hm' with
      | head => exact hb rfl
      | tail _ hm => cases hm
    · obtain ⟨o₁, es, ep, e₁, hd, rr⟩ := hn
      obtain ⟨sl, hs⟩ := TT.up e₁
      exact ⟨_, es, ep, FE.keep _ _ hs, hd, rr⟩
    · constructor
end Mine
end

section
open PySem PySem.W PyProof.Rows
set_option maxHeartbeats 8000000
namespace Mine
theorem kw_p33_1 : True := by
  k_with "p33_1" => (repeat' ((fail_if_success (with_reducible show wpAny _ _ (exec (Stmt.Try _ _ _ _ _) _) _ _ _)); (fail_if_success (with_reducible show wpAny _ _ (exec (Stmt.For _ _ _ _ _) _) _ _ _)); (fail_if_success (with_reducible show wpAny _ _ (call (Value.ref 28) _) _ _ _)); (fail_if_success (with_reducible show wpAny _ _ (pyIter (Value.ref _)) _ _ _)); first | (k_unfold; (try dsimp only)) | walk1 | (dsimp only; walk1)))
  trivial

/-- the sizes that the caller has so far -/
noncomputable def got (Z : Nat → Int) (N j : Nat) : List Int := (List.range j).map fun i => Z (N - 1 - i)
theorem got_length {Z : Nat → Int} {N j : Nat} : (got Z N j).length = j := by simp [got]
theorem got_succ {Z : Nat → Int} {N j : Nat} : got Z N (j + 1) = got Z N j ++ [Z (N - 1 - j)] := by simp [got, List.range_succ]
theorem ints_snoc {vs : List Value} {xs : List Int} (h : IntsAre vs xs) (x : Int) (t : Tok) : IntsAre (vs ++ [.int x t]) (xs ++ [x]) := by
  induction h with
  | nil => exact .cons _ _ .nil
  | cons _ _ _ ih => exact .cons _ _ ih
theorem sz_again {l r : Addr} {c : Option Value} {v : Value} : (fun y => if y = Str.ofString "size" then some v else if y = Str.ofString "size" then c else if y = Str.ofString "sizes" then some (Value.ref l) else List.lookup y [(Str.ofString "row", Value.ref r)].reverse) =
    fun y => if y = Str.ofString "size" then some v else if y = Str.ofString "sizes" then some (Value.ref l) else List.lookup y [(Str.ofString "row", Value.ref r)].reverse := by
  funext y
  by_cases h : y = Str.ofString "size" <;> simp [h]
theorem none_of_size {h : Heap} {b : Nat} (e : h.objs.size ≤ b) : h.get? b = none := by
  cases q : h.get? b with
  | none => rfl
  | some o => exact absurd (Heap.lt_size q) (Nat.not_lt.mpr e)
theorem first_size {l r : Addr} : (fun y => if y = Str.ofString "size" then none else if y = Str.ofString "sizes" then some (Value.ref l) else List.lookup y [(Str.ofString "row", Value.ref r)].reverse) =
    fun y => if y = Str.ofString "sizes" then some (Value.ref l) else List.lookup y [(Str.ofString "row", Value.ref r)].reverse := by
  funext y
  by_cases h : y = Str.ofString "size"
  · subst h
    have e : Str.ofString "size" ≠ Str.ofString "sizes" := by decide
    have e' : List.lookup (Str.ofString "size") [(Str.ofString "row", Value.ref r)].reverse = none := rfl
    simp only [if_neg e, e', if_true]
  · simp [h]
theorem walkG {w : World} {s : Shared} {Q E : Value → Shared → Prop} {mean : ExcName → Option Value} {mg mb : Str → Option Value} {h₀ : Heap} {L : Addr} {m : Str → Option Value} {r : Addr} {its : Array Value} {nr N : Nat} {row : List Int} {Z : Nat → Int} {fin : Bool} {e : Env}
  (F : Fr h₀ L s.heap m) (X₀ : (Mine.hd.heap_1 w.params).In h₀) (T₀ : TopX mean mg mb h₀) (hg : s.gens = #[])
  (hr : s.heap.get? r = some { cls := .type "list", data := .seq its nr }) (hi : IntsAre its.toList row) (hp : Plan Z fin row none N) (hN : fin = true ∧ N < 10 ∨ fin = false ∧ N = 11)
  (ret : WalkRet L s Q (Str.ofString "") (got Z N (min N 10))) :
  wpAny (model PySem.Challenge.rw_pk0055_01.row.prog w) (callerA.deeper e) (call (.ref 96) [.ref r]) Q E s := by
  obtain ⟨hp₀, gs₀, dr₀, tk₀, os₀⟩ := s
  dsimp only at hg
  subst hg
  dsimp only at F hr
  have X := X₀.keeps F.keep
  have T : TopX mean mg mb hp₀ := T₀.keeps F.keep
  revert X
  k_fill
  intro X
  refine' enter (binds := [(Str.ofString "row", .ref r)]) X T.nolimit ?k6 ?k7 ?k8 ?k9 ?kB ?c5 ?c2 ?c3 ?c4 ?_; (case k6 => k_is); (case k7 => k_is); (case k8 => k_room); (case k9 => exact BindsTo.of_eq rfl); (case kB => exact locs rfl); (case c2 => exact rfl); (case c3 => exact rfl); (case c4 => exact rfl); (case c5 => decide)
  intro h₁ L₁ tk₁ F₁ N₁
  k_fold
  k_extra "p33_1"
  refine wpAny_Try_except ?_
  k_extra "p33_1"
  refine wpAny_For ?_
  k_extra "p33_1"
  rename Fr _ _ _ _ => F₂
  rename News _ _ _ _ => N₂
  rename_i l hA lt1 hB
  dsimp only at F₂ N₂
  have X₂ := X.keeps F₂.keep
  have T₂ : TopX mean mg mb _ := T.keeps F₂.keep
  refine' enterG (binds := [(Str.ofString "grouping", .ref r)]) X₂ T₂.nolimit ?j6 ?j7 ?j8 ?j9 ?jB ?jc5 ?jc2 ?jc3 ?jc4 ?_; (case j6 => k_is); (case j7 => k_is); (case j8 => k_room); (case j9 => exact BindsTo.of_eq rfl); (case jB => exact locs rfl); (case jc2 => exact rfl); (case jc3 => exact rfl); (case jc4 => exact rfl); (case jc5 => decide)
  intro h₃ L₃ tk₃ nm qn F₃
  dsimp only at F₃
  show wpAny _ _ (pyIter (Value.ref _)) _ _ _
  have hga : (h₃.push (genObj 0 nm qn)).get? h₃.objs.size = some (genObj 0 nm qn) := Heap.get?_push_size _ rfl
  refine wpAny_pyIter_gen (isGen_at hga) ?_
  have eL₁ : @LT.lt Nat _ L₁ hB.objs.size := F₂.ns.lt
  have eA₃ := F₃.above
  have eA₁ := F₂.above
  have eL₃ : @LT.lt Nat _ L₃ h₃.objs.size := F₃.ns.lt
  have hl₂ := N₂ _ (.head _)
  have el : @LT.lt Nat _ l hB.objs.size := Heap.lt_size hl₂.1
  generalize hgaE : h₃.objs.size = ga at *
  generalize hgoE : genObj 0 nm qn = go at *
  obtain ⟨o₃, es₃, ep₃, eo₃, ed₃⟩ := F₃.ns
  refine for_gen (fun A k s' => ∃ h tk gs c ws vz nz, s' = ⟨h, #[gs], dr₀, tk, os₀⟩ ∧ gs.bare = true ∧ Fr hp₀ L₁ h (fun y => if y = Str.ofString "size" then c else if y = Str.ofString "sizes" then some (Value.ref l) else List.lookup y [(Str.ofString "row", Value.ref r)].reverse) ∧
    News hp₀ L₁ h ((l, W.listOf vz nz) :: (ga, go) :: ws) ∧ (∀ p ∈ ws, L₃ ≤ p.1 ∧ p.1 ≠ ga) ∧ IntsAre vz.toList (got Z N (N - k)) ∧ k ≤ N ∧ (fin = true ∨ 0 < k) ∧
    (∀ s'', GAgain hp₀ ga go ws s'' → gs.Goes (model PySem.Challenge.rw_pk0055_01.row.prog w) A.in1 (fun n s₀ r s₁ => r = .ok (.ret .none) ∧ (n = 0 ∧ GKeep L₃ ga s₀ s₁)) (GY hp₀ L₃ ga go Z fin) k (.send .none) s'')) N
    ⟨_, _, _, none, [(L₃, o₃)], #[], 0, rfl, rfl, ?i1, ?i2, ?i3, ?i4, Nat.le_refl _, ?i5, ?i6⟩ ?_ (by intro _; rfl)
  case i1 =>
    refine ⟨?_, fun b o q => Heap.get?_push_of_some _ (F₃.keep b o (F₂.keep b o q)), F₂.above⟩
    rw [first_size]
    exact (F₂.ns.keeps F₃.keep).push _
  case i2 =>
    intro q hq
    rcases List.mem_cons.mp hq with rfl | hq
    · exact ⟨Heap.get?_push_of_some _ (F₃.keep _ _ hl₂.1), hl₂.2⟩
    rcases List.mem_cons.mp hq with rfl | hq
    · exact ⟨hga, Nat.ne_of_gt (by omega), none_of_size (by omega)⟩
    rcases List.mem_cons.mp hq with rfl | hq
    · exact ⟨Heap.get?_push_of_some _ eo₃, Nat.ne_of_gt (by omega), none_of_size (by omega)⟩
    cases hq
  case i3 =>
    intro q hq
    rcases List.mem_cons.mp hq with rfl | hq
    · exact ⟨Nat.le_refl _, Nat.ne_of_lt eL₃⟩
    cases hq
  case i4 => rw [Nat.sub_self]; exact .nil
  case i5 => rcases hN with q | q <;> first | exact .inl q.1 | (right; omega)
  case i6 =>
    clear ret hga
    have XT := And.intro X T
    rintro ⟨h₄, g₄, d₄, tk₄, os₄⟩ ⟨w1, w2, w3⟩
    dsimp only at w1 w2 w3
    have e₃ := w1 _ (.head _)
    have R := regain (h₀ := hp₀) (h'' := h₄) (h' := h₄) (I := ga) (ga := ga) (by omega) ⟨o₃, es₃, ep₃, e₃, ed₃⟩ e₃ eL₃ eL₃ e₃ w2 w2 w3
    have hlow : ∀ b o, b < L₃ → h₄.get? b = some o → (low h₄ L₃).get? b = some o := fun b o q e => by rw [low_get q]; exact e
    generalize low h₄ L₃ = B at *
    obtain ⟨F₄, N₄', kB⟩ := R
    have N₄ : News B L₃ h₄ [(ga, go)] := fun q hq => N₄' q (.tail _ hq)
    have X₄ := X.keeps kB
    have T₄ : TopX mean mg mb B := T.keeps kB
    have hrB : B.IsList r its := ⟨_, kB _ _ hr, rfl, nr, rfl⟩
    clear N₄' F₃ F₂ N₂ X₂ T₂ X T X₀ T₀ F hl₂ el
    refine ⟨rfl, ?_⟩
    refine seg_func ?_
    refine seg_execs_cons (seg_plain ?_)
    k_extra "p33_1"
    refine seg_execs_cons (seg_For ?_)
    k_extra "p33_1"
    rename Fr _ _ _ _ => F₅
    rename News _ _ _ _ => N₅
    rename_i h₅
    rw [gm_first] at F₅
    have hl₅ : h₅.IsList r its := ⟨_, F₅.keep _ _ (kB _ _ hr), rfl, nr, rfl⟩
    refine wpAny_pyIter_list hl₅ ?_
    intro p₅
    have eg : @LT.lt Nat _ ga h₅.objs.size := Heap.lt_size (N₅ _ (.head _)).1
    have hj : GenJ w mean mg mb L₃ h₅.objs.size r ga go its row none ⟨h₄, g₄, d₄, tk₄, os₄⟩ ⟨h₅.push { cls := .type "list_iterator", data := .fields #[.ref r, .int 0 0] }, g₄, d₄, tk₄ + 1, os₄⟩ := by
      refine ⟨⟨⟨_, _, rfl⟩, gkeep (F₅.push _) (News.push F₅ N₅ _) (.tail _ (.head _)) hlow w2⟩, w2, B, none, .none, _, 0, F₅.push _, News.push F₅ N₅ _, hlow, X₄, T₄, hrB, ⟨_, Heap.get?_push_size _ rfl, rfl, rfl⟩, by simpa using hi, by intro y q; cases q⟩
    have eI : @LT.lt Nat _ L₃ h₅.objs.size := by omega
    have eIg : h₅.objs.size ≠ ga := Nat.ne_of_gt eg
    clear hl₅ F₅ N₅ F₄ hlow X₄ T₄ hrB
    generalize h₅.objs.size = I at *
    refine plan_loop (J := GenJ w mean mg mb L₃ I r ga go its) ?stop ?pos ?zero hp hj
    case stop =>
      rintro rest last s₀ s hst hfin ⟨⟨⟨h, tk, rfl⟩, kp⟩, hg0, B, ci, lv, it, i, F, N, hlow, X, T, hlr, hit, hd, -⟩
      dsimp only at *
      have hl : h.IsList r its := ⟨_, F.keep _ _ hlr.choose_spec.1, hlr.choose_spec.2⟩
      refine seg_forLoop ?_
      rcases hst with rfl | ⟨xs, rfl⟩
      · refine wpAny_pyNext_list_end rfl hit hl (ints_end hd) fun h' hs => ?_
        show Seg _ _ _ _ _ _ _ (.pure (.done .next)) _ _
        refine seg_back (seg_execs_nil ?_)
        refine seg_end (.ok (.ret .none)) ⟨rfl, rfl, ⟨⟨h', _, rfl⟩, fun b o q e => hs _ _ ?_ (kp b o q e)⟩⟩
        rcases q with q | rfl
        · exact Nat.ne_of_lt (Nat.lt_trans q eI)
        · exact Ne.symm eIg
      · obtain ⟨t, hx, hd'⟩ := ints_at hd
        refine wpAny_pyNext_list_item hit hl hx fun h' hit' hs => ?_
        have F' := Fr.sameNew F eI hs
        have N' : News B L₃ h' [(ga, go)] := fun q hq => by
          cases hq with
          | head => exact ⟨(hs.2 _ (Ne.symm eIg)).trans (N _ (.tail _ (.head _))).1, (N _ (.tail _ (.head _))).2⟩
          | tail _ hm => cases hm
        clear F N hl hit hs kp
        show wpAny _ _ (assign _ _ _) _ _ _
        k_extra "p33_1"
        rename Fr _ _ _ _ => F₆
        rename News _ _ _ _ => N₆
        rw [gm_item] at F₆
        refine seg_execs_cons (seg_plain ?_)
        k_extra "p33_1"
        rename Fr _ _ _ _ => F₇
        rename News _ _ _ _ => N₇
        show Seg _ _ _ _ _ _ _ (.pure (.done (.ret .none))) _ _
        refine seg_back ?_
        exact seg_end (.ok (.ret .none)) ⟨rfl, rfl, ⟨⟨_, _, rfl⟩, gkeep F₇ N₇ (.head _) hlow hg0⟩⟩
    case pos =>
      rintro x xs last n s₀ s hx1 hx5 hz ⟨⟨⟨h, tk, rfl⟩, kp⟩, hg0, B, ci, lv, it, i, F, N, hlow, X, T, hlr, hit, hd, -⟩ ih
      dsimp only at *
      have hl : h.IsList r its := ⟨_, F.keep _ _ hlr.choose_spec.1, hlr.choose_spec.2⟩
      refine seg_forLoop ?_
      obtain ⟨t, hx, hd'⟩ := ints_at hd
      refine wpAny_pyNext_list_item hit hl hx fun h' hit' hs => ?_
      obtain ⟨oI, eo, ec, ed⟩ := hit'
      have F' := Fr.sameNew F eI hs
      have N' : News B L₃ h' [(I, oI), (ga, go)] := fun q hq => by
        cases hq with
        | head => exact ⟨eo, (N _ (.head _)).2⟩
        | tail _ hq => cases hq with
          | head => exact ⟨(hs.2 _ (Ne.symm eIg)).trans (N _ (.tail _ (.head _))).1, (N _ (.tail _ (.head _))).2⟩
          | tail _ hm => cases hm
      clear F N hl hit hs kp eo
      show wpAny _ _ (assign _ _ _) _ _ _
      k_extra "p33_1"
      rename Fr _ _ _ _ => F₆
      rw [gm_item] at F₆
      refine seg_execs_cons (seg_If ?_)
      k_extra "p33_1"
      all_goals try (exfalso; omega)
      refine seg_execs_nil (seg_execs_cons (seg_If ?_))
      k_extra "p33_1"
      all_goals try (exfalso; omega)
      refine seg_execs_nil (seg_execs_cons (seg_Expr_Yield rfl rfl rfl ?_))
      k_extra "p33_1"
      rename Fr _ _ _ _ => F₇
      rename News _ _ _ _ => N₇
      rename_i kap hk
      obtain ⟨o₇, es₇, ep₇, eo₇, ed₇⟩ := F₇.ns
      refine ⟨⟨t, by rw [hz]⟩, ⟨⟨_, _, rfl⟩, gkeep F₇ N₇ (.tail _ (.head _)) hlow hg0⟩, fun hm => ⟨[(L₃, o₇), (I, oI)], ?_, fun s'' hs'' => hk .none s'' ?_⟩⟩
      · intro q hq
        rcases List.mem_cons.mp hq with rfl | hq
        · exact ⟨Nat.le_refl _, Nat.ne_of_lt eL₃, eo₇⟩
        rcases List.mem_cons.mp hq with rfl | hq
        · exact ⟨Nat.le_of_lt eI, eIg, (N₇ _ (.head _)).1⟩
        cases hq
      · clear hk F₇ N₇ hlow X T hlr hg0
        obtain ⟨h₈, g₈, d₈, tk₈, os₈⟩ := s''
        obtain ⟨w1, w2, w3⟩ := hs''
        dsimp only at w1 w2 w3
        have e₃ := w1 _ (.head _)
        have R := regain (h₀ := hp₀) (h'' := h₈) (h' := h₈) (m₃ := gm r (some (Value.int x t)) lv) (by omega) ⟨o₇, es₇, ep₇, e₃, ed₇⟩ e₃ eI eL₃ e₃ (w1 _ (.tail _ (.head _))) w2 w3
        have hlow : ∀ b o, b < L₃ → h₈.get? b = some o → (low h₈ L₃).get? b = some o := fun b o q e => by rw [low_get q]; exact e
        generalize low h₈ L₃ = B₈ at *
        obtain ⟨F₈, N₈, kB⟩ := R
        have X₈ := XT.1.keeps kB
        have T₈ : TopX mean mg mb B₈ := XT.2.keeps kB
        have hrB : B₈.IsList r its := ⟨_, kB _ _ hr, rfl, nr, rfl⟩
        dsimp only at F₈ N₈
        show Seg _ _ _ _ _ _ _ (Sem.wrap _ _ _ _ (execs _ _)) _ _
        refine seg_execs_cons (seg_plain ?_)
        k_extra "p33_1"
        rename Fr _ _ _ _ => F₉
        rename News _ _ _ _ => N₉
        rw [gm_last] at F₉
        refine seg_execs_nil (seg_again rfl ?_)
        exact ih hm _ _ ⟨⟨⟨_, _, rfl⟩, gkeep F₉ N₉ (.tail _ (.head _)) hlow w2⟩, w2, B₈, _, _, oI, _, F₉, N₉, hlow, X₈, T₈, hrB, ⟨oI, (N₉ _ (.head _)).1, ec, ed⟩, hd', fun y q => by cases q; exact ⟨t, rfl⟩⟩
    case zero =>
      rintro y xs n s₀ s hfin hz ⟨⟨⟨h, tk, rfl⟩, kp⟩, hg0, B, ci, lv, it, i, F, N, hlow, X, T, hlr, hit, hd, hlast⟩
      obtain ⟨ty, rfl⟩ := hlast y rfl
      dsimp only at *
      have hl : h.IsList r its := ⟨_, F.keep _ _ hlr.choose_spec.1, hlr.choose_spec.2⟩
      refine seg_forLoop ?_
      obtain ⟨t, hx, hd'⟩ := ints_at hd
      refine wpAny_pyNext_list_item hit hl hx fun h' hit' hs => ?_
      obtain ⟨oI, eo, ec, ed⟩ := hit'
      have F' := Fr.sameNew F eI hs
      have N' : News B L₃ h' [(I, oI), (ga, go)] := fun q hq => by
        cases hq with
        | head => exact ⟨eo, (N _ (.head _)).2⟩
        | tail _ hq => cases hq with
          | head => exact ⟨(hs.2 _ (Ne.symm eIg)).trans (N _ (.tail _ (.head _))).1, (N _ (.tail _ (.head _))).2⟩
          | tail _ hm => cases hm
      clear F N hl hit hs kp eo
      show wpAny _ _ (assign _ _ _) _ _ _
      k_extra "p33_1"
      rename Fr _ _ _ _ => F₆
      rw [gm_item] at F₆
      refine seg_execs_cons (seg_If ?_)
      k_extra "p33_1"
      all_goals try (exfalso; omega)
      refine seg_execs_nil (seg_execs_cons (seg_If ?_))
      k_extra "p33_1"
      all_goals try (exfalso; omega)
      refine seg_execs_cons (seg_plain ?_)
      k_extra "p33_1"
      refine seg_execs_cons (seg_While' ?_)
      intro p₆
      rename Fr _ _ _ _ => F₇
      rename News _ _ _ _ => N₇
      refine zero_loop (y := y) (Z := Z) (J := GenZ w mean mg mb L₃ I r ga go y) ?turn n hz s₀ _ ⟨⟨⟨_, _, rfl⟩, gkeep F₇ N₇ (.tail _ (.head _)) hlow hg0⟩, hg0, B, _, ty, oI, F₇, N₇, hlow, X, T⟩
      case turn =>
        clear F₇ N₇ hlow X T hlr hg0 hd hd' hx
        rintro n' s₀' s' hz' ⟨⟨⟨h₉, tk₉, rfl⟩, -⟩, hg9, B₉, ci₉, t₉, it₉, F, N, hlow, X, T⟩ ih
        dsimp only at F N
        refine seg_whileTrue ?_
        k_extra "p33_1"
        refine seg_execs_cons (seg_Expr_Yield rfl rfl rfl ?_)
        k_extra "p33_1"
        rename Fr _ _ _ _ => F₇
        rename News _ _ _ _ => N₇
        rename_i kap hk
        obtain ⟨o₇, es₇, ep₇, eo₇, ed₇⟩ := F₇.ns
        refine ⟨⟨t₉, by rw [hz']⟩, ⟨⟨_, _, rfl⟩, gkeep F₇ N₇ (.tail _ (.head _)) hlow hg9⟩, fun hm => ⟨[(L₃, o₇), (I, it₉)], ?_, fun s'' hs'' => hk .none s'' ?_⟩⟩
        · intro q hq
          rcases List.mem_cons.mp hq with rfl | hq
          · exact ⟨Nat.le_refl _, Nat.ne_of_lt eL₃, eo₇⟩
          rcases List.mem_cons.mp hq with rfl | hq
          · exact ⟨Nat.le_of_lt eI, eIg, (N₇ _ (.head _)).1⟩
          cases hq
        · clear hk F₇ N₇ hlow X T hg9
          obtain ⟨h₈, g₈, d₈, tk₈, os₈⟩ := s''
          obtain ⟨w1, w2, w3⟩ := hs''
          dsimp only at w1 w2 w3
          have e₃ := w1 _ (.head _)
          have R := regain (h₀ := hp₀) (h'' := h₈) (h' := h₈) (m₃ := gm r ci₉ (.int y t₉)) (by omega) ⟨o₇, es₇, ep₇, e₃, ed₇⟩ e₃ eI eL₃ e₃ (w1 _ (.tail _ (.head _))) w2 w3
          have hlow : ∀ b o, b < L₃ → h₈.get? b = some o → (low h₈ L₃).get? b = some o := fun b o q e => by rw [low_get q]; exact e
          generalize low h₈ L₃ = B₈ at *
          obtain ⟨F₈, N₈, kB⟩ := R
          show Seg _ _ _ _ _ _ _ (Sem.wrap _ _ _ _ (execs _ _)) _ _
          refine seg_execs_nil (seg_again rfl ?_)
          refine ih (by rw [hfin] at hm; rcases hm with q | q; cases q; exact q) _ _ ⟨GKeep.refl _ _ _, w2, B₈, _, _, _, F₈, N₈, hlow, XT.1.keeps kB, XT.2.keeps kB⟩
  clear F₃ X₂ T₂ F₂ N₂ hga hl₂ F hi
  rintro k s' ⟨h, tk', gs, c, ws, vz, nz, rfl, hb, F₆, N₆, hws, hiv, hkN, hk0, hgo'⟩
  have g6 := N₆ _ (.tail _ (.head _))
  have l6 := N₆ _ (.head _)
  refine pyNext_turn (g := 0) (n := k) (P := fun n s₀ s₁ => n = 0 ∧ GKeep L₃ ga s₀ s₁) (Y := GY hp₀ L₃ ga go Z fin) rfl (T.nolimit.keeps F₆.keep) (by k_room) (by rw [← hgoE] at g6; exact isGen_at g6.1) rfl (hgo' _ ⟨fun p hp => (N₆ p (.tail _ (.tail _ hp))).1, g6.1, F₆.keep⟩) ?_ ?_
  · intro v s₁ gs' hb' hY
    obtain ⟨⟨t, rfl⟩, ⟨⟨h', tk'', rfl⟩, kp⟩, hag⟩ := hY
    have kp' : ∀ b o, (b < L₃ ∨ b = ga) → h.get? b = some o → h'.get? b = some o := kp
    have keep : ∀ b o, hp₀.get? b = some o → h'.get? b = some o := fun b o e => kp' b o (.inl (Nat.lt_of_lt_of_le (Heap.lt_size e) (by omega))) (F₆.keep b o e)
    cases k with
    | zero =>
      obtain ⟨ws', hw', hka⟩ := hag (.inl (by rcases hk0 with q | q; exact q; exact absurd q (Nat.lt_irrefl _)))
      exact (hka ⟨h', _, _, tk'', _⟩ ⟨fun p hp => (hw' p hp).2.2, kp' _ _ (.inr rfl) g6.1, keep⟩).elim
    | succ k =>
      have hag' := split_hag (fun p hp => by cases hp) hag
      obtain ⟨ws', hw', hka⟩ := hag'
      have F₇ : Fr hp₀ L₁ h' _ := ⟨F₆.ns.at' fun o e => kp' _ o (.inl (Nat.lt_of_lt_of_le eL₁ eA₃)) e, keep, F₆.above⟩
      have N₇ : News hp₀ L₁ h' ((l, W.listOf vz nz) :: (ga, go) :: ws') := by
        intro q hq
        rcases List.mem_cons.mp hq with rfl | hq
        · exact ⟨kp' _ _ (.inl (Nat.lt_of_lt_of_le el eA₃)) l6.1, l6.2⟩
        rcases List.mem_cons.mp hq with rfl | hq
        · exact ⟨kp' _ _ (.inr rfl) g6.1, g6.2⟩
        have z : @LE.le Nat _ L₃ q.1 := (hw' q hq).1
        exact ⟨(hw' q hq).2.2, Nat.ne_of_gt (by omega), none_of_size (by omega)⟩
      show wpAny _ _ (assign _ _ (.int (Z k) t)) _ _ ⟨h', #[gs'], dr₀, tk'', os₀⟩
      clear N₆ F₆ hgo' hag kp g6 l6 kp' keep
      k_extra "p33_1"
      rename Fr _ _ _ _ => F₈
      rename News _ _ _ _ => N₈
      have hsz : vz.size = N - (k + 1) := by
        have := hiv.length
        rw [got_length] at this
        simpa using this
      have l8 := N₈ _ (.head _)
      have hap : ∀ p ∈ (ga, go) :: ws', p.1 ≠ l := by
        intro q hq
        rcases List.mem_cons.mp hq with rfl | hq
        · exact Nat.ne_of_gt (by omega)
        · have z : @LE.le Nat _ L₃ q.1 := (hw' q hq).1
          exact Nat.ne_of_gt (by omega)
      refine len_list ⟨_, l8.1, rfl, nz, rfl⟩ (by rw [hsz]; omega) ?_
      rw [hsz]
      clear l8
      k_extra "p33_1"
      · rename_i e10 _ _ _ _ _ lt9
        rename Fr _ _ _ _ => FE
        rename News _ _ _ _ => NE
        have e10' : N - (k + 1) = 10 := by omega
        rw [e10'] at hiv
        refine ret ⟨hp₀, #[gs'], dr₀, tk₀, os₀⟩ _ _ _ _ _ _ _ rfl rfl (AllBare.empty.push (g := gs') hb') (Ext.toL FE.keep) (NE _ (.head _)).2.2 (NE _ (.tail _ (.head _))).2.2 (Nat.ne_of_lt lt9.1) (NE _ (.head _)).1 (NE _ (.tail _ (.head _))).1 ?_
        rw [show min N 10 = 10 by omega]
        exact hiv
      · rename_i e10 _
        rename Fr _ _ _ _ => F₉
        rename News _ _ _ _ => N₉
        have e10' : N - (k + 1) ≠ 10 := by omega
        rw [sz_again] at F₉
        refine append_head F₉ N₉ hap (fun h₁₀ F₁₀ N₁₀ => ?_) (by rw [hsz]; exact Nat.le_trans (show N - (k + 1) ≤ 11 by omega) (by decide))
        refine wpAny_execs_nil ?_
        have hk0' : fin = true ∨ 0 < k := by
          rcases hN with q | q
          · exact .inl q.1
          · right; omega
        refine ⟨k, Nat.lt_succ_self _, _, _, gs', _, ws', _, _, rfl, hb', F₁₀, N₁₀, fun p hp => ⟨(hw' p hp).1, (hw' p hp).2.1⟩, ?_, by omega, hk0', hka hk0'⟩
        rw [show N - k = (N - (k + 1)) + 1 by omega, got_succ, show N - 1 - (N - (k + 1)) = k by omega, Array.toList_push]
        exact ints_snoc hiv _ _
  · rintro s₁ ⟨hn0, ⟨h', tk'', rfl⟩, kp⟩ h'' hk
    subst hn0
    have kp' : ∀ b o, (b < L₃ ∨ b = ga) → h.get? b = some o → h''.get? b = some o := fun b o q e => hk b o (kp b o q e)
    have F₇ : Fr hp₀ L₁ h'' _ := ⟨F₆.ns.at' fun o e => kp' _ o (.inl (Nat.lt_of_lt_of_le eL₁ eA₃)) e, fun b o e => kp' b o (.inl (Nat.lt_of_lt_of_le (Heap.lt_size e) (by omega))) (F₆.keep b o e), F₆.above⟩
    have N₇ : News hp₀ L₁ h'' [(l, W.listOf vz nz)] := by
      intro q hq
      cases hq with
      | head => exact ⟨kp' _ _ (.inl (Nat.lt_of_lt_of_le el eA₃)) l6.1, l6.2⟩
      | tail _ hm => cases hm
    show wpAny _ _ (execs [] _) _ _ ⟨h'', #[GenState.finished], dr₀, tk'', os₀⟩
    clear N₆ F₆ hgo' kp g6 l6 kp' hk
    k_extra "p33_1"
    rename_i lt9
    rename Fr _ _ _ _ => FE
    rename News _ _ _ _ => NE
    refine ret ⟨hp₀, #[GenState.finished], dr₀, tk₀, os₀⟩ _ _ _ _ _ _ _ rfl rfl (AllBare.empty.push (g := GenState.finished) rfl) (Ext.toL FE.keep) (NE _ (.head _)).2.2 (NE _ (.tail _ (.head _))).2.2 (Nat.ne_of_lt lt9) (NE _ (.head _)).1 (NE _ (.tail _ (.head _))).1 ?_
    have e10 : N < 10 := by
      rcases hN with q | q
      · exact q.2
      · rcases hk0 with z | z
        · rw [q.1] at z; cases z
        · exact absurd z (Nat.lt_irrefl _)
    rw [show min N 10 = N - 0 by omega]
    exact hiv
end Mine
end

section
open PySem PySem.W PyProof.Rows
set_option maxHeartbeats 8000000
namespace Mine
theorem AllNe.off {a b : Addr} {o : Obj} : ∀ {news : List (Addr × Obj)}, AllNe a news → (b, o) ∈ news → @Ne Nat b a
  | _ :: _, h, .head _ => h.1
  | _ :: _, h, .tail _ hm => AllNe.off h.2 hm
section
variable {w : World} {e : Env} {s : Shared} {Q E : Value → Shared → Prop} {mean : ExcName → Option Value} {mg mb : Str → Option Value} {h₀ : Heap} {L : Addr} {m : Str → Option Value} {news : List (Addr × Obj)}
theorem news_app {h : Heap} {p : Addr} {o : Obj} (N : News h₀ L h news) (F : Fr h₀ L s.heap m) (hp : h.get? p = some o) (hn : s.heap.get? p = none) : News h₀ L h ((p, o) :: news) := by
  intro q hq
  rcases List.mem_cons.mp hq with rfl | hq
  · refine ⟨hp, ?_, ?_⟩
    · rintro rfl
      obtain ⟨oL, _, _, ho, _⟩ := F.ns
      rw [hn] at ho; cases ho
    · show h₀.get? p = none
      cases hz : h₀.get? p with
      | none => rfl
      | some o => have := F.keep _ o hz; rw [hn] at this; cases this
  · exact N q hq
theorem news_off {a : Addr} (N : News h₀ L s.heap news) (ha : s.heap.get? a = none) : AllNe a news := allNe_of fun q hq z => by rw [← z, (N q hq).1] at ha; cases ha
end
theorem ints2 {vr : Array Value} {a b : Int} (h : IntsAre vr.toList [a, b]) : ∃ t1 t2, vr = #[.int a t1, .int b t2] := by
  obtain ⟨l⟩ := vr
  cases h with
  | cons _ t1 h => cases h with
    | cons _ t2 h => cases h; exact ⟨_, _, rfl⟩
theorem fm5 (n : Int) : 1 ≤ 1 + n.fmod 5 ∧ 1 + n.fmod 5 ≤ 5 := by
  rw [Int.fmod_eq_emod_of_nonneg _ (by decide)]; omega
section
variable {w : World} {s : Shared} {Q E : Value → Shared → Prop} {mean : ExcName → Option Value} {mg mb : Str → Option Value} {h₀ : Heap} {L : Addr} {m : Str → Option Value} {news : List (Addr × Obj)}
/-- the text that is handed back beside the sizes -/
noncomputable def wordsOf (n : Int) : Str := if (n.fdiv 125).fmod 6 = 5 then Str.ofString "invalid grouping" else Str.ofString ""
theorem walkrow_at {n : Int} {r : Addr} {vr : Array Value} {nr : Nat} {fa : Addr} {name : Str} {scope : Scope} {cd : Value}
  (F : Fr h₀ L s.heap m) (N : News h₀ L s.heap news) (X₀ : (Mine.hd.heap_1 w.params).In h₀) (T₀ : TopX mean mg mb h₀) (K0 : Below callerA h₀ [] h₀)
  (hg : s.gens = #[]) (h0 : 0 ≤ n) (h1 : n < 16777216) (hr : (r, W.listOf vr nr) ∈ news) (hi : IntsAre vr.toList (rowOf n))
  (ret : ∀ (s' : Shared) (h' : Heap) (tk : Nat) (p z : Addr) (tt : Tok) (vz : Array Value) (nz : Nat), s'.drawn = s.drawn → s'.os = s.os → AllBare s'.gens → Fr h₀ L h' m → News h₀ L h' ((p, { cls := .type "tuple", data := .seq #[.ref z, .str (wordsOf n) tt] }) :: (z, W.listOf vz nz) :: news) →
    AllNe p news ∧ AllNe z news → IntsAre vz.toList (sizesOf n) → Q (.ref p) { s' with heap := h', toks := tk }) (hk : scope.kind = .function := by rfl) :
  wpAny (model PySem.Challenge.rw_pk0055_01.row.prog w) (callerA.deeper (envOfC name scope L fa cd)) (call (.ref 96) [.ref r]) Q E s := by
  have R : ∀ k, (n.fdiv 125).fmod 6 = k → WalkRet L s Q (if k = 5 then Str.ofString "invalid grouping" else Str.ofString "") (sizesK k (1 + n.fmod 5) (1 + (n.fdiv 5).fmod 5) (1 + (n.fdiv 25).fmod 5)) := by
    intro k hk s' h' tk p z tt vz nz a1 a2 a3 x a4 a5 _ a7 a8 a9
    refine ret s' h' tk p z tt vz nz a1 a2 a3 (x.fr F) (news_app (news_app (x.news N) F a8 a5) F ?_ a4) ⟨news_off N a4, news_off N a5⟩ (by rw [sizesOf_is hk]; exact a9)
    rw [wordsOf, hk]
    exact a7
  have X := X₀.keeps F.keep
  have hr' := (N _ hr).1
  have k6 : 0 ≤ (n.fdiv 125).fmod 6 ∧ (n.fdiv 125).fmod 6 < 6 := by rw [Int.fmod_eq_emod_of_nonneg _ (by decide)]; omega
  have b1 := fm5 n
  have b2 := fm5 (n.fdiv 5)
  have b3 := fm5 (n.fdiv 25)
  have hk6 : (n.fdiv 125).fmod 6 = 0 ∨ (n.fdiv 125).fmod 6 = 1 ∨ (n.fdiv 125).fmod 6 = 2 ∨ (n.fdiv 125).fmod 6 = 3 ∨ (n.fdiv 125).fmod 6 = 4 ∨ (n.fdiv 125).fmod 6 = 5 := by omega
  rcases hk6 with e | e | e | e | e | e
  · have R' := R _ e
    rw [rowOf_is e] at hi
    exact walkG (Z := fun _ => 1 + n.fmod 5) (fin := false) (N := 11) (E := E) F X₀ T₀ hg hr' hi (.pos b1.1 b1.2 rfl (.zero rfl fun _ _ => rfl)) (.inr ⟨rfl, rfl⟩) R'
  · have R' := R _ e
    rw [rowOf_is e] at hi
    exact walkG (Z := fun k => if k = 10 then 1 + n.fmod 5 else 1 + (n.fdiv 5).fmod 5) (fin := false) (N := 11) (E := E) F X₀ T₀ hg hr' hi (.pos b1.1 b1.2 rfl (.pos b2.1 b2.2 rfl (.zero rfl fun k hk => if_neg (by omega)))) (.inr ⟨rfl, rfl⟩) R'
  · have R' := R _ e
    rw [rowOf_is e] at hi
    exact walkG (Z := fun k => if k = 10 then 1 + n.fmod 5 else if k = 9 then 1 + (n.fdiv 5).fmod 5 else 1 + (n.fdiv 25).fmod 5) (fin := false) (N := 11) (E := E) F X₀ T₀ hg hr' hi (.pos b1.1 b1.2 rfl (.pos b2.1 b2.2 rfl (.pos b3.1 b3.2 rfl (.zero rfl fun k hk => by rw [if_neg (by omega), if_neg (by omega)])))) (.inr ⟨rfl, rfl⟩) R'
  · have R' := R _ e
    rw [rowOf_is e] at hi
    exact walkG (Z := fun k => if k = 1 then 1 + n.fmod 5 else 1 + (n.fdiv 5).fmod 5) (fin := true) (N := 2) (E := E) F X₀ T₀ hg hr' hi (.pos b1.1 b1.2 rfl (.pos b2.1 b2.2 rfl (.stop rfl))) (.inl ⟨rfl, by decide⟩) R'
  · have R' := R _ e
    rw [rowOf_is e] at hi
    exact walkG (Z := fun k => if k = 2 then 1 + n.fmod 5 else if k = 1 then 1 + (n.fdiv 5).fmod 5 else 1 + (n.fdiv 25).fmod 5) (fin := true) (N := 3) (E := E) F X₀ T₀ hg hr' hi (.pos b1.1 b1.2 rfl (.pos b2.1 b2.2 rfl (.pos b3.1 b3.2 rfl (.done rfl)))) (.inl ⟨rfl, by decide⟩) R'
  · have R' := R _ e
    rw [rowOf_is e] at hi
    obtain ⟨t1, t2, rfl⟩ := ints2 hi
    exact walk5 F X₀ T₀ K0 hg b1.1 b1.2 hr' hk R'
end
end Mine
end

section
open PySem PySem.W PyProof.Rows
set_option maxHeartbeats 8000000
namespace Mine
section
variable {w : World} {e : Env} {s : Shared} {Q E : Value → Shared → Prop} {mean : ExcName → Option Value} {mg mb : Str → Option Value} {h₀ : Heap} {L : Addr} {m : Str → Option Value} {news : List (Addr × Obj)}
theorem fm16 (a : Int) : 0 ≤ (a.fdiv 4096).fmod 16 ∧ (a.fdiv 4096).fmod 16 < 16 := by
  rw [Int.fmod_eq_emod_of_nonneg _ (by decide)]; omega
theorem fm4096 (a : Int) : 0 ≤ a.fmod 4096 ∧ a.fmod 4096 < 4096 := by
  rw [Int.fmod_eq_emod_of_nonneg _ (by decide)]; omega
theorem imode_atF {a : Int} {ta : Tok} (F : Fr h₀ L s.heap m) (N : News h₀ L s.heap news) (X₀ : (Mine.hd.heap_1 w.params).In h₀) (T₀ : TopX mean mg mb h₀)
  (ret : ∀ h' tk t, Fr h₀ L h' m → News h₀ L h' news → Q (.int (a.fmod 4096) t) {s with heap := h', toks := tk}) :
  wpAny (model PySem.Challenge.rw_pk0055_01.row.prog w) (callerA.deeper e) (call (.ref 35) [.int a ta]) Q E s := by
  refine imode_at F N X₀ T₀ (by k_room) ?_
  rw [← Int.fmod_eq_emod_of_nonneg _ (by decide)]
  exact ret
theorem ifmt_atF {a : Int} {ta : Tok} (F : Fr h₀ L s.heap m) (N : News h₀ L s.heap news) (X₀ : (Mine.hd.heap_1 w.params).In h₀) (T₀ : TopX mean mg mb h₀)
  (ret : ∀ h' tk t, Fr h₀ L h' m → News h₀ L h' news → Q (.int ((a.fdiv 4096).fmod 16 * 4096) t) {s with heap := h', toks := tk}) :
  wpAny (model PySem.Challenge.rw_pk0055_01.row.prog w) (callerA.deeper e) (call (.ref 42) [.int a ta]) Q E s := by
  refine ifmt_at F N X₀ T₀ (by k_room) ?_
  rw [Int.fmod_eq_emod_of_nonneg _ (by decide), Int.fdiv_eq_ediv_of_nonneg _ (by decide)] at ret
  exact ret
theorem filemode_at {k r : Int} {ta : Tok} (F : Fr h₀ L s.heap m) (N : News h₀ L s.heap news) (X₀ : (Mine.hd.heap_1 w.params).In h₀) (T₀ : TopX mean mg mb h₀)
  (hk : 0 ≤ k ∧ k < 16) (hr : 0 ≤ r ∧ r < 4096)
  (ret : ∀ h' tk t, Fr h₀ L h' m → News h₀ L h' news → Q (.str (signStr k r) t) {s with heap := h', toks := tk}) :
  wpAny (model PySem.Challenge.rw_pk0055_01.row.prog w) (callerA.deeper e) (call (.ref 82) [.int (k * 4096 + r) ta]) Q E s := by
  refine filemode_spec (X₀.keeps F.keep) (T₀.keeps F.keep) (by omega) (by omega) fun h' tk t x => ?_
  rw [show (k * 4096 + r) / 4096 = k by omega, show (k * 4096 + r) % 4096 = r by omega]
  exact ret h' tk t (x.fr F) (x.news N)
theorem signs_at {k r : Int} {ta tb : Tok} (F : Fr h₀ L s.heap m) (N : News h₀ L s.heap news) (X₀ : (Mine.hd.heap_1 w.params).In h₀) (T₀ : TopX mean mg mb h₀)
  (hk : 0 ≤ k ∧ k < 16) (hr : 0 ≤ r ∧ r < 4096)
  (ret : ∀ h' tk t, Fr h₀ L h' m → News h₀ L h' news → Q (.str (signStr k r) t) {s with heap := h', toks := tk}) :
  wpAny (model PySem.Challenge.rw_pk0055_01.row.prog w) (callerA.deeper e) (call (.ref 103) [.int k ta, .int r tb]) Q E s :=
  signs_spec (X₀.keeps F.keep) (T₀.keeps F.keep) hk.1 hk.2 hr.1 hr.2 fun h' tk t x => ret h' tk t (x.fr F) (x.news N)
noncomputable def pairObj (r z : Addr) : Obj := { cls := .type "tuple", data := .seq #[.ref r, .ref z] }
theorem row_at {n : Int} {ta : Tok} (F : Fr h₀ L s.heap m) (N : News h₀ L s.heap news) (X₀ : (Mine.hd.heap_1 w.params).In h₀) (T₀ : TopX mean mg mb h₀) (h0 : 0 ≤ n) (h1 : n < 16777216)
  (ret : ∀ h' tk p r z vr vz nr nz, Fr h₀ L h' m → News h₀ L h' ((p, { cls := .type "tuple", data := .seq #[.ref r, .ref z] }) :: (r, W.listOf vr nr) :: (z, W.listOf vz nz) :: news) →
      AllNe p news ∧ AllNe r news ∧ AllNe z news → IntsAre vr.toList (rowOf n) → IntsAre vz.toList (sizesOf n) → Q (.ref p) { s with heap := h', toks := tk }) :
  wpAny (model PySem.Challenge.rw_pk0055_01.row.prog w) (callerA.deeper e) (call (.ref 89) [.int n ta]) Q E s :=
  row_spec (X₀.keeps F.keep) (T₀.keeps F.keep) h0 h1 fun h' tk p r z vr vz nr nz x np nr' nz' gp gr gz i1 i2 =>
    ret h' tk p r z vr vz nr nz (x.fr F) (news_app (news_app (news_app (x.news N) F gz nz') F gr nr') F gp np) ⟨news_off N np, news_off N nr', news_off N nz'⟩ i1 i2
theorem word_at {a b : Str} {ta tb : Tok} {D : Addr} {items : Array Value} {n : Nat} {zs : List Int} (F : Fr h₀ L s.heap m) (N : News h₀ L s.heap news) (X₀ : (Mine.hd.heap_1 w.params).In h₀) (T₀ : TopX mean mg mb h₀)
  (ha : a.length = 10) (hb : b.length = 10) (hl : (D, W.listOf items n) ∈ news) (hi : IntsAre items.toList zs) (hz : ∀ z ∈ zs, 1 ≤ z ∧ z ≤ 5) (hn : zs.length ≤ 10)
  (ret : ∀ h' tk t, Fr h₀ L h' m → News h₀ L h' news → Q (.str (Txt.slice (wordRun a b zs zs.length) none (some 20)) t) { s with heap := h', toks := tk }) :
  wpAny (model PySem.Challenge.rw_pk0055_01.row.prog w) (callerA.deeper e) (call (.ref 110) [.str a ta, .str b tb, .ref D]) Q E s :=
  word_spec (X₀.keeps F.keep) (T₀.keeps F.keep) ha hb ⟨_, (N _ hl).1, rfl, n, rfl⟩ hi hz hn fun h' tk t x => ret h' tk t (x.fr F) (x.news N)
theorem told_at {word : Str} {place : Int} {ta tb : Tok} (F : Fr h₀ L s.heap m) (N : News h₀ L s.heap news) (X₀ : (Mine.hd.heap_1 w.params).In h₀) (T₀ : TopX mean mg mb h₀)
  (hw : word.length ≤ 20) (h0 : 1 ≤ place) (h1 : place < word.length)
  (ret0 : ToldAt word place [] → ∀ h' tk a, Fr h₀ L h' m → News h₀ L h' ((a, W.listOf #[] 0) :: news) → AllNe a news → Q (.ref a) { s with heap := h', toks := tk })
  (ret1 : ∀ f z st, ToldAt word place [(f, z, st)] → ∀ h' tk a b t1 t2 t3, Fr h₀ L h' m → News h₀ L h' ((a, W.listOf #[.ref b] 0) :: (b, tripObj f z st t1 t2 t3 0) :: news) → AllNe a news → AllNe b news → Q (.ref a) { s with heap := h', toks := tk }) :
  wpAny (model PySem.Challenge.rw_pk0055_01.row.prog w) (callerA.deeper e) (call (.ref 117) [.str word ta, .int place tb]) Q E s := by
  have ne : ∀ a, s.heap.get? a = none → AllNe a news := fun a ha => allNe_of fun q hq z => by rw [← z, (N q hq).1] at ha; cases ha
  refine told_spec (X₀.keeps F.keep) (T₀.keeps F.keep) hw h0 h1 (fun ht h' tk a x na ga => ?_) (fun f z st ht h' tk a b t1 t2 t3 x na nb _ ga gb => ?_)
  · exact ret0 ht h' tk a (x.fr F) (news_app (x.news N) F ga na) (ne a na)
  · exact ret1 f z st ht h' tk a b t1 t2 t3 (x.fr F) (news_app (news_app (x.news N) F gb nb) F ga na) (ne a na) (ne b nb)
theorem reps_at {word : Str} {ta : Tok} (F : Fr h₀ L s.heap m) (N : News h₀ L s.heap news) (X₀ : (Mine.hd.heap_1 w.params).In h₀) (T₀ : TopX mean mg mb h₀) (hw : word.length ≤ 20)
  (ret : ∀ h' tk D tups ys us c, Fr h₀ L h' m → News h₀ L h' ((D, W.listOf ys.toArray c) :: tups ++ news) → Trips tups ys us → us.Perm (outerRun word (word.length / 2)) → SortedL us → Q (.ref D) { s with heap := h', toks := tk }) :
  wpAny (model PySem.Challenge.rw_pk0055_01.row.prog w) (callerA.deeper e) (call (.ref 122) [.str word ta]) Q E s := by
  refine reps_spec (X₀.keeps F.keep) (T₀.keeps F.keep) hw fun h' tk D tups ys us c x nD gD ht hT hp hs => ret h' tk D tups ys us c (x.fr F) ?_ hT hp hs
  refine news_app (s := s) (m := m) ?_ F gD nD
  intro q hq
  rcases List.mem_append.mp hq with hq | hq
  · exact news_app (news := []) (fun _ h => nomatch h) F (ht q hq).1 (ht q hq).2 q (.head _)
  · exact x.news N q hq
end
end Mine
end

section
namespace Mine
theorem leastN {P : Nat → Prop} (h : ∃ n, P n) : ∃ n, P n ∧ ∀ m, m < n → ¬ P m := by
  obtain ⟨n, hn⟩ := h
  induction n using Nat.strongRecOn with
  | _ n ih =>
    by_cases e : ∃ m, m < n ∧ P m
    · obtain ⟨m, hm, hp⟩ := e
      exact ih m hm hp
    · exact ⟨n, hn, fun m hm hp => e ⟨m, hm, hp⟩⟩
section
variable {V : Nat → Nat} {n : Nat}
/-- from a on the letters come ahead of those from b on -/
noncomputable def Ahead (V : Nat → Nat) (a b : Nat) : Prop := ∃ t, (∀ x, x < t → V (a + x) = V (b + x)) ∧ V (a + t) < V (b + t)
theorem Ahead.irrefl {a : Nat} : ¬ Ahead V a a := fun ⟨_, _, h⟩ => Nat.lt_irrefl _ h
theorem Ahead.trans {a b c : Nat} (h1 : Ahead V a b) (h2 : Ahead V b c) : Ahead V a c := by
  obtain ⟨t, e1, l1⟩ := h1
  obtain ⟨u, e2, l2⟩ := h2
  rcases Nat.lt_trichotomy t u with h | h | h
  · exact ⟨t, fun x hx => (e1 x hx).trans (e2 x (by omega)), by rw [← e2 t h]; exact l1⟩
  · subst h
    exact ⟨t, fun x hx => (e1 x hx).trans (e2 x hx), Nat.lt_trans l1 l2⟩
  · exact ⟨u, fun x hx => (e1 x (by omega)).trans (e2 x hx), by rw [e1 u h]; exact l2⟩
theorem Ahead.tri (V : Nat → Nat) (a b : Nat) : Ahead V a b ∨ Ahead V b a ∨ ∀ x, V (a + x) = V (b + x) := by
  by_cases h : ∃ x, V (a + x) ≠ V (b + x)
  · obtain ⟨t, ht, hm⟩ := leastN h
    have hm' : ∀ x, x < t → V (a + x) = V (b + x) := fun x hx => Classical.byContradiction fun q => hm x hx q
    rcases Nat.lt_or_gt_of_ne ht with h | h
    · exact .inl ⟨t, hm', h⟩
    · exact .inr (.inl ⟨t, fun x hx => (hm' x hx).symm, h⟩)
  · exact .inr (.inr fun x => Classical.byContradiction fun q => h ⟨x, q⟩)
theorem Ahead.strip {a b c : Nat} (h : Ahead V a b) (e : ∀ x, x < c → V (a + x) = V (b + x)) : Ahead V (a + c) (b + c) := by
  obtain ⟨t, e1, l1⟩ := h
  by_cases hc : t < c
  · have := e t hc; omega
  · refine ⟨t - c, fun x hx => ?_, ?_⟩
    · have := e1 (c + x) (by omega)
      rw [← Nat.add_assoc, ← Nat.add_assoc] at this; exact this
    · rw [show a + c + (t - c) = a + t by omega, show b + c + (t - c) = b + t by omega]; exact l1
/-- the longest stretch from k on that comes ahead of each end of its own -/
structure Lyn (V : Nat → Nat) (n k b : Nat) : Prop where
  lt : k < b
  le : b ≤ n
  no : ∀ c, k < c → c < b → ¬ Ahead V c k
  yes : Ahead V b k
theorem ahead_n (hV : ∀ x, V x = 0 ↔ n ≤ x) {k : Nat} (h : k < n) : Ahead V n k :=
  ⟨0, fun x hx => absurd hx (Nat.not_lt_zero _), by
    have h1 := (hV (n + 0)).mpr (by omega)
    have h2 := mt (hV (k + 0)).mp (by omega)
    omega⟩
theorem ahead_ne (hV : ∀ x, V x = 0 ↔ n ≤ x) {a b : Nat} (hab : a < b) (ha : a < n) : Ahead V a b ∨ Ahead V b a := by
  rcases Ahead.tri V a b with h | h | h
  · exact .inl h
  · exact .inr h
  · exfalso
    by_cases hb : b < n
    · have h1 := h (n - b)
      rw [show b + (n - b) = n by omega, (hV n).mpr (Nat.le_refl _), hV] at h1
      omega
    · have h1 := h 0
      rw [(hV (b + 0)).mpr (by omega), hV] at h1
      omega
theorem Lyn.unb (hV : ∀ x, V x = 0 ↔ n ≤ x) {k b q : Nat} (h : Lyn V n k b) (hq : 1 ≤ q) (hq' : q < b - k) (e : ∀ x, k ≤ x → x + q < b → V x = V (x + q)) : False := by
  have hn := h.lt
  have hn' := h.le
  have h1 : Ahead V k (k + q) := (ahead_ne hV (by omega) (by omega)).resolve_right (h.no _ (by omega) (by omega))
  have h2 : Ahead V (k + (b - k - q)) (k + q + (b - k - q)) := h1.strip fun x hx => by
    have := e (k + x) (by omega) (by omega)
    rw [this]; congr 1; omega
  rw [show k + q + (b - k - q) = b by omega] at h2
  exact h.no _ (by omega) (by omega) (h2.trans h.yes)
/-- a repetition of the word: its first place, its end and a length -/
structure Rep (V : Nat → Nat) (n p i j : Nat) : Prop where
  p1 : 1 ≤ p
  two : i + 2 * p ≤ j
  le : j ≤ n
  per : ∀ x, i ≤ x → x + p < j → V x = V (x + p)
  left : i = 0 ∨ V (i - 1) ≠ V (i - 1 + p)
  right : j = n ∨ V (j - p) ≠ V j
noncomputable def LeastRep (V : Nat → Nat) (n p i j : Nat) : Prop := Rep V n p i j ∧ ∀ q, q < p → ¬ Rep V n q i j
theorem Rep.least_of_lyn (hV : ∀ x, V x = 0 ↔ n ≤ x) {p i j k : Nat} (h : Rep V n p i j) (hl : Lyn V n k (k + p)) (hi : i ≤ k) (hj : k + p ≤ j) : LeastRep V n p i j :=
  ⟨h, fun q hq hr => hl.unb hV hr.p1 (by omega) fun x hx hx' => hr.per x (by omega) (by omega)⟩
theorem per_mul {P : Nat → Nat} {g : Nat} (h : ∀ x, P (x + g) = P x) (c x : Nat) : P (x + g * c) = P x := by
  induction c with
  | zero => simp
  | succ c ih => rw [Nat.mul_succ, ← Nat.add_assoc, h, ih]
theorem least_at (P : Nat → Nat) : ∀ m, ∃ k, k ≤ m ∧ ∀ c, c ≤ m → ¬ Ahead P c k
  | 0 => ⟨0, Nat.le_refl _, fun c hc => by
      have : c = 0 := by omega
      subst this; exact Ahead.irrefl⟩
  | m + 1 => by
    obtain ⟨k, hk, hm⟩ := least_at P m
    by_cases h : Ahead P (m + 1) k
    · refine ⟨m + 1, Nat.le_refl _, fun c hc q => ?_⟩
      by_cases e : c = m + 1
      · subst e; exact Ahead.irrefl q
      · exact hm c (by omega) (q.trans h)
    · refine ⟨k, by omega, fun c hc q => ?_⟩
      by_cases e : c = m + 1
      · subst e; exact h q
      · exact hm c (by omega) q
/-- a least repetition has a stretch of its length that comes ahead of each end of its own -/
theorem LeastRep.lyn {p i j : Nat} (h : LeastRep V n p i j) (hlt : V j < V (j - p)) : ∃ k, i < k ∧ k ≤ i + p ∧ Lyn V n k (k + p) := by
  obtain ⟨⟨p1, two, le, per, left, right⟩, least⟩ := h
  let P : Nat → Nat := fun x => V (i + x % p)
  have hP : ∀ x, P (x + p) = P x := fun x => by show V _ = V _; rw [Nat.add_mod_right]
  have hPV : ∀ x, i + x < j → V (i + x) = P x := by
    intro x
    induction x using Nat.strongRecOn with
    | _ x ih =>
      intro hx
      by_cases hxp : x < p
      · show _ = V _; rw [Nat.mod_eq_of_lt hxp]
      · have h1 := ih (x - p) (by omega) (by omega)
        have h2 := hP (x - p)
        have h3 := per (i + (x - p)) (by omega) (by omega)
        rw [show x - p + p = x by omega] at h2
        rw [show i + (x - p) + p = i + x by omega] at h3
        rw [← h3, h1, h2]
  -- no shorter period
  have prim : ∀ d, 1 ≤ d → d < p → ¬ ∀ x, P (x + d) = P x := by
    intro d hd hdp hper
    obtain ⟨g, ⟨hg1, hg⟩, hleast⟩ := leastN (P := fun d => 1 ≤ d ∧ ∀ x, P (x + d) = P x) ⟨d, hd, hper⟩
    have hgd : g ≤ d := Nat.le_of_not_lt fun q => hleast d q ⟨hd, hper⟩
    have hmod : p % g = 0 := by
      refine Classical.byContradiction fun q => hleast (p % g) (Nat.mod_lt _ (by omega)) ⟨by omega, fun x => ?_⟩
      have h1 := per_mul hg (p / g) (x + p % g)
      rw [Nat.add_assoc, Nat.mod_add_div, hP] at h1
      exact h1.symm
    have hgp := Nat.mod_add_div p g
    rw [hmod, Nat.zero_add] at hgp
    have hc2 : 1 ≤ p / g := by
      rcases Nat.eq_zero_or_pos (p / g) with z | z
      · rw [z] at hgp; omega
      · exact z
    -- the period g all over
    refine least g (by omega) ⟨hg1, by omega, le, ?_, ?_, ?_⟩
    · intro x hx hx'
      have h1 := hPV (x - i) (by omega)
      have h2 := hPV (x - i + g) (by omega)
      rw [show i + (x - i) = x by omega] at h1
      rw [show i + (x - i + g) = x + g by omega] at h2
      rw [h1, h2, hg]
    · rcases left with h | h
      · exact .inl h
      · by_cases hi0 : i = 0
        · exact .inl hi0
        refine .inr fun q => h ?_
        rw [q]
        have h1 := hPV (g - 1) (by omega)
        have h2 := hPV (p - 1) (by omega)
        rw [show i + (g - 1) = i - 1 + g by omega] at h1
        rw [show i + (p - 1) = i - 1 + p by omega] at h2
        rw [h1, h2]
        have h3 := per_mul hg (p / g - 1) (g - 1)
        rw [show g - 1 + g * (p / g - 1) = p - 1 by
          have : g * (p / g - 1) + g = p := by rw [← Nat.mul_succ, Nat.succ_eq_add_one, show p / g - 1 + 1 = p / g by omega, hgp]
          omega] at h3
        exact h3.symm
    · rcases right with h | h
      · exact .inl h
      · refine .inr fun q => h ?_
        rw [← q]
        have h1 := hPV (j - p - i) (by omega)
        have h2 := hPV (j - g - i) (by omega)
        rw [show i + (j - p - i) = j - p by omega] at h1
        rw [show i + (j - g - i) = j - g by omega] at h2
        rw [h1, h2]
        have h3 := per_mul hg (p / g - 1) (j - p - i)
        rw [show j - p - i + g * (p / g - 1) = j - g - i by
          have : g * (p / g - 1) + g = p := by rw [← Nat.mul_succ, Nat.succ_eq_add_one, show p / g - 1 + 1 = p / g by omega, hgp]
          omega] at h3
        exact h3.symm
  -- the least place among 1 .. p
  obtain ⟨k0, hk0, hmin0⟩ := least_at (fun x => P (1 + x)) (p - 1)
  have hmin1 : ∀ c, 1 ≤ c → c ≤ p → ¬ Ahead P c (1 + k0) := by
    rintro c h1 h2 ⟨t, e, l⟩
    refine hmin0 (c - 1) (by omega) ⟨t, fun x hx => ?_, ?_⟩
    · have := e x hx
      show P _ = P _
      rw [show 1 + (c - 1 + x) = c + x by omega, show 1 + (k0 + x) = 1 + k0 + x by omega]; exact this
    · show P _ < P _
      rw [show 1 + (c - 1 + t) = c + t by omega, show 1 + (k0 + t) = 1 + k0 + t by omega]; exact l
  generalize hk : 1 + k0 = k at hmin1
  have hmin : ∀ c, 1 ≤ c → c ≤ 2 * p → ¬ Ahead P c k := by
    intro c h1 h2
    by_cases hc : c ≤ p
    · exact hmin1 c h1 hc
    · rintro ⟨t, e, l⟩
      refine hmin1 (c - p) (by omega) (by omega) ⟨t, fun x hx => ?_, ?_⟩
      · rw [← hP (c - p + x), show c - p + x + p = c + x by omega]; exact e x hx
      · rw [← hP (c - p + t), show c - p + t + p = c + t by omega]; exact l
  refine ⟨i + k, by omega, by omega, by omega, by omega, ?_, ?_⟩
  · intro c hc1 hc2 hc
    -- P from k on comes ahead of P from c - i on, before the end
    have h1 : Ahead P k (c - i) := by
      rcases Ahead.tri P k (c - i) with h | h | h
      · exact h
      · exact absurd h (hmin _ (by omega) (by omega))
      · refine absurd ?_ (prim (c - i - k) (by omega) (by omega))
        intro x
        have h2 := h (x + (p * k - k))
        have hpk : k ≤ p * k := Nat.le_mul_of_pos_left _ (by omega)
        rw [show k + (x + (p * k - k)) = x + p * k by omega, show c - i + (x + (p * k - k)) = x + (c - i - k) + p * k by omega, per_mul hP, per_mul hP] at h2
        exact h2.symm
    obtain ⟨t, e, l⟩ := h1
    have ht : c + t < i + k + p := by
      refine Nat.lt_of_not_le fun hle => ?_
      have h2 : Ahead P (k + (i + k + p - c)) (c - i + (i + k + p - c)) := Ahead.strip ⟨t, e, l⟩ fun x hx => e x (by omega)
      rw [show c - i + (i + k + p - c) = k + p by omega] at h2
      refine hmin (k + (i + k + p - c)) (by omega) (by omega) ?_
      obtain ⟨u, e', l'⟩ := h2
      refine ⟨u, fun x hx => ?_, ?_⟩
      · rw [e' x hx, show k + p + x = k + x + p by omega, hP]
      · rw [show k + p + u = k + u + p by omega, hP] at l'; exact l'
    refine Ahead.irrefl (Ahead.trans hc (b := i + k) ⟨t, fun x hx => ?_, ?_⟩)
    · have h1 := hPV (k + x) (by omega)
      have h2 := hPV (c - i + x) (by omega)
      rw [show i + (k + x) = i + k + x by omega] at h1
      rw [show i + (c - i + x) = c + x by omega] at h2
      rw [h1, h2, e x hx]
    · have h1 := hPV (k + t) (by omega)
      have h2 := hPV (c - i + t) (by omega)
      rw [show i + (k + t) = i + k + t by omega] at h1
      rw [show i + (c - i + t) = c + t by omega] at h2
      rw [h1, h2]; exact l
  · refine ⟨j - (i + k + p), fun x hx => ?_, ?_⟩
    · have := per (i + k + x) (by omega) (by omega)
      rw [this]; congr 1; omega
    · rw [show i + k + p + (j - (i + k + p)) = j by omega, show i + k + (j - (i + k + p)) = j - p by omega]; exact hlt
end
end Mine
end

section
open PySem PySem.W PyProof.Rows PySem.Calls
set_option maxHeartbeats 8000000
namespace Mine
inductive StrsAre : List Value → List Str → Prop where
  | nil : StrsAre [] []
  | cons (x : Str) (t : Tok) {vs : List Value} {xs : List Str} : StrsAre vs xs → StrsAre (.str x t :: vs) (x :: xs)
theorem strs_reads {h : Heap} : ∀ {vs : List Value} {xs : List Str}, StrsAre vs xs → ∃ as, ReadsAll h vs (xs.map PyData.str) as
  | _, _, .nil => ⟨_, .nil⟩
  | _, _, .cons x t r => let ⟨_, q⟩ := strs_reads r; ⟨_, .cons (.str x t) q⟩
theorem strs_lay : ∀ xs : List Str, (∀ x ∈ xs, PyData.strOk x = true) → PyData.canLayAll0 (xs.map PyData.str) = true ∧ PyData.depthAll (xs.map PyData.str) = 0
  | [], _ => ⟨rfl, rfl⟩
  | x :: r, hx => by
    have h := strs_lay r fun y hy => hx y (.tail _ hy)
    have h0 := hx x (.head _)
    simp [PyData.canLayAll0, PyData.canLay0, PyData.depthAll, PyData.depth, h.1, h.2, h0]
theorem strs_shaped (xs : List Str) (hx : ∀ x ∈ xs, PyData.strOk x = true) : SeqAt.shaped (.list (xs.map PyData.str)) = true := by
  have h := strs_lay xs hx
  simp [SeqAt.shaped, PyData.canLay0, PyData.depth, h.1, h.2]
theorem strs_eqv : ∀ xs ys : List Str, PyData.eqvAll (xs.map PyData.str) (ys.map PyData.str) = decide (xs = ys)
  | [], [] => by simp [PyData.eqvAll]
  | [], _ :: _ => by simp [PyData.eqvAll]
  | _ :: _, [] => by simp [PyData.eqvAll]
  | a :: r, b :: t => by
    simp only [List.map_cons, PyData.eqvAll, PyData.eqv, strs_eqv r t, List.cons.injEq, Bool.decide_and]
    by_cases h : a = b <;> simp [h]
section
variable {prog : Program} {w : World} {A : Around} {E : Value → Shared → Prop} {s : Shared} {a b : Addr} {xs ys : List Value} {us vs : List Str} {Q : Value → Shared → Prop} {h₀ : Heap} {L : Addr} {news : List (Addr × Obj)} {k n : Nat}
/-- two lists of texts compared -/
theorem ne_strs (N : News h₀ L s.heap news) (ha : (a, W.listOf xs.toArray k) ∈ news) (hb : (b, W.listOf ys.toArray n) ∈ news) (hi : StrsAre xs us) (hj : StrsAre ys vs) (hus : ∀ x ∈ us, PyData.strOk x = true) (hvs : ∀ x ∈ vs, PyData.strOk x = true) (hu : A.units + 64 < cLine)
    (h : Q (.bool (!decide (us = vs))) s) : wpAny (model prog w) A (compareOp .NotEq (.ref a) (.ref b)) Q E s := by
  obtain ⟨as, ra⟩ := strs_reads (h := s.heap) hi
  obtain ⟨bs, rb⟩ := strs_reads (h := s.heap) hj
  refine ne_dataH (reads_list_at (N _ ha).1 rfl rfl (by simpa using ra)) (reads_list_at (N _ hb).1 rfl rfl (by simpa using rb)) (strs_shaped us hus) (strs_shaped vs hvs) hu ?_
  simp only [PyData.eqv, strs_eqv]
  exact h
end
end Mine
end

section
open PySem PySem.W PyProof.Rows PySem.Calls
set_option maxHeartbeats 8000000
namespace Mine
theorem filterMap_range {α : Type} (l : List α) : ∀ (n j : Nat), j + n = l.length → (List.range n).filterMap (fun k => l[j + k]?) = l.drop j
  | 0, j, h => by
    rw [List.drop_eq_nil_of_le (by omega)]; rfl
  | n + 1, j, h => by
    rw [List.range_succ_eq_map, List.filterMap_cons]
    have hj : j < l.length := by omega
    simp only [Nat.add_zero, List.getElem?_eq_getElem hj, List.filterMap_map]
    rw [List.drop_eq_getElem_cons hj]
    congr 1
    rw [← filterMap_range l n (j + 1) (by omega)]
    congr 1
    funext k
    show l[j + (k + 1)]? = _
    congr 1; omega
theorem from_idx (n : Nat) (j : Int) (h0 : 0 ≤ j) (h1 : j ≤ n) : Builtin.Str.strSliceIndices (some j) none 1 n = (List.range (n - j.toNat)).map fun k => j.toNat + k := by
  unfold Builtin.Str.strSliceIndices sliceRange
  simp only [show (1 : Int) > 0 by decide, if_true, if_neg (show ¬ j < 0 by omega)]
  rw [show max 0 (min j (n : Int)) = j by omega]
  split
  · rw [show (((n : Int) - j + 1 - 1) / 1).toNat = n - j.toNat by rw [Int.ediv_one]; omega]
    refine List.map_congr_left fun k _ => ?_
    omega
  · rw [show n - j.toNat = 0 by omega]; rfl
theorem slice_from (x : Str) (j : Int) (h0 : 0 ≤ j) (h1 : j ≤ x.length) : (Txt.slice x (some j) none).cps.toList = x.cps.toList.drop j.toNat := by
  unfold Txt.slice
  rw [from_idx _ j h0 h1]
  have hl : x.length = x.cps.toList.length := by simp [Str.length]
  split
  · rename_i h
    simp only [beq_self_eq_true, Bool.true_and, beq_iff_eq, List.length_map, List.length_range] at h
    have : j.toNat = 0 ∨ x.length = 0 := by omega
    rcases this with e | e
    · rw [e, List.drop_zero]
    · rw [hl, List.length_eq_zero_iff] at e
      rw [e]; simp
  · rw [List.filterMap_map]
    simp only [Function.comp_def]
    have := filterMap_range x.cps.toList (x.length - j.toNat) j.toNat (by omega)
    simpa using this
theorem mem_slice (x : Str) (l u : Option Int) (c : Nat) (h : c ∈ (Txt.slice x l u).cps.toList) : c ∈ x.cps.toList := by
  unfold Txt.slice at h
  split at h
  · exact h
  · simp only [List.mem_filterMap] at h
    obtain ⟨i, _, hi⟩ := h
    obtain ⟨hlt, rfl⟩ := Array.getElem?_eq_some_iff.mp hi
    simp
theorem slice20 (x : Str) : (Txt.slice x none (some 20)).length ≤ 20 := by
  have hidx : (Builtin.Str.strSliceIndices none (some 20) 1 x.length).length ≤ 20 := by
    unfold Builtin.Str.strSliceIndices sliceRange
    simp only [show (1 : Int) > 0 by decide, if_true, if_neg (show ¬ (20 : Int) < 0 by decide), List.length_map, List.length_range]
    split
    · rw [Int.ediv_one]; omega
    · omega
  unfold Txt.slice
  split
  · rename_i h
    simp only [beq_self_eq_true, Bool.true_and, beq_iff_eq] at h
    omega
  · show (List.filterMap _ _).toArray.size ≤ 20
    rw [List.size_toArray]
    exact Nat.le_trans (List.length_filterMap_le _ _) hidx
/-- signs that come ahead of the ~ -/
noncomputable def Small (x : Str) : Prop := ∀ c ∈ x.cps.toList, c < 126
theorem Small.ok {x : Str} (h : Small x) : PyData.strOk x = true := by
  unfold PyData.strOk
  rw [Array.all_eq_true']
  intro c hc
  have := h c (by simpa using hc)
  simp; omega
theorem Small.slice {x : Str} (h : Small x) (l u : Option Int) : Small (Txt.slice x l u) := fun c hc => h c (mem_slice x l u c hc)
theorem Small.app {x y : Str} (h : Small x) (h' : Small y) : Small (x ++ y) := fun c hc => by
  have : c ∈ x.cps.toList ++ y.cps.toList := by
    have e : (x ++ y).cps = x.cps ++ y.cps := rfl
    rw [e] at hc; simpa using hc
  rcases List.mem_append.mp this with q | q
  · exact h c q
  · exact h' c q
theorem lt_iff : ∀ (A B : List Nat), A < B ↔ ∃ t : Nat, (∀ x : Nat, x < t → A[x]? = B[x]?) ∧ ((A[t]? = none ∧ B[t]? ≠ none) ∨ ∃ a b, A[t]? = some a ∧ B[t]? = some b ∧ a < b)
  | [], [] => by simp
  | [], b :: B => by
    simp only [List.nil_lt_cons, true_iff]
    exact ⟨0, fun x hx => absurd hx (Nat.not_lt_zero _), .inl ⟨rfl, by simp⟩⟩
  | a :: A, [] => by
    constructor
    · intro h; simp at h
    · rintro ⟨t, _, h⟩
      simp at h
  | a :: A, b :: B => by
    rw [List.cons_lt_cons_iff, lt_iff A B]
    constructor
    · rintro (h | ⟨rfl, t, h1, h2⟩)
      · exact ⟨0, fun x hx => absurd hx (Nat.not_lt_zero _), .inr ⟨a, b, rfl, rfl, h⟩⟩
      · refine ⟨t + 1, fun x hx => ?_, by simpa using h2⟩
        cases x with
        | zero => rfl
        | succ x => simpa using h1 x (by omega)
    · rintro ⟨t, h1, h2⟩
      cases t with
      | zero =>
        left
        simpa using h2
      | succ t =>
        right
        have e0 := h1 0 (by omega)
        simp at e0
        refine ⟨e0, t, fun x hx => ?_, by simpa using h2⟩
        have := h1 (x + 1) (by omega)
        simpa using this
end Mine
end

section
open PySem PySem.W PyProof.Rows PySem.Calls
set_option maxHeartbeats 8000000
namespace Mine
noncomputable def enc1 : Option Nat → Nat
  | none => 0
  | some c => c + 1
noncomputable def enc2 : Option Nat → Nat
  | none => 0
  | some c => 126 - c
noncomputable def V1 (w : Str) (x : Nat) : Nat := enc1 w.cps.toList[x]?
noncomputable def V2 (w : Str) (x : Nat) : Nat := enc2 w.cps.toList[x]?
theorem lenL (w : Str) : w.cps.toList.length = w.length := by simp [Str.length]
theorem V1_zero (w : Str) (x : Nat) : V1 w x = 0 ↔ w.length ≤ x := by
  unfold V1
  rw [← lenL, ← List.getElem?_eq_none_iff]
  cases w.cps.toList[x]? <;> simp [enc1]
theorem V2_zero (w : Str) (h : Small w) (x : Nat) : V2 w x = 0 ↔ w.length ≤ x := by
  unfold V2
  rw [← lenL, ← List.getElem?_eq_none_iff]
  cases e : w.cps.toList[x]? with
  | none => simp [enc2]
  | some c =>
    have := h c (List.mem_of_getElem? e)
    simp only [enc2, reduceCtorEq, iff_false]; omega
theorem V_eq (w : Str) (h : Small w) (x y : Nat) : V1 w x = V1 w y ↔ V2 w x = V2 w y := by
  unfold V1 V2
  cases e : w.cps.toList[x]? with
  | none =>
    cases e' : w.cps.toList[y]? with
    | none => simp [enc1, enc2]
    | some d =>
      have := h d (List.mem_of_getElem? e')
      simp only [enc1, enc2]; omega
  | some c =>
    have := h c (List.mem_of_getElem? e)
    cases e' : w.cps.toList[y]? with
    | none => simp only [enc1, enc2]; omega
    | some d =>
      have := h d (List.mem_of_getElem? e')
      simp only [enc1, enc2]; omega
theorem Rep.conv {w : Str} (h : Small w) {n p i j : Nat} : Rep (V1 w) n p i j ↔ Rep (V2 w) n p i j := by
  constructor
  · rintro ⟨a, b, c, d, e, f⟩
    exact ⟨a, b, c, fun x h1 h2 => (V_eq w h _ _).mp (d x h1 h2), e.imp id (fun q => mt (V_eq w h _ _).mpr q), f.imp id fun q => mt (V_eq w h _ _).mpr q⟩
  · rintro ⟨a, b, c, d, e, f⟩
    exact ⟨a, b, c, fun x h1 h2 => (V_eq w h _ _).mpr (d x h1 h2), e.imp id (fun q => mt (V_eq w h _ _).mp q), f.imp id fun q => mt (V_eq w h _ _).mp q⟩
theorem LeastRep.conv {w : Str} (h : Small w) {n p i j : Nat} : LeastRep (V1 w) n p i j ↔ LeastRep (V2 w) n p i j :=
  ⟨fun q => ⟨(Rep.conv h).mp q.1, fun r hr z => q.2 r hr ((Rep.conv h).mpr z)⟩, fun q => ⟨(Rep.conv h).mpr q.1, fun r hr z => q.2 r hr ((Rep.conv h).mp z)⟩⟩
theorem ahead1 (w : Str) (b k : Nat) : w.cps.toList.drop b < w.cps.toList.drop k ↔ Ahead (V1 w) b k := by
  rw [lt_iff]
  simp only [List.getElem?_drop]
  constructor
  · rintro ⟨t, h1, h2⟩
    refine ⟨t, fun x hx => by unfold V1; rw [h1 x hx], ?_⟩
    unfold V1
    rcases h2 with ⟨h2, h3⟩ | ⟨c, d, h2, h3, h4⟩
    · rw [h2]
      cases e : w.cps.toList[k + t]? with
      | none => exact absurd e h3
      | some d => simp [enc1]
    · rw [h2, h3]; simp only [enc1]; omega
  · rintro ⟨t, h1, h2⟩
    have inj : ∀ a b : Option Nat, enc1 a = enc1 b → a = b := by
      intro a b h
      cases a <;> cases b <;> simp_all [enc1]
    refine ⟨t, fun x hx => inj _ _ (h1 x hx), ?_⟩
    unfold V1 at h2
    cases e : w.cps.toList[b + t]? with
    | none =>
      rw [e] at h2
      cases e' : w.cps.toList[k + t]? with
      | none => rw [e'] at h2; simp [enc1] at h2
      | some d => exact .inl ⟨rfl, by simp⟩
    | some c =>
      rw [e] at h2
      cases e' : w.cps.toList[k + t]? with
      | none => rw [e'] at h2; simp [enc1] at h2
      | some d => rw [e'] at h2; exact .inr ⟨c, d, rfl, rfl, by simp only [enc1] at h2; omega⟩
theorem get_mark (w : Str) (b t : Nat) (hb : b ≤ w.length) : (w.cps.toList.drop b ++ [126])[t]? = if b + t < w.length then w.cps.toList[b + t]? else if b + t = w.length then some 126 else none := by
  rw [← lenL] at hb ⊢
  by_cases h : b + t < w.cps.toList.length
  · rw [if_pos h, List.getElem?_append_left (by rw [List.length_drop]; omega), List.getElem?_drop]
  · rw [if_neg h, List.getElem?_append_right (by rw [List.length_drop]; omega), List.length_drop]
    by_cases h' : b + t = w.cps.toList.length
    · rw [if_pos h', show t - (w.cps.toList.length - b) = 0 by omega]; rfl
    · rw [if_neg h', List.getElem?_eq_none (by simp only [List.length_cons, List.length_nil]; omega)]
theorem getS (w : Str) (h : Small w) (x : Nat) (hx : x < w.length) : ∃ c, w.cps.toList[x]? = some c ∧ c < 126 := by
  have hx' : x < w.cps.toList.length := by rw [lenL]; exact hx
  exact ⟨_, List.getElem?_eq_getElem hx', h _ (List.getElem_mem hx')⟩
theorem ahead2 (w : Str) (h : Small w) (b k : Nat) (hb : b ≤ w.length) (hk : k < b) : w.cps.toList.drop k ++ [126] < w.cps.toList.drop b ++ [126] ↔ Ahead (V2 w) b k := by
  rw [lt_iff]
  simp only [get_mark w b _ hb, get_mark w k _ (by omega)]
  constructor
  · rintro ⟨t, h1, h2⟩
    -- before t both are signs
    have lt : ∀ x, x < t → b + x < w.length := by
      intro x hx
      refine Nat.lt_of_not_le fun hle => ?_
      have := h1 x hx
      by_cases e : k + x < w.length
      · obtain ⟨c, hc, hc'⟩ := getS w h _ e
        rw [if_pos e, hc, if_neg (by omega)] at this
        split at this
        · injection this with q; omega
        · cases this
      · have := h1 (w.length - k) (by omega)
        rw [if_neg (by omega), if_pos (by omega), if_neg (by omega), if_neg (by omega)] at this
        cases this
    have hbt : b + t ≤ w.length := by
      cases t with
      | zero => omega
      | succ t => have := lt t (by omega); omega
    have hkt : k + t < w.length := by omega
    refine ⟨t, fun x hx => ?_, ?_⟩
    · have := h1 x hx
      rw [if_pos (by have := lt x hx; omega), if_pos (lt x hx)] at this
      unfold V2; rw [this]
    · obtain ⟨c, hc, hc'⟩ := getS w h _ hkt
      rw [if_pos hkt, hc] at h2
      rcases h2 with ⟨q, _⟩ | ⟨c', d, q1, q2, q3⟩
      · cases q
      · injection q1 with q1
        subst q1
        unfold V2
        rw [hc]
        by_cases e : b + t < w.length
        · rw [if_pos e] at q2
          rw [q2]
          simp only [enc2]; omega
        · rw [if_neg e, if_pos (by omega)] at q2
          injection q2 with q2
          subst q2
          rw [List.getElem?_eq_none (by rw [lenL]; omega)]
          simp only [enc2]; omega
  · rintro ⟨t, h1, h2⟩
    have hkt : k + t < w.length := by
      refine Nat.lt_of_not_le fun hle => ?_
      rw [(V2_zero w h (k + t)).mpr hle] at h2
      omega
    have lt : ∀ x, x < t → b + x < w.length := by
      intro x hx
      refine Nat.lt_of_not_le fun hle => ?_
      have := h1 x hx
      rw [(V2_zero w h (b + x)).mpr hle] at this
      have := (V2_zero w h (k + x)).mp this.symm
      omega
    have hbt : b + t ≤ w.length := by
      cases t with
      | zero => omega
      | succ t => have := lt t (by omega); omega
    refine ⟨t, fun x hx => ?_, .inr ?_⟩
    · rw [if_pos (by have := lt x hx; omega), if_pos (lt x hx)]
      have := h1 x hx
      unfold V2 at this
      obtain ⟨c, hc, hc'⟩ := getS w h _ (lt x hx)
      obtain ⟨d, hd, hd'⟩ := getS w h (k + x) (by have := lt x hx; omega)
      rw [hc, hd] at this ⊢
      simp only [enc2] at this
      congr 1; omega
    · obtain ⟨c, hc, hc'⟩ := getS w h _ hkt
      rw [if_pos hkt, hc]
      unfold V2 at h2
      rw [hc] at h2
      by_cases e : b + t < w.length
      · obtain ⟨d, hd, hd'⟩ := getS w h _ e
        rw [if_pos e, hd]
        rw [hd] at h2
        exact ⟨c, d, rfl, rfl, by simp only [enc2] at h2; omega⟩
      · rw [if_neg e, if_pos (by omega)]
        exact ⟨c, 126, rfl, rfl, hc'⟩
end Mine
namespace Mine
theorem ll_asymm {A B : List Nat} (h : A < B) : ¬ B < A := List.lt_asymm h
theorem coll_neg {a b : Str} : coll a b = -1 ↔ a.cps.toList < b.cps.toList := by
  unfold coll
  by_cases h1 : a.cps.toList < b.cps.toList
  · simp [h1, ll_asymm h1, b2i]
  · by_cases h2 : b.cps.toList < a.cps.toList
    · simp [h1, h2, b2i]
    · simp [h1, h2, b2i]
theorem coll_pos {a b : Str} : coll a b = 1 ↔ b.cps.toList < a.cps.toList := by
  unfold coll
  by_cases h1 : a.cps.toList < b.cps.toList
  · simp [h1, ll_asymm h1, b2i]
  · by_cases h2 : b.cps.toList < a.cps.toList
    · simp [h1, h2, b2i]
    · simp [h1, h2, b2i]
theorem coll_zero {a b : Str} : coll a b = 0 ↔ ¬ a.cps.toList < b.cps.toList ∧ ¬ b.cps.toList < a.cps.toList := by
  unfold coll
  by_cases h1 : a.cps.toList < b.cps.toList
  · simp [h1, ll_asymm h1, b2i]
  · by_cases h2 : b.cps.toList < a.cps.toList
    · simp [h1, h2, b2i]
    · simp [h1, h2, b2i]
theorem item_cps (w : Str) (j : Int) (h0 : 0 ≤ j) (h1 : j < w.length) : ∃ c, w.cps.toList[j.toNat]? = some c ∧ (Txt.item w j).cps.toList = [c] := by
  have hx' : j.toNat < w.cps.toList.length := by rw [lenL]; omega
  refine ⟨_, List.getElem?_eq_getElem hx', ?_⟩
  have e : seqIndex? j w.length = some j.toNat := by
    unfold seqIndex?
    simp only
    rw [if_neg (show ¬ j < 0 by omega)]
    rw [if_pos (by simp; omega)]
  unfold Txt.item Txt.charAt
  rw [e]
  have : w.cps[j.toNat]? = some (w.cps.toList[j.toNat]) := by
    rw [← Array.getElem?_toList]; exact List.getElem?_eq_getElem hx'
  simp [this]
theorem item_zero (w : Str) (h : Small w) (i j : Int) (h0 : 0 ≤ i) (h1 : i < w.length) (h2 : 0 ≤ j) (h3 : j < w.length) : coll (Txt.item w i) (Txt.item w j) = 0 ↔ V1 w i.toNat = V1 w j.toNat := by
  obtain ⟨c, hc, e⟩ := item_cps w i h0 h1
  obtain ⟨d, hd, e'⟩ := item_cps w j h2 h3
  rw [coll_zero, e, e']
  unfold V1
  rw [hc, hd]
  simp [enc1, List.cons_lt_cons_iff]
  omega
theorem item_neg (w : Str) (i j : Int) (h0 : 0 ≤ i) (h1 : i < w.length) (h2 : 0 ≤ j) (h3 : j < w.length) : coll (Txt.item w i) (Txt.item w j) = -1 ↔ V1 w i.toNat < V1 w j.toNat := by
  obtain ⟨c, hc, e⟩ := item_cps w i h0 h1
  obtain ⟨d, hd, e'⟩ := item_cps w j h2 h3
  rw [coll_neg, e, e']
  unfold V1
  rw [hc, hd]
  simp [enc1, List.cons_lt_cons_iff]
theorem item_pos (w : Str) (h : Small w) (i j : Int) (h0 : 0 ≤ i) (h1 : i < w.length) (h2 : 0 ≤ j) (h3 : j < w.length) : coll (Txt.item w i) (Txt.item w j) = 1 ↔ V2 w i.toNat < V2 w j.toNat := by
  obtain ⟨c, hc, e⟩ := item_cps w i h0 h1
  obtain ⟨d, hd, e'⟩ := item_cps w j h2 h3
  have q1 := h c (List.mem_of_getElem? hc)
  have q2 := h d (List.mem_of_getElem? hd)
  rw [coll_pos, e, e']
  unfold V2
  rw [hc, hd]
  simp [enc2, List.cons_lt_cons_iff]
  omega
/-- what a turn of told_at finds, in the order V -/
structure GTells (V : Nat → Nat) (n k b f z : Nat) : Prop where
  lyn : Lyn V n k b
  fk : f ≤ k
  bz : b ≤ z
  zn : z ≤ n
  per1 : ∀ x, f ≤ x → x < k → V x = V (x + (b - k))
  left : f = 0 ∨ V (f - 1) ≠ V (f - 1 + (b - k))
  per2 : ∀ x, b ≤ x → x < z → V x = V (x - (b - k))
  right : z = n ∨ V (z - (b - k)) ≠ V z
theorem GTells.rep {V : Nat → Nat} {n k b f z : Nat} (hV : ∀ x, V x = 0 ↔ n ≤ x) (h : GTells V n k b f z) (hf : f < k) (h2 : f + 2 * (b - k) ≤ z) : LeastRep V n (b - k) f z := by
  have hb := h.lyn.lt
  refine Rep.least_of_lyn (k := k) hV ⟨by omega, h2, h.zn, fun x hx hx' => ?_, h.left, h.right⟩ (by rw [show k + (b - k) = b by omega]; exact h.lyn) h.fk (by have := h.bz; omega)
  by_cases e : x < k
  · exact h.per1 x hx e
  · have := h.per2 (x + (b - k)) (by omega) (by omega)
    rw [Nat.add_sub_cancel] at this
    exact this.symm
theorem tells_common {w : Str} (h : Small w) {place : Int} {mark : Str} {side b f z : Int} (t : Tells w place mark side b f z) (h0 : 1 ≤ place) (h1 : place < w.length) {V : Nat → Nat} (hVV : ∀ x y, V x = V y ↔ V1 w x = V1 w y) (hl : Lyn V w.length place.toNat b.toNat) :
    GTells V w.length place.toNat b.toNat f.toNat z.toNat := by
  have b1 := t.l1.lo
  have b2 := t.l1.hi
  have f1 := t.l2.lo
  have f2 := t.l2.hi
  have z1 := t.l3.lo
  have z2 := t.l3.hi
  refine ⟨hl, by omega, by omega, by omega, ?_, ?_, ?_, ?_⟩
  · intro x hx hx'
    have := t.l2.eq x (by omega) (by omega)
    rw [item_zero w h _ _ (by omega) (by omega) (by omega) (by omega)] at this
    rw [hVV]
    rw [show ((x : Int) + (b - place)).toNat = x + (b.toNat - place.toNat) by omega] at this
    simpa using this
  · by_cases e : 0 < f
    · right
      have := t.d2 e
      rw [ne_eq, item_zero w h _ _ (by omega) (by omega) (by omega) (by omega)] at this
      rw [ne_eq, hVV]
      rw [show (f - 1).toNat = f.toNat - 1 by omega, show (f - 1 + (b - place)).toNat = f.toNat - 1 + (b.toNat - place.toNat) by omega] at this
      exact this
    · left; omega
  · intro x hx hx'
    have := t.l3.eq x (by omega) (by omega)
    rw [item_zero w h _ _ (by omega) (by omega) (by omega) (by omega)] at this
    rw [hVV]
    rw [show ((x : Int) - (b - place)).toNat = x - (b.toNat - place.toNat) by omega] at this
    simpa using this
  · by_cases e : z < w.length
    · right
      have := t.d3 e
      rw [ne_eq, item_zero w h _ _ (by omega) (by omega) (by omega) (by omega)] at this
      rw [ne_eq, hVV]
      rw [show (z - (b - place)).toNat = z.toNat - (b.toNat - place.toNat) by omega] at this
      exact fun q => this q.symm
    · left; omega
theorem app_empty (x : Str) : (x ++ Str.ofString "").cps.toList = x.cps.toList := by
  have e : (x ++ Str.ofString "").cps = x.cps ++ (Str.ofString "").cps := rfl
  rw [e, show (Str.ofString "").cps = #[] from by decide +kernel]; simp
theorem app_mark (x : Str) : (x ++ Str.ofString "~").cps.toList = x.cps.toList ++ [126] := by
  have e : (x ++ Str.ofString "~").cps = x.cps ++ (Str.ofString "~").cps := rfl
  rw [e, show (Str.ofString "~").cps = #[126] from by decide +kernel]; simp
theorem coll1 (w : Str) (j k : Int) (h0 : 0 ≤ k) (h1 : k < j) (h2 : j ≤ w.length) : coll (Txt.slice w (some j) none ++ Str.ofString "") (Txt.slice w (some k) none ++ Str.ofString "") = -1 ↔ Ahead (V1 w) j.toNat k.toNat := by
  rw [coll_neg, app_empty, app_empty, slice_from w j (by omega) h2, slice_from w k h0 (by omega), ahead1]
theorem coll2 (w : Str) (h : Small w) (j k : Int) (h0 : 0 ≤ k) (h1 : k < j) (h2 : j ≤ w.length) : coll (Txt.slice w (some j) none ++ Str.ofString "~") (Txt.slice w (some k) none ++ Str.ofString "~") = 1 ↔ Ahead (V2 w) j.toNat k.toNat := by
  rw [coll_pos, app_mark, app_mark, slice_from w j (by omega) h2, slice_from w k h0 (by omega), ahead2 w h _ _ (by omega) (by omega)]
theorem tells1 {w : Str} (h : Small w) {place b f z : Int} (t : Tells w place (Str.ofString "") (-1) b f z) (h0 : 1 ≤ place) (h1 : place < w.length) : GTells (V1 w) w.length place.toNat b.toNat f.toNat z.toNat := by
  have b1 := t.l1.lo
  have b2 := t.l1.hi
  refine tells_common h t h0 h1 (fun _ _ => Iff.rfl) ⟨by omega, by omega, fun c hc hc' => ?_, ?_⟩
  · have := t.l1.no c (by omega) (by omega)
    rw [ne_eq, coll1 w _ _ (by omega) (by omega) (by omega)] at this
    simpa using this
  · by_cases e : b < w.length
    · have := t.d1 e
      rw [coll1 w _ _ (by omega) (by omega) (by omega)] at this
      exact this
    · rw [show b.toNat = w.length by omega]
      exact ahead_n (V1_zero w) (by omega)
theorem tells2 {w : Str} (h : Small w) {place b f z : Int} (t : Tells w place (Str.ofString "~") 1 b f z) (h0 : 1 ≤ place) (h1 : place < w.length) : GTells (V2 w) w.length place.toNat b.toNat f.toNat z.toNat := by
  have b1 := t.l1.lo
  have b2 := t.l1.hi
  refine tells_common h t h0 h1 (fun x y => (V_eq w h x y).symm) ⟨by omega, by omega, fun c hc hc' => ?_, ?_⟩
  · have := t.l1.no c (by omega) (by omega)
    rw [ne_eq, coll2 w h _ _ (by omega) (by omega) (by omega)] at this
    simpa using this
  · by_cases e : b < w.length
    · have := t.d1 e
      rw [coll2 w h _ _ (by omega) (by omega) (by omega)] at this
      exact this
    · rw [show b.toNat = w.length by omega]
      exact ahead_n (V2_zero w h) (by omega)
end Mine
end

section
open PySem PySem.W PyProof.Rows PySem.Calls
set_option maxHeartbeats 8000000
namespace Mine
theorem Lyn.uniq {V : Nat → Nat} {n k b b' : Nat} (h : Lyn V n k b) (h' : Lyn V n k b') : b = b' := by
  rcases Nat.lt_trichotomy b b' with q | q | q
  · exact absurd h.yes (h'.no _ h.lt q)
  · exact q
  · exact absurd h'.yes (h.no _ h'.lt q)
theorem V_lt (w : Str) (h : Small w) (x y : Nat) (hx : x < w.length) (hy : y < w.length) : V1 w x < V1 w y ↔ V2 w y < V2 w x := by
  obtain ⟨c, hc, hc'⟩ := getS w h x hx
  obtain ⟨d, hd, hd'⟩ := getS w h y hy
  unfold V1 V2
  rw [hc, hd]
  simp only [enc1, enc2]; omega
/-- the run that a turn finds is the run that holds the stretch -/
theorem GTells.uniq {V : Nat → Nat} {n k b f z p i j : Nat} (h : GTells V n k b f z) (hp : b = k + p) (r : Rep V n p i j) (hik : i ≤ k) (hkj : k + p ≤ j) : f = i ∧ z = j := by
  have h1 := h.fk
  have h2 := h.bz
  have h3 := h.zn
  have r1 := r.p1
  have r2 := r.le
  have r3 := r.two
  constructor
  · rcases Nat.lt_trichotomy f i with q | q | q
    · rcases r.left with e | e
      · omega
      · exact absurd (by have := h.per1 (i - 1) (by omega) (by omega); rw [show b - k = p by omega] at this; exact this) e
    · exact q
    · rcases h.left with e | e
      · omega
      · exact absurd (by have := r.per (f - 1) (by omega) (by omega); rw [show b - k = p by omega]; exact this) e
  · rcases Nat.lt_trichotomy z j with q | q | q
    · rcases h.right with e | e
      · omega
      · refine absurd ?_ e
        have := r.per (z - p) (by omega) (by omega)
        rw [show z - p + p = z by omega] at this
        rw [show b - k = p by omega]; exact this
    · exact q
    · rcases r.right with e | e
      · omega
      · refine absurd ?_ e
        have := h.per2 j (by omega) q
        rw [show b - k = p by omega] at this
        exact this.symm
theorem one_side (w : Str) (h : Small w) (k : Nat) (hk : k < w.length) : Ahead (V1 w) (k + 1) k ∨ Ahead (V2 w) (k + 1) k := by
  by_cases e : k + 1 = w.length
  · left; rw [e]; exact ahead_n (V1_zero w) hk
  · rcases ahead_ne (V1_zero w) (Nat.lt_succ_self k) hk with q | q
    · right
      obtain ⟨t, h1, h2⟩ := q
      have h3 : k + 1 + t < w.length := by
        refine Nat.lt_of_not_le fun hle => ?_
        rw [(V1_zero w (k + 1 + t)).mpr hle] at h2
        omega
      exact ⟨t, fun x hx => (V_eq w h _ _).mp (h1 x hx).symm, (V_lt w h _ _ (by omega) (by omega)).mp h2⟩
    · exact .inl q
theorem no_both (w : Str) (h : Small w) {k b f z p i j : Nat} (hk : k < w.length) (g : GTells (V1 w) w.length k b f z) (hf : f < k) (hz : z = w.length ∨ V1 w z < V1 w (z - (b - k)))
    (l : Lyn (V2 w) w.length k (k + p)) (r : Rep (V1 w) w.length p i j) (hi : i < k) (hkj : k + p ≤ j) (hj : j < w.length) (hlt : V2 w j < V2 w (j - p)) : False := by
  have hb := g.lyn.lt
  have hp := r.p1
  have s1 := g.per1 (k - 1) (by omega) (by omega)
  have r1 := r.per (k - 1) (by omega) (by omega)
  have same : b - k = 1 → p = 1 → False := by
    intro e1 e2
    obtain ⟨q1, q2⟩ := g.uniq (p := p) (by omega) r (by omega) hkj
    subst q2
    rcases hz with e | e
    · omega
    · rw [e1] at e
      rw [e2] at hlt
      have := (V_lt w h _ _ (by omega) (by omega)).mp e
      omega
  rcases one_side w h k hk with q | q
  · have e1 : b = k + 1 := by
      have := g.lyn.no (k + 1) (by omega)
      exact Classical.byContradiction fun ne => this (by omega) q
    by_cases e2 : p = 1
    · exact same (by omega) e2
    · refine l.unb (V2_zero w h) (q := p - 1) (by omega) (by omega) fun x hx hx' => ?_
      have : x = k := by omega
      subst this
      rw [← V_eq w h]
      rw [show b - x = 1 by omega, show x - 1 + 1 = x by omega] at s1
      rw [← s1, r1]; congr 1; omega
  · have e1 : p = 1 := by
      have := l.no (k + 1) (by omega)
      exact Classical.byContradiction fun ne => this (by omega) q
    by_cases e2 : b - k = 1
    · exact same e2 e1
    · refine g.lyn.unb (V1_zero w) (q := b - k - 1) (by omega) (by omega) fun x hx hx' => ?_
      have : x = k := by omega
      subst this
      rw [e1, show x - 1 + 1 = x by omega] at r1
      rw [← r1, s1]; congr 1; omega
theorem over_neg (w : Str) (p z : Int) (h0 : 0 ≤ z - p) (h1 : z ≤ w.length) (hp : 1 ≤ p) : over w p z = -1 ↔ (z.toNat = w.length ∨ V1 w z.toNat < V1 w (z.toNat - p.toNat)) := by
  unfold over
  by_cases e : z = w.length
  · rw [if_pos e]; simp; left; omega
  · rw [if_neg e, item_neg w z _ (by omega) (by omega) h0 (by omega), show (z - p).toNat = z.toNat - p.toNat by omega]
    constructor
    · exact .inr
    · rintro (q | q)
      · omega
      · exact q
theorem over_pos (w : Str) (h : Small w) (p z : Int) (h0 : 0 ≤ z - p) (h1 : z ≤ w.length) (hp : 1 ≤ p) : over w p z = 1 ↔ (z.toNat < w.length ∧ V2 w z.toNat < V2 w (z.toNat - p.toNat)) := by
  unfold over
  by_cases e : z = w.length
  · rw [if_pos e]
    constructor
    · intro q; omega
    · rintro ⟨q, _⟩; omega
  · rw [if_neg e, item_pos w h z _ (by omega) (by omega) h0 (by omega), show (z - p).toNat = z.toNat - p.toNat by omega]
    constructor
    · exact fun q => ⟨by omega, q⟩
    · exact fun q => q.2
/-- whatever a place tells is a repetition with its least length -/
theorem told_sound {w : Str} (h : Small w) {place : Int} {res : List T3} (hT : ToldAt w place res) (h0 : 1 ≤ place) (h1 : place < w.length) {t : T3} (ht : t ∈ res) : ∃ p i j : Nat, t = ((i : Int), (j : Int), (p : Int)) ∧ LeastRep (V1 w) w.length p i j := by
  obtain ⟨b, f, z, hT1, hc⟩ := hT
  rcases hc with ⟨⟨k1, k2, _⟩, rfl⟩ | ⟨_, b', f', z', hT2, hc⟩
  · have g := tells1 h hT1 h0 h1
    have e1 := hT1.l1.lo
    have e2 := hT1.l2.lo
    have e3 := hT1.l3.lo
    have := g.rep (V1_zero w) (by omega) (by omega)
    refine ⟨_, _, _, ?_, this⟩
    rw [List.mem_singleton.mp ht]
    refine Prod.ext_iff.mpr ⟨?_, Prod.ext_iff.mpr ⟨?_, ?_⟩⟩ <;> dsimp only <;> omega
  · rcases hc with ⟨⟨k1, k2, _⟩, rfl⟩ | ⟨_, rfl⟩
    · have g := tells2 h hT2 h0 h1
      have e1 := hT2.l1.lo
      have e2 := hT2.l2.lo
      have e3 := hT2.l3.lo
      have := g.rep (V2_zero w h) (by omega) (by omega)
      refine ⟨_, _, _, ?_, (LeastRep.conv h).mpr this⟩
      rw [List.mem_singleton.mp ht]
      refine Prod.ext_iff.mpr ⟨?_, Prod.ext_iff.mpr ⟨?_, ?_⟩⟩ <;> dsimp only <;> omega
    · cases ht
/-- each repetition is told at one of its places -/
theorem told_complete {w : Str} (h : Small w) {p i j : Nat} (hr : LeastRep (V1 w) w.length p i j) : ∃ k : Nat, 1 ≤ k ∧ k < w.length ∧ ∀ res, ToldAt w k res → ((i : Int), (j : Int), (p : Int)) ∈ res := by
  have r := hr.1
  have r1 := r.p1
  have r2 := r.two
  have r3 := r.le
  by_cases hs : V1 w j < V1 w (j - p)
  · obtain ⟨k, hk1, hk2, hl⟩ := hr.lyn hs
    refine ⟨k, by omega, by omega, fun res hT => ?_⟩
    obtain ⟨b, f, z, hT1, hc⟩ := hT
    have g := tells1 h hT1 (by omega) (by omega)
    rw [Int.toNat_natCast] at g
    have hb := g.lyn.uniq hl
    obtain ⟨q1, q2⟩ := g.uniq hb r (by omega) (by omega)
    have e1 := hT1.l1.lo
    have e2 := hT1.l2.lo
    have e3 := hT1.l3.lo
    have e4 := hT1.l3.hi
    have told : IsTold w k (-1) b f z := by
      refine ⟨by omega, by omega, ?_⟩
      rw [over_neg w _ _ (by omega) (by omega) (by omega), q2, show (b - (k : Int)).toNat = p by omega]
      exact .inr hs
    rcases hc with ⟨_, rfl⟩ | ⟨no, _⟩
    · rw [List.mem_singleton]
      refine Prod.ext_iff.mpr ⟨?_, Prod.ext_iff.mpr ⟨?_, ?_⟩⟩ <;> dsimp only <;> omega
    · exact absurd told no
  · have hj : j < w.length := by
      refine Nat.lt_of_not_le fun hle => hs ?_
      have a1 := (V1_zero w j).mpr hle
      have a2 := mt (V1_zero w (j - p)).mp (by omega)
      omega
    have hne : V1 w (j - p) ≠ V1 w j := r.right.resolve_left (by omega)
    have hs2 : V2 w j < V2 w (j - p) := (V_lt w h _ _ (by omega) hj).mp (by omega)
    have hr2 := (LeastRep.conv h).mp hr
    obtain ⟨k, hk1, hk2, hl⟩ := hr2.lyn hs2
    refine ⟨k, by omega, by omega, fun res hT => ?_⟩
    obtain ⟨b, f, z, hT1, hc⟩ := hT
    have g1 := tells1 h hT1 (by omega) (by omega)
    rw [Int.toNat_natCast] at g1
    rcases hc with ⟨⟨k1, k2, k3⟩, _⟩ | ⟨_, b', f', z', hT2, hc⟩
    · exfalso
      have e1 := hT1.l1.lo
      have e2 := hT1.l2.lo
      have e3 := hT1.l3.lo
      have e4 := hT1.l3.hi
      rw [over_neg w _ _ (by omega) (by omega) (by omega), show (b - (k : Int)).toNat = b.toNat - k by omega] at k3
      exact no_both w h (by omega) g1 (by omega) k3 hl r hk1 (by omega) hj hs2
    · have g := tells2 h hT2 (by omega) (by omega)
      rw [Int.toNat_natCast] at g
      have hb := g.lyn.uniq hl
      obtain ⟨q1, q2⟩ := g.uniq hb hr2.1 (by omega) (by omega)
      have e1 := hT2.l1.lo
      have e2 := hT2.l2.lo
      have e3 := hT2.l3.lo
      have e4 := hT2.l3.hi
      have told : IsTold w k 1 b' f' z' := by
        refine ⟨by omega, by omega, ?_⟩
        rw [over_pos w h _ _ (by omega) (by omega) (by omega), q2, show (b' - (k : Int)).toNat = p by omega]
        exact ⟨hj, hs2⟩
      rcases hc with ⟨_, rfl⟩ | ⟨no, _⟩
      · rw [List.mem_singleton]
        refine Prod.ext_iff.mpr ⟨?_, Prod.ext_iff.mpr ⟨?_, ?_⟩⟩ <;> dsimp only <;> omega
      · exact absurd told no
end Mine
end

section
open PySem PySem.W PyProof.Rows PySem.Calls
set_option maxHeartbeats 8000000
namespace Mine
theorem item_eq (w : Str) (i j : Int) (h0 : 0 ≤ i) (h1 : i < w.length) (h2 : 0 ≤ j) (h3 : j < w.length) : Txt.item w i = Txt.item w j ↔ V1 w i.toNat = V1 w j.toNat := by
  obtain ⟨c, hc, e⟩ := item_cps w i h0 h1
  obtain ⟨d, hd, e'⟩ := item_cps w j h2 h3
  unfold V1
  rw [hc, hd]
  have : Txt.item w i = Txt.item w j ↔ (Txt.item w i).cps.toList = (Txt.item w j).cps.toList := by
    constructor
    · intro q; rw [q]
    · intro q
      have := Array.toList_inj.mp q
      cases h1 : Txt.item w i; cases h2 : Txt.item w j
      simp_all
  rw [this, e, e']
  simp [enc1]
structure InnerInv (w : Str) (p : Nat) (found : List T3) (k : Nat) (st : Int × List T3) : Prop where
  lo : 0 ≤ st.1
  hi : st.1 ≤ k
  eq : ∀ x : Nat, st.1 ≤ x → x < k → V1 w x = V1 w (x + p)
  left : k + p ≤ w.length → st.1 = 0 ∨ V1 w (st.1.toNat - 1) ≠ V1 w (st.1.toNat - 1 + p)
  mem : ∀ t, t ∈ st.2 ↔ t ∈ found ∨ ∃ i c : Nat, c < k ∧ t = ((i : Int), ((c + p : Nat) : Int), (p : Int)) ∧ Rep (V1 w) w.length p i (c + p) ∧ ∀ o ∈ found, ¬ (o.1 = i ∧ o.2.1 = ((c + p : Nat) : Int))
  nd : found.Nodup → st.2.Nodup
theorem filter_nil {l : List T3} {a b : Int} : (l.filter fun o => decide (o.1 = a) && decide (o.2.1 = b)) = [] ↔ ∀ o ∈ l, ¬ (o.1 = a ∧ o.2.1 = b) := by
  rw [List.filter_eq_nil_iff]
  simp
theorem inner_inv (w : Str) (p : Nat) (hp : 1 ≤ p) (found : List T3) : ∀ k, k + p ≤ w.length + 1 → InnerInv w p found k (innerRun w p found k)
  | 0, _ => ⟨by simp [innerRun], by simp [innerRun], fun x hx hx' => absurd hx' (Nat.not_lt_zero _), fun _ => .inl rfl, fun t => by simp [innerRun], fun h => h⟩
  | k + 1, hk => by
    have ih := inner_inv w p hp found k (by omega)
    rw [innerRun]
    generalize innerRun w p found k = st at ih
    obtain ⟨first, fs⟩ := st
    obtain ⟨lo, hi, eq, left, mem, nd⟩ := ih
    dsimp only at lo hi eq left mem nd
    have left := left (by omega)
    -- at this place the stretch is that from first on
    have uniq : ∀ i, Rep (V1 w) w.length p i (k + p) → (i : Int) = first := by
      intro i r
      have r2 := r.two
      rcases Int.lt_trichotomy i first with q | q | q
      · rcases left with e | e
        · omega
        · exact absurd (r.per (first.toNat - 1) (by omega) (by omega)) e
      · exact q
      · rcases r.left with e | e
        · omega
        · exact absurd (eq (i - 1) (by omega) (by omega)) e
    unfold innerStep
    by_cases hA : (k : Int) = w.length - p ∨ Txt.item w k ≠ Txt.item w (k + p)
    · rw [if_pos hA]
      have right : k + p = w.length ∨ V1 w k ≠ V1 w (k + p) := by
        rcases hA with e | e
        · left; omega
        · by_cases e' : k + p = w.length
          · exact .inl e'
          · right
            rw [ne_eq, item_eq w _ _ (by omega) (by omega) (by omega) (by omega)] at e
            rw [show ((k : Int) + p).toNat = k + p by omega] at e
            simpa using e
      have isRep : (p : Int) ≤ k - first → Rep (V1 w) w.length p first.toNat (k + p) := by
        intro h
        refine ⟨hp, by omega, by omega, fun x hx hx' => eq x (by omega) (by omega), ?_, ?_⟩
        · rcases left with e | e
          · left; omega
          · exact .inr e
        · rw [Nat.add_sub_cancel]; exact right
      have hleft : k + 1 + p ≤ w.length → (k : Int) + 1 = 0 ∨ V1 w (((k : Int) + 1).toNat - 1) ≠ V1 w (((k : Int) + 1).toNat - 1 + p) := by
        intro h
        right
        rcases right with e | e
        · omega
        · rw [show ((k : Int) + 1).toNat - 1 = k by omega]; exact e
      by_cases hB : (p : Int) ≤ k - first ∧ (fs.filter fun o => decide (o.1 = first) && decide (o.2.1 = (k : Int) + p)) = []
      · rw [if_pos hB]
        have hB2 := filter_nil.mp hB.2
        refine ⟨by dsimp only; omega, by dsimp only; omega, fun x hx hx' => by dsimp only at hx; omega, hleft, fun t => ?_, fun h => ?_⟩
        · dsimp only
          rw [List.mem_append, mem, List.mem_singleton]
          constructor
          · rintro ((q | ⟨i, c, h1, h2⟩) | rfl)
            · exact .inl q
            · exact .inr ⟨i, c, by omega, h2⟩
            · refine .inr ⟨first.toNat, k, by omega, ?_, isRep hB.1, fun o ho hq => hB2 o ((mem o).mpr (.inl ho)) ⟨by omega, by omega⟩⟩
              refine Prod.ext_iff.mpr ⟨?_, Prod.ext_iff.mpr ⟨?_, ?_⟩⟩ <;> dsimp only <;> omega
          · rintro (q | ⟨i, c, h1, rfl, h3, h4⟩)
            · exact .inl (.inl q)
            · by_cases e : c = k
              · subst e
                right
                have := uniq i h3
                refine Prod.ext_iff.mpr ⟨?_, Prod.ext_iff.mpr ⟨?_, ?_⟩⟩ <;> dsimp only <;> omega
              · exact .inl (.inr ⟨i, c, by omega, rfl, h3, h4⟩)
        · dsimp only
          rw [List.nodup_append]
          refine ⟨nd h, by simp, fun a ha b hb => ?_⟩
          rw [List.mem_singleton] at hb
          subst hb
          rintro rfl
          exact hB2 _ ha ⟨rfl, rfl⟩
      · rw [if_neg hB]
        refine ⟨by dsimp only; omega, by dsimp only; omega, fun x hx hx' => by dsimp only at hx; omega, hleft, fun t => ?_, nd⟩
        dsimp only
        rw [mem]
        constructor
        · rintro (q | ⟨i, c, h1, h2⟩)
          · exact .inl q
          · exact .inr ⟨i, c, by omega, h2⟩
        · rintro (q | ⟨i, c, h1, rfl, h3, h4⟩)
          · exact .inl q
          · by_cases e : c = k
            · subst e
              exfalso
              have hu := uniq i h3
              have r2 := h3.two
              refine hB ⟨by omega, filter_nil.mpr fun o ho hq => ?_⟩
              rcases (mem o).mp ho with q | ⟨i', c', h1', rfl, _⟩
              · exact h4 o q ⟨by omega, by omega⟩
              · dsimp only at hq; omega
            · exact .inr ⟨i, c, by omega, rfl, h3, h4⟩
    · rw [if_neg hA]
      have hk' : k + p < w.length := by
        have : ¬ (k : Int) = w.length - p := fun q => hA (.inl q)
        omega
      have hV : V1 w k = V1 w (k + p) := by
        have : Txt.item w k = Txt.item w (k + p) := Classical.byContradiction fun q => hA (.inr q)
        rw [item_eq w _ _ (by omega) (by omega) (by omega) (by omega)] at this
        rw [show ((k : Int) + p).toNat = k + p by omega] at this
        simpa using this
      refine ⟨lo, by dsimp only; omega, fun x hx hx' => ?_, fun _ => left, fun t => ?_, nd⟩
      · by_cases e : x = k
        · subst e; exact hV
        · exact eq x hx (by omega)
      · dsimp only
        rw [mem]
        constructor
        · rintro (q | ⟨i, c, h1, h2⟩)
          · exact .inl q
          · exact .inr ⟨i, c, by omega, h2⟩
        · rintro (q | ⟨i, c, h1, rfl, h3, h4⟩)
          · exact .inl q
          · by_cases e : c = k
            · subst e
              exfalso
              rcases h3.right with e | e
              · omega
              · rw [Nat.add_sub_cancel] at e; exact e hV
            · exact .inr ⟨i, c, by omega, rfl, h3, h4⟩
theorem outer_mem (w : Str) : ∀ k, k ≤ w.length / 2 → (outerRun w k).Nodup ∧ ∀ t, t ∈ outerRun w k ↔ ∃ p i j : Nat, p ≤ k ∧ t = ((i : Int), (j : Int), (p : Int)) ∧ LeastRep (V1 w) w.length p i j
  | 0, _ => by
    refine ⟨List.nodup_nil, fun t => ⟨fun h => by simp [outerRun] at h, ?_⟩⟩
    rintro ⟨p, i, j, h1, _, h2⟩
    have := h2.1.p1
    omega
  | k + 1, hk => by
    obtain ⟨ihn, ih⟩ := outer_mem w k (by omega)
    rw [outerRun]
    have hp : (1 + (k : Int)) = ((k + 1 : Nat) : Int) := by omega
    rw [hp, show ((w.length : Int) - ((k + 1 : Nat) : Int) + 1 - 0).toNat = w.length - (k + 1) + 1 by omega]
    have inv := inner_inv w (k + 1) (by omega) (outerRun w k) (w.length - (k + 1) + 1) (by omega)
    refine ⟨inv.nd ihn, fun t => ?_⟩
    rw [inv.mem]
    constructor
    · rintro (q | ⟨i, c, h1, rfl, h3, h4⟩)
      · obtain ⟨p, i, j, h1, h2⟩ := (ih t).mp q
        exact ⟨p, i, j, by omega, h2⟩
      · refine ⟨k + 1, i, c + (k + 1), Nat.le_refl _, rfl, h3, fun q hq hr => ?_⟩
        obtain ⟨q', hq', hleast⟩ := leastN (P := fun q => Rep (V1 w) w.length q i (c + (k + 1))) ⟨q, hr⟩
        have hle : q' ≤ q := Nat.le_of_not_lt fun z => hleast q z hr
        exact h4 _ ((ih _).mpr ⟨q', i, c + (k + 1), by omega, rfl, hq', hleast⟩) ⟨rfl, rfl⟩
    · rintro ⟨p, i, j, h1, rfl, h2⟩
      by_cases e : p = k + 1
      · subst e
        have r2 := h2.1.two
        have r3 := h2.1.le
        refine .inr ⟨i, j - (k + 1), by omega, ?_, ?_, ?_⟩
        · rw [Nat.sub_add_cancel (by omega)]
        · rw [Nat.sub_add_cancel (by omega)]; exact h2.1
        · rw [Nat.sub_add_cancel (by omega)]
          rintro o ho ⟨q1, q2⟩
          obtain ⟨p', i', j', h1', rfl, h2'⟩ := (ih o).mp ho
          dsimp only at q1 q2
          have e1 : i' = i := by omega
          have e2 : j' = j := by omega
          subst e1; subst e2
          exact h2.2 p' (by omega) h2'.1
      · exact .inl ((ih _).mpr ⟨p, i, j, by omega, rfl, h2⟩)
theorem outer_all (w : Str) (t : T3) : t ∈ outerRun w (w.length / 2) ↔ ∃ p i j : Nat, t = ((i : Int), (j : Int), (p : Int)) ∧ LeastRep (V1 w) w.length p i j := by
  rw [(outer_mem w _ (Nat.le_refl _)).2]
  constructor
  · rintro ⟨p, i, j, _, h⟩; exact ⟨p, i, j, h⟩
  · rintro ⟨p, i, j, h1, h2⟩
    have r2 := h2.1.two
    have r3 := h2.1.le
    exact ⟨p, i, j, by omega, h1, h2⟩
/-- the list that grows by what the places tell -/
noncomputable def toldAdd (told res : List T3) : List T3 := told ++ res.filter fun t => decide (t ∉ told)
inductive ToldRun (w : Str) : Nat → List T3 → Prop where
  | one : ToldRun w 1 []
  | next {k : Nat} {told res : List T3} : ToldRun w k told → ToldAt w k res → ToldRun w (k + 1) (toldAdd told res)
theorem ToldAt.small {w : Str} {place : Int} {res : List T3} (h : ToldAt w place res) : res.Nodup := by
  obtain ⟨b, f, z, _, ⟨_, rfl⟩ | ⟨_, b', f', z', _, ⟨_, rfl⟩ | ⟨_, rfl⟩⟩⟩ := h <;> simp
theorem ToldRun.nodup {w : Str} {k : Nat} {told : List T3} (h : ToldRun w k told) : told.Nodup := by
  induction h with
  | one => exact List.nodup_nil
  | next _ ha ih =>
    unfold toldAdd
    rw [List.nodup_append]
    refine ⟨ih, ha.small.filter _, fun a h1 b h2 => ?_⟩
    rw [List.mem_filter] at h2
    rintro rfl
    exact of_decide_eq_true h2.2 h1
theorem ToldRun.pos {w : Str} {k : Nat} {told : List T3} (h : ToldRun w k told) : 1 ≤ k := by
  cases h <;> omega
theorem ToldRun.mem {w : Str} {k : Nat} {told : List T3} (h : ToldRun w k told) : ∃ res : Nat → List T3, (∀ i, 1 ≤ i → i < k → ToldAt w (i : Nat) (res i)) ∧ ∀ t, t ∈ told ↔ ∃ i, 1 ≤ i ∧ i < k ∧ t ∈ res i := by
  induction h with
  | one => exact ⟨fun _ => [], fun i h1 h2 => by omega, fun t => ⟨fun q => by simp at q, fun ⟨i, h1, h2, _⟩ => by omega⟩⟩
  | @next k told r hrun ha ih =>
    obtain ⟨res, h1, h2⟩ := ih
    have hk := hrun.pos
    have ev : ∃ f : Nat → List T3, f k = r ∧ ∀ i, i ≠ k → f i = res i := ⟨fun i => if i = k then r else res i, if_pos rfl, fun i hi => if_neg hi⟩
    obtain ⟨f, fk, fi⟩ := ev
    refine ⟨f, fun i hi hi' => ?_, fun t => ?_⟩
    · by_cases e : i = k
      · subst e; rw [fk]; exact ha
      · rw [fi i e]; exact h1 i hi (by omega)
    · unfold toldAdd
      rw [List.mem_append, List.mem_filter]
      constructor
      · rintro (q | ⟨q1, _⟩)
        · obtain ⟨i, q1, q2, q3⟩ := (h2 t).mp q
          exact ⟨i, q1, by omega, by rw [fi i (by omega)]; exact q3⟩
        · exact ⟨k, hk, by omega, by rw [fk]; exact q1⟩
      · rintro ⟨i, q1, q2, q3⟩
        by_cases e : i = k
        · subst e
          rw [fk] at q3
          by_cases e' : t ∈ told
          · exact .inl e'
          · exact .inr ⟨q3, decide_eq_true e'⟩
        · rw [fi i e] at q3
          exact .inl ((h2 t).mpr ⟨i, q1, by omega, q3⟩)
/-- what the places tell is what looking at each distance finds -/
theorem told_perm {w : Str} (h : Small w) {told : List T3} (hr : ToldRun w w.length told) : told.Perm (outerRun w (w.length / 2)) := by
  refine (List.perm_ext_iff_of_nodup hr.nodup (outer_mem w _ (Nat.le_refl _)).1).mpr fun t => ?_
  rw [outer_all]
  obtain ⟨res, h1, h2⟩ := hr.mem
  rw [h2]
  constructor
  · rintro ⟨i, q1, q2, q3⟩
    exact told_sound h (h1 i q1 q2) (by omega) (by omega) q3
  · rintro ⟨p, i, j, rfl, hl⟩
    obtain ⟨k, k1, k2, hk⟩ := told_complete h hl
    exact ⟨k, k1, k2, hk _ (h1 k k1 k2)⟩
end Mine
end

section
open PySem PySem.W PyProof.Rows PySem.Calls
set_option maxHeartbeats 8000000
namespace Mine
theorem small_signs (k r : Int) : Small (signStr k r) := by
  intro c hc
  simp only [signStr, List.mem_cons, List.not_mem_nil, or_false] at hc
  have hB : ∀ b n, n < 126 → codeB b n < 126 := fun b n h => by unfold codeB; split <;> omega
  have hX : ∀ x s a b d, a < 126 → b < 126 → d < 126 → codeX x s a b d < 126 := fun x s a b d h1 h2 h3 => by unfold codeX; (repeat' split) <;> omega
  have hK : codeK k < 126 := by unfold codeK; (repeat' split) <;> omega
  rcases hc with rfl | rfl | rfl | rfl | rfl | rfl | rfl | rfl | rfl | rfl
  · exact hK
  · exact hB _ _ (by omega)
  · exact hB _ _ (by omega)
  · exact hX _ _ _ _ _ (by omega) (by omega) (by omega)
  · exact hB _ _ (by omega)
  · exact hB _ _ (by omega)
  · exact hX _ _ _ _ _ (by omega) (by omega) (by omega)
  · exact hB _ _ (by omega)
  · exact hB _ _ (by omega)
  · exact hX _ _ _ _ _ (by omega) (by omega) (by omega)
theorem small_run {a b : Str} (ha : Small a) (hb : Small b) (zs : List Int) : ∀ n, Small (wordRun a b zs n)
  | 0 => ha
  | n + 1 => by
    rw [wordRun]
    refine (small_run ha hb zs n).app ?_
    split
    · exact hb.slice _ _
    · exact ha.slice _ _
theorem small_word (a b c d : Int) (zs : List Int) (n : Nat) : Small (Txt.slice (wordRun (signStr a b) (signStr c d) zs n) none (some 20)) :=
  (small_run (small_signs a b) (small_signs c d) zs n).slice _ _
section
variable {prog : Program} {w : World} {A : Around} {E : Value → Shared → Prop} {s : Shared} {a b : Addr} {xs ys : List Value} {us : List Str} {Q : Value → Shared → Prop} {h₀ : Heap} {L : Addr} {news : List (Addr × Obj)} {k n : Nat}
theorem ne_strs_same (N : News h₀ L s.heap news) (ha : (a, W.listOf xs.toArray k) ∈ news) (hb : (b, W.listOf ys.toArray n) ∈ news) (hi : StrsAre xs us) (hj : StrsAre ys us) (hus : ∀ x ∈ us, Small x) (hu : A.units + 64 < cLine)
    (h : Q (.bool false) s) : wpAny (model prog w) A (compareOp .NotEq (.ref a) (.ref b)) Q E s :=
  ne_strs N ha hb hi hj (fun x hx => (hus x hx).ok) (fun x hx => (hus x hx).ok) hu (by simpa using h)
end
theorem sizes_nil {n : Int} (h : sizesOf n = []) : (n.fdiv 125).fmod 6 = 5 := by
  rw [sizesOf] at h
  have h1 : 0 ≤ (n.fdiv 125).fmod 6 ∧ (n.fdiv 125).fmod 6 < 6 := by rw [Int.fmod_eq_emod_of_nonneg _ (by decide)]; omega
  generalize (n.fdiv 125).fmod 6 = k at *
  unfold sizesK at h
  split at h
  · cases h
  split at h
  · cases h
  split at h
  · cases h
  split at h
  · cases h
  split at h
  · cases h
  omega
theorem words_nil {n : Int} (h : sizesOf n = []) : wordsOf n = Str.ofString "invalid grouping" := if_pos (sizes_nil h)
theorem words_some {n : Int} (h : ¬ sizesOf n = []) : wordsOf n = Str.ofString "" := if_neg fun q => h (by rw [sizesOf_is q]; rfl)
/-- a text is told, and the frame and the ledger stand -/
noncomputable def StrPost (h₀ : Heap) (L : Addr) (s : Shared) (m : Str → Option Value) (news : List (Addr × Obj)) (x : Str) (v : Value) (s' : Shared) : Prop :=
  ∃ h' tk t, v = .str x t ∧ s' = { s with heap := h', toks := tk } ∧ Fr h₀ L h' m ∧ News h₀ L h' news
theorem StrPost.intro {h₀ h' : Heap} {L : Addr} {s : Shared} {m : Str → Option Value} {news nn : List (Addr × Obj)} {x x' : Str} {t : Tok} {tk : Nat} (F : Fr h₀ L h' m) (N : News h₀ L h' nn) (hs : ∀ p ∈ news, p ∈ nn) (hx : x = x') :
    StrPost h₀ L s m news x (.str x' t) { s with heap := h', toks := tk } := ⟨h', tk, t, by rw [hx], rfl, F, fun p hp => N p (hs p hp)⟩
theorem str_join {M : Model} {A : Around} {t : Sem Value} {h₀ : Heap} {L : Addr} {s : Shared} {m : Str → Option Value} {news : List (Addr × Obj)} {Q E : Value → Shared → Prop} (_F : Fr h₀ L s.heap m) (_N : News h₀ L s.heap news) (x : Str)
    (h : ∀ QS : Value → Shared → Prop, (∀ v s', StrPost h₀ L s m news x v s' → QS v s') → wpAny M A t QS (fun _ _ => False) s) (k : ∀ h' tk u, Fr h₀ L h' m → News h₀ L h' news → Q (.str x u) { s with heap := h', toks := tk }) : wpAny M A t Q E s :=
  wpAny_mono (h _ fun _ _ q => q) (fun v s' hv => by obtain ⟨h', tk, u, rfl, rfl, F, N⟩ := hv; exact k h' tk u F N) fun _ _ q => q.elim
/-- a new list of known values is told -/
noncomputable def ListPost (h₀ : Heap) (L : Addr) (s : Shared) (m : Str → Option Value) (news : List (Addr × Obj)) (vs : List Value) (v : Value) (s' : Shared) : Prop :=
  ∃ h' tk l k, v = .ref l ∧ s' = { s with heap := h', toks := tk } ∧ Fr h₀ L h' m ∧ News h₀ L h' ((l, W.listOf vs.toArray k) :: news) ∧ (∀ p ∈ news, p.1 < l)
theorem list_join {M : Model} {A : Around} {t : Sem Value} {h₀ : Heap} {L : Addr} {s : Shared} {m : Str → Option Value} {news : List (Addr × Obj)} {Q E : Value → Shared → Prop} (_F : Fr h₀ L s.heap m) (_N : News h₀ L s.heap news) (vs : List Value)
    (h : wpAny M A t (ListPost h₀ L s m news vs) (fun _ _ => False) s) (k : ∀ h' tk l k, Fr h₀ L h' m → News h₀ L h' ((l, W.listOf vs.toArray k) :: news) → (∀ p ∈ news, p.1 < l) → Q (.ref l) { s with heap := h', toks := tk }) : wpAny M A t Q E s :=
  wpAny_mono h (fun v s' hv => by obtain ⟨h', tk, l, k', rfl, rfl, F, N, h1⟩ := hv; exact k h' tk l k' F N h1) fun _ _ q => q.elim
section
variable {prog : Program} {w : World} {A : Around} {E : Value → Shared → Prop} {s : Shared} {vs : List Value} {h₀ : Heap} {L : Addr} {m : Str → Option Value} {news : List (Addr × Obj)}
theorem newList_end (F : Fr h₀ L s.heap m) (N : News h₀ L s.heap news) (hsz : vs.length ≤ sizeLine := by size_fits) : wpAny (model prog w) A (newList vs) (ListPost h₀ L s m news vs) E s :=
  newList_K F N (fun l h' F' N' l1 => ⟨h', s.toks, l, 0, rfl, rfl, F', N', l1⟩) hsz
/-- what a clause's source tells: a list that was made just now -/
noncomputable def SrcPost (s : Shared) (vs : List Value) (news : List (Addr × Obj)) (z : Value) (s₃ : Shared) : Prop :=
  ∃ az, z = .ref az ∧ s₃.heap.IsList az vs.toArray ∧ (s.heap.get? az = none ∨ az ∈ news.map (·.1)) ∧ Keeps s s₃
theorem newList_src (hsz : vs.length ≤ sizeLine := by size_fits) : wpAny (model prog w) A (newList vs) (SrcPost s vs news) E s := by
  refine wpAny_newObj_type (hd := by simpa [sizeOk] using hsz) ?_
  refine ⟨_, rfl, ⟨_, Heap.get?_push_size _ rfl, rfl, _, rfl⟩, .inl ?_, _, _, rfl, fun _ _ e => Heap.get?_push_of_some _ e⟩
  cases e : s.heap.get? s.heap.objs.size with
  | none => rfl
  | some o => exact absurd (Heap.lt_size e) (Nat.lt_irrefl _)
end
theorem coll_three (a b : Str) : coll a b = -1 ∨ coll a b = 0 ∨ coll a b = 1 := by
  unfold coll
  by_cases h1 : a.cps.toList < b.cps.toList <;> by_cases h2 : b.cps.toList < a.cps.toList <;> simp [h1, h2, b2i]
/-- the text of what _strcoll tells -/
noncomputable abbrev collTxt (a b : Str) : Str := Str.ofString (toString (coll a b))
theorem str_ext {a b : Str} (h : a.cps.toList = b.cps.toList) : a = b := by
  cases a; cases b; simp only [Str.mk.injEq]; exact Array.toList_inj.mp h
theorem coll_self (a : Str) : coll a a = 0 := by rw [coll_zero]; exact ⟨List.lt_irrefl _, List.lt_irrefl _⟩
theorem coll_ne {a b : Str} (h : a ≠ b) : coll a b = -1 ∨ coll a b = 1 := by
  rcases coll_three a b with e | e | e
  · exact .inl e
  · exfalso
    rw [coll_zero] at e
    exact h (str_ext (List.le_antisymm (List.not_lt.mp e.2) (List.not_lt.mp e.1)))
  · exact .inr e
/-- the first of two texts that are put in order -/
noncomputable def First2 (a b x : Str) : Prop := a ≠ b → (x = a → collTxt a b = Str.ofString "-1") ∧ (x ≠ a → collTxt a b = Str.ofString "1")
theorem first2_of {a b : Str} {ss : List Str} (hp : ss.Perm [a, b]) (hs : PyProof.Rows.sortedS ss = true) : ∃ x y, ss = [x, y] ∧ First2 a b x := by
  have h2 : ss.length = 2 := hp.length_eq
  match ss, h2 with
  | [x, y], _ =>
    refine ⟨x, y, rfl, fun hne => ?_⟩
    have hxy : ¬ y.cps.toList < x.cps.toList := by
      have : PyProof.Rows.risingS x [y] = true := hs
      simp only [PyProof.Rows.risingS, Bool.and_eq_true, Bool.not_eq_true'] at this
      have q := this.1
      rw [PyProof.Rows.ltCps_eq] at q
      simpa using q
    have hx : x = a ∨ x = b := by have := hp.mem_iff.mp (List.Mem.head _ : x ∈ [x, y]); simpa using this
    have ha : a = x ∨ a = y := by have := hp.mem_iff.mpr (List.Mem.head _ : a ∈ [a, b]); simpa using this
    have hb : b = x ∨ b = y := by have := hp.mem_iff.mpr (List.Mem.tail _ (List.Mem.head _) : b ∈ [a, b]); simpa using this
    constructor
    · rintro rfl
      have : b = y := hb.resolve_left fun q => hne q.symm
      subst this
      rcases coll_ne hne with e | e
      · rw [collTxt, e]; rfl
      · exact absurd (coll_pos.mp e) hxy
    · intro hxa
      have e1 : x = b := hx.resolve_left hxa
      have e2 : a = y := ha.resolve_left fun q => hxa q.symm
      subst e1; subst e2
      rcases coll_ne hne with e | e
      · exact absurd (coll_neg.mp e) hxy
      · rw [collTxt, e]; rfl
section
variable {prog : Program} {w : World} {A : Around} {E : Value → Shared → Prop} {s : Shared} {Q : Value → Shared → Prop}
theorem newList_ext {vs : List Value} (h : ∀ h' l, Ext s.heap h' → h'.IsList l vs.toArray → Q (.ref l) { s with heap := h' }) (hsz : vs.length ≤ sizeLine := by size_fits) : wpAny (model prog w) A (newList vs) Q E s := by
  refine wpAny_newObj_type (hd := by simpa [sizeOk] using hsz) ?_
  exact h _ _ (fun _ _ e => Heap.get?_push_of_some _ e) ⟨_, Heap.get?_push_size _ rfl, rfl, _, rfl⟩
theorem sorted2_ext {l : Addr} {a b : Str} {ta tb : Tok} (hl : s.heap.IsList l #[.str a ta, .str b tb])
    (h : ∀ h' D x y t u e, Ext s.heap h' → h'.get? D = some (W.listOf #[.str x t, .str y u] e) → s.heap.get? D = none → First2 a b x → Q (.ref D) { s with heap := h' }) :
    wpAny (model prog w) A (call (.builtin "sorted") [.ref l]) Q E s := by
  refine PyProof.Rows.sorted_strs (vs := [.str a ta, .str b tb]) hl (.cons a ta (.cons b tb .nil)) (by show 2 < 64; omega) fun out ss' a1 a2 a3 => ?_
  obtain ⟨x, y, rfl, hf⟩ := first2_of a2 a3
  obtain ⟨e, he⟩ := PyProof.Rows.sortedAll_at s.heap [.str a ta, .str b tb] out
  obtain ⟨t, u, ho⟩ : ∃ t u, out.toList = [.str x t, .str y u] := by
    generalize out.toList = vs at a1
    cases a1 with
    | cons _ t r =>
      cases r with
      | cons _ u r => cases r; exact ⟨_, _, rfl⟩
  have ho' : out = #[.str x t, .str y u] := Array.toList_inj.mp (by rw [ho])
  subst ho'
  refine h _ _ x y t u e (fun b o q => PyProof.Rows.sortedAll_old q) he ?_ hf
  cases q : s.heap.get? (s.heap.objs.size + 1) with
  | none => rfl
  | some o => exact absurd (Heap.lt_size q) (Nat.not_lt.mpr (Nat.le_succ _))
end
inductive SPairs : List (Value × Value) → List (Str × Str) → Prop where
  | nil : SPairs [] []
  | cons (a : Str) (ta : Tok) (b : Str) (tb : Tok) {l : List (Value × Value)} {ps : List (Str × Str)} : SPairs l ps → SPairs ((.str a ta, .str b tb) :: l) ((a, b) :: ps)
theorem pairs_strs {l : List (Value × Value)} {ps : List (Str × Str)} (hs : SPairs l ps) : ∀ {rs : List Value}, Paired (fun p r => ∃ a ta b tb t, p.1 = Value.str a ta ∧ p.2 = Value.str b tb ∧ r = Value.str (collTxt a b) t) l rs → StrsAre rs (ps.map fun p => collTxt p.1 p.2) := by
  induction hs with
  | nil => intro rs h; cases h; exact .nil
  | cons a ta b tb _ ih =>
    intro rs h
    cases h with
    | cons e h =>
      obtain ⟨_, _, _, _, t, q1, q2, rfl⟩ := e
      cases q1; cases q2
      exact .cons _ t (ih h)
theorem small_coll (a b : Str) : Small (collTxt a b) := by
  have h1 : Small (Str.ofString "-1") := by unfold Small; decide +kernel
  have h2 : Small (Str.ofString "0") := by unfold Small; decide +kernel
  have h3 : Small (Str.ofString "1") := by unfold Small; decide +kernel
  rcases coll_three a b with e | e | e
  · rw [collTxt, e]; exact h1
  · rw [collTxt, e]; exact h2
  · rw [collTxt, e]; exact h3
theorem small_colls (ps : List (Str × Str)) : ∀ x ∈ ps.map (fun p => collTxt p.1 p.2), Small x := by
  intro x hx
  obtain ⟨p, _, rfl⟩ := List.mem_map.mp hx
  exact small_coll _ _
theorem slice20_pos {x : Str} (h : 10 ≤ x.length) : 1 ≤ (Txt.slice x none (some 20)).length := by
  unfold Txt.slice
  split
  · omega
  · show 1 ≤ (List.filterMap _ _).toArray.size
    rw [List.size_toArray]
    refine Nat.succ_le_of_lt (List.length_pos_of_mem (a := x.cps[0]'(by have : x.length = x.cps.size := rfl; omega)) ?_)
    rw [List.mem_filterMap]
    refine ⟨0, ?_, by rw [Array.getElem?_eq_getElem]⟩
    unfold Builtin.Str.strSliceIndices sliceRange
    simp only [show (1 : Int) > 0 by decide, if_true, if_neg (show ¬ (20 : Int) < 0 by decide)]
    rw [if_pos (by omega), List.mem_map]
    exact ⟨0, by rw [List.mem_range, Int.ediv_one]; omega, rfl⟩
theorem news_sub {h₀ h : Heap} {L : Addr} {news nn : List (Addr × Obj)} (N : News h₀ L h nn) (hs : ∀ p ∈ news, p ∈ nn) : News h₀ L h news := fun p hp => N p (hs p hp)
theorem word_pos (a b c d : Int) (zs : List Int) (n : Nat) : 1 ≤ (Txt.slice (wordRun (signStr a b) (signStr c d) zs n) none (some 20)).length :=
  slice20_pos (wordRun_len _ _ zs rfl rfl n).1
end Mine
end

section
open PySem PySem.W PyProof.Rows PySem.Calls PySem.SeqAt
set_option maxHeartbeats 8000000
namespace Mine
theorem eqAt_trip {A : Around} {s : Shared} {a b : Addr} {x y z x' y' z' : Int} {t1 t2 t3 u1 u2 u3 : Tok} (ha : s.heap.get? a = some (tripObj x y z t1 t2 t3 0)) (hb : s.heap.get? b = some (tripObj x' y' z' u1 u2 u3 0)) (hu : A.units < cLine) :
    EqAt A s (.ref a) (.ref b) (decide ((x, y, z) = (x', y', z'))) := by
  by_cases e : a = b
  · subst e
    rw [ha] at hb
    have := tripObj_inj (Option.some.inj hb)
    rw [decide_eq_true this]
    exact EqAt.same _
  · refine EqAt.of_refs e ?_
    have h := RcAt.tuples (A := A) (s := s) (l := a) (b := b) (items := #[.int x t1, .int y t2, .int z t3]) (items2 := #[.int x' u1, .int y' u2, .int z' u3]) (e := fun j => if j = 0 then x == x' else if j = 1 then y == y' else z == z')
      ⟨_, ha, rfl, 0, rfl⟩ ⟨_, hb, rfl, 0, rfl⟩ hu ?_
    · have e2 : ((List.range (min (#[Value.int x t1, .int y t2, .int z t3]).size (#[Value.int x' u1, .int y' u2, .int z' u3]).size)).all (fun j => if j = 0 then x == x' else if j = 1 then y == y' else z == z') && (#[Value.int x t1, .int y t2, .int z t3]).size == (#[Value.int x' u1, .int y' u2, .int z' u3]).size) = decide ((x, y, z) = (x', y', z')) := by
        show ((List.range 3).all _ && true) = _
        rw [show List.range 3 = [0, 1, 2] from rfl]
        simp only [List.all_cons, List.all_nil, Bool.and_true, if_true, Prod.mk.injEq]
        simp only [show ¬ (1 = 0) by decide, show ¬ (2 = 0) by decide, show ¬ (2 = 1) by decide, if_false, if_true]
        rw [Bool.eq_iff_iff]
        simp
      rw [e2] at h
      exact h
    · intro j h1 h2
      have : j = 0 ∨ j = 1 ∨ j = 2 := by simp at h1; omega
      rcases this with rfl | rfl | rfl
      · exact EqAt.int_int _ _ _ _
      · exact EqAt.int_int _ _ _ _
      · exact EqAt.int_int _ _ _ _
theorem any_pv {h₀ h : Heap} {L : Addr} {news : List (Addr × Obj)} (N : News h₀ L h news) (p : T3 → Bool) {vs : List Value} {ts : List T3} (hT : Trips news vs ts) : vs.any (pvOf news p) = ts.any p := by
  induction hT with
  | nil => rfl
  | cons hm _ ih => simp only [List.any_cons, pvOf_eq N hm, ih]
section
variable {prog : Program} {w : World} {A : Around} {E : Value → Shared → Prop} {s : Shared} {h₀ : Heap} {L : Addr} {news : List (Addr × Obj)} {Q : Value → Shared → Prop}
/-- a triple that is not in a list of triples -/
theorem notin_trips {l a : Addr} {vs : List Value} {ts : List T3} {n : Nat} {x y z : Int} {t1 t2 t3 : Tok} (N : News h₀ L s.heap news) (hl : (l, W.listOf vs.toArray n) ∈ news) (hT : Trips news vs ts) (ha : (a, tripObj x y z t1 t2 t3 0) ∈ news) (hu : A.in1.in1.units < cLine)
    (h : Q (.bool (decide ((x, y, z) ∉ ts))) s) : wpAny (model prog w) A (compareOp .NotIn (.ref a) (.ref l)) Q E s := by
  refine notIn_listAt (pvOf news fun t => decide (t = (x, y, z))) ⟨_, (N _ hl).1, rfl, n, rfl⟩ (fun v hv => ?_) ?_
  · obtain ⟨a', x', y', z', u1, u2, u3, rfl, hm⟩ := hT.get (by simpa using hv)
    rw [pvOf_eq N hm]
    exact eqAt_trip (N _ hm).1 (N _ ha).1 (by have : A.in1.units ≤ A.in1.in1.units := by simp only [Around.in1]; omega
                                              omega)
  · have e : (vs.toArray.any (pvOf news fun t => decide (t = (x, y, z)))) = ts.any fun t => decide (t = (x, y, z)) := by
      rw [← any_pv N _ hT]; simp
    rw [e]
    have e2 : (!ts.any fun t => decide (t = (x, y, z))) = decide ((x, y, z) ∉ ts) := by
      rw [Bool.eq_iff_iff]; simp
      constructor
      · intro q hm; exact q _ _ _ hm rfl rfl rfl
      · rintro q a b c hm rfl rfl rfl; exact q hm
    rw [e2]
    exact h
end
end Mine
end

section
open PySem PySem.W PyProof.Rows
set_option maxHeartbeats 8000000
namespace Mine
noncomputable def lawDef : Option (List Stmt × Scope) := match PySem.Challenge.pw_pk0055_01.main.body.getLast? with
  | some (.FunctionDef _ _ body _ _ _ scope _ _ _) => some (body, scope)
  | _ => none
noncomputable def lawStmts : List Stmt := match lawDef with | some (b, _) => b | none => []
noncomputable def lawScope : Scope := match lawDef with | some (_, s) => s | none => { kind := .function, names := [], isGenerator := false, isCoroutine := false, more := [] }
theorem kw_p44_1 : True := by
  k_with "p44_1" => (repeat' ((fail_if_success (with_reducible show wpAny _ _ (pyIter (Value.ref _)) _ _ _)); (fail_if_success (with_reducible show wpAny _ _ (eval (Expr.ListComp _ _ _ _) _) _ _ _)); (fail_if_success (with_reducible show wpAny _ _ (exec (Stmt.For _ _ _ _ _) _) _ _ _)); first | (k_unfold; (try dsimp only)) | walk1 | (dsimp only; walk1)))
  trivial

theorem kw_p44_2 : True := by
  k_with "p44_2" => (((with_reducible show wpAny _ _ (eval (Expr.Name _ _) (compEnvC _ _ _ _)) _ _ _); k_dflt (first
    | (refine' nmL (by k_asm) (by assumption) (by exact rfl) (by exact rfl) (by decide) ?_; k_whole)
    | (refine' nmC (by k_asm) (by exact rfl) (by exact rfl) (by exact rfl) (by k_mem) (by assumption) (by decide) ?_; k_whole))))
  trivial
local macro_rules | `(tactic| walk_at "eval Name") => `(tactic| k_extra "p44_2")

theorem kw_p44_3 : True := by
  k_with "p44_3" => (repeat' ((fail_if_success (with_reducible show wpAny _ _ (newList _) _ _ _)); first | (k_unfold; (try dsimp only)) | walk1 | (dsimp only; walk1)))
  trivial

theorem kw_p44_4 : True := by
  k_with "p44_4" => (repeat' ((fail_if_success (with_reducible show wpAny _ _ (call (Value.ref 122) _) _ _ _)); first | (k_unfold; (try dsimp only)) | walk1 | (dsimp only; walk1)))
  trivial

theorem kw_p44_5 : True := by
  k_with "p44_5" => (repeat' ((fail_if_success (with_reducible show wpAny _ _ (call (Value.builtin "sorted") _) _ _ _)); first | (k_unfold; (try dsimp only)) | walk1 | (dsimp only; walk1)))
  trivial

theorem kw_p44_6 : True := by
  k_with "p44_6" => (repeat' ((fail_if_success (with_reducible show wpAny _ _ (call (Value.ref 21) _) _ _ _)); first | (k_unfold; (try dsimp only)) | walk1 | (dsimp only; walk1)))
  trivial

local macro_rules | `(tactic| k_ne) => `(tactic| first | exact AllNe.off (by assumption) (by k_mem) | exact Ne.symm (AllNe.off (by assumption) (by k_mem)))
noncomputable def EltPost (s : Shared) (x : Str) (r : Value) (s' : Shared) : Prop := (∃ t, r = .str x t) ∧ Keeps s s'
local macro_rules | `(tactic| k_all) => `(tactic| assumption)
theorem kw_p44_7 : True := by
  k_with "p44_7" => (repeat' ((fail_if_success (with_reducible show wpAny _ _ (call (Value.ref 117) _) _ _ _)); (fail_if_success (with_reducible show wpAny _ _ (eval (Expr.ListComp _ _ _ _) _) _ _ _)); (fail_if_success (with_reducible show wpAny _ _ (pyIter (Value.ref _)) _ _ _)); first | (k_unfold; (try dsimp only)) | walk1 | (dsimp only; walk1)))
  trivial

theorem kw_p44_8 : True := by
  k_with "p44_8" => (repeat' ((fail_if_success (with_reducible show wpAny _ _ (compareOp CmpOp.NotIn _ _) _ _ _)); first | (k_unfold; (try dsimp only)) | walk1 | (dsimp only; walk1)))
  trivial

theorem kw_p44_9 : True := by
  k_with "p44_9" => ((repeat' (first | (refine List.forall_mem_cons.mpr ⟨?_, ?_⟩; k_mem) | (intro p hp; repeat (first | exact hp | apply List.Mem.tail)))))
  trivial

structure TailJ (Wd : Str) (L lS : Addr) (oS o1 o2 o3 o4 : Obj) (i : Nat) (m₁ : Str → Option Value) (news : List (Addr × Obj)) : Prop where
  ex : ∃ t vs n o5 tups ts, news = (t, W.listOf vs.toArray n) :: (L + 1 + 1 + 1 + 1 + 1, o5) :: (L + 1 + 1 + 1 + 1, o4) :: (L + 1 + 1 + 1, o3) :: (L + 1 + 1, o2) :: (L + 1, o1) :: (lS, oS) :: tups ∧ o5.data = .cell (some (.ref t)) ∧ Trips tups vs ts ∧ ToldRun Wd (1 + i) ts ∧ vs.length ≤ i ∧ AllNe t [(L + 1 + 1 + 1 + 1 + 1, o5)] ∧ ∀ p ∈ tups, p.1 ≠ L + 1 + 1 + 1 + 1 + 1
/-- what the comprehension over a place's answer tells -/
noncomputable def FoundPost (Wd : Str) (place : Int) (ts : List T3) (h₀ : Heap) (L : Addr) (s : Shared) (m : Str → Option Value) (news : List (Addr × Obj)) (v : Value) (s' : Shared) : Prop :=
  ∃ h' tk D ys k res tups, v = .ref D ∧ s' = { s with heap := h', toks := tk } ∧ Fr h₀ L h' m ∧ News h₀ L h' ((D, W.listOf ys.toArray k) :: (tups ++ news)) ∧ AllNe D news ∧ (∀ p ∈ tups, AllNe p.1 news) ∧ Trips tups ys (res.filter fun t => decide (t ∉ ts)) ∧ ToldAt Wd place res ∧ ys.length ≤ 1
theorem found_join {M : Model} {A : Around} {t : Sem Value} {Wd : Str} {place : Int} {h₀ : Heap} {L : Addr} {s : Shared} {m : Str → Option Value} {news : List (Addr × Obj)} {Q E : Value → Shared → Prop} (_F : Fr h₀ L s.heap m) (_N : News h₀ L s.heap news) (ts : List T3)
    (h : ∀ QV : Value → Shared → Prop, (∀ v s', FoundPost Wd place ts h₀ L s m news v s' → QV v s') → wpAny M A t QV (fun _ _ => False) s)
    (k : ∀ h' tk D ys k res tups, Fr h₀ L h' m → News h₀ L h' ((D, W.listOf ys.toArray k) :: (tups ++ news)) → AllNe D news → (∀ p ∈ tups, AllNe p.1 news) → Trips tups ys (res.filter fun t => decide (t ∉ ts)) → ToldAt Wd place res → ys.length ≤ 1 → Q (.ref D) { s with heap := h', toks := tk }) : wpAny M A t Q E s :=
  wpAny_mono (h _ fun _ _ q => q) (fun v s' hv => by obtain ⟨h', tk, D, ys, k', res, tups, rfl, rfl, a1, a2, a3, a4, a5, a6, a7⟩ := hv; exact k h' tk D ys k' res tups a1 a2 a3 a4 a5 a6 a7) fun _ _ q => q.elim
theorem trips_one {h₀ h : Heap} {L : Addr} {news : List (Addr × Obj)} (N : News h₀ L h news) (p : T3 → Bool) {b : Addr} {x y z : Int} {t1 t2 t3 : Tok} (hm : (b, tripObj x y z t1 t2 t3 0) ∈ news) :
    Trips [(b, tripObj x y z t1 t2 t3 0)] ([Value.ref b].filter (pvOf news p)) ([(x, y, z)].filter p) := by
  rw [List.filter_cons, List.filter_cons, pvOf_eq N hm]
  cases p (x, y, z) with
  | true => exact .cons (.head _) .nil
  | false => exact .nil
theorem told_grow {Wd : Str} {i : Nat} {ts res : List T3} (hrun : ToldRun Wd (1 + i) ts) (hta : ToldAt Wd (1 + (i : Int)) res) : ToldRun Wd (1 + (i + 1)) (ts ++ res.filter fun t => decide (t ∉ ts)) := by
  have h : ToldAt Wd ((1 + i : Nat) : Int) res := by rw [show ((1 + i : Nat) : Int) = 1 + (i : Int) by omega]; exact hta
  exact ToldRun.next hrun h
theorem Trips.app {news : List (Addr × Obj)} {vs ws : List Value} {ts us : List T3} (h1 : Trips news vs ts) (h2 : Trips news ws us) : Trips news (vs ++ ws) (ts ++ us) := by
  induction h1 with
  | nil => exact h2
  | cons hm _ ih => exact .cons hm ih
theorem tail_start {Wd : Str} {h₀ h : Heap} {L lS t : Addr} {oS o1 o2 o3 o4 o5 : Obj} {m₁ : Str → Option Value} {nn : List (Addr × Obj)} (dT : o5.data = .cell (some (.ref t))) (N : News h₀ L h nn) (ht : (t, W.listOf #[] 0) ∈ nn) (h5 : (L + 1 + 1 + 1 + 1 + 1, o5) ∈ nn)
    (h4 : (L + 1 + 1 + 1 + 1, o4) ∈ nn) (h3 : (L + 1 + 1 + 1, o3) ∈ nn) (h2 : (L + 1 + 1, o2) ∈ nn) (h1 : (L + 1, o1) ∈ nn) (hS : (lS, oS) ∈ nn) (hne : @LT.lt Nat _ (L + 1 + 1 + 1 + 1 + 1) t) : ∃ news, News h₀ L h news ∧ TailJ Wd L lS oS o1 o2 o3 o4 0 m₁ news :=
  ⟨_, fun p hp => N p (by
    simp only [List.mem_cons, List.not_mem_nil, or_false] at hp
    rcases hp with rfl | rfl | rfl | rfl | rfl | rfl | rfl
    · exact ht
    · exact h5
    · exact h4
    · exact h3
    · exact h2
    · exact h1
    · exact hS), ⟨t, [], 0, o5, [], [], rfl, dT, .nil, .one, Nat.le_refl _, ⟨Nat.ne_of_lt hne, trivial⟩, by simp⟩⟩
theorem law_tail {w : World} {s : Shared} {Q : Flow → Shared → Prop} {E : Value → Shared → Prop} {mean : ExcName → Option Value} {mg mb : Str → Option Value} {h₀ : Heap} {L fa : Addr} {cd : Value} {m : Str → Option Value} {S1 S2 Wd : Str} {u1 u2 u3 u4 u5 u6 : Tok} {o1 o2 o3 o4 o5 : Obj} {lS : Addr} {kS : Nat} {c5 : Option Value}
  (F : Fr h₀ L s.heap m) (N : News h₀ L s.heap [(lS, W.listOf #[.str S1 u4, .str S2 u5, .str Wd u6] kS), (L + 1 + 1 + 1 + 1 + 1, o5), (L + 1 + 1 + 1 + 1, o4), (L + 1 + 1 + 1, o3), (L + 1 + 1, o2), (L + 1, o1)])
  (hlt : @LT.lt Nat _ (L + 1 + 1 + 1 + 1 + 1) lS) (d1 : o1.data = .cell (some (.str S1 u1))) (d2 : o2.data = .cell (some (.str S2 u2))) (d3 : o3.data = .cell (some (.str Wd u3))) (d4 : o4.data = .cell (some (.ref lS))) (d5 : o5.data = .cell c5)
  (X₀ : (Mine.hd.heap_1 w.params).In h₀) (T₀ : TopX mean mg mb h₀) (K0 : Below callerA h₀ [] h₀) (hs1 : Small S1) (hs2 : Small S2) (hs3 : Small Wd) (hW : Wd.length ≤ 20) (hW1 : 1 ≤ Wd.length)
  (ret : ∀ h' tk m', Fr h₀ L h' m' → Q (.ret (.bool true)) { s with heap := h', toks := tk }) :
  wpAny (model PySem.Challenge.rw_pk0055_01.row.prog w) (callerA.deeper (envOfC (Str.ofString "law") lawScope L fa cd)) (execs (lawStmts.drop 11) (envOfC (Str.ofString "law") lawScope L fa cd)) Q E s := by
  revert X₀
  k_fill
  intro X₀
  show wpAny _ (callerA.deeper (envOfC _ (Scope.mk _ _ _ _ _) _ _ _)) (execs (_ :: _ :: _ :: _ :: _ :: []) (envOfC _ (Scope.mk _ _ _ _ _) _ _ _)) _ _ _
  k_extra "p44_1"
  refine' comp_two_assign F ?yw rfl rfl ?yclos ?ycell ?ykind ?ynames ?yx ?yy ?yxy ?yz ?yp ?_ ?ys ?ys2
  case yw => kernel_rfl
  case yclos => exact rfl
  case ycell => decide
  case ykind => exact rfl
  case ynames => decide
  case yx => exact rfl
  case yy => exact rfl
  case yxy => decide
  case yz => exact rfl
  case yp => exact rfl
  case ys => intro _; rfl
  case ys2 => intro _ _; rfl
  refine list_join F N [.str S1 u1, .str S2 u2, .str Wd u3] ?_ ?_
  · k_extra "p44_3"
    exact newList_end (by k_asm) (by k_asm)
  intro h' tk l k F' N' l1
  k_lt l1
  refine ⟨l, [.str S1 u1, .str S2 u2, .str Wd u3], [.str S1 u1, .str S2 u2, .str Wd u3], fun v u r => ∃ a ta b tb t, v = .str a ta ∧ u = .str b tb ∧ r = .str (collTxt a b) t, _, _, rfl, F', N', ⟨_, (N' _ (.head _)).1, rfl, k, rfl⟩, Nat.le_of_ble_eq_true rfl, ?_, ?_, ?_⟩
  · intro C s₂ m₂ E' F₂ N₂
    show wpAny _ _ _ (SrcPost s₂ _ _) _ _
    k_extra "p44_3"
    exact newList_src
  · intro C v u s₂ m₂ E' hv hu F₂ N₂ hx hy
    obtain ⟨a, ta, rfl⟩ : ∃ a ta, v = .str a ta := by
      simp only [List.mem_cons, List.not_mem_nil, or_false] at hv
      rcases hv with rfl | rfl | rfl <;> exact ⟨_, _, rfl⟩
    obtain ⟨b, tb, rfl⟩ : ∃ a ta, u = .str a ta := by
      simp only [List.mem_cons, List.not_mem_nil, or_false] at hu
      rcases hu with rfl | rfl | rfl <;> exact ⟨_, _, rfl⟩
    clear hv hu
    refine wpAny_mono (Q := fun r s₃ => EltPost s₂ (collTxt a b) r s₃) ?_ (fun r s₃ h => ?_) fun _ _ e => e
    · k_extra "p44_6"
      refine strcoll_spec (by k_room) (X₀.keeps F₂.keep) (T₀.keeps F₂.keep) fun h' tk t x => ?_
      have hc := coll_three a b
      have F₃ := x.fr F₂
      have N₃ := x.news N₂
      clear F₂ N₂
      k_extra "p44_1"
      exact ⟨⟨_, rfl⟩, _, _, rfl, x⟩
    · obtain ⟨⟨t, rfl⟩, hk⟩ := h
      exact ⟨⟨_, _, _, _, _, rfl, rfl, rfl⟩, hk⟩
  · intro D h' tk rs k F' N' ne hP
    k_extra "p44_1"
    refine' comp_two F' rfl ?zclos ?zcell ?zkind ?znames ?zx ?zy ?zxy ?_ ?zs ?zs2
    case zclos => exact rfl
    case zcell => decide
    case zkind => exact rfl
    case znames => decide
    case zx => exact rfl
    case zy => exact rfl
    case zxy => decide
    case zs => intro _; rfl
    case zs2 => intro _ _; rfl
    walk1
    refine ⟨lS, [.str S1 u4, .str S2 u5, .str Wd u6], [.str S1 u4, .str S2 u5, .str Wd u6], fun v u r => ∃ a ta b tb t, v = .str a ta ∧ u = .str b tb ∧ r = .str (collTxt a b) t, _, _, rfl, F', N', ⟨_, (N' _ (.tail _ (.tail _ (.head _)))).1, rfl, kS, rfl⟩, Nat.le_of_ble_eq_true rfl, ?_, ?_, ?_⟩
    · intro C s₂ m₂ E' F₂ N₂
      show wpAny _ _ _ (SrcPost s₂ _ _) _ _
      walk1
      exact ⟨lS, rfl, ⟨_, (N₂ _ (.tail _ (.tail _ (.head _)))).1, rfl, kS, rfl⟩, .inr (by simp), _, _, rfl, fun _ _ e => e⟩
    · intro C v u s₂ m₂ E' hv hu F₂ N₂ hx hy
      obtain ⟨a, ta, rfl⟩ : ∃ a ta, v = .str a ta := by
        simp only [List.mem_cons, List.not_mem_nil, or_false] at hv
        rcases hv with rfl | rfl | rfl <;> exact ⟨_, _, rfl⟩
      obtain ⟨b, tb, rfl⟩ : ∃ a ta, u = .str a ta := by
        simp only [List.mem_cons, List.not_mem_nil, or_false] at hu
        rcases hu with rfl | rfl | rfl <;> exact ⟨_, _, rfl⟩
      clear hv hu
      refine wpAny_mono (Q := fun r s₃ => EltPost s₂ (collTxt a b) r s₃) ?_ (fun r s₃ h => ?_) fun _ _ e => e
      · k_extra "p44_3"
        · have e0 : a = b := by first | exact eq_of_beq (by assumption) | assumption
          subst e0
          refine ⟨⟨_, congrArg (Value.str · _) ?_⟩, _, _, rfl, fun _ _ e => e⟩
          rw [collTxt, coll_self]; rfl
        · have hne : a ≠ b := by first | exact ne_of_beq_false (by assumption) | assumption
          refine newList_ext fun h' l x => ?_
          intro hl
          have F₃ := x.fr F₂
          have N₃ := x.news N₂
          clear F₂ N₂
          k_extra "p44_5"
          refine sorted2_ext hl fun h'' D' x' y' t' u' e' x2 hD hn hf => ?_
          have F₄ := x2.fr F₃
          have N₄ := news_app (x2.news N₃) F₃ hD hn
          clear F₃ N₃
          have x3 := x.trans x2
          k_extra "p44_1"
          · have e1 : x' = a := by first | exact eq_of_beq (by assumption) | assumption
            exact ⟨⟨_, congrArg (Value.str · _) ((hf hne).1 e1).symm⟩, _, _, rfl, x3⟩
          · have e1 : x' ≠ a := by first | exact ne_of_beq_false (by assumption) | assumption
            exact ⟨⟨_, congrArg (Value.str · _) ((hf hne).2 e1).symm⟩, _, _, rfl, x3⟩
      · obtain ⟨⟨t, rfl⟩, hk⟩ := h
        exact ⟨⟨_, _, _, _, _, rfl, rfl, rfl⟩, hk⟩
    · intro D2 h' tk rs2 k2 F'' N'' ne2 hP2
      have s1 := pairs_strs (ps := [(S1, S1), (S1, S2), (S1, Wd), (S2, S1), (S2, S2), (S2, Wd), (Wd, S1), (Wd, S2), (Wd, Wd)]) (by repeat constructor) hP
      have s2 := pairs_strs (ps := [(S1, S1), (S1, S2), (S1, Wd), (S2, S1), (S2, S2), (S2, Wd), (Wd, S1), (Wd, S2), (Wd, Wd)]) (by repeat constructor) hP2
      clear hP hP2
      refine ne_strs_same N'' (.tail _ (.head _)) (.head _) s1 s2 (small_colls _) (Nat.le_of_ble_eq_true rfl) ?_
      k_extra "p44_1"
      refine wpAny_For ?_
      k_extra "p44_1"
      rename IsRange _ _ _ _ _ _ _ _ => hr
      rename Fr _ _ _ _ => F₅
      rename News _ _ _ _ => N₅
      rename (_ : Obj).data = Data.cell (some (Value.ref _)) => dT
      obtain ⟨news₀, N₆, hJ₀⟩ := tail_start (Wd := Wd) (lS := lS) (oS := W.listOf #[.str S1 u4, .str S2 u5, .str Wd u6] kS) (m₁ := fun u => if u = Str.ofString "sides" then some (Value.ref D) else m u) dT N₅ (by k_mem) (by k_mem) (by k_mem) (by k_mem) (by k_mem) (by k_mem) (by k_mem) (by omega)
      clear N₅ dT
      refine' for_range (TailJ Wd L lS (W.listOf #[.str S1 u4, .str S2 u5, .str Wd u6] kS) o1 o2 o3 o4) rfl hr (by decide) (by decide) (by omega) (by omega) F₅ N₆ hJ₀ ?_ ?_
      · clear hJ₀ N₆ F₅ hr ne ne2 s1 s2 l1
        intro i I o m₁ news₁ σ tv QT hi hI hJ F₇ N₇ hII hσ hQT
        clear hσ
        obtain ⟨t, vs, n, o5, tups, ts, rfl, dT, hT, hrun, hlen, hne, htu⟩ := hJ
        have hIa := allNe_of hII
        have q4 : ∀ p ∈ tups, p.1 ≠ I := fun p hp => hII p (by simp [hp])
        clear hII hI
        k_extra "p44_7"
        rename Fr _ _ _ _ => F₈
        rename News _ _ _ _ => N₈
        refine found_join (Wd := Wd) (place := 1 + (i : Int)) F₈ N₈ ts ?_ ?_
        · intro QV hQV
          refine' listComp_ex (cl := _) ?vclos ?vcell ?vkind ?vnames ?vx ?_ ?vs
          case vclos => exact rfl
          case vcell => decide
          case vkind => exact rfl
          case vnames => decide
          case vx => exact rfl
          case vs => intro _; rfl
          k_extra "p44_7"
          refine' told_at F₈ N₈ X₀ T₀ hW ?v1 ?v2 ?_ ?_
          case v1 => omega
          case v2 => omega
          · intro hta h' tk' a F₉ N₉ ne9
            show wpAny _ _ (pyIter (Value.ref a)) _ _ _
            refine' comp_src (vs := []) (n := 0) (fun t => decide (t ∉ ts)) rfl rfl rfl (by decide) (by exact F₉) (by exact N₉) (by exact .head _) .nil (Nat.le_of_ble_eq_true rfl) ?_ ?_
            · intro C a' y1 y2 y3 t1 t2 t3 s₃ m₃ E' F₁₀ hm N₁₀
              clear F₈ N₈ F₉ N₉
              k_extra "p44_8"
              refine notin_trips N₁₀ (by k_mem) (hT.mono (by k_extra "p44_9")) (.head _) (Nat.le_of_ble_eq_true rfl) ?_
              k_extra "p44_1"
              exact ⟨_, _, rfl, fun _ _ e => e⟩
            · intro D' h'' tk'' ys k' Fa Na neA hTa hys
              subst hys
              exact hQV _ _ ⟨h'', tk'', D', [], k', [], [], rfl, rfl, Fa, fun p hp => Na p (by rcases List.mem_cons.mp hp with rfl | hp; exact .head _; exact .tail _ (.tail _ hp)), neA.2, by simp, .nil, hta, Nat.zero_le _⟩
          · intro f z st hta h' tk' a b t1 t2 t3 F₉ N₉ ne9 neb
            show wpAny _ _ (pyIter (Value.ref a)) _ _ _
            refine' comp_src (vs := [.ref b]) (n := 0) (fun t => decide (t ∉ ts)) rfl rfl rfl (by decide) (by exact F₉) (by exact N₉) (by exact .head _) (.cons (.tail _ (.head _)) .nil) (Nat.le_of_ble_eq_true rfl) ?_ ?_
            · intro C a' y1 y2 y3 t1 t2 t3 s₃ m₃ E' F₁₀ hm N₁₀
              clear F₈ N₈ F₉ N₉
              k_extra "p44_8"
              refine notin_trips N₁₀ (by k_mem) (hT.mono (by k_extra "p44_9")) (.head _) (Nat.le_of_ble_eq_true rfl) ?_
              k_extra "p44_1"
              exact ⟨_, _, rfl, fun _ _ e => e⟩
            · intro D' h'' tk'' ys k' Fa Na neA hTa hys
              have hone := trips_one N₉ (fun t => decide (t ∉ ts)) (.tail _ (.head _))
              rw [← hys] at hone
              exact hQV _ _ ⟨h'', tk'', D', ys, k', [(f, z, st)], _, rfl, rfl, Fa, fun p hp => Na p (by rcases List.mem_cons.mp hp with rfl | hp; exact .head _; exact .tail _ (.tail _ hp)), neA.2.2, by simpa using neb, hone, hta, by rw [hys]; exact List.length_filter_le _ _⟩
        · clear F₈ N₈
          intro h' tk D' ys k' res tups₂ F₁ N₁ neD ne2 hT2 hta hl
          have N₂ : News h₀ L h' ((D', W.listOf ys.toArray k') :: (I, o) :: (t, W.listOf vs.toArray n) :: (L + 1 + 1 + 1 + 1 + 1, o5) :: (L + 1 + 1 + 1 + 1, o4) :: (L + 1 + 1 + 1, o3) :: (L + 1 + 1, o2) :: (L + 1, o1) :: (lS, W.listOf #[.str S1 u4, .str S2 u5, .str Wd u6] kS) :: (tups₂ ++ tups)) := fun p hp => N₁ p (by
            simp only [List.mem_cons, List.mem_append] at hp ⊢
            rcases hp with h | h | h | h | h | h | h | h | h | h | h <;> simp [h])
          have htu2 : ∀ p ∈ tups₂ ++ tups, p.1 ≠ L + 1 + 1 + 1 + 1 + 1 := fun p hp => (List.mem_append.mp hp).elim (fun q => Ne.symm (AllNe.off (ne2 p q) (.tail _ (.tail _ (.head _))))) (htu p)
          have hI2 : ∀ p ∈ tups₂ ++ tups, p.1 ≠ I := fun p hp => (List.mem_append.mp hp).elim (fun q => Ne.symm (AllNe.off (ne2 p q) (.head _))) (q4 p)
          have hT' := (hT.mono (n' := tups₂ ++ tups) fun p hp => List.mem_append_right _ hp).app (hT2.mono (n' := tups₂ ++ tups) fun p hp => List.mem_append_left _ hp)
          have hrun' := told_grow hrun hta
          have hDt : AllNe D' [(L + 1 + 1 + 1 + 1 + 1, o5)] := ⟨AllNe.off neD (.tail _ (.tail _ (.head _))), trivial⟩
          generalize tups₂ ++ tups = tups' at N₂ htu2 hI2 hT'
          clear N₁ neD ne2 hT2 hT hrun htu q4
          show wpAny _ _ (binaryOp _ (Value.ref t) (Value.ref D')) _ _ _
          refine kmk_add_lit (its := vs.toArray) (its2 := ys.toArray) (zs := vs ++ ys) (by exact F₁) (by exact N₂) ⟨_, (N₂ _ (.tail _ (.tail _ (.head _)))).1, rfl, n, rfl⟩ ⟨_, (N₂ _ (.head _)).1, rfl, k', rfl⟩ (by simp) (fun E' h'' F₃ N₃ l1 => ?_) (by rw [sizeLine_eq]; simp only []; omega)
          have hEt : AllNe E' [(L + 1 + 1 + 1 + 1 + 1, o5)] := ⟨Nat.ne_of_lt (l1 _ (.tail _ (.tail _ (.tail _ (.head _))))), trivial⟩
          have hEI : @Ne Nat E' I := Nat.ne_of_gt (l1 _ (.tail _ (.head _)))
          have l5 := l1 _ (.tail _ (.tail _ (.tail _ (.head _))))
          clear N₂ F₁ l1
          k_extra "p44_1"
          rename (_ : Obj).data = Data.cell (some (Value.ref E')) => dE
          refine' hQT _ _ (FPost.intro ?f1 ?f2 ?f3 ?f4 ⟨E', vs ++ ys, 0, _, tups', _, rfl, dE, hT', hrun', by rw [List.length_append]; omega, ⟨Nat.ne_of_lt l5, trivial⟩, htu2⟩)
          case f1 => k_asm
          case f2 => k_asm
          case f3 => k_extra "p44_9"
          case f4 =>
            simp only [List.forall_mem_cons]
            exact ⟨hEI, hIa.2.1, hIa.2.2.1, hIa.2.2.2.1, hIa.2.2.2.2.1, hIa.2.2.2.2.2.1, hIa.2.2.2.2.2.2.1, hI2⟩
      · intro m₁ news₁ h tk hJ F₇ N₇
        obtain ⟨t, vs, n, o5, tups, ts, rfl, dT, hT, hrun, hlen, hne, htu⟩ := hJ
        clear hJ₀ N₆ F₅ hr ne ne2 s1 s2 l1
        k_extra "p44_5"
        refine' sorted_trips F₇ N₇ (.head _) (hT.mono (by k_extra "p44_9")) (by rw [hT.length] at *; omega) ?_
        intro D' h' ys us c F₈ N₈ hlt8 hT8 hperm hsort
        clear F₇ N₇
        dsimp only
        k_extra "p44_4"
        refine' reps_at (by k_asm) (by k_asm) X₀ T₀ hW ?_
        intro h'' tk'' D'' tups3 ys3 us3 c3 F₉ N₉ hT9 hperm9 hsort9
        have hrun' : ToldRun Wd Wd.length ts := by rw [show Wd.length = 1 + ((Wd.length : Int) - 1).toNat by omega]; exact hrun
        have hEq : us = us3 := sortedL_unique hsort hsort9 ((hperm.trans (told_perm hs3 hrun')).trans hperm9.symm)
        refine' eq_trips (vs := ys) (ws := ys3) (ts := us) (us := us3) N₉ (.tail _ (List.mem_append_right _ (.head _))) (.head _) (hT8.mono fun p hp => .tail _ (List.mem_append_right _ (.tail _ hp))) (hT9.mono fun p hp => .tail _ (List.mem_append_left _ hp)) (Nat.le_of_ble_eq_true rfl) ?_
        rw [decide_eq_true hEq]
        exact ret _ _ _ F₉
end Mine
end

section
open PySem PySem.W PyProof.Rows
set_option maxHeartbeats 3000000
namespace Mine
theorem kw_p45_1 : True := by
  k_with "p45_1" => (repeat' ((fail_if_success (with_reducible show wpAny _ _ (pyIter (Value.ref _)) _ _ _)); (fail_if_success (with_reducible show wpAny _ _ (eval (Expr.ListComp _ _ _ _) _) _ _ _)); (fail_if_success (with_reducible show wpAny _ _ (exec (Stmt.For _ _ _ _ _) _) _ _ _)); first | (k_unfold; (try dsimp only)) | walk1 | (dsimp only; walk1)))
  trivial

theorem kw_p45_2 : True := by
  k_with "p45_2" => (repeat' ((fail_if_success (with_reducible show wpAny _ _ (pyIter (Value.ref _)) _ _ _)); (fail_if_success (with_reducible show wpAny _ _ (eval (Expr.ListComp _ _ _ _) _) _ _ _)); (fail_if_success (with_reducible show wpAny _ _ (exec (Stmt.For _ _ _ _ _) _) _ _ _)); (fail_if_success (with_reducible show wpAny _ _ (eval (Expr.IfExp _ _ _ _) _) _ _ _)); first | (k_unfold; (try dsimp only)) | walk1 | (dsimp only; walk1)))
  trivial

theorem kw_p45_3 : True := by
  k_with "p45_3" => (repeat' ((fail_if_success (with_reducible show wpAny _ _ (pyIter (Value.ref _)) _ _ _)); (fail_if_success (with_reducible show wpAny _ _ (eval (Expr.ListComp _ _ _ _) _) _ _ _)); (fail_if_success (with_reducible show wpAny _ _ (exec (Stmt.For _ _ _ _ _) _) _ _ _)); (fail_if_success (with_reducible show wpAny _ _ (call (Value.ref 96) _) _ _ _)); first | (k_unfold; (try dsimp only)) | walk1 | (dsimp only; walk1)))
  trivial

theorem kw_p45_4 : True := by
  k_with "p45_4" => (repeat' ((fail_if_success (with_reducible show wpAny _ _ (pyIter (Value.ref _)) _ _ _)); (fail_if_success (with_reducible show wpAny _ _ (eval (Expr.ListComp _ _ _ _) _) _ _ _)); (fail_if_success (with_reducible show wpAny _ _ (exec (Stmt.For _ _ _ _ _) _) _ _ _)); (fail_if_success (with_reducible show wpAny _ _ (execs [_, _, _, _, _] _) _ _ _)); first | (k_unfold; (try dsimp only)) | walk1 | (dsimp only; walk1)))
  trivial

theorem kw_p45_5 : True := by
  k_with "p45_5" => (repeat' ((fail_if_success (with_reducible show wpAny _ _ (pyIter (Value.ref _)) _ _ _)); (fail_if_success (with_reducible show wpAny _ _ (eval (Expr.ListComp _ _ _ _) _) _ _ _)); (fail_if_success (with_reducible show wpAny _ _ (exec (Stmt.For _ _ _ _ _) _) _ _ _)); (fail_if_success (with_reducible show wpAny _ _ (exec (Stmt.If _ _ _ _) _) _ _ _)); first | (k_unfold; (try dsimp only)) | walk1 | (dsimp only; walk1)))
  trivial

theorem kw_p45_6 : True := by
  k_with "p45_6" => (repeat' ((fail_if_success (with_reducible show wpAny _ _ (pyIter (Value.ref _)) _ _ _)); (fail_if_success (with_reducible show wpAny _ _ (eval (Expr.ListComp _ _ _ _) _) _ _ _)); (fail_if_success (with_reducible show wpAny _ _ (exec (Stmt.For _ _ _ _ _) _) _ _ _)); (fail_if_success (with_reducible show wpAny _ _ (exec (Stmt.If _ _ _ _) _) _ _ _)); (fail_if_success (with_reducible show wpAny _ _ (call (Value.ref _) _) _ _ _)); first | (k_unfold; (try dsimp only)) | walk1 | (dsimp only; walk1)))
  trivial

theorem kw_p45_7 : True := by
  k_with "p45_7" => ((repeat' (first | (refine List.forall_mem_cons.mpr ⟨?_, ?_⟩; k_mem) | (intro p hp; repeat (first | exact hp | apply List.Mem.tail)))))
  trivial

theorem kw_p45_8 : True := by
  k_with "p45_8" => (refine pw 16777216 (by decide +kernel) (by decide) (by decide) (by decide) ?_)
  trivial
local macro_rules | `(tactic| walk_at "binaryOp Pow int int") => `(tactic| k_extra "p45_8")

/-- three numbers in a new list -/
noncomputable def Three (h₀ : Heap) (L : Addr) (s : Shared) (m : Str → Option Value) (news : List (Addr × Obj)) (v : Value) (s' : Shared) : Prop :=
  ∃ h' tk l a b c t1 t2 t3 k, v = .ref l ∧ s' = { s with heap := h', toks := tk } ∧ Fr h₀ L h' m ∧ News h₀ L h' ((l, W.listOf #[.int a t1, .int b t2, .int c t3] k) :: news) ∧ AllNe l news
theorem Three.intro {h₀ h' : Heap} {L : Addr} {s : Shared} {m : Str → Option Value} {news nn : List (Addr × Obj)} {tk : Nat} {l : Addr} {a b c : Int} {t1 t2 t3 : Tok} {k : Nat}
    (F : Fr h₀ L h' m) (N : News h₀ L h' nn) (hs : ∀ p ∈ (l, W.listOf #[.int a t1, .int b t2, .int c t3] k) :: news, p ∈ nn) (hne : AllNe l news) : Three h₀ L s m news (.ref l) { s with heap := h', toks := tk } :=
  ⟨h', tk, l, a, b, c, t1, t2, t3, k, rfl, rfl, F, fun p hp => N p (hs p hp), hne⟩
theorem kw_p45_9 : True := by
  k_with "p45_9" => ((refine' hQV _ _ (Three.intro (by k_asm) (by k_asm) (by k_extra "p45_7") (by (simp only [AllNe, and_true]; omega)))))
  trivial

theorem bne_self {x : Str} (h : (x != x) = true) : False := by simp at h
theorem three_of {M : Model} {A : Around} {t : Sem Value} {h₀ : Heap} {L : Addr} {s : Shared} {m : Str → Option Value} {news : List (Addr × Obj)} {E : Value → Shared → Prop} (_F : Fr h₀ L s.heap m) (_N : News h₀ L s.heap news)
    (h : ∀ QV : Value → Shared → Prop, (∀ v s', Three h₀ L s m news v s' → QV v s') → wpAny M A t QV E s) : wpAny M A t (Three h₀ L s m news) E s := h _ fun _ _ q => q
theorem isList_keep {h₀ h : Heap} {L l : Addr} {m : Str → Option Value} {its : Array Value} (hl : h₀.IsList l its) (F : Fr h₀ L h m) : h.IsList l its := hl.at fun o e => F.keep _ o e
local macro_rules | `(tactic| k_ne) => `(tactic| first | exact AllNe.off (by assumption) (by k_mem) | exact Ne.symm (AllNe.off (by assumption) (by k_mem)))
theorem sizes_ok (n : Int) (h : 0 ≤ n) : (∀ z ∈ sizesOf n, 1 ≤ z ∧ z ≤ 5) ∧ (sizesOf n).length ≤ 10 := by
  unfold sizesOf
  simp (disch := decide) only [Int.fdiv_eq_ediv_of_nonneg, Int.fmod_eq_emod_of_nonneg]
  have h1 : 0 ≤ n % 5 ∧ n % 5 < 5 := by omega
  have h2 : 0 ≤ n / 5 % 5 ∧ n / 5 % 5 < 5 := by omega
  have h3 : 0 ≤ n / 25 % 5 ∧ n / 25 % 5 < 5 := by omega
  generalize n % 5 = a at *
  generalize n / 5 % 5 = b at *
  generalize n / 25 % 5 = c at *
  generalize n / 125 % 6 = k at *
  unfold sizesK
  split
  · simp only [List.mem_cons, List.not_mem_nil, or_false, List.length_cons, List.length_nil]; exact ⟨fun z hz => by omega, by omega⟩
  split
  · simp only [List.mem_cons, List.not_mem_nil, or_false, List.length_cons, List.length_nil]; exact ⟨fun z hz => by omega, by omega⟩
  split
  · simp only [List.mem_cons, List.not_mem_nil, or_false, List.length_cons, List.length_nil]; exact ⟨fun z hz => by omega, by omega⟩
  split
  · simp only [List.mem_cons, List.not_mem_nil, or_false, List.length_cons, List.length_nil]; exact ⟨fun z hz => by omega, by omega⟩
  split
  · simp only [List.mem_cons, List.not_mem_nil, or_false, List.length_cons, List.length_nil]; exact ⟨fun z hz => by omega, by omega⟩
  · simp
theorem kw_p45_10 : True := by
  k_with "p45_10" => (((with_reducible show wpAny _ _ (call (Value.ref 35) [Value.int _ _]) _ _ _); k_dflt (refine' imode_atF (by k_asm) (by k_asm) (by k_asm) (by k_asm) ?_); intro h' tk' t' F' N'; (try k_sweep); (try dsimp only)))
  trivial
local macro_rules | `(tactic| walk_at "call ref") => `(tactic| k_extra "p45_10")

theorem kw_p45_11 : True := by
  k_with "p45_11" => (((with_reducible show wpAny _ _ (call (Value.ref 42) [Value.int _ _]) _ _ _); k_dflt (refine' ifmt_atF (by k_asm) (by k_asm) (by k_asm) (by k_asm) ?_); intro h' tk' t' F' N'; (try k_sweep); (try dsimp only)))
  trivial
local macro_rules | `(tactic| walk_at "call ref") => `(tactic| k_extra "p45_11")

theorem kw_p45_12 : True := by
  k_with "p45_12" => (((with_reducible show wpAny _ _ (call (Value.ref 82) [Value.int _ _]) _ _ _); k_dflt (refine' filemode_at (by k_asm) (by k_asm) (by k_asm) (by k_asm) (by exact fm16 _) (by exact fm4096 _) ?_); intro h' tk' t' F' N'; (try k_sweep); (try dsimp only)))
  trivial
local macro_rules | `(tactic| walk_at "call ref") => `(tactic| k_extra "p45_12")

theorem kw_p45_13 : True := by
  k_with "p45_13" => (((with_reducible show wpAny _ _ (call (Value.ref 103) [Value.int _ _, Value.int _ _]) _ _ _); k_dflt (refine' signs_at (by k_asm) (by k_asm) (by k_asm) (by k_asm) (by exact fm16 _) (by exact fm4096 _) ?_); intro h' tk' t' F' N'; (try k_sweep); (try dsimp only)))
  trivial
local macro_rules | `(tactic| walk_at "call ref") => `(tactic| k_extra "p45_13")

theorem kw_p45_14 : True := by
  k_with "p45_14" => (((with_reducible show wpAny _ _ (call (Value.ref 89) [Value.int _ _]) _ _ _); k_dflt (refine' row_at (by k_asm) (by k_asm) (by k_asm) (by k_asm) (by omega) (by omega) ?_); intro h' tk' p' r' z' vr' vz' nr' nz' F' N' ⟨ne1', ne2', ne3'⟩ i1' i2'; (try k_sweep); (try dsimp only)))
  trivial
local macro_rules | `(tactic| walk_at "call ref") => `(tactic| k_extra "p45_14")

theorem kw_p45_15 : True := by
  k_with "p45_15" => (((with_reducible show wpAny _ _ (call (Value.ref 110) [Value.str _ _, Value.str _ _, Value.ref _]) _ _ _); k_dflt (refine' word_at (by k_asm) (by k_asm) (by k_asm) (by k_asm) (by exact rfl) (by exact rfl) (by k_mem) (by assumption) (by exact (sizes_ok _ (by omega)).1) (by exact (sizes_ok _ (by omega)).2) ?_); intro h' tk' t' F' N'; (try k_sweep); (try dsimp only)))
  trivial
local macro_rules | `(tactic| walk_at "call ref") => `(tactic| k_extra "p45_15")

theorem kw_p45_16 : True := by
  k_with "p45_16" => (((with_reducible show wpAny _ _ (call (Value.ref 96) [Value.ref _]) _ _ _); k_dflt (refine' walkrow_at (by k_asm) (by k_asm) (by k_asm) (by k_asm) (by assumption) (by assumption) (by omega) (by omega) (by k_mem) (by assumption) ?_); intro s' h' tk' p' z' tt' vz' nz' d' o' b' F' N' ⟨ne1', ne2'⟩ i1'; (try k_sweep); (try dsimp only)))
  trivial
local macro_rules | `(tactic| walk_at "call ref") => `(tactic| k_extra "p45_16")

theorem kw_p45_17 : True := by
  k_with "p45_17" => ((k_here; k_dflt (refine' ne_strs_same (by k_asm) (by k_mem) (by k_mem) (by (repeat constructor)) (by (repeat constructor)) (by (repeat (first | exact List.forall_mem_nil _ | refine List.forall_mem_cons.mpr ⟨by first | exact small_signs _ _ | exact small_word _ _ _ _ _ _, ?_⟩))) (by exact Nat.le_of_ble_eq_true rfl) ?_); (try dsimp only)))
  trivial
local macro_rules | `(tactic| walk_at "compareOp NotEq ref ref") => `(tactic| k_extra "p45_17")

theorem pick3of {a b c : Value} {rest : List Value} : (slicePick (a :: b :: c :: rest).toArray none (some 3) none).toList = [a, b, c] := by
  have e : sliceBounds none (some 3) none (a :: b :: c :: rest).toArray.size = (((0 : Nat) : Int), ((3 : Nat) : Int), 1) := by
    simp only [sliceBounds, Option.getD_none, show (1 : Int) > 0 by decide, if_true, List.size_toArray, List.length_cons]
    congr 1
    congr 1
    simp only [show ¬ ((3 : Int) < 0) by decide, if_false]
    omega
  rw [kmk_pick_nat _ e]
  rfl
theorem kw_p45_18 : True := by
  k_with "p45_18" => ((k_here; k_dflt (refine' kmk_slice_lit (by k_asm) (by k_asm) (by exact isList_keep (by assumption) (by assumption)) (by kmk_part) (by kmk_part) pick3of ?_ (by with_unfolding_all rfl) (by kmk_pure) (by kmk_size)); intro D' h' F' N' l1; (try k_lt l1); (try k_sweep)))
  trivial
local macro_rules | `(tactic| walk_at "subscriptTail Name Slice ref ref") => `(tactic| k_extra "p45_18")

theorem good_end {c : ClaimW} {cl : Str → Option Addr} {mean : ExcName → Option Value} {args : List WData} {s₁ s₂ : Shared} (k : Ext s₁.heap s₂.heap) (ho : s₂.os = s₁.os) (hb : AllBare s₂.gens) (hr : ∀ cls, c.raises args cls = false) (hp : c.post args (.bool true) args = true) :
    GoodWG c cl mean args s₁ (.ok (.ret (.bool true))) s₂ :=
  ⟨.inl ⟨_, _, [], rfl, hr, ReadsW.bool true, hp, fun _ => ⟨List.nodup_nil, fun _ hm => (nomatch hm)⟩⟩, .of_keep k, ho, hb⟩
theorem thw : PySem.Challenge.rw_pk0055_01.Holds := hd (by
  k_fill
  intro w s₀ s₁ mg mb G Y fa o pm cd doc dV kV ho hd hcd hD hmg hg args vals as hpre hlay hrd hwl hlo
  have KX := kIn_of Y
  have X := (Ground.X G).1
  have V := (Ground.X G).2
  refine Ground.open G ?_
  intro T B D TE TW
  try (refine guard_noD D (by decide +kernel) ?_; clear D)
  obtain ⟨_, _, M⟩ := bmod_of_top T
  have TA := at_of_top T
  try (obtain ⟨_, _, he, B0⟩ := based_of_top T rfl hmg ho hd; have he' : cd = _ := he; subst he'; clear he)
  clear hmg
  wrow_args hpre hlay hrd hwl hlo
  all_goals
    first | refine callC_kw (enter_call ?_) | refine enter_call ?_ | refine callC_kw (enter_callW ?_) | refine enter_callW ?_
    w_top on
    have K0 := below_caller (Top.heap T)
    w_call any ho hd hcd hD T F
    clear hd TA
    k_drop
  all_goals try k_fold
  rename Fr _ _ _ _ => F₀
  generalize hL₀ : s₁.heap.objs.size = L₀ at *
  as_aux_lemma =>
    k_extra "p45_1"
    rename IntsAre _ _ => hI
    rename News _ _ _ _ => N₁
    rename Fr _ _ _ _ => F₁
    refine' comp_map F₁ (fun v y => ∃ n t t', v = Value.int n t ∧ y = .int (n.fmod 16777216) t') rfl ?hclos ?hcell ?hkind ?hnames ?hx ?_ ?hs
    case hclos => exact rfl
    case hcell => decide
    case hkind => exact rfl
    case hnames => decide
    case hx => exact rfl
    case hs => intro _; rfl
    refine wpAny_mono (three_of F₁ N₁ (E := fun _ _ => False) ?_) (fun v s' hv => ?_) (fun _ _ q => q.elim)
    case refine_1 =>
      intro QV hQV
      cases hI with
      | nil => 
        k_extra "p45_1"
        k_extra "p45_9"
      | cons a ta hI =>
        cases hI with
        | nil =>
          k_extra "p45_1"
          k_extra "p45_9"
        | cons b tb hI => 
          cases hI with
          | nil => 
            k_extra "p45_1"
            k_extra "p45_9"
          | cons c tc hI =>
            have hlen := hI.length
            k_extra "p45_1"
            k_extra "p45_9"
    case refine_2 =>
      clear hI
      obtain ⟨h', tk, l, a, b, c, t1, t2, t3, k, rfl, rfl, F₂, N₂, hne⟩ := hv
      refine ⟨l, [.int a t1, .int b t2, .int c t3], _, _, rfl, F₂, N₂, ⟨_, (N₂ _ (.head _)).1, rfl, k, rfl⟩, Nat.le_of_ble_eq_true rfl, ?_, ?_⟩
      · intro C v s₃ m₃ E' hv F₃ N₃ hm
        obtain ⟨n, t, rfl⟩ : ∃ n t, v = .int n t := by
          simp only [List.mem_cons, List.not_mem_nil, or_false] at hv
          rcases hv with rfl | rfl | rfl <;> exact ⟨_, _, rfl⟩
        clear hv
        refine wpAny_BinOp (nmL F₃ hm rfl rfl (by decide) ?_)
        k_extra "p45_1"
        exact ⟨_, _, rfl, fun _ _ e => e⟩
      · intro D h' tk ys k hF hN hne2 hP
        obtain ⟨u1, u2, u3, rfl⟩ : ∃ u1 u2 u3, ys = [.int (a.fmod 16777216) u1, .int (b.fmod 16777216) u2, .int (c.fmod 16777216) u3] := by
          cases hP with
          | cons e1 hP => 
            cases hP with
            | cons e2 hP => 
              cases hP with
              | cons e3 hP => 
                cases hP
                obtain ⟨_, _, _, q, rfl⟩ := e1
                cases q
                obtain ⟨_, _, _, q, rfl⟩ := e2
                cases q
                obtain ⟨_, _, _, q, rfl⟩ := e3
                cases q
                exact ⟨_, _, _, rfl⟩
        clear hP
        have ha1 := Int.emod_nonneg a (b := 16777216) (by decide)
        have ha2 := Int.emod_lt_of_pos a (b := 16777216) (by decide)
        have hb1 := Int.emod_nonneg b (b := 16777216) (by decide)
        have hb2 := Int.emod_lt_of_pos b (b := 16777216) (by decide)
        have hc1 := Int.emod_nonneg c (b := 16777216) (by decide)
        have hc2 := Int.emod_lt_of_pos c (b := 16777216) (by decide)
        rw [← Int.fmod_eq_emod_of_nonneg _ (by decide)] at ha1 ha2 hb1 hb2 hc1 hc2
        generalize a.fmod 16777216 = one at *
        generalize b.fmod 16777216 = two at *
        generalize c.fmod 16777216 = ruler at *
        as_aux_lemma =>
          k_extra "p45_2"
          rename Fr _ _ _ _ => hF₁
          rename News _ _ _ _ => hN₁
          refine str_join hF₁ hN₁ (wordsOf ruler) ?_ ?_
          case refine_1 =>
            intro QS hQS
            k_extra "p45_1"
            · refine' hQS _ _ (StrPost.intro ?e1 ?e2 ?e3 (words_nil ?e4))
              case e1 => k_asm
              case e2 => k_asm
              case e3 => k_extra "p45_7"
              case e4 => first | assumption | exact of_decide_eq_true (by assumption) | exact eq_of_beq (by assumption)
            · refine' hQS _ _ (StrPost.intro ?e5 ?e6 ?e7 (words_some ?e8))
              case e5 => k_asm
              case e6 => k_asm
              case e7 => k_extra "p45_7"
              case e8 => first | assumption | exact of_decide_eq_false (by assumption) | exact ne_of_beq_false (by assumption)
          case refine_2 =>
            intro h' tk u hF₂ hN₂
            clear hF₁ hN₁
            k_extra "p45_4"
            all_goals try (exfalso; exact bne_self (by assumption))
            · rename Fr _ _ _ _ => hF₃
              rename News _ _ _ _ => hN₃
              refine' law_tail (S1 := signStr ((one.fdiv 4096).fmod 16) (two.fmod 4096)) (S2 := signStr ((two.fdiv 4096).fmod 16) (one.fmod 4096)) (Wd := Txt.slice _ none (some 20)) hF₃ (news_sub hN₃ ?g1) ?g2 ?g3 ?g4 ?g5 ?g6 ?g7 ?g8 ?g9 ?gA (small_signs _ _) (small_signs _ _) ?gB (slice20 _) ?gC ?gD
              case g6 => assumption
              case g5 => assumption
              case g3 => assumption
              case g4 => assumption
              case g1 => k_extra "p45_7"
              case g7 => assumption
              case g2 => omega
              case g8 => assumption
              case g9 => assumption
              case gA => assumption
              case gB => exact small_word _ _ _ _ _ _
              case gC => exact word_pos _ _ _ _ _ _
              case gD =>
                intro h' tk' m' hF₄
                clear hF₃ hN₃
                k_unfold
                try dsimp only
                k_end
                refine good_end hF₄.keep ?q1 ?q2 ?q3 ?q4
                case q1 => (dsimp only; first | assumption | exact Eq.trans (by assumption) rfl)
                case q2 => (dsimp only; assumption)
                case q3 => exact fun _ => rfl
                case q4 => first | rfl | wrow_post)
end Mine
end

theorem PySem.Challenge.cw_pk0055_01_holds : PySem.Challenge.rw_pk0055_01.Holds := by
  exact Mine.thw
