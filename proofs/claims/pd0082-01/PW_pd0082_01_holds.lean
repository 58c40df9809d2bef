import PyProof.Rows.All
import Wide.All
import OpenK.AllK
import Wide.FinOn
import PySem.Challenge.RW_pd0082_01
open PySem PySem.W PyProof.Rows
set_option Elab.async false
set_option maxRecDepth 100000
set_option maxHeartbeats 0
namespace Mine
noncomputable abbrev prg : Program := Challenge.rw_pd0082_01.row.toRowW.prog
@[reducible] noncomputable def viewOf {a0 a1 a2 a3 a4 a5 a6 a7 a8 a9 a10 a11 a12 a13 a14 a15 a16 a17 a18 a19 a20 a21 a22 a23 a24 a25 a26 a27 : Stmt} (_ : prg.main.body = [a0, a1, a2, a3, a4, a5, a6, a7, a8, a9, a10, a11, a12, a13, a14, a15, a16, a17, a18, a19, a20, a21, a22, a23, a24, a25, a26, a27]) : Program :=
  { prg with main := { prg.main with body := [a0, a6, a8, a10, a11, a13, a15, a17, a18, a19, a20, a21, a22, a24, a25, a26, a27] } }
noncomputable def view : Program := viewOf (rfl : prg.main.body = [_, _, _, _, _, _, _, _, _, _, _, _, _, _, _, _, _, _, _, _, _, _, _, _, _, _, _, _])
local macro_rules | `(tactic| o_head $H) => do
  let e := Lean.mkIdent `PySem.W.Fast.te7863852099449166988
  `(tactic| (
  refine holds_open (q := Mine.view) (loose := [PySem.Str.ofString "insort_right", PySem.Str.ofString "bisect_right", PySem.Str.ofString "bisect_left"]) (Xt := fun s => xlAt Mine.view [] s && recOk (RowW.records (OpenRow.toRowW PySem.Challenge.rw_pd0082_01.row)) s) (XP := XL Mine.view []) (Yf := Hook.obs $H) (Ya := Hook.val $H) (YP := Hook.says $H) (N := 2450) ?hl (Hook.of $H) (Hook.keeps $H) (fun s e => xl_of s (Bool.and_eq_true_iff.mp e).1) XL.keeps (by rfl) (by rfl) (by rfl) (fun s e => recFacts_of (Bool.and_eq_true_iff.mp e).2) (by rfl) (by first | assumption | decide +kernel) (by decide +kernel) ⟨rfl, rfl, rfl, rfl, rfl, by decide +kernel⟩ ?hw ?hc
  (case hl => intro w; (show (openEnds treeTable PySem.Challenge.pw_pd0082_01 w 2450).map _ = _); unfold openEnds fencedOpening topFrom; rw [$e:ident, PySem.W.Fast.te14082659384304107361, PySem.W.Fast.te10274390034422433532, PySem.W.Fast.te1435165496053646825, PySem.W.Fast.te14364793385576792824, PySem.W.Fast.te4187177175401517315]; kernel_rfl)))
open_top hd for PySem.Challenge.rw_pd0082_01
end Mine
namespace Mine
open PySem.Spec PySem.Calls PySem.W.X
noncomputable abbrev lo : List Str := [Str.ofString "insort_right", Str.ofString "bisect_right", Str.ofString "bisect_left"]
noncomputable abbrev Ac (d u : Nat) : Around := { handled := none, depth := d, frames := none, guards := none, units := u }

noncomputable def Grows (h h' : Heap) : Prop := ∀ b o, h.get? b = some o → h'.get? b = some o
theorem Grows.refl (h : Heap) : Grows h h := fun _ _ e => e
theorem Grows.trans {h h' h'' : Heap} (a : Grows h h') (b : Grows h' h'') : Grows h h'' := fun x o e => b x o (a x o e)

noncomputable def Gives (s : Shared) (P : Value → Heap → Prop) (r : Result) (s' : Shared) : Prop :=
  ∃ v h' tk, r = .ok (.ret v) ∧ s' = { s with heap := h', toks := tk } ∧ Grows s.heap h' ∧ P v h'

theorem weaken {M : Model} {A : Around} {d u : Nat} {c : Code} {R : Result → Shared → Prop} {s : Shared} (h : codeAny M (Ac d u) c R s) (hh : A.handled = none) (hd : A.depth ≤ d) (hu : A.units ≤ u) : codeAny M A c R s :=
  fun Γ p hc hB => h Γ p hc ⟨hB.1.trans hh, Nat.le_trans hB.2.1 hd, (fun _ e => (nomatch e)), (fun _ e => (nomatch e)), Nat.le_trans hB.2.2.2.2 hu⟩
theorem weakenW {α : Type} {M : Model} {A : Around} {d u : Nat} {t : Sem α} {Q : α → Shared → Prop} {E : Value → Shared → Prop} {s : Shared} (h : wpAny M (Ac d u) t Q E s) (hh : A.handled = none) (hd : A.depth ≤ d) (hu : A.units ≤ u) : wpAny M A t Q E s :=
  fun Γ p hB => h Γ p ⟨hB.1.trans hh, Nat.le_trans hB.2.1 hd, (fun _ e => (nomatch e)), (fun _ e => (nomatch e)), Nat.le_trans hB.2.2.2.2 hu⟩

theorem use {prog : Program} {w : World} {A : Around} {d u : Nat} {s : Shared} {h₀ : Heap} {L : Addr} {m : Str → Option Value} {news : List (Addr × Obj)} {f : Value} {vals : List Value} {kws : List (Str × Value)} {Q E : Value → Shared → Prop} {P : Value → Heap → Prop}
    (C : codeAny (model prog w) (Ac d u) (.call f ⟨vals, kws⟩) (Gives s P) s) (F : Fr h₀ L s.heap m) (N : News h₀ L s.heap news) (hh : A.handled = none) (hd : A.depth ≤ d) (hu : A.units ≤ u)
    (k : ∀ v h' tk, P v h' → Grows s.heap h' → Fr h₀ L h' m → News h₀ L h' news → Q v { s with heap := h', toks := tk }) : wpAny (model prog w) A (call f vals kws) Q E s := by
  refine wpAny_call (codeAny_mono (weaken C hh hd hu) ?_)
  rintro r s' ⟨v, h', tk, rfl, rfl, g, p⟩
  exact k v h' tk p g (Fr.keeps F g) (News.grown N g)

section
variable {prog : Program} {w : World} {A : Around} {s : Shared} {K : Frag} {g : Heap} {led : List (Addr × Obj)} {p : Program} {loose : List Str} {mean : ExcName → Option Value} {mg mb : Str → Option Value}
  {R : Result → Shared → Prop} {name qual : Str} {params : Arguments} {body : List Stmt} {scope : Scope} {dV kV doc pm cdv ct oc : Value} {an od : Option Addr} {osl : Array (Option Value)} {f : Addr} {args : Args}

theorem enterG {binds : List (Str × Value)} (hg : ∀ b o, g.get? b = some o → s.heap.get? b = some o) (hsz : g.objs.size ≤ s.heap.objs.size) (hled : ∀ p ∈ led, s.heap.get? p.1 = some p.2 ∧ g.get? p.1 = none)
    (X : K.In g) (T : Top p loose mean mg mb g)
    (ho : K.lookup f = some ⟨oc, od, .func (fnOf name qual params body scope dV kV doc pm an cdv ct), osl⟩) (hcd : codeIn K cdv qual = true) (hroom : A.depth < recursionLimit)
    (hbind : BindsTo s (fnOf name qual params body scope dV kV doc pm an cdv ct) args binds) (hloc : ∀ y ∈ binds, scope.names.lookup y.1 = some .local)
    (h : ∀ L' h₁, Fr g L' h₁ (fun y => binds.reverse.lookup y) → News g L' h₁ led →
      wpAny (model prog w) (A.deeper (envOf qual scope L' f cdv)) (execs body (envOf qual scope L' f cdv))
        (fun fl s' => R (.ok (.ret (match fl with | .ret v => v | _ => .none))) s')
        (fun e s' => wpAny (model prog w) (A.deeper (envOf qual scope L' f cdv)) (leaving (envOf qual scope L' f cdv) e) (fun _ s'' => R (.error e) s'') (fun e' s'' => R (.error e') s'') s')
        { s with heap := h₁, toks := s.toks + binds.length })
    (hco : scope.isCoroutine = false) (hgen : scope.isGenerator = false) (hk : scope.kind = .function)
    (hcell : ∀ x ∈ scope.names, x.2 ≠ .cell) : codeAny (model prog w) A (.call (.ref f) args) R s := by
  refine codeAny_call_def (fd := fnOf name qual params body scope dV kV doc pm an cdv ct) (body := body) (binds := binds) hroom ((X.keeps hg) _ _ ho) rfl (T.nolimit.keeps hg) (codeRec_of (X.keeps hg) hcd) rfl hbind hcell hloc (fun h₁ hns hk₁ => ?_) hco hgen hk
  exact h s.heap.objs.size h₁ ⟨hns, fun b o e => hk₁ b o (hg b o e), hsz⟩ (fun p hp => ⟨hk₁ _ _ (hled p hp).1, Nat.ne_of_lt (Heap.lt_size (hled p hp).1), (hled p hp).2⟩)

theorem enterC {binds : List (Str × Value)} (X : K.In s.heap) (T : Top p loose mean mg mb s.heap)
    (ho : K.lookup f = some ⟨oc, od, .func (fnOf name qual params body scope dV kV doc pm an cdv ct), osl⟩) (hcd : codeIn K cdv qual = true) (hroom : A.depth < recursionLimit)
    (hbind : BindsTo s (fnOf name qual params body scope dV kV doc pm an cdv ct) args binds) (hkind : (binds.all fun y => scope.names.lookup y.1 == some .local || scope.names.lookup y.1 == some .cell) = true)
    (hnd : ((cellsFrom 0 scope.names []).map (·.1)).Nodup)
    (h : ∀ L' h₁ tk cells, Fr s.heap L' h₁ (bindL (envOfC qual scope L' f cdv).kindOf binds fun _ => none) → News s.heap L' h₁ cells →
      CellsAre (bindC (envOfC qual scope L' f cdv).kindOf binds fun _ => none) (cellsFrom (L' + 1) scope.names []) cells →
      wpAny (model prog w) (A.deeper (envOfC qual scope L' f cdv)) (execs body (envOfC qual scope L' f cdv))
        (fun fl s' => R (.ok (.ret (match fl with | .ret v => v | _ => .none))) s')
        (fun e s' => wpAny (model prog w) (A.deeper (envOfC qual scope L' f cdv)) (leaving (envOfC qual scope L' f cdv) e) (fun _ s'' => R (.error e) s'') (fun e' s'' => R (.error e') s'') s')
        { s with heap := h₁, toks := tk })
    (hco : scope.isCoroutine = false) (hgen : scope.isGenerator = false) (hk : scope.kind = .function) : codeAny (model prog w) A (.call (.ref f) args) R s := by
  refine codeAny_call_function hroom (X _ _ ho) rfl hco hgen rfl (codeRec_of X hcd) (hbind _ _ _ _ ?_)
  refine wpAny_newFunctionEnv_cells hk (kindsX hkind _) fun env' he s' x => ?_
  subst he
  refine ⟨T.nolimit.keeps x.toInCall.keep, codeAny_func ?_⟩
  obtain ⟨h₁, tk, rfl, _⟩ := x.done
  have hk₁ := x.toInCall.keep
  obtain ⟨cells, NC, Y⟩ := Cl.news (h₀ := s.heap) (Nat.le_refl _) fun n c hm => ⟨x.cell n c (lookup_of_mem_nodup (cellsFrom_names scope.names 0 (s.heap.objs.size + 1) [] [] rfl ▸ hnd) hm), x.above n c hm⟩
  exact h s.heap.objs.size h₁ tk cells ⟨x.toInCall.ns, fun b o e => hk₁ b o e, Nat.le_refl _⟩ NC Y


theorem enterR {vs : List Value} {g₁ : Addr → Option (List (Str × Value))} {binds : Addr → List (Str × Value)} (X : K.In s.heap) (T : Top p loose mean mg mb s.heap)
    (ho : K.lookup f = some ⟨oc, od, .func (fnOf name qual params body scope dV kV doc pm an cdv ct), osl⟩) (hcd : codeIn K cdv qual = true) (hroom : A.depth < recursionLimit)
    (hp : peek1 K ⟨prog, w.params⟩ (bindArgs (fnOf name qual params body scope dV kV doc pm an cdv ct) args) = some (({ cls := .type "tuple", data := .seq vs.toArray } : Obj), g₁))
    (hgb : ∀ D, g₁ D = some (binds D)) (hloc : ∀ D, ∀ y ∈ binds D, scope.names.lookup y.1 = some .local)
    (h : ∀ D L' h₁, D < L' → Fr s.heap L' h₁ (fun y => (binds D).reverse.lookup y) → News s.heap L' h₁ [(D, ({ cls := .type "tuple", data := .seq vs.toArray } : Obj))] →
      wpAny (model prog w) (A.deeper (envOf qual scope L' f cdv)) (execs body (envOf qual scope L' f cdv))
        (fun fl s' => R (.ok (.ret (match fl with | .ret v => v | _ => .none))) s')
        (fun e s' => wpAny (model prog w) (A.deeper (envOf qual scope L' f cdv)) (leaving (envOf qual scope L' f cdv) e) (fun _ s'' => R (.error e) s'') (fun e' s'' => R (.error e') s'') s')
        { s with heap := h₁, toks := s.toks + (binds D).length })
    (hco : scope.isCoroutine = false) (hgen : scope.isGenerator = false) (hk : scope.kind = .function)
    (hcell : ∀ x ∈ scope.names, x.2 ≠ .cell) : codeAny (model prog w) A (.call (.ref f) args) R s := by
  refine codeAny_call_function (fd := fnOf name qual params body scope dV kV doc pm an cdv ct) (body := body) hroom (X _ _ ho) rfl hco hgen rfl (codeRec_of X hcd) ?_
  have key : ∀ (t : Sem (List (Str × Value))) (g₁ : Addr → Option (List (Str × Value))) (M : Model) (A' : Around) (Q : List (Str × Value) → Shared → Prop) (E : Value → Shared → Prop),
      peek1 K ⟨M.prog, M.w.params⟩ t = some (({ cls := .type "tuple", data := .seq vs.toArray } : Obj), g₁) → (∀ D, g₁ D = some (binds D)) →
      Q (binds s.heap.objs.size) { s with heap := s.heap.push { cls := .type "tuple", data := .seq vs.toArray } } → wpAny M A' t Q E s := by
    intro t
    induction t with
    | rule _ k ih => intro g M A' Q E e hg q Γ p hΓ; exact ih () g M A' Q E e hg q Γ p hΓ
    | point _ k ih => intro g M A' Q E e hg q Γ p hΓ; exact ih () g M A' Q E e hg q Γ p hΓ
    | ask k ih => intro g M A' Q E e hg q Γ p hΓ; exact ih _ g M A' Q E e hg q Γ p hΓ
    | load a _ k ih =>
      intro g M A' Q E e hg q Γ p hΓ
      simp only [peek1] at e
      split at e
      · rename_i ob ho; exact ⟨ob, X _ _ ho, ih ob g M A' Q E e hg q Γ p hΓ⟩
      · cases e
    | alloc ob k _ =>
      intro g M A' Q E e hg q
      have e : some (ob, fun D => peek K ⟨M.prog, M.w.params⟩ (k D)) = some (_, g) := e
      obtain ⟨e1, e2⟩ := Prod.mk.inj (Option.some.inj e)
      subst e1
      subst e2
      have X' : K.In (s.heap.push { cls := .type "tuple", data := .seq vs.toArray }) := X.keeps fun b x hb => Heap.get?_push_of_some _ hb
      show wpAny M A' (alloc _ >>= k) Q E s
      refine wpAny_bind (wpAny_alloc ?_)
      exact (Looks.of_peek (M := M) X' (hg s.heap.objs.size)).here (s := { s with heap := s.heap.push { cls := .type "tuple", data := .seq vs.toArray } }) q
    | _ => intro g M A' Q E e; cases e
  refine key _ g₁ _ _ _ _ hp hgb ?_
  refine wpAny_newFunctionEnv hcell (hloc _) (fun h₁ hns hsb => ⟨((T.nolimit.keeps fun b o e => Heap.get?_push_of_some _ e)).fresh _ hsb, codeAny_func ?_⟩) hk
  have hk₁ : ∀ b o, (s.heap.push { cls := .type "tuple", data := .seq vs.toArray }).get? b = some o → h₁.get? b = some o := fun b o e => hsb.extBut b o (Nat.ne_of_lt (Heap.lt_size e)) (Heap.get?_push_of_some _ e)
  have hsz : (s.heap.push { cls := .type "tuple", data := .seq vs.toArray }).objs.size = s.heap.objs.size + 1 := Heap.size_push _ _
  refine h s.heap.objs.size _ h₁ ?_ ⟨hns, fun b o e => hk₁ b o (Heap.get?_push_of_some _ e), ?_⟩ ?_
  · show s.heap.objs.size < (s.heap.push _).objs.size
    rw [hsz]; exact Nat.lt_succ_self _
  · show s.heap.objs.size ≤ (s.heap.push _).objs.size
    rw [hsz]; exact Nat.le_succ _
  · intro p hp
    rw [List.mem_singleton] at hp
    subst hp
    refine ⟨hk₁ _ _ (Heap.get?_push_size _ rfl), ?_, ?_⟩
    · show s.heap.objs.size ≠ (s.heap.push _).objs.size
      rw [hsz]; exact Nat.ne_of_lt (Nat.lt_succ_self _)
    · cases q : s.heap.get? s.heap.objs.size with
      | none => rfl
      | some o => exact absurd (Heap.lt_size q) (Nat.lt_irrefl _)
end
structure Rdy (w : World) (h : Heap) : Prop where
  K : (hd.heap_39 w.params).In h
  T : ∃ mean mg mb, Top Mine.view (looseW Mine.view lo) mean mg mb h
theorem Rdy.grows {w : World} {h h' : Heap} (R : Rdy w h) (g : Grows h h') : Rdy w h' := ⟨R.K.keeps g, let ⟨a, b, c, T⟩ := R.T; ⟨a, b, c, T.keeps g⟩⟩
theorem Rdy.fr {w : World} {h₀ h : Heap} {L : Addr} {m : Str → Option Value} (R : Rdy w h₀) (F : Fr h₀ L h m) : Rdy w h := R.grows F.keep

-- what a run by x_run ends in
noncomputable def XEnds (s : Shared) (v₀ : Value) (v : Value) (s' : Shared) : Prop := v = v₀ ∧ ∃ h' tk, s' = { s with heap := h', toks := tk } ∧ Grows s.heap h'
theorem XEnds.intro {s : Shared} {v : Value} {h' : Heap} {tk : Nat} {news : List (Addr × Obj)} (D : Mem s.heap h' [] news) : XEnds s v v ⟨h', s.gens, s.drawn, tk, s.os⟩ :=
  ⟨rfl, h', tk, rfl, fun b o e => D.keep b o e (by simp [away])⟩
theorem XEnds.intro0 {s : Shared} {v : Value} {tk : Nat} : XEnds s v v ⟨s.heap, s.gens, s.drawn, tk, s.os⟩ :=
  ⟨rfl, s.heap, tk, rfl, fun b o e => e⟩
theorem useX {prog : Program} {w : World} {A : Around} {d u : Nat} {s : Shared} {h₀ : Heap} {L : Addr} {m : Str → Option Value} {news : List (Addr × Obj)} {t : Sem Value} {v : Value} {Q E : Value → Shared → Prop}
    (C : wpAny (model prog w) (Ac d u) t (XEnds s v) (fun _ _ => False) s) (F : Fr h₀ L s.heap m) (N : News h₀ L s.heap news) (hh : A.handled = none) (hd : A.depth ≤ d) (hu : A.units ≤ u)
    (k : ∀ h' tk, Grows s.heap h' → Fr h₀ L h' m → News h₀ L h' news → Q v { s with heap := h', toks := tk }) : wpAny (model prog w) A t Q E s := by
  refine wpAny_mono (weakenW C hh hd hu) ?_ (fun _ _ h => h.elim)
  rintro v' s' ⟨rfl, h', tk, rfl, g⟩
  exact k h' tk g (Fr.keeps F g) (News.grown N g)


noncomputable def StrList (s : Shared) (ys : List Str) (v : Value) (h' : Heap) : Prop :=
  ∃ D vs n, v = .ref D ∧ s.heap.get? D = none ∧ h'.get? D = some (W.listOf vs n) ∧ StrsAre vs.toList ys
theorem strsAre_of_carried : ∀ {vs : List Value} {ys : List Str}, CarriedAll vs (ys.map PyData.str) → StrsAre vs ys
  | _, [], h => by cases h; exact .nil
  | _, y :: ys, h => by
    cases h with
    | cons h1 h2 => cases h1; exact .cons _ _ (strsAre_of_carried h2)
theorem givesI {s : Shared} {P : Value → Heap → Prop} {L : Addr} {m : Str → Option Value} {v : Value} {h' : Heap} {tk : Nat} (F : Fr s.heap L h' m) (p : P v h') : Gives s P (.ok (.ret v)) { s with heap := h', toks := tk } :=
  ⟨v, h', tk, rfl, rfl, F.keep, p⟩
theorem genQE {M : Model} {A : Around} {t : Sem Flow} {R : Result → Shared → Prop} {E : Value → Shared → Prop} {s₁ : Shared}
    (h : ∀ Q' : Flow → Shared → Prop, (∀ v s', R (.ok (.ret v)) s' → Q' (.ret v) s') → wpAny M A t Q' (fun _ _ => False) s₁) :
    wpAny M A t (fun fl s' => R (.ok (.ret (match fl with | .ret v => v | _ => .none))) s') E s₁ :=
  wpAny_mono (h (fun fl s' => R (.ok (.ret (match fl with | .ret v => v | _ => .none))) s') fun _ _ x => x) (fun _ _ x => x) fun _ _ x => x.elim
end Mine
namespace Mine
open PySem.Spec PySem.Calls PySem.W.X
theorem fill1 : ∀ (w : World) (h : Heap), (hd.heap_39 w.params).In h → Challenge.rw_pd0082_01.row.prog = Challenge.rw_pd0082_01.row.prog := by
  k_fill
  intros
  rfl
section
local macro_rules | `(tactic| x_close) => `(tactic| first | exact XEnds.intro (by assumption) | exact XEnds.intro0)
theorem issub_str {prog : Program} {w : World} {s : Shared} {t : Addr} {E : Value → Shared → Prop} (ht : s.heap.get? t = some ⟨.type "tuple", none, .seq #[.type "str", .type "bytes"] 0, #[]⟩) :
   wpAny (model prog w) (Ac 980 9800) (call (.builtin "issubclass") [.type "str", .ref t]) (XEnds s (.bool true)) E s := by
  x_run
end

section
theorem fspath_spec (w : World) (s : Shared) (p : Str) (t : Tok) (R : Rdy w s.heap) :
    codeAny (model Challenge.rw_pd0082_01.row.prog w) (Ac 950 9500) (.call (.ref 121) ⟨[.str p t], []⟩) (Gives s (fun v _ => v = .str p t)) s := by
  w_top off
  obtain ⟨X, mean, mg, mb, T⟩ := R
  (refine' enterG (g := _) (led := []) (fun _ _ e => e) (Nat.le_refl _) (fun _ h => (nomatch h)) ?k1 ?k2 ?k6 ?k7 ?k8 ?k9 ?kB ?_ ?c2 ?c3 ?c4 ?c5; (case k1 => assumption); (case k2 => assumption); (case k6 => k_is); (case k7 => k_is); (case k8 => decide); (case k9 => first | exact BindsTo.of_eq rfl | (refine' kp_binds ?kx ?ke; (case kx => assumption); (case ke => exact fun _ => rfl))); (case kB => exact locs rfl); (case c2 => exact rfl); (case c3 => exact rfl); (case c4 => exact rfl); (case c5 => decide))
  intro L h₁ F N
  refine genQE ?_
  intro Q' hQ'
  dsimp only
  repeat' (first | (k_unfold; (try dsimp only)) | ((with_reducible show wpAny _ _ (call (Value.builtin "issubclass") _ _) _ _ _); first | with_reducible (((with_reducible show wpAny _ _ (call (Value.builtin "issubclass") [Value.type "str", Value.ref _]) _ _ _); (rename Fr _ _ _ _ => lF'); (rename News _ _ _ _ => lN'); (refine useX (issub_str (News.get lN' (by k_mem))) lF' lN' (by rfl) (by exact Nat.le_of_ble_eq_true rfl) (by exact Nat.le_of_ble_eq_true rfl) ?_); intro h' tk' g' F' N')) | (((with_reducible show wpAny _ _ (call (Value.builtin "issubclass") [Value.type "str", Value.ref _]) _ _ _); (rename Fr _ _ _ _ => lF'); (rename News _ _ _ _ => lN'); (refine useX (issub_str (News.get lN' (by k_mem))) lF' lN' (by rfl) (by exact Nat.le_of_ble_eq_true rfl) (by exact Nat.le_of_ble_eq_true rfl) ?_); intro h' tk' g' F' N'))) | walk1 | (dsimp only; first | ((with_reducible show wpAny _ _ (call (Value.builtin "issubclass") _ _) _ _ _); first | with_reducible (((with_reducible show wpAny _ _ (call (Value.builtin "issubclass") [Value.type "str", Value.ref _]) _ _ _); (rename Fr _ _ _ _ => lF'); (rename News _ _ _ _ => lN'); (refine useX (issub_str (News.get lN' (by k_mem))) lF' lN' (by rfl) (by exact Nat.le_of_ble_eq_true rfl) (by exact Nat.le_of_ble_eq_true rfl) ?_); intro h' tk' g' F' N')) | (((with_reducible show wpAny _ _ (call (Value.builtin "issubclass") [Value.type "str", Value.ref _]) _ _ _); (rename Fr _ _ _ _ => lF'); (rename News _ _ _ _ => lN'); (refine useX (issub_str (News.get lN' (by k_mem))) lF' lN' (by rfl) (by exact Nat.le_of_ble_eq_true rfl) (by exact Nat.le_of_ble_eq_true rfl) ?_); intro h' tk' g' F' N'))) | walk1) | (leave1; walk_say "STEP leave1"; try dsimp only) | fail "no step")
  ((try dsimp only); exact hQ' _ _ (givesI (by assumption) rfl))
end
theorem getsep_spec (w : World) (s : Shared) (p : Str) (t : Tok) (R : Rdy w s.heap) :
    codeAny (model Challenge.rw_pd0082_01.row.prog w) (Ac 950 9500) (.call (.ref 135) ⟨[.str p t], []⟩) (Gives s (fun v _ => ∃ u, v = .str (Str.ofString "/") u)) s := by
  w_top off
  obtain ⟨X, mean, mg, mb, T⟩ := R
  (refine' enterG (g := _) (led := []) (fun _ _ e => e) (Nat.le_refl _) (fun _ h => (nomatch h)) ?k1 ?k2 ?k6 ?k7 ?k8 ?k9 ?kB ?_ ?c2 ?c3 ?c4 ?c5; (case k1 => assumption); (case k2 => assumption); (case k6 => k_is); (case k7 => k_is); (case k8 => decide); (case k9 => first | exact BindsTo.of_eq rfl | (refine' kp_binds ?kx ?ke; (case kx => assumption); (case ke => exact fun _ => rfl))); (case kB => exact locs rfl); (case c2 => exact rfl); (case c3 => exact rfl); (case c4 => exact rfl); (case c5 => decide))
  intro L h₁ F N
  refine genQE ?_
  intro Q' hQ'
  dsimp only
  repeat' (first | (k_unfold; (try dsimp only)) | ((with_reducible show wpAny _ _ (call (Value.builtin "issubclass") _ _) _ _ _); first | with_reducible (((with_reducible show wpAny _ _ (call (Value.builtin "issubclass") [Value.type "str", Value.ref _]) _ _ _); (rename Fr _ _ _ _ => lF'); (rename News _ _ _ _ => lN'); (refine useX (issub_str (News.get lN' (by k_mem))) lF' lN' (by rfl) (by exact Nat.le_of_ble_eq_true rfl) (by exact Nat.le_of_ble_eq_true rfl) ?_); intro h' tk' g' F' N')) | (((with_reducible show wpAny _ _ (call (Value.builtin "issubclass") [Value.type "str", Value.ref _]) _ _ _); (rename Fr _ _ _ _ => lF'); (rename News _ _ _ _ => lN'); (refine useX (issub_str (News.get lN' (by k_mem))) lF' lN' (by rfl) (by exact Nat.le_of_ble_eq_true rfl) (by exact Nat.le_of_ble_eq_true rfl) ?_); intro h' tk' g' F' N'))) | walk1 | (dsimp only; first | ((with_reducible show wpAny _ _ (call (Value.builtin "issubclass") _ _) _ _ _); first | with_reducible (((with_reducible show wpAny _ _ (call (Value.builtin "issubclass") [Value.type "str", Value.ref _]) _ _ _); (rename Fr _ _ _ _ => lF'); (rename News _ _ _ _ => lN'); (refine useX (issub_str (News.get lN' (by k_mem))) lF' lN' (by rfl) (by exact Nat.le_of_ble_eq_true rfl) (by exact Nat.le_of_ble_eq_true rfl) ?_); intro h' tk' g' F' N')) | (((with_reducible show wpAny _ _ (call (Value.builtin "issubclass") [Value.type "str", Value.ref _]) _ _ _); (rename Fr _ _ _ _ => lF'); (rename News _ _ _ _ => lN'); (refine useX (issub_str (News.get lN' (by k_mem))) lF' lN' (by rfl) (by exact Nat.le_of_ble_eq_true rfl) (by exact Nat.le_of_ble_eq_true rfl) ?_); intro h' tk' g' F' N'))) | walk1) | (leave1; walk_say "STEP leave1"; try dsimp only) | fail "no step")
  ((try dsimp only); exact hQ' _ _ (givesI (by assumption) ⟨_, rfl⟩))
noncomputable def keyF (p : Str) : List Str := (Txt.split p (Str.ofString "/")).filter (fun a => a != Str.ofString "")
theorem key_end {s : Shared} {L D : Addr} {m : Str → Option Value} {h' : Heap} {tk : Nat} {ys : List Value} {l : List (Str × Tok)} {news : List (Addr × Obj)} {p : Str} (F : Fr s.heap L h' m) (hD : s.heap.get? D = none) (hn : NewPlain h' news D ys.toArray)
    (hc : CarriedAll ys (List.map PyData.str (List.filter (fun a => a != Str.ofString "") (List.map (fun x => x.fst) l)))) (e : l.map (·.1) = Txt.split p (Str.ofString "/")) :
    Gives s (StrList s (keyF p)) (.ok (.ret (.ref D))) { s with heap := h', toks := tk } := by
  obtain ⟨⟨n, hn⟩, _⟩ := hn
  exact givesI F ⟨D, ys.toArray, n, rfl, hD, hn, by rw [keyF, ← e]; simpa using strsAre_of_carried hc⟩
theorem key_spec (w : World) (s : Shared) (p : Str) (t : Tok) (R : Rdy w s.heap) (hp : p.length ≤ 1000) :
    codeAny (model Challenge.rw_pd0082_01.row.prog w) (Ac 900 9000) (.call (.ref 178) ⟨[.str p t], []⟩) (Gives s (StrList s (keyF p))) s := by
  w_top off
  obtain ⟨X, mean, mg, mb, T⟩ := R
  (refine' enterG (g := _) (led := []) (fun _ _ e => e) (Nat.le_refl _) (fun _ h => (nomatch h)) ?k1 ?k2 ?k6 ?k7 ?k8 ?k9 ?kB ?_ ?c2 ?c3 ?c4 ?c5; (case k1 => assumption); (case k2 => assumption); (case k6 => k_is); (case k7 => k_is); (case k8 => decide); (case k9 => first | exact BindsTo.of_eq rfl | (refine' kp_binds ?kx ?ke; (case kx => assumption); (case ke => exact fun _ => rfl))); (case kB => exact locs rfl); (case c2 => exact rfl); (case c3 => exact rfl); (case c4 => exact rfl); (case c5 => decide))
  intro L h₁ F N
  refine genQE ?_
  intro Q' hQ'
  dsimp only
  repeat' (first | (k_unfold; (try dsimp only)) | ((with_reducible show wpAny _ _ (call (Value.builtin "issubclass") _ _) _ _ _); first | with_reducible (((with_reducible show wpAny _ _ (call (Value.builtin "issubclass") [Value.type "str", Value.ref _]) _ _ _); (rename Fr _ _ _ _ => lF'); (rename News _ _ _ _ => lN'); (refine useX (issub_str (News.get lN' (by k_mem))) lF' lN' (by rfl) (by exact Nat.le_of_ble_eq_true rfl) (by exact Nat.le_of_ble_eq_true rfl) ?_); intro h' tk' g' F' N')) | (((with_reducible show wpAny _ _ (call (Value.builtin "issubclass") [Value.type "str", Value.ref _]) _ _ _); (rename Fr _ _ _ _ => lF'); (rename News _ _ _ _ => lN'); (refine useX (issub_str (News.get lN' (by k_mem))) lF' lN' (by rfl) (by exact Nat.le_of_ble_eq_true rfl) (by exact Nat.le_of_ble_eq_true rfl) ?_); intro h' tk' g' F' N'))) | walk1 | (dsimp only; first | ((with_reducible show wpAny _ _ (call (Value.builtin "issubclass") _ _) _ _ _); first | with_reducible (((with_reducible show wpAny _ _ (call (Value.builtin "issubclass") [Value.type "str", Value.ref _]) _ _ _); (rename Fr _ _ _ _ => lF'); (rename News _ _ _ _ => lN'); (refine useX (issub_str (News.get lN' (by k_mem))) lF' lN' (by rfl) (by exact Nat.le_of_ble_eq_true rfl) (by exact Nat.le_of_ble_eq_true rfl) ?_); intro h' tk' g' F' N')) | (((with_reducible show wpAny _ _ (call (Value.builtin "issubclass") [Value.type "str", Value.ref _]) _ _ _); (rename Fr _ _ _ _ => lF'); (rename News _ _ _ _ => lN'); (refine useX (issub_str (News.get lN' (by k_mem))) lF' lN' (by rfl) (by exact Nat.le_of_ble_eq_true rfl) (by exact Nat.le_of_ble_eq_true rfl) ?_); intro h' tk' g' F' N'))) | walk1) | (leave1; walk_say "STEP leave1"; try dsimp only) | fail "no step")
  ((try dsimp only); exact hQ' _ _ (key_end (by assumption) (by assumption) (by assumption) (by assumption) (by assumption)))
end Mine
namespace Mine
open PySem.Spec PySem.Calls PySem.W.X
section
variable {w : World} {A : Around} {s : Shared} {h₀ : Heap} {L : Addr} {m : Str → Option Value} {news : List (Addr × Obj)} {Q E : Value → Shared → Prop} {p q : Str} {t u : Tok}
theorem use_fspath (R : Rdy w h₀) (F : Fr h₀ L s.heap m) (N : News h₀ L s.heap news) (hh : A.handled = none) (hd : A.depth ≤ 950) (hu : A.units ≤ 9500)
    (k : ∀ h' tk, Fr h₀ L h' m → News h₀ L h' news → Q (.str p t) { s with heap := h', toks := tk }) : wpAny (model Challenge.rw_pd0082_01.row.prog w) A (call (.ref 121) [.str p t]) Q E s :=
  use (fspath_spec w s p t (R.fr F)) F N hh hd hu (fun v h' tk e _ F' N' => by subst e; exact k h' tk F' N')
theorem use_getsep (R : Rdy w h₀) (F : Fr h₀ L s.heap m) (N : News h₀ L s.heap news) (hh : A.handled = none) (hd : A.depth ≤ 950) (hu : A.units ≤ 9500)
    (k : ∀ u h' tk, Fr h₀ L h' m → News h₀ L h' news → Q (.str (Str.ofString "/") u) { s with heap := h', toks := tk }) : wpAny (model Challenge.rw_pd0082_01.row.prog w) A (call (.ref 135) [.str p t]) Q E s :=
  use (getsep_spec w s p t (R.fr F)) F N hh hd hu (fun v h' tk e _ F' N' => by obtain ⟨u, rfl⟩ := e; exact k u h' tk F' N')
end
end Mine
namespace Mine
open PySem.Spec PySem.Calls PySem.W.X
noncomputable def TurnEnd (h₀ : Heap) (L : Addr) (Jn : (Str → Option Value) → List (Addr × Obj) → Prop) (It : Addr) (oI : Obj) (s : Shared) (s₂ : Shared) : Prop :=
  ∃ h' tk' m₂ news₂, s₂ = { s with heap := h', toks := tk' } ∧ Fr h₀ L h' m₂ ∧ News h₀ L h' ((It, oI) :: news₂) ∧ (∀ p ∈ news₂, p.1 ≠ It) ∧ Jn m₂ news₂
noncomputable def TurnPost (h₀ : Heap) (L : Addr) (Jn : (Str → Option Value) → List (Addr × Obj) → Prop) (It : Addr) (oI : Obj) (s : Shared) (Q : Flow → Shared → Prop) (f : Flow) (s₂ : Shared) : Prop :=
  match f with
  | .ret v => Q (.ret v) s₂
  | .brk => Q .next s₂
  | _ => TurnEnd h₀ L Jn It oI s s₂
theorem iter_led {prog : Program} {w : World} {A : Around} {E : Value → Shared → Prop} {s : Shared} {env : Env} {h₀ : Heap} {x : Str} {body : List Stmt} {Q : Flow → Shared → Prop}
    {l : Addr} {vs : List Value} {ol : Obj} {m₀ : Str → Option Value} {news : List (Addr × Obj)} (J : Nat → (Str → Option Value) → List (Addr × Obj) → Prop)
    (hh : A.handled = none) (hc : ol.cls = .type "list") (hd : ∃ n, ol.data = .seq vs.toArray n) (hJl : ∀ i m news, J i m news → (l, ol) ∈ news)
    (F : Fr h₀ env.locals s.heap m₀) (N : News h₀ env.locals s.heap news) (hj : J 0 m₀ news)
    (turn : ∀ i v m₁ news₁ h tk It oI, vs[i]? = some v → J i m₁ news₁ → (∀ p ∈ news₁, p.1 ≠ It) → Fr h₀ env.locals h (fun y => if y = x then some v else m₁ y) → News h₀ env.locals h ((It, oI) :: news₁) →
      wpAny (model prog w) A (execs body env) (TurnPost h₀ env.locals (J (i + 1)) It oI s Q) E { s with heap := h, toks := tk })
    (done : ∀ m₁ news₁ h tk, J vs.length m₁ news₁ → Fr h₀ env.locals h m₁ → News h₀ env.locals h news₁ → Q .next { s with heap := h, toks := tk }) :
    wpAny (model prog w) A (pyIter (.ref l)) (fun it s₂ => LoopAtV prog w A h₀ env x body Q E it s₂) E s := by
  have hln := N _ (hJl 0 _ _ hj)
  have hls : s.heap.IsList l vs.toArray := ⟨ol, hln.1, hc, hd⟩
  have hlt : l < s.heap.objs.size := Heap.lt_size hln.1
  have hne : l ≠ s.heap.objs.size := Nat.ne_of_lt hlt
  refine wpAny_pyIter_list hls ?_
  have W := Walks.list (prog := prog) (w := w) hh s.heap.objs.size l hne vs.toArray
  have hlen : vs.toArray.size = vs.length := by simp
  rw [hlen] at W
  refine ⟨_, _, _, vs.length, _, _, m₀, news, J, rfl, W, ?_, ?_, ?_, ⟨⟨_, Heap.get?_push_size _ rfl, rfl, rfl⟩, hls.at fun o e => Heap.get?_push_of_some _ e⟩, F.push _, (fun p hp => ⟨Heap.get?_push_of_some _ (N p hp).1, (N p hp).2⟩), hj, ?_, ?_⟩
  · intro hm
    rcases List.mem_cons.mp hm with e | hm
    · exact absurd F.ns.lt (e ▸ Nat.lt_irrefl _)
    · exact hln.2.1 (List.mem_singleton.mp hm).symm
  · intro b hb
    rw [List.mem_singleton.mp hb]
    exact next_is_new F
  · intro p hp hI
    exact absurd (Heap.lt_size (N p hp).1) ((List.mem_singleton.mp hI) ▸ Nat.lt_irrefl _)
  · rintro i v m₁ news₁ s₁ own ⟨hh', tk', rfl⟩ hin hP hJ hoff hown halive hall hSt F₁ N₁
    have hv : vs[i]? = some v := by simpa using hP
    have hItn : h₀.get? s.heap.objs.size = none := next_is_new F
    obtain ⟨⟨oI, hoI, _⟩, _⟩ := hSt
    have hoI' : hh'.get? s.heap.objs.size = some oI := hoI
    have hmI := hall s.heap.objs.size (.head _) hItn oI hoI'
    have hoff' : ∀ p ∈ news₁, p.1 ≠ s.heap.objs.size := fun p hp e => hoff p hp (List.mem_singleton.mpr e)
    have hml := hJl i m₁ news₁ hJ
    have N₂ : News h₀ env.locals hh' ((s.heap.objs.size, oI) :: news₁) := fun p hp => by
      rcases List.mem_cons.mp hp with rfl | hp
      · exact N₁ _ (List.mem_append_left _ hmI)
      · exact N₁ _ (List.mem_append_right _ hp)
    refine wpAny_mono (turn i v m₁ news₁ hh' tk' s.heap.objs.size oI hv hJ hoff' F₁ N₂) (fun f s₂ p => ?_) fun _ _ e => e
    have fin : TurnEnd h₀ env.locals (J (i + 1)) s.heap.objs.size oI s s₂ → LoopStepU h₀ env.locals [s.heap.objs.size] own (J (i + 1)) { s with heap := hh', toks := tk' } .next s₂ := by
      rintro ⟨h', tk, m', news', e, F', N', hn, hm⟩
      refine ⟨rfl, h', tk, m', news', e, F', fun p hp => ?_, fun p hp hq => hn p hp (List.mem_singleton.mp hq), hm⟩
      rcases List.mem_append.mp hp with hp | hp
      · have halp : hh'.get? p.1 = some p.2 := halive p hp
        rcases List.mem_cons.mp (hown p hp) with e1 | e1
        · have : p = (s.heap.objs.size, oI) := by
            obtain ⟨a, o⟩ := p
            have e1 : a = s.heap.objs.size := e1
            subst e1
            have : some oI = some o := hoI'.symm.trans halp
            cases this; rfl
          rw [this]; exact N' _ (.head _)
        · have : p = (l, ol) := by
            obtain ⟨a, o⟩ := p
            have e1 : a = l := List.mem_singleton.mp e1
            subst e1
            have h1 := (N₁ _ (List.mem_append_right _ hml)).1
            have : some ol = some o := h1.symm.trans halp
            cases this; rfl
          rw [this]; exact N' _ (List.mem_cons_of_mem _ (hJl _ _ _ hm))
      · exact N' _ (List.mem_cons_of_mem _ hp)
    cases f with
    | ret v => exact .ret p
    | brk => exact .brk p
    | next => exact .next (fin p)
    | cont => exact .cont (fin p)
  · rintro h' tk m' news' F' N' _ hJ
    exact done m' news' h' tk hJ F' N'
theorem iter_ledx {prog : Program} {w : World} {A : Around} {E : Value → Shared → Prop} {s : Shared} {env : Env} {h₀ : Heap} {x : Str} {body : List Stmt} {Q : Flow → Shared → Prop}
    {l : Addr} {vs : List Value} {ol : Obj} {m₀ : Str → Option Value} {news : List (Addr × Obj)} (J : Nat → List (Addr × Obj) → Prop)
    (hh : A.handled = none) (hc : ol.cls = .type "list") (hd : ∃ n, ol.data = .seq vs.toArray n) (hJl : ∀ i news, J i news → (l, ol) ∈ news)
    (F : Fr h₀ env.locals s.heap m₀) (N : News h₀ env.locals s.heap news) (hj : J 0 news)
    (turn : ∀ i v news₁ h tk It oI, vs[i]? = some v → J i news₁ → (∀ p ∈ news₁, p.1 ≠ It) → Fr h₀ env.locals h (fun y => if y = x then some v else m₀ y) → News h₀ env.locals h ((It, oI) :: news₁) →
      wpAny (model prog w) A (execs body env) (TurnPost h₀ env.locals (fun m₂ news₂ => (∀ z, z ≠ x → m₂ z = m₀ z) ∧ J (i + 1) news₂) It oI s Q) E { s with heap := h, toks := tk })
    (done : ∀ (u : Str → Option Value) news₁ h tk, J vs.length news₁ → Fr h₀ env.locals h (fun z => if z = x then u z else m₀ z) → News h₀ env.locals h news₁ → Q .next { s with heap := h, toks := tk }) :
    wpAny (model prog w) A (pyIter (.ref l)) (fun it s₂ => LoopAtV prog w A h₀ env x body Q E it s₂) E s := by
  refine iter_led (fun i m news => (∀ z, z ≠ x → m z = m₀ z) ∧ J i news) hh hc hd (fun i m news h => hJl i news h.2) F N ⟨fun _ _ => rfl, hj⟩ ?_ ?_
  · rintro i v m₁ news₁ h tk It oI hv ⟨hm, hJ⟩ hoff F₁ N₁
    have e : (fun z => if z = x then some v else m₁ z) = fun z => if z = x then some v else m₀ z := by
      funext z
      by_cases h1 : z = x
      · simp [h1]
      · simp only [if_neg h1]; exact hm z h1
    rw [e] at F₁
    exact turn i v news₁ h tk It oI hv hJ hoff F₁ N₁
  · rintro m₁ news₁ h tk ⟨hm, hJ⟩ F₁ N₁
    refine done m₁ news₁ h tk hJ ?_ N₁
    have e : (fun z => if z = x then m₁ z else m₀ z) = m₁ := by
      funext z
      by_cases h1 : z = x
      · simp [h1]
      · simp only [if_neg h1]; exact (hm z h1).symm
    rw [e]; exact F₁
theorem turn_end {h₀ h' : Heap} {L It : Addr} {x : Str} {oI : Obj} {s : Shared} {tk : Nat} {m₀ m₂ : Str → Option Value} {J : List (Addr × Obj) → Prop} {led news₂ : List (Addr × Obj)}
    (F : Fr h₀ L h' m₂) (N : News h₀ L h' led) (hm : ∀ z, z ≠ x → m₂ z = m₀ z) (hs : ∀ p ∈ (It, oI) :: news₂, p ∈ led) (hn : ∀ p ∈ news₂, p.1 ≠ It) (hJ : J news₂) :
    TurnEnd h₀ L (fun m₂ news₂ => (∀ z, z ≠ x → m₂ z = m₀ z) ∧ J news₂) It oI s { s with heap := h', toks := tk } :=
  ⟨h', tk, m₂, news₂, rfl, F, fun p hp => N p (hs p hp), hn, hm, hJ⟩
theorem strValues_at {l : List (Str × Tok)} {i : Nat} {v : Value} (h : (strValues l)[i]? = some v) : ∃ c t, v = .str c t ∧ (l.map (·.1))[i]? = some c := by
  unfold strValues at h
  rw [List.getElem?_map] at h
  cases e : l[i]? with
  | none => rw [e] at h; cases h
  | some p =>
    rw [e] at h
    cases h
    exact ⟨p.1, p.2, rfl, by rw [List.getElem?_map, e]; rfl⟩
theorem strsAre_push {vs : Array Value} {ys : List Str} {c : Str} {t : Tok} (h : StrsAre vs.toList ys) : StrsAre (vs.push (.str c t)).toList (ys ++ [c]) := by
  have key : ∀ {vs : List Value} {ys : List Str}, StrsAre vs ys → StrsAre (vs ++ [.str c t]) (ys ++ [c]) := by
    intro vs ys h
    induction h with
    | nil => exact .cons _ _ .nil
    | cons y t _ ih => exact .cons _ _ ih
  simpa using key h
noncomputable def AccEnd (h₀ : Heap) (L : Addr) (x : Str) (m₀ : Str → Option Value) (own : List (Addr × Obj)) (l' : Addr) (P : Array Value → Prop) (s s₂ : Shared) : Prop :=
  ∃ h' tk' m₂ led ys n, s₂ = { s with heap := h', toks := tk' } ∧ Fr h₀ L h' m₂ ∧ News h₀ L h' led ∧ (l', W.listOf ys n) ∈ led ∧ (∀ p ∈ own, p ∈ led) ∧ (∀ z, z ≠ x → m₂ z = m₀ z) ∧ P ys
noncomputable def AccPost (h₀ : Heap) (L : Addr) (x : Str) (m₀ : Str → Option Value) (own : List (Addr × Obj)) (l' : Addr) (P : Array Value → Prop) (s : Shared) (Q : Flow → Shared → Prop) (f : Flow) (s₂ : Shared) : Prop :=
  match f with
  | .ret v => Q (.ret v) s₂
  | .brk => Q .next s₂
  | _ => AccEnd h₀ L x m₀ own l' P s s₂
theorem iter_acc {prog : Program} {w : World} {A : Around} {E : Value → Shared → Prop} {s : Shared} {env : Env} {h₀ : Heap} {x : Str} {body : List Stmt} {Q : Flow → Shared → Prop}
    {l l' : Addr} {vs : List Value} {ol : Obj} {ys₀ : Array Value} {n₀ : Nat} {m₀ : Str → Option Value} {rest : List (Addr × Obj)} (P : Nat → Array Value → Prop)
    (hh : A.handled = none) (hc : ol.cls = .type "list") (hd : ∃ n, ol.data = .seq vs.toArray n) (hl : (l, ol) ∈ rest) (hoff : ∀ p ∈ rest, p.1 ≠ l')
    (F : Fr h₀ env.locals s.heap m₀) (N : News h₀ env.locals s.heap ((l', W.listOf ys₀ n₀) :: rest)) (hj : P 0 ys₀)
    (turn : ∀ i v ys n own h tk, vs[i]? = some v → P i ys → OwnOff own [l'] → Fr h₀ env.locals h (fun y => if y = x then some v else m₀ y) → News h₀ env.locals h ((l', W.listOf ys n) :: own) →
      wpAny (model prog w) A (execs body env) (AccPost h₀ env.locals x m₀ own l' (P (i + 1)) s Q) E { s with heap := h, toks := tk })
    (done : ∀ (u : Str → Option Value) ys n h tk, P vs.length ys → Fr h₀ env.locals h (fun z => if z = x then u z else m₀ z) → News h₀ env.locals h ((l', W.listOf ys n) :: rest) → Q .next { s with heap := h, toks := tk }) :
    wpAny (model prog w) A (pyIter (.ref l)) (fun it s₂ => LoopAtV prog w A h₀ env x body Q E it s₂) E s := by
  refine iter_ledx (fun i news => ∃ ys n, news = (l', W.listOf ys n) :: rest ∧ P i ys) hh hc hd ?_ F N ⟨ys₀, n₀, rfl, hj⟩ ?_ ?_
  · rintro i news ⟨ys, n, rfl, _⟩
    exact List.mem_cons_of_mem _ hl
  · rintro i v news₁ h tk It oI hv ⟨ys, n, rfl, hP⟩ hne F₁ N₁
    have hIt : l' ≠ It := hne _ (.head _)
    refine wpAny_mono (turn i v ys n ((It, oI) :: rest) h tk hv hP ?_ F₁ ?_) (fun f s₂ p => ?_) fun _ _ e => e
    · intro p hp b hb
      rw [List.mem_singleton.mp hb]
      rcases List.mem_cons.mp hp with rfl | hp
      · exact fun e => hIt e.symm
      · exact hoff p hp
    · intro p hp
      rcases List.mem_cons.mp hp with rfl | hp
      · exact N₁ _ (List.mem_cons_of_mem _ (.head _))
      · rcases List.mem_cons.mp hp with rfl | hp
        · exact N₁ _ (.head _)
        · exact N₁ _ (List.mem_cons_of_mem _ (List.mem_cons_of_mem _ hp))
    · have fin : AccEnd h₀ env.locals x m₀ ((It, oI) :: rest) l' (P (i + 1)) s s₂ → TurnEnd h₀ env.locals (fun m₂ news₂ => (∀ z, z ≠ x → m₂ z = m₀ z) ∧ ∃ ys n, news₂ = (l', W.listOf ys n) :: rest ∧ P (i + 1) ys) It oI s s₂ := by
        rintro ⟨h', tk', m₂, led, ys', n', rfl, F', N', hm1, hm2, hm, hP'⟩
        refine ⟨h', tk', m₂, (l', W.listOf ys' n') :: rest, rfl, F', fun p hp => ?_, fun p hp => ?_, hm, ys', n', rfl, hP'⟩
        · rcases List.mem_cons.mp hp with rfl | hp
          · exact N' _ (hm2 _ (.head _))
          · rcases List.mem_cons.mp hp with rfl | hp
            · exact N' _ hm1
            · exact N' _ (hm2 _ (List.mem_cons_of_mem _ hp))
        · rcases List.mem_cons.mp hp with rfl | hp
          · exact hIt
          · exact hne p (List.mem_cons_of_mem _ hp)
      cases f with
      | ret v => exact p
      | brk => exact p
      | next => exact fin p
      | cont => exact fin p
  · rintro u news₁ h tk ⟨ys, n, rfl, hP⟩ F₁ N₁
    exact done u ys n h tk hP F₁ N₁
theorem acc_end {h₀ h' : Heap} {L : Addr} {x : Str} {m₀ m₂ : Str → Option Value} {own led : List (Addr × Obj)} {l' : Addr} {P : Array Value → Prop} {s : Shared} {tk : Nat} {ys : Array Value} {n : Nat}
    (F : Fr h₀ L h' m₂) (N : News h₀ L h' led) (h1 : (l', W.listOf ys n) ∈ led) (h2 : ∀ p ∈ own, p ∈ led) (hm : ∀ z, z ≠ x → m₂ z = m₀ z) (hP : P ys) : AccEnd h₀ L x m₀ own l' P s { s with heap := h', toks := tk } :=
  ⟨h', tk, m₂, led, ys, n, rfl, F, N, h1, h2, hm, hP⟩
end Mine
namespace Mine
open PySem.Spec PySem.Calls PySem.W.X
noncomputable def Halt (P : Prop) : Prop := P
theorem Halt.out {P : Prop} (h : Halt P) : P := h
theorem Halt.mk {P : Prop} (h : P) : Halt P := h
noncomputable def RangeComp (prog : Program) (w : World) (A : Around) (env : Env) (scope : Scope) (cl : List (Str × Addr)) (x : Str) (elt : Expr) (F : Nat → Value → Prop) (Q : Value → Shared → Prop) (xv : Value) (s₁ : Shared) : Prop :=
  ∃ (r n : Nat) (t u v : Tok), xv = .ref r ∧ IsRange s₁.heap r 0 (n : Int) 1 t u v ∧ n ≤ 3 ∧
    (∀ C k tk s₃ m₃ E', k < n → s₁.heap.objs.size ≤ C → s₃.heap.Ns C m₃ → m₃ x = some (.int (k : Int) tk) → (∀ b o, s₁.heap.get? b = some o → s₃.heap.get? b = some o) →
      wpAny (model prog w) A (eval elt (compEnvC scope cl C env)) (fun y s₄ => F k y ∧ Keeps s₃ s₄) E' s₃) ∧
    (∀ D h' tk ys, s₁.heap.get? D = none → h'.PlainList D ys → ys.size = n → (∀ k y, ys[k]? = some y → F k y) → Grows s₁.heap h' → Q (.ref D) { s₁ with heap := h', toks := tk })
theorem paired_at {F : Value → Value → Prop} {G : Nat → Value → Prop} : ∀ {vs ys : List Value} {j : Nat}, Paired F vs ys → (∀ k v y, vs[k]? = some v → F v y → G (j + k) y) → ∀ k y, ys[k]? = some y → G (j + k) y
  | _, _, _, .nil, _, k, y, h => by simp at h
  | v :: vs, y :: ys, j, .cons h1 h2, hv, k, y', h => by
    cases k with
    | zero => cases h; exact hv 0 v y rfl h1
    | succ k =>
      have := paired_at (G := G) (j := j + 1) h2 (fun k v y e f => by have := hv (k + 1) v y (by simpa using e) f; rw [show j + 1 + k = j + (k + 1) from by omega]; exact this) k y' (by simpa using h)
      rw [show j + (k + 1) = j + 1 + k from by omega]; exact this
theorem Walks_lt {prog : Program} {w : World} {A : Around} {I : Addr} {fp wr : List Addr} {n : Nat} {P : Nat → Value → Prop} {St : Nat → Heap → Prop} (W : Walks prog w A I fp wr n P St) : Walks prog w A I fp wr n (fun i v => i < n ∧ P i v) St where
  sub := W.sub
  frame := W.frame
  item := fun i s Q E hi st hQ => W.item i s Q E hi st fun v h' tk hP => hQ v h' tk ⟨hi, hP⟩
  done := W.done
  self := W.self
theorem comp_range {prog : Program} {w : World} {A : Around} {E : Value → Shared → Prop} {s : Shared} {env : Env} {elt iter : Expr} {x : Str} {px : Pos} {scope : Scope} {cl : List (Str × Addr)} {pos : Pos} {Q : Value → Shared → Prop} (F : Nat → Value → Prop)
    (hh : A.handled = none) (hclos : closureFor scope env = pure cl) (hcell : ∀ y ∈ scope.names, y.2 ≠ .cell) (hkind : scope.kind = .function)
    (hnames : ∀ y ∈ scope.names, y.2 = .local → scope.names.lookup y.1 = some .local) (hx : scope.names.lookup x = some .local)
    (hs : ∀ x, foldedSetIterable iter env x = pure x)
    (h : wpAny (model prog w) A (eval iter env) (RangeComp prog w A env scope cl x elt F Q) E s) :
    wpAny (model prog w) A (eval (.ListComp elt [⟨.Name x px, iter, [], 0⟩] scope pos) env) Q E s := by
  refine wpAny_ListComp_free (fun _ => true) (fun v y => ∀ (k : Nat) (tk : Tok), v = .int (k : Int) tk → F k y) hclos hcell hkind hnames hx (wpAny_mono h (fun xv s₁ h₁ => ?_) fun _ _ e => e) hs
  obtain ⟨r, n, t, u, v, rfl, hr, hn, helt, hQ⟩ := h₁
  have hsz : Builtin.Range.rangeSize 0 (n : Int) 1 = (n : Int) := by
    have : n = 0 ∨ n = 1 ∨ n = 2 ∨ n = 3 := by omega
    rcases this with rfl | rfl | rfl | rfl <;> decide
  have hsm : Builtin.Range.small 0 (n : Int) 1 = true := by
    have : n = 0 ∨ n = 1 ∨ n = 2 ∨ n = 3 := by omega
    rcases this with rfl | rfl | rfl | rfl <;> decide
  refine wpAny_pyIter_range hr hsm ?_
  rw [hsz]
  have W := Walks_lt (Walks.range (prog := prog) (w := w) hh s₁.heap.objs.size 0 1 n)
  have up : ∀ h' : Heap, (∀ b o, b ∉ [s₁.heap.objs.size] → (s₁.heap.push { cls := .type "range_iterator", data := .fields #[rawInt 0, rawInt (n : Int), rawInt 1] }).get? b = some o → h'.get? b = some o) → ∀ b o, s₁.heap.get? b = some o → h'.get? b = some o :=
    fun h' hk b o e => hk b o (not_iter_of_old e) (Heap.get?_push_of_some _ e)
  refine ⟨s₁.heap.objs.size, _, _, n, _, _, rfl, W, (by rw [sizeLine_eq]; omega), ?_, ?_, ⟨?_, ?_⟩, ?_⟩
  · have h0 : (s₁.heap.push { cls := .type "range_iterator", data := .fields #[rawInt 0, rawInt (n : Int), rawInt 1] }).get? s₁.heap.objs.size = some { cls := .type "range_iterator", data := .fields #[rawInt 0, rawInt (n : Int), rawInt 1] } := Heap.get?_push_size _ rfl
    show IsRangeIter _ _ _ _ _
    simpa [IsRangeIter] using h0
  · intro b hb
    rw [List.mem_singleton.mp hb]
    show s₁.heap.objs.size < (s₁.heap.push _).objs.size
    rw [Heap.size_push]; exact Nat.lt_succ_self _
  · intro C i v s₃ m₃ E' hC hP hn' hm hk _
    simp only [List.forIn_nil]
    exact wpAny_pure ⟨rfl, s₃.heap, s₃.toks, rfl, fun _ _ e => e⟩
  · intro C i v s₃ m₃ E' hC hP hp hn' hm hk _
    obtain ⟨hi, tk, rfl⟩ := hP
    have hC' : s₁.heap.objs.size ≤ C := Nat.le_of_succ_le (by simpa [Heap.size_push] using hC)
    refine wpAny_mono (helt C i tk s₃ m₃ E' hi hC' hn' (by simpa using hm) (up _ hk)) (fun y s₄ h₄ => ⟨?_, h₄.2⟩) fun _ _ e => e
    intro k tk' e
    have : (0 + (i : Int) * 1) = (k : Int) := by injection e
    have : i = k := by omega
    subst this
    exact h₄.1
  · intro D h' tk ys vs hD hl hpl hlen hP hF hk
    have hf : vs.filter (fun _ => true) = vs := by simp
    rw [hf] at hF
    have hlen' : ys.size = n := by
      have := hF.length
      simp at this
      omega
    have hD' : s₁.heap.get? D = none := by
      cases e : s₁.heap.get? D with
      | none => rfl
      | some o => rw [Heap.get?_push_of_some _ e] at hD; cases hD
    refine hQ D h' tk ys hD' hpl hlen' (fun k y e => ?_) (up _ hk)
    have := paired_at (G := F) (j := 0) hF (fun k v y ev f => by
      obtain ⟨_, t', ht⟩ := hP k v ev
      have := f k t' (by rw [ht]; simp)
      simpa using this) k y (by simpa using e)
    simpa using this
end Mine
namespace Mine
open PySem.Spec PySem.Calls PySem.W.X
noncomputable def AllNe (d : Nat) : List (Addr × Obj) → Prop
  | [] => True
  | p :: r => @Ne Nat p.1 d ∧ AllNe d r
theorem allNe_of {d : Addr} : ∀ {l : List (Addr × Obj)}, (∀ p ∈ l, p.1 ≠ d) → AllNe d l
  | [], _ => trivial
  | p :: _, h => ⟨h p (.head _), allNe_of fun q hq => h q (.tail _ hq)⟩
theorem news_add {s : Shared} {h₀ h' : Heap} {L D : Addr} {o : Obj} {m : Str → Option Value} {news : List (Addr × Obj)} (F : Fr h₀ L s.heap m) (N : News h₀ L s.heap news) (g : Grows s.heap h') (hD : s.heap.get? D = none) (ho : h'.get? D = some o) :
    News h₀ L h' ((D, o) :: news) ∧ ∀ p ∈ news, p.1 ≠ D := by
  refine ⟨fun p hp => ?_, fun p hp e => ?_⟩
  · rcases List.mem_cons.mp hp with rfl | hp
    · refine ⟨ho, fun e => ?_, ?_⟩
      · have e : D = L := e
        obtain ⟨oL, _, _, hL, _⟩ := F.ns
        rw [e, hL] at hD; cases hD
      · cases q : h₀.get? D with
        | none => rfl
        | some o' => rw [F.keep _ _ q] at hD; cases hD
    · exact ⟨g _ _ (N p hp).1, (N p hp).2⟩
  · have := (N p hp).1
    rw [e, hD] at this; cases this
noncomputable def RootTuple (s : Shared) (p : Str) (v : Value) (h' : Heap) : Prop :=
  ∃ D t1 t2 t3, v = .ref D ∧ s.heap.get? D = none ∧ h'.get? D = some { cls := .type "tuple", data := .seq #[.str (Str.ofString "") t1, .str (Str.ofString "/") t2, .str (Txt.slice p (some 1) none) t3] }
theorem splitroot_spec (w : World) (s : Shared) (p : Str) (t : Tok) (R : Rdy w s.heap) (hp : p.length ≤ 1000) (h1 : (Txt.slice p none (some 1) != Str.ofString "/") = false) (h2 : (Txt.slice p (some 1) (some 2) != Str.ofString "/") = true) :
    codeAny (model Challenge.rw_pd0082_01.row.prog w) (Ac 900 9000) (.call (.ref 149) ⟨[.str p t], []⟩) (Gives s (RootTuple s p)) s := by
  w_top off
  obtain ⟨X, mean, mg, mb, T⟩ := id R
  (refine' enterG (g := _) (led := []) (fun _ _ e => e) (Nat.le_refl _) (fun _ h => (nomatch h)) ?k1 ?k2 ?k6 ?k7 ?k8 ?k9 ?kB ?_ ?c2 ?c3 ?c4 ?c5; (case k1 => assumption); (case k2 => assumption); (case k6 => k_is); (case k7 => k_is); (case k8 => decide); (case k9 => first | exact BindsTo.of_eq rfl | (refine' kp_binds ?kx ?ke; (case kx => assumption); (case ke => exact fun _ => rfl))); (case kB => exact locs rfl); (case c2 => exact rfl); (case c3 => exact rfl); (case c4 => exact rfl); (case c5 => decide))
  intro L h₁ F N
  refine genQE ?_
  intro Q' hQ'
  dsimp only
  repeat' (first | (k_unfold; (try dsimp only)) | ((with_reducible show wpAny _ _ (call (Value.ref _) _ _) _ _ _); first | with_reducible (((with_reducible rename Fr _ _ _ _ => lF'); (with_reducible rename News _ _ _ _ => lN'); (with_reducible rename Rdy _ _ => lR'); first   | (refine use_fspath lR' lF' lN' (by rfl) (by exact Nat.le_of_ble_eq_true rfl) (by exact Nat.le_of_ble_eq_true rfl) ?_; intro h' tk' F' N')   | (refine use_getsep lR' lF' lN' (by rfl) (by exact Nat.le_of_ble_eq_true rfl) (by exact Nat.le_of_ble_eq_true rfl) ?_; intro u' h' tk' F' N'))) | (((with_reducible rename Fr _ _ _ _ => lF'); (with_reducible rename News _ _ _ _ => lN'); (with_reducible rename Rdy _ _ => lR'); first   | (refine use_fspath lR' lF' lN' (by rfl) (by exact Nat.le_of_ble_eq_true rfl) (by exact Nat.le_of_ble_eq_true rfl) ?_; intro h' tk' F' N')   | (refine use_getsep lR' lF' lN' (by rfl) (by exact Nat.le_of_ble_eq_true rfl) (by exact Nat.le_of_ble_eq_true rfl) ?_; intro u' h' tk' F' N')))) | walk1 | (dsimp only; first | ((with_reducible show wpAny _ _ (call (Value.ref _) _ _) _ _ _); first | with_reducible (((with_reducible rename Fr _ _ _ _ => lF'); (with_reducible rename News _ _ _ _ => lN'); (with_reducible rename Rdy _ _ => lR'); first   | (refine use_fspath lR' lF' lN' (by rfl) (by exact Nat.le_of_ble_eq_true rfl) (by exact Nat.le_of_ble_eq_true rfl) ?_; intro h' tk' F' N')   | (refine use_getsep lR' lF' lN' (by rfl) (by exact Nat.le_of_ble_eq_true rfl) (by exact Nat.le_of_ble_eq_true rfl) ?_; intro u' h' tk' F' N'))) | (((with_reducible rename Fr _ _ _ _ => lF'); (with_reducible rename News _ _ _ _ => lN'); (with_reducible rename Rdy _ _ => lR'); first   | (refine use_fspath lR' lF' lN' (by rfl) (by exact Nat.le_of_ble_eq_true rfl) (by exact Nat.le_of_ble_eq_true rfl) ?_; intro h' tk' F' N')   | (refine use_getsep lR' lF' lN' (by rfl) (by exact Nat.le_of_ble_eq_true rfl) (by exact Nat.le_of_ble_eq_true rfl) ?_; intro u' h' tk' F' N')))) | walk1) | (leave1; walk_say "STEP leave1"; try dsimp only) | fail "no step")
  (with_reducible rename Fr _ _ _ _ => eF)
  (with_reducible rename News _ _ _ _ => eN)
  ((try dsimp only); exact hQ' _ _ (givesI eF ⟨_, _, _, _, rfl, News.fresh eN (.head _), News.get eN (.head _)⟩))
section
variable {w : World} {A : Around} {s : Shared} {h₀ : Heap} {L : Addr} {m : Str → Option Value} {news : List (Addr × Obj)} {Q E : Value → Shared → Prop} {p q : Str} {t u : Tok}
theorem use_splitroot (hp : p.length ≤ 1000) (h1 : (Txt.slice p none (some 1) != Str.ofString "/") = false) (h2 : (Txt.slice p (some 1) (some 2) != Str.ofString "/") = true) (R : Rdy w h₀) (F : Fr h₀ L s.heap m) (N : News h₀ L s.heap news) (hh : A.handled = none) (hd : A.depth ≤ 900) (hu : A.units ≤ 9000)
    (k : ∀ D t1 t2 t3 h' tk, Fr h₀ L h' m → News h₀ L h' ((D, { cls := .type "tuple", data := .seq #[.str (Str.ofString "") t1, .str (Str.ofString "/") t2, .str (Txt.slice p (some 1) none) t3] }) :: news) → (∀ p ∈ news, p.1 ≠ D) → Q (.ref D) { s with heap := h', toks := tk }) :
    wpAny (model Challenge.rw_pd0082_01.row.prog w) A (call (.ref 149) [.str p t]) Q E s :=
  use (splitroot_spec w s p t (R.fr F) hp h1 h2) F N hh hd hu (fun v h' tk e g F' N' => by
    obtain ⟨D, t1, t2, t3, rfl, hD, ho⟩ := e
    obtain ⟨a, b⟩ := news_add F N g hD ho
    exact k D t1 t2 t3 h' tk F' a b)
end
end Mine
namespace Mine
open PySem.Spec PySem.Calls PySem.W.X

noncomputable def okComp (c : Str) : Bool := c != Str.ofString "" && c != Str.ofString "."
theorem slice_len (p : Str) : (Txt.slice p (some 1) none).length ≤ p.length := Txt.slice_le _ _ _
noncomputable def compsOf (p : Str) : List Str := (Txt.split (Txt.slice p (some 1) none) (Str.ofString "/"))
noncomputable def normF (p : Str) : List Str := (compsOf p).filter okComp
theorem norm_skip {ys : Array Value} {L : List Str} {i : Nat} {c : Str} (hP : StrsAre ys.toList ((L.take i).filter okComp) ∧ ys.size ≤ i) (hc : L[i]? = some c) (ho : okComp c = false) : StrsAre ys.toList ((L.take (i + 1)).filter okComp) ∧ ys.size ≤ i + 1 := by
  rw [take_succ_filter okComp L i c hc, ho]
  exact ⟨by simpa using hP.1, by have := hP.2; omega⟩
theorem norm_push {ys : Array Value} {L : List Str} {i : Nat} {c : Str} {t : Tok} (hP : StrsAre ys.toList ((L.take i).filter okComp) ∧ ys.size ≤ i) (hc : L[i]? = some c) (ho : okComp c = true) : StrsAre (ys.push (.str c t)).toList ((L.take (i + 1)).filter okComp) ∧ (ys.push (.str c t)).size ≤ i + 1 := by
  rw [take_succ_filter okComp L i c hc, ho]
  exact ⟨by simpa using strsAre_push hP.1, by have := hP.2; simp; omega⟩
theorem okComp_empty {c : Str} (h : (c.length : Int) = 0) : okComp c = false := by
  obtain ⟨⟨l⟩⟩ := c
  have h1 : l.length = 0 := by simpa [Str.length] using h
  have h2 : l = [] := List.eq_nil_of_length_eq_zero h1
  subst h2
  decide
theorem okComp_true {c : Str} (h : (c.length : Int) ≠ 0) (h2 : (c == Str.ofString ".") = false) : okComp c = true := by
  have h3 : c ≠ Str.ofString "" := by
    intro e
    rw [e] at h
    exact h (by decide)
  have h4 : c ≠ Str.ofString "." := by
    intro e
    rw [e] at h2
    exact absurd h2 (by decide)
  simp [okComp, bne_iff_ne, h3, h4]
theorem norm_spec (w : World) (s : Shared) (p : Str) (t : Tok) (R : Rdy w s.heap) (hp : p.length ≤ 1000) (h0 : (p.length : Int) ≠ 0) (h1 : (Txt.slice p none (some 1) != Str.ofString "/") = false) (h2 : (Txt.slice p (some 1) (some 2) != Str.ofString "/") = true) (h3 : ∀ c ∈ compsOf p, (c != Str.ofString "..") = true) (h5 : (Txt.join (Str.ofString "/") (normF p)).length ≤ 1000) (h6 : (compsOf p).length ≤ 1000) (h4 : ((normF p).map (·.length)).sum + (normF p).length ≤ 1048576) :
    codeAny (model Challenge.rw_pd0082_01.row.prog w) (Ac 850 8500) (.call (.ref 163) ⟨[.str p t], []⟩) (Gives s (fun v _ => ∃ u, v = .str (Str.ofString "/" ++ Txt.join (Str.ofString "/") (normF p)) u)) s := by
  w_top off
  obtain ⟨X, mean, mg, mb, T⟩ := id R
  (refine' enterG (g := _) (led := []) (fun _ _ e => e) (Nat.le_refl _) (fun _ h => (nomatch h)) ?k1 ?k2 ?k6 ?k7 ?k8 ?k9 ?kB ?_ ?c2 ?c3 ?c4 ?c5; (case k1 => assumption); (case k2 => assumption); (case k6 => k_is); (case k7 => k_is); (case k8 => decide); (case k9 => first | exact BindsTo.of_eq rfl | (refine' kp_binds ?kx ?ke; (case kx => assumption); (case ke => exact fun _ => rfl))); (case kB => exact locs rfl); (case c2 => exact rfl); (case c3 => exact rfl); (case c4 => exact rfl); (case c5 => decide))
  intro L h₁ F N
  refine genQE ?_
  intro Q' hQ'
  have g5 := PySem.Flt.Hid.mk h5
  have g4 := PySem.Flt.Hid.mk h4
  clear h5 h4
  replace F : Fr s.heap L h₁ (fun y => List.lookup y [(Str.ofString "path", Value.str p t)]) := F
  dsimp only
  repeat' (first | (k_unfold; (try dsimp only)) | ((with_reducible show wpAny _ _ (call _ _ _) _ _ _); first | ((with_reducible show wpAny _ _ (call (Value.builtin "str.join") _ _) _ _ _); first | with_reducible (((with_reducible rename News _ _ _ _ => lN'); (refine join_listW (News.isList lN' (by k_mem)) (by first | with_reducible assumption | assumption) (by decide) (by first | with_reducible assumption | assumption) ?_); intro _ _)) | (((with_reducible rename News _ _ _ _ => lN'); (refine join_listW (News.isList lN' (by k_mem)) (by first | with_reducible assumption | assumption) (by decide) (by first | with_reducible assumption | assumption) ?_); intro _ _))) | ((with_reducible show wpAny _ _ (call (Value.ref _) _ _) _ _ _); first | with_reducible (((with_reducible rename Fr _ _ _ _ => lF'); (with_reducible rename News _ _ _ _ => lN'); (with_reducible rename Rdy _ _ => lR'); first   | (refine use_fspath lR' lF' lN' (by rfl) (by exact Nat.le_of_ble_eq_true rfl) (by exact Nat.le_of_ble_eq_true rfl) ?_; intro h' tk' F' N')   | (refine use_getsep lR' lF' lN' (by rfl) (by exact Nat.le_of_ble_eq_true rfl) (by exact Nat.le_of_ble_eq_true rfl) ?_; intro u' h' tk' F' N')   | (refine use_splitroot (by first | with_reducible assumption | assumption | decide) (by first | with_reducible assumption | assumption | decide) (by first | with_reducible assumption | assumption | decide) lR' lF' lN' (by rfl) (by exact Nat.le_of_ble_eq_true rfl) (by exact Nat.le_of_ble_eq_true rfl) ?_; intro D' a1' a2' a3' h' tk' F' N' n1'; (replace n1' := allNe_of n1'); (simp only [AllNe, and_true] at n1')))) | (((with_reducible rename Fr _ _ _ _ => lF'); (with_reducible rename News _ _ _ _ => lN'); (with_reducible rename Rdy _ _ => lR'); first   | (refine use_fspath lR' lF' lN' (by rfl) (by exact Nat.le_of_ble_eq_true rfl) (by exact Nat.le_of_ble_eq_true rfl) ?_; intro h' tk' F' N')   | (refine use_getsep lR' lF' lN' (by rfl) (by exact Nat.le_of_ble_eq_true rfl) (by exact Nat.le_of_ble_eq_true rfl) ?_; intro u' h' tk' F' N')   | (refine use_splitroot (by first | with_reducible assumption | assumption | decide) (by first | with_reducible assumption | assumption | decide) (by first | with_reducible assumption | assumption | decide) lR' lF' lN' (by rfl) (by exact Nat.le_of_ble_eq_true rfl) (by exact Nat.le_of_ble_eq_true rfl) ?_; intro D' a1' a2' a3' h' tk' F' N' n1'; (replace n1' := allNe_of n1'); (simp only [AllNe, and_true] at n1')))))) | walk1 | (dsimp only; first | ((with_reducible show wpAny _ _ (call _ _ _) _ _ _); first | ((with_reducible show wpAny _ _ (call (Value.builtin "str.join") _ _) _ _ _); first | with_reducible (((with_reducible rename News _ _ _ _ => lN'); (refine join_listW (News.isList lN' (by k_mem)) (by first | with_reducible assumption | assumption) (by decide) (by first | with_reducible assumption | assumption) ?_); intro _ _)) | (((with_reducible rename News _ _ _ _ => lN'); (refine join_listW (News.isList lN' (by k_mem)) (by first | with_reducible assumption | assumption) (by decide) (by first | with_reducible assumption | assumption) ?_); intro _ _))) | ((with_reducible show wpAny _ _ (call (Value.ref _) _ _) _ _ _); first | with_reducible (((with_reducible rename Fr _ _ _ _ => lF'); (with_reducible rename News _ _ _ _ => lN'); (with_reducible rename Rdy _ _ => lR'); first   | (refine use_fspath lR' lF' lN' (by rfl) (by exact Nat.le_of_ble_eq_true rfl) (by exact Nat.le_of_ble_eq_true rfl) ?_; intro h' tk' F' N')   | (refine use_getsep lR' lF' lN' (by rfl) (by exact Nat.le_of_ble_eq_true rfl) (by exact Nat.le_of_ble_eq_true rfl) ?_; intro u' h' tk' F' N')   | (refine use_splitroot (by first | with_reducible assumption | assumption | decide) (by first | with_reducible assumption | assumption | decide) (by first | with_reducible assumption | assumption | decide) lR' lF' lN' (by rfl) (by exact Nat.le_of_ble_eq_true rfl) (by exact Nat.le_of_ble_eq_true rfl) ?_; intro D' a1' a2' a3' h' tk' F' N' n1'; (replace n1' := allNe_of n1'); (simp only [AllNe, and_true] at n1')))) | (((with_reducible rename Fr _ _ _ _ => lF'); (with_reducible rename News _ _ _ _ => lN'); (with_reducible rename Rdy _ _ => lR'); first   | (refine use_fspath lR' lF' lN' (by rfl) (by exact Nat.le_of_ble_eq_true rfl) (by exact Nat.le_of_ble_eq_true rfl) ?_; intro h' tk' F' N')   | (refine use_getsep lR' lF' lN' (by rfl) (by exact Nat.le_of_ble_eq_true rfl) (by exact Nat.le_of_ble_eq_true rfl) ?_; intro u' h' tk' F' N')   | (refine use_splitroot (by first | with_reducible assumption | assumption | decide) (by first | with_reducible assumption | assumption | decide) (by first | with_reducible assumption | assumption | decide) lR' lF' lN' (by rfl) (by exact Nat.le_of_ble_eq_true rfl) (by exact Nat.le_of_ble_eq_true rfl) ?_; intro D' a1' a2' a3' h' tk' F' N' n1'; (replace n1' := allNe_of n1'); (simp only [AllNe, and_true] at n1')))))) | walk1) | (leave1; walk_say "STEP leave1"; try dsimp only) | fail "no step")
  all_goals try (exfalso; omega)
  rename_i l hk3 k e1 e2 e3 e4 hh2 l' hh1 l1 hh0 lF lN
  dsimp only at lF lN l1
  refine iter_acc (vs := strValues l) (fun i ys => StrsAre ys.toList ((((l.map (·.1)).take i).filter okComp)) ∧ ys.size ≤ i) rfl rfl ⟨_, rfl⟩ (.head _) ?_ lF lN ⟨.nil, Nat.le_refl _⟩ ?_ ?_
  · exact List.forall_mem_cons.mpr ⟨neN (by dsimp only; omega), List.forall_mem_cons.mpr ⟨neN (by dsimp only; omega), List.forall_mem_nil _⟩⟩
  · intro i v ys n own h tk hv hP hown F' N'
    obtain ⟨c, t', rfl, hc⟩ := strValues_at hv
    have hmem : c ∈ l.map (·.1) := List.mem_of_getElem? hc
    have hcl : c.length ≤ 1000 := by have := e3 c hmem; have := slice_len p; omega
    have hdd : (c != Str.ofString "..") = true := h3 c (by rw [compsOf, ← e1]; exact hmem)
    have hil : i < (strValues l).length := (List.getElem?_eq_some_iff.mp hv).1
    have hll : (strValues l).length = (compsOf p).length := by rw [compsOf, ← e1]; simp [strValues]
    have hys : ys.size ≤ 1000 := by have := hP.2; omega
    repeat' (first | (k_unfold; (try dsimp only)) | ((with_reducible show wpAny _ _ (call _ _ _) _ _ _); first | ((with_reducible show wpAny _ _ (call (Value.builtin "str.join") _ _) _ _ _); first | with_reducible (((with_reducible rename News _ _ _ _ => lN'); (refine join_listW (News.isList lN' (by k_mem)) (by first | with_reducible assumption | assumption) (by decide) (by first | with_reducible assumption | assumption) ?_); intro _ _)) | (((with_reducible rename News _ _ _ _ => lN'); (refine join_listW (News.isList lN' (by k_mem)) (by first | with_reducible assumption | assumption) (by decide) (by first | with_reducible assumption | assumption) ?_); intro _ _))) | ((with_reducible show wpAny _ _ (call (Value.ref _) _ _) _ _ _); first | with_reducible (((with_reducible rename Fr _ _ _ _ => lF'); (with_reducible rename News _ _ _ _ => lN'); (with_reducible rename Rdy _ _ => lR'); first   | (refine use_fspath lR' lF' lN' (by rfl) (by exact Nat.le_of_ble_eq_true rfl) (by exact Nat.le_of_ble_eq_true rfl) ?_; intro h' tk' F' N')   | (refine use_getsep lR' lF' lN' (by rfl) (by exact Nat.le_of_ble_eq_true rfl) (by exact Nat.le_of_ble_eq_true rfl) ?_; intro u' h' tk' F' N')   | (refine use_splitroot (by first | with_reducible assumption | assumption | decide) (by first | with_reducible assumption | assumption | decide) (by first | with_reducible assumption | assumption | decide) lR' lF' lN' (by rfl) (by exact Nat.le_of_ble_eq_true rfl) (by exact Nat.le_of_ble_eq_true rfl) ?_; intro D' a1' a2' a3' h' tk' F' N' n1'; (replace n1' := allNe_of n1'); (simp only [AllNe, and_true] at n1')))) | (((with_reducible rename Fr _ _ _ _ => lF'); (with_reducible rename News _ _ _ _ => lN'); (with_reducible rename Rdy _ _ => lR'); first   | (refine use_fspath lR' lF' lN' (by rfl) (by exact Nat.le_of_ble_eq_true rfl) (by exact Nat.le_of_ble_eq_true rfl) ?_; intro h' tk' F' N')   | (refine use_getsep lR' lF' lN' (by rfl) (by exact Nat.le_of_ble_eq_true rfl) (by exact Nat.le_of_ble_eq_true rfl) ?_; intro u' h' tk' F' N')   | (refine use_splitroot (by first | with_reducible assumption | assumption | decide) (by first | with_reducible assumption | assumption | decide) (by first | with_reducible assumption | assumption | decide) lR' lF' lN' (by rfl) (by exact Nat.le_of_ble_eq_true rfl) (by exact Nat.le_of_ble_eq_true rfl) ?_; intro D' a1' a2' a3' h' tk' F' N' n1'; (replace n1' := allNe_of n1'); (simp only [AllNe, and_true] at n1')))))) | walk1 | (dsimp only; first | ((with_reducible show wpAny _ _ (call _ _ _) _ _ _); first | ((with_reducible show wpAny _ _ (call (Value.builtin "str.join") _ _) _ _ _); first | with_reducible (((with_reducible rename News _ _ _ _ => lN'); (refine join_listW (News.isList lN' (by k_mem)) (by first | with_reducible assumption | assumption) (by decide) (by first | with_reducible assumption | assumption) ?_); intro _ _)) | (((with_reducible rename News _ _ _ _ => lN'); (refine join_listW (News.isList lN' (by k_mem)) (by first | with_reducible assumption | assumption) (by decide) (by first | with_reducible assumption | assumption) ?_); intro _ _))) | ((with_reducible show wpAny _ _ (call (Value.ref _) _ _) _ _ _); first | with_reducible (((with_reducible rename Fr _ _ _ _ => lF'); (with_reducible rename News _ _ _ _ => lN'); (with_reducible rename Rdy _ _ => lR'); first   | (refine use_fspath lR' lF' lN' (by rfl) (by exact Nat.le_of_ble_eq_true rfl) (by exact Nat.le_of_ble_eq_true rfl) ?_; intro h' tk' F' N')   | (refine use_getsep lR' lF' lN' (by rfl) (by exact Nat.le_of_ble_eq_true rfl) (by exact Nat.le_of_ble_eq_true rfl) ?_; intro u' h' tk' F' N')   | (refine use_splitroot (by first | with_reducible assumption | assumption | decide) (by first | with_reducible assumption | assumption | decide) (by first | with_reducible assumption | assumption | decide) lR' lF' lN' (by rfl) (by exact Nat.le_of_ble_eq_true rfl) (by exact Nat.le_of_ble_eq_true rfl) ?_; intro D' a1' a2' a3' h' tk' F' N' n1'; (replace n1' := allNe_of n1'); (simp only [AllNe, and_true] at n1')))) | (((with_reducible rename Fr _ _ _ _ => lF'); (with_reducible rename News _ _ _ _ => lN'); (with_reducible rename Rdy _ _ => lR'); first   | (refine use_fspath lR' lF' lN' (by rfl) (by exact Nat.le_of_ble_eq_true rfl) (by exact Nat.le_of_ble_eq_true rfl) ?_; intro h' tk' F' N')   | (refine use_getsep lR' lF' lN' (by rfl) (by exact Nat.le_of_ble_eq_true rfl) (by exact Nat.le_of_ble_eq_true rfl) ?_; intro u' h' tk' F' N')   | (refine use_splitroot (by first | with_reducible assumption | assumption | decide) (by first | with_reducible assumption | assumption | decide) (by first | with_reducible assumption | assumption | decide) lR' lF' lN' (by rfl) (by exact Nat.le_of_ble_eq_true rfl) (by exact Nat.le_of_ble_eq_true rfl) ?_; intro D' a1' a2' a3' h' tk' F' N' n1'; (replace n1' := allNe_of n1'); (simp only [AllNe, and_true] at n1')))))) | walk1) | (leave1; walk_say "STEP leave1"; try dsimp only) | fail "no step")
    · exact acc_end F' N' (.head _) (fun p hp => .tail _ hp) (fun z hz => if_neg hz) (norm_skip hP hc (by rename_i a; simp only [okComp, eq_of_beq a]; decide))
    · (with_reducible rename Fr _ _ _ _ => F2); (with_reducible rename News _ _ _ _ => N2)
      exact acc_end F2 N2 (.head _) (fun p hp => .tail _ hp) (fun z hz => if_neg hz) (norm_push hP hc (okComp_true (by first | with_reducible assumption | assumption) (by first | with_reducible assumption | assumption)))
    · exact acc_end F' N' (.head _) (fun p hp => .tail _ hp) (fun z hz => if_neg hz) (norm_skip hP hc (by rename_i a; exact okComp_empty a))
  · intro u ys n h tk hP F' N'
    have hS : StrsAre ys.toList (normF p) := by
      have e5 : (strValues l).length = (l.map (·.1)).length := by simp [strValues]
      have := hP.1
      rw [e5, List.take_length, e1] at this
      exact this
    clear hP e1 e2 e3 h3
    have h5 := g5.out
    have h4 := g4.out
    clear g5 g4
    generalize normF p = yN at hS h4 h5 hQ' ⊢
    repeat' (first | (k_unfold; (try dsimp only)) | ((with_reducible show wpAny _ _ (call _ _ _) _ _ _); first | ((with_reducible show wpAny _ _ (call (Value.builtin "str.join") _ _) _ _ _); first | with_reducible (((with_reducible rename News _ _ _ _ => lN'); (refine join_listW (News.isList lN' (by k_mem)) (by first | with_reducible assumption | assumption) (by decide) (by first | with_reducible assumption | assumption) ?_); intro _ _)) | (((with_reducible rename News _ _ _ _ => lN'); (refine join_listW (News.isList lN' (by k_mem)) (by first | with_reducible assumption | assumption) (by decide) (by first | with_reducible assumption | assumption) ?_); intro _ _))) | ((with_reducible show wpAny _ _ (call (Value.ref _) _ _) _ _ _); first | with_reducible (((with_reducible rename Fr _ _ _ _ => lF'); (with_reducible rename News _ _ _ _ => lN'); (with_reducible rename Rdy _ _ => lR'); first   | (refine use_fspath lR' lF' lN' (by rfl) (by exact Nat.le_of_ble_eq_true rfl) (by exact Nat.le_of_ble_eq_true rfl) ?_; intro h' tk' F' N')   | (refine use_getsep lR' lF' lN' (by rfl) (by exact Nat.le_of_ble_eq_true rfl) (by exact Nat.le_of_ble_eq_true rfl) ?_; intro u' h' tk' F' N')   | (refine use_splitroot (by first | with_reducible assumption | assumption | decide) (by first | with_reducible assumption | assumption | decide) (by first | with_reducible assumption | assumption | decide) lR' lF' lN' (by rfl) (by exact Nat.le_of_ble_eq_true rfl) (by exact Nat.le_of_ble_eq_true rfl) ?_; intro D' a1' a2' a3' h' tk' F' N' n1'; (replace n1' := allNe_of n1'); (simp only [AllNe, and_true] at n1')))) | (((with_reducible rename Fr _ _ _ _ => lF'); (with_reducible rename News _ _ _ _ => lN'); (with_reducible rename Rdy _ _ => lR'); first   | (refine use_fspath lR' lF' lN' (by rfl) (by exact Nat.le_of_ble_eq_true rfl) (by exact Nat.le_of_ble_eq_true rfl) ?_; intro h' tk' F' N')   | (refine use_getsep lR' lF' lN' (by rfl) (by exact Nat.le_of_ble_eq_true rfl) (by exact Nat.le_of_ble_eq_true rfl) ?_; intro u' h' tk' F' N')   | (refine use_splitroot (by first | with_reducible assumption | assumption | decide) (by first | with_reducible assumption | assumption | decide) (by first | with_reducible assumption | assumption | decide) lR' lF' lN' (by rfl) (by exact Nat.le_of_ble_eq_true rfl) (by exact Nat.le_of_ble_eq_true rfl) ?_; intro D' a1' a2' a3' h' tk' F' N' n1'; (replace n1' := allNe_of n1'); (simp only [AllNe, and_true] at n1')))))) | walk1 | (dsimp only; first | ((with_reducible show wpAny _ _ (call _ _ _) _ _ _); first | ((with_reducible show wpAny _ _ (call (Value.builtin "str.join") _ _) _ _ _); first | with_reducible (((with_reducible rename News _ _ _ _ => lN'); (refine join_listW (News.isList lN' (by k_mem)) (by first | with_reducible assumption | assumption) (by decide) (by first | with_reducible assumption | assumption) ?_); intro _ _)) | (((with_reducible rename News _ _ _ _ => lN'); (refine join_listW (News.isList lN' (by k_mem)) (by first | with_reducible assumption | assumption) (by decide) (by first | with_reducible assumption | assumption) ?_); intro _ _))) | ((with_reducible show wpAny _ _ (call (Value.ref _) _ _) _ _ _); first | with_reducible (((with_reducible rename Fr _ _ _ _ => lF'); (with_reducible rename News _ _ _ _ => lN'); (with_reducible rename Rdy _ _ => lR'); first   | (refine use_fspath lR' lF' lN' (by rfl) (by exact Nat.le_of_ble_eq_true rfl) (by exact Nat.le_of_ble_eq_true rfl) ?_; intro h' tk' F' N')   | (refine use_getsep lR' lF' lN' (by rfl) (by exact Nat.le_of_ble_eq_true rfl) (by exact Nat.le_of_ble_eq_true rfl) ?_; intro u' h' tk' F' N')   | (refine use_splitroot (by first | with_reducible assumption | assumption | decide) (by first | with_reducible assumption | assumption | decide) (by first | with_reducible assumption | assumption | decide) lR' lF' lN' (by rfl) (by exact Nat.le_of_ble_eq_true rfl) (by exact Nat.le_of_ble_eq_true rfl) ?_; intro D' a1' a2' a3' h' tk' F' N' n1'; (replace n1' := allNe_of n1'); (simp only [AllNe, and_true] at n1')))) | (((with_reducible rename Fr _ _ _ _ => lF'); (with_reducible rename News _ _ _ _ => lN'); (with_reducible rename Rdy _ _ => lR'); first   | (refine use_fspath lR' lF' lN' (by rfl) (by exact Nat.le_of_ble_eq_true rfl) (by exact Nat.le_of_ble_eq_true rfl) ?_; intro h' tk' F' N')   | (refine use_getsep lR' lF' lN' (by rfl) (by exact Nat.le_of_ble_eq_true rfl) (by exact Nat.le_of_ble_eq_true rfl) ?_; intro u' h' tk' F' N')   | (refine use_splitroot (by first | with_reducible assumption | assumption | decide) (by first | with_reducible assumption | assumption | decide) (by first | with_reducible assumption | assumption | decide) lR' lF' lN' (by rfl) (by exact Nat.le_of_ble_eq_true rfl) (by exact Nat.le_of_ble_eq_true rfl) ?_; intro D' a1' a2' a3' h' tk' F' N' n1'; (replace n1' := allNe_of n1'); (simp only [AllNe, and_true] at n1')))))) | walk1) | (leave1; walk_say "STEP leave1"; try dsimp only) | fail "no step")
    (with_reducible rename Fr _ _ _ _ => eF)
    ((try dsimp only); exact hQ' _ _ (givesI eF ⟨_, rfl⟩))
end Mine
namespace Mine
open PySem.Spec PySem.Calls PySem.W.X
noncomputable def menuF (i : Int) : Str := if i = 0 then Str.ofString "a" else if i = 1 then Str.ofString "a-" else Str.ofString "b"
noncomputable def nameAt (x : Int) (k : Nat) : Str := menuF (((x.fdiv 3).fdiv (3 ^ k)).fmod 3)
noncomputable def namesF (x : Int) : List Str := (List.range (1 + x.fmod 3).toNat).map (nameAt x)
theorem menu_item {prog : Program} {w : World} {A : Around} {E : Value → Shared → Prop} {s : Shared} {h₀ : Heap} {L : Addr} {news : List (Addr × Obj)} {value slice : PySem.Expr} {l : Addr} {k : Int} {u t0 t1 t2 : Tok} {n : Nat} {Q : Value → Shared → Prop}
    (N : News h₀ L s.heap news) (hm : (l, W.listOf #[.str (Str.ofString "a") t0, .str (Str.ofString "a-") t1, .str (Str.ofString "b") t2] n) ∈ news) (h0 : 0 ≤ k) (h3 : k < 3) (h : ∀ tk, Q (.str (menuF k) tk) s)
    (hs : subscripted slice false (.ref l) (.int k u) = operate [.ref l, .int k u] (getItem (.ref l) (.int k u)) := by with_unfolding_all rfl) :
    wpAny (model prog w) A (subscriptTail value slice (.ref l) (.int k u)) Q E s := by
  have hl : s.heap.IsList l #[.str (Str.ofString "a") t0, .str (Str.ofString "a-") t1, .str (Str.ofString "b") t2] := ⟨_, News.get N hm, rfl, n, rfl⟩
  have : k = 0 ∨ k = 1 ∨ k = 2 := by omega
  rcases this with rfl | rfl | rfl
  · exact tail_any hl.typeIs slot_list_getitem.lookup (wpAny_getItem_list hl h0 (by decide) rfl (h t0)) hs
  · exact tail_any hl.typeIs slot_list_getitem.lookup (wpAny_getItem_list hl h0 (by decide) rfl (h t1)) hs
  · exact tail_any hl.typeIs slot_list_getitem.lookup (wpAny_getItem_list hl h0 (by decide) rfl (h t2)) hs
theorem fmod3 (a : Int) : 0 ≤ a.fmod 3 ∧ a.fmod 3 < 3 := ⟨Int.fmod_nonneg_of_pos _ (by decide), Int.fmod_lt_of_pos _ (by decide)⟩
theorem names_spec (w : World) (s : Shared) (x : Int) (t : Tok) (R : Rdy w s.heap)  :
    codeAny (model Challenge.rw_pd0082_01.row.prog w) (Ac 900 9000) (.call (.ref 173) ⟨[.int x t], []⟩) (Gives s (StrList s (namesF x))) s := by
  w_top off
  obtain ⟨X, mean, mg, mb, T⟩ := id R
  (k_with "call type:range" => k_rangeSizes)
  (refine' enterC ?k1 ?k2 ?k6 ?k7 ?k8 ?k9 ?kB ?kD ?_ ?c2 ?c3 ?c4; (case k1 => assumption); (case k2 => assumption); (case k6 => k_is); (case k7 => k_is); (case k8 => decide); (case k9 => first | exact BindsTo.of_eq rfl | (refine' kp_binds ?kx ?ke; (case kx => assumption); (case ke => exact fun _ => rfl))); (case kB => exact rfl); (case kD => decide +kernel); (case c2 => exact rfl); (case c3 => exact rfl); (case c4 => exact rfl))
  intro L h₁ tk cells F N Y
  refine genQE ?_
  intro Q' hQ'
  obtain ⟨oc, rfl, d1⟩ := CellsAre.one Y
  replace d1 : oc.data = .cell (some (.int x t)) := d1
  replace F : Fr s.heap L h₁ (fun _ => none) := F
  clear Y
  repeat' (first | (k_unfold; (try dsimp only)) | ((with_reducible show LCg.CompSrc _ _ _ _ _ _ _ _ _ _ _ _ _ _); first | with_reducible ((k_dflt (refine LCg.CompSrc.range (by rfl) (by k_asm) (by k_asm) (by assumption) (by first | decide | rfl) (by first | rfl | decide) (by exact Nat.le_of_ble_eq_true rfl) ?_; intro g'; lcg_lit))) | ((k_dflt (refine LCg.CompSrc.range (by rfl) (by k_asm) (by k_asm) (by assumption) (by first | decide | rfl) (by first | rfl | decide) (by exact Nat.le_of_ble_eq_true rfl) ?_; intro g'; lcg_lit)))) | ((with_reducible show wpAny _ _ (subscriptTail _ _ (Value.ref _) (Value.int _ _)) _ _ _); first | with_reducible (((with_reducible show wpAny _ _ (subscriptTail _ _ (Value.ref _) (Value.int (Int.fmod _ 3) _)) _ _ _); (with_reducible rename News _ _ _ _ => lN'); k_dflt (refine menu_item lN' (by k_mem) (fmod3 _).1 (fmod3 _).2 ?_ (by with_unfolding_all rfl)); intro tq')) | (((with_reducible show wpAny _ _ (subscriptTail _ _ (Value.ref _) (Value.int (Int.fmod _ 3) _)) _ _ _); (with_reducible rename News _ _ _ _ => lN'); k_dflt (refine menu_item lN' (by k_mem) (fmod3 _).1 (fmod3 _).2 ?_ (by with_unfolding_all rfl)); intro tq'))) | ((with_reducible show wpAny _ _ (call (Value.ref _) _ _) _ _ _); first | with_reducible (((with_reducible rename Fr _ _ _ _ => lF'); (with_reducible rename News _ _ _ _ => lN'); (with_reducible rename Rdy _ _ => lR'); first   | (refine use_fspath lR' lF' lN' (by rfl) (by exact Nat.le_of_ble_eq_true rfl) (by exact Nat.le_of_ble_eq_true rfl) ?_; intro h' tk' F' N')   | (refine use_getsep lR' lF' lN' (by rfl) (by exact Nat.le_of_ble_eq_true rfl) (by exact Nat.le_of_ble_eq_true rfl) ?_; intro u' h' tk' F' N'))) | (((with_reducible rename Fr _ _ _ _ => lF'); (with_reducible rename News _ _ _ _ => lN'); (with_reducible rename Rdy _ _ => lR'); first   | (refine use_fspath lR' lF' lN' (by rfl) (by exact Nat.le_of_ble_eq_true rfl) (by exact Nat.le_of_ble_eq_true rfl) ?_; intro h' tk' F' N')   | (refine use_getsep lR' lF' lN' (by rfl) (by exact Nat.le_of_ble_eq_true rfl) (by exact Nat.le_of_ble_eq_true rfl) ?_; intro u' h' tk' F' N')))) | walk1 | (dsimp only; first | ((with_reducible show LCg.CompSrc _ _ _ _ _ _ _ _ _ _ _ _ _ _); first | with_reducible ((k_dflt (refine LCg.CompSrc.range (by rfl) (by k_asm) (by k_asm) (by assumption) (by first | decide | rfl) (by first | rfl | decide) (by exact Nat.le_of_ble_eq_true rfl) ?_; intro g'; lcg_lit))) | ((k_dflt (refine LCg.CompSrc.range (by rfl) (by k_asm) (by k_asm) (by assumption) (by first | decide | rfl) (by first | rfl | decide) (by exact Nat.le_of_ble_eq_true rfl) ?_; intro g'; lcg_lit)))) | ((with_reducible show wpAny _ _ (subscriptTail _ _ (Value.ref _) (Value.int _ _)) _ _ _); first | with_reducible (((with_reducible show wpAny _ _ (subscriptTail _ _ (Value.ref _) (Value.int (Int.fmod _ 3) _)) _ _ _); (with_reducible rename News _ _ _ _ => lN'); k_dflt (refine menu_item lN' (by k_mem) (fmod3 _).1 (fmod3 _).2 ?_ (by with_unfolding_all rfl)); intro tq')) | (((with_reducible show wpAny _ _ (subscriptTail _ _ (Value.ref _) (Value.int (Int.fmod _ 3) _)) _ _ _); (with_reducible rename News _ _ _ _ => lN'); k_dflt (refine menu_item lN' (by k_mem) (fmod3 _).1 (fmod3 _).2 ?_ (by with_unfolding_all rfl)); intro tq'))) | ((with_reducible show wpAny _ _ (call (Value.ref _) _ _) _ _ _); first | with_reducible (((with_reducible rename Fr _ _ _ _ => lF'); (with_reducible rename News _ _ _ _ => lN'); (with_reducible rename Rdy _ _ => lR'); first   | (refine use_fspath lR' lF' lN' (by rfl) (by exact Nat.le_of_ble_eq_true rfl) (by exact Nat.le_of_ble_eq_true rfl) ?_; intro h' tk' F' N')   | (refine use_getsep lR' lF' lN' (by rfl) (by exact Nat.le_of_ble_eq_true rfl) (by exact Nat.le_of_ble_eq_true rfl) ?_; intro u' h' tk' F' N'))) | (((with_reducible rename Fr _ _ _ _ => lF'); (with_reducible rename News _ _ _ _ => lN'); (with_reducible rename Rdy _ _ => lR'); first   | (refine use_fspath lR' lF' lN' (by rfl) (by exact Nat.le_of_ble_eq_true rfl) (by exact Nat.le_of_ble_eq_true rfl) ?_; intro h' tk' F' N')   | (refine use_getsep lR' lF' lN' (by rfl) (by exact Nat.le_of_ble_eq_true rfl) (by exact Nat.le_of_ble_eq_true rfl) ?_; intro u' h' tk' F' N')))) | walk1) | (leave1; walk_say "STEP leave1"; try dsimp only) | fail "no step")
  all_goals (with_reducible rename Fr _ _ _ _ => eF)
  all_goals (with_reducible rename News _ _ _ _ => eN)
  all_goals (rename (_ + Int.fmod _ _ = _) => kE)
  all_goals ((try dsimp only); refine hQ' _ _ (givesI eF ⟨_, _, _, rfl, News.fresh eN (.head _), News.get eN (.head _), ?_⟩))
  all_goals (unfold namesF; rw [kE])
  · exact .cons _ _ .nil
  · exact .cons _ _ (.cons _ _ .nil)
  · exact .cons _ _ (.cons _ _ (.cons _ _ .nil))
end Mine
namespace Mine
open PySem.Spec PySem.Calls PySem.W.X
noncomputable def headF (p : Str) : Str := Txt.slice p none (some (Txt.rfind p (Str.ofString "/") + 1))
noncomputable def dirF (p : Str) : Str := if ((headF p).length : Int) = 0 then headF p else if (headF p != Txt.mul (Str.ofString "/") ((headF p).length : Int)) = true then Txt.rstripChars (headF p) (Str.ofString "/") else headF p
theorem dirname_spec (w : World) (s : Shared) (p : Str) (t : Tok) (R : Rdy w s.heap) (hp : p.length ≤ 1000) :
    codeAny (model Challenge.rw_pd0082_01.row.prog w) (Ac 900 9000) (.call (.ref 156) ⟨[.str p t], []⟩) (Gives s (fun v _ => ∃ u, v = .str (dirF p) u)) s := by
  w_top off
  obtain ⟨X, mean, mg, mb, T⟩ := id R
  (refine' enterG (g := _) (led := []) (fun _ _ e => e) (Nat.le_refl _) (fun _ h => (nomatch h)) ?k1 ?k2 ?k6 ?k7 ?k8 ?k9 ?kB ?_ ?c2 ?c3 ?c4 ?c5; (case k1 => assumption); (case k2 => assumption); (case k6 => k_is); (case k7 => k_is); (case k8 => decide); (case k9 => first | exact BindsTo.of_eq rfl | (refine' kp_binds ?kx ?ke; (case kx => assumption); (case ke => exact fun _ => rfl))); (case kB => exact locs rfl); (case c2 => exact rfl); (case c3 => exact rfl); (case c4 => exact rfl); (case c5 => decide))
  intro L h₁ F N
  refine genQE ?_
  intro Q' hQ'
  replace F : Fr s.heap L h₁ (fun y => List.lookup y [(Str.ofString "p", Value.str p t)]) := F
  dsimp only
  repeat' (first | (k_unfold; (try dsimp only)) | ((with_reducible show wpAny _ _ (call (Value.ref _) _ _) _ _ _); first | with_reducible (((with_reducible rename Fr _ _ _ _ => lF'); (with_reducible rename News _ _ _ _ => lN'); (with_reducible rename Rdy _ _ => lR'); first   | (refine use_fspath lR' lF' lN' (by rfl) (by exact Nat.le_of_ble_eq_true rfl) (by exact Nat.le_of_ble_eq_true rfl) ?_; intro h' tk' F' N')   | (refine use_getsep lR' lF' lN' (by rfl) (by exact Nat.le_of_ble_eq_true rfl) (by exact Nat.le_of_ble_eq_true rfl) ?_; intro u' h' tk' F' N'))) | (((with_reducible rename Fr _ _ _ _ => lF'); (with_reducible rename News _ _ _ _ => lN'); (with_reducible rename Rdy _ _ => lR'); first   | (refine use_fspath lR' lF' lN' (by rfl) (by exact Nat.le_of_ble_eq_true rfl) (by exact Nat.le_of_ble_eq_true rfl) ?_; intro h' tk' F' N')   | (refine use_getsep lR' lF' lN' (by rfl) (by exact Nat.le_of_ble_eq_true rfl) (by exact Nat.le_of_ble_eq_true rfl) ?_; intro u' h' tk' F' N')))) | walk1 | (dsimp only; first | ((with_reducible show wpAny _ _ (call (Value.ref _) _ _) _ _ _); first | with_reducible (((with_reducible rename Fr _ _ _ _ => lF'); (with_reducible rename News _ _ _ _ => lN'); (with_reducible rename Rdy _ _ => lR'); first   | (refine use_fspath lR' lF' lN' (by rfl) (by exact Nat.le_of_ble_eq_true rfl) (by exact Nat.le_of_ble_eq_true rfl) ?_; intro h' tk' F' N')   | (refine use_getsep lR' lF' lN' (by rfl) (by exact Nat.le_of_ble_eq_true rfl) (by exact Nat.le_of_ble_eq_true rfl) ?_; intro u' h' tk' F' N'))) | (((with_reducible rename Fr _ _ _ _ => lF'); (with_reducible rename News _ _ _ _ => lN'); (with_reducible rename Rdy _ _ => lR'); first   | (refine use_fspath lR' lF' lN' (by rfl) (by exact Nat.le_of_ble_eq_true rfl) (by exact Nat.le_of_ble_eq_true rfl) ?_; intro h' tk' F' N')   | (refine use_getsep lR' lF' lN' (by rfl) (by exact Nat.le_of_ble_eq_true rfl) (by exact Nat.le_of_ble_eq_true rfl) ?_; intro u' h' tk' F' N')))) | walk1) | (leave1; walk_say "STEP leave1"; try dsimp only) | fail "no step")
  all_goals (with_reducible rename Fr _ _ _ _ => eF)
  · ((try dsimp only); refine hQ' _ _ (givesI eF ⟨_, congrArg (fun q => Value.str q _) ?_⟩))
    unfold dirF headF
    rw [if_neg (by assumption), if_pos (by assumption)]
  · ((try dsimp only); refine hQ' _ _ (givesI eF ⟨_, congrArg (fun q => Value.str q _) ?_⟩))
    unfold dirF headF
    rw [if_neg (by assumption), if_neg (by rename_i a; rw [a]; decide)]
  · ((try dsimp only); refine hQ' _ _ (givesI eF ⟨_, congrArg (fun q => Value.str q _) ?_⟩))
    unfold dirF headF
    rw [if_pos (by assumption)]
end Mine
namespace Mine
open PySem.Spec PySem.Calls PySem.W.X

open PySem.AutoSeq1 (wpAny_loadPart')
open PySem.MeetsSeq PySem.MeetsSeq2 PySem.MeetsSeq3
noncomputable def sLt (x y : Str) : Bool := decide (x.cps.toList < y.cps.toList)
noncomputable def cmpS (op : CmpOp) (x y : Str) : Bool := match op with
  | .Lt => sLt x y
  | .LtE => !(sLt y x)
  | _ => sLt y x
noncomputable def cmpN (op : CmpOp) (m n : Nat) : Bool := match op with
  | .Lt => decide (m < n)
  | .LtE => decide (m ≤ n)
  | _ => decide (m > n)
noncomputable def cmpL (op : CmpOp) : List Str → List Str → Bool
  | [], ys => cmpN op 0 ys.length
  | x :: xs, [] => cmpN op (x :: xs).length 0
  | x :: xs, y :: ys => if x == y then cmpL op xs ys else cmpS op x y
theorem strsAre_len {vs : List Value} {xs : List Str} (h : StrsAre vs xs) : vs.length = xs.length := by
  induction h with
  | nil => rfl
  | cons _ _ _ ih => simp [ih]
theorem strsAre_at {vs : List Value} {xs : List Str} (h : StrsAre vs xs) : ∀ {i : Nat} {v : Value}, vs[i]? = some v → ∃ y t, v = .str y t ∧ xs[i]? = some y := by
  induction h with
  | nil => intro i v e; simp at e
  | cons y t _ ih =>
    intro i v e
    cases i with
    | zero => cases e; exact ⟨y, t, rfl, rfl⟩
    | succ i => exact ih (by simpa using e)
theorem cmpN_add (op : CmpOp) (i m n : Nat) : cmpN op (i + m) (i + n) = cmpN op m n := by
  unfold cmpN
  cases op <;> simp
theorem cmpL_nil_left (op : CmpOp) (ys : List Str) : cmpL op [] ys = cmpN op 0 ys.length := by unfold cmpL; rfl
theorem cmpL_nil_right (op : CmpOp) (xs : List Str) : cmpL op xs [] = cmpN op xs.length 0 := by cases xs <;> (unfold cmpL; rfl)

theorem lt_loop (l b : Addr) (items items2 : Array Value) (n n2 : Nat) (dd dd2 : Option Addr) (sl sl2 : Array (Option Value)) (xs ys : List Str) (hxs : StrsAre items.toList xs) (hys : StrsAre items2.toList ys) (k : Nat) :
    ∀ i : Nat, min items.size items2.size - i = k → i ≤ min items.size items2.size → Meets (Builtin.«list.__eq__.loop» ⟨[.ref l, .ref b, rawInt i, rawInt 0], []⟩)
      (fun A R s => s.heap.get? l = some { cls := .type "list", dict := dd, data := .seq items n, slots := sl } ∧ s.heap.get? b = some { cls := .type "list", dict := dd2, data := .seq items2 n2, slots := sl2 } ∧
        R (.ok (.ret (.bool (cmpL .Lt (xs.drop i) (ys.drop i))))) s) := by
  have l1 : items.size = xs.length := by have := strsAre_len hxs; simpa using this
  have l2 : items2.size = ys.length := by have := strsAre_len hys; simpa using this
  induction k with
  | zero =>
    intro i hk hle prog w A R s h
    obtain ⟨hp, g, d, tk, os⟩ := s; obtain ⟨hl, hb, h⟩ := h
    wp_walk using wpAny_loadPart' hl, wpAny_loadPart' hb
    have hor : items.size = i ∨ items2.size = i := by omega
    have key : cmpL .Lt (xs.drop i) (ys.drop i) = cmpN .Lt items.size items2.size := by
      rw [l1, l2]
      rcases hor with e | e
      · have : xs.drop i = [] := by simp; omega
        rw [this, cmpL_nil_left]
        have := cmpN_add .Lt i 0 (ys.drop i).length
        rw [← this]
        congr 1 <;> simp <;> omega
      · have : ys.drop i = [] := by simp; omega
        rw [this, cmpL_nil_right]
        have := cmpN_add .Lt i (xs.drop i).length 0
        rw [← this]
        congr 1 <;> simp <;> omega
    rw [key] at h
    rcases hor with e | e
    · have hi1 : items[((i : Nat) : Int).toNat]? = none := by simp; omega
      rw [hi1]
      wp_walk using wpAny_loadPart' hl, wpAny_loadPart' hb
      exact h
    · have hi2 : items2[((i : Nat) : Int).toNat]? = none := by simp; omega
      rw [hi2]
      cases items[((i : Nat) : Int).toNat]? <;>
      · wp_walk using wpAny_loadPart' hl, wpAny_loadPart' hb
        exact h
  | succ k ih =>
    intro i hk hle prog w A R s h
    obtain ⟨hp, g, d, tk, os⟩ := s; obtain ⟨hl, hb, h⟩ := h
    wp_walk using wpAny_loadPart' hl, wpAny_loadPart' hb
    have hlt : i < items.size := by omega
    have hlt2 : i < items2.size := by omega
    obtain ⟨x, t, ex, hx⟩ := strsAre_at hxs (i := i) (v := items[i]) (by simp [hlt])
    obtain ⟨y, u, ey, hy⟩ := strsAre_at hys (i := i) (v := items2[i]) (by simp [hlt2])
    have hi1 : items[((i : Nat) : Int).toNat]? = some (.str x t) := by rw [← ex]; simp [hlt]
    have hi2 : items2[((i : Nat) : Int).toNat]? = some (.str y u) := by rw [← ey]; simp [hlt2]
    have hc : ((i : Int) + 1) = ((i + 1 : Nat) : Int) := by push_cast; rfl
    have d1 : xs.drop i = x :: xs.drop (i + 1) := by
      obtain ⟨hi, e⟩ := List.getElem?_eq_some_iff.mp hx
      rw [List.drop_eq_getElem_cons hi, e]
    have d2 : ys.drop i = y :: ys.drop (i + 1) := by
      obtain ⟨hi, e⟩ := List.getElem?_eq_some_iff.mp hy
      rw [List.drop_eq_getElem_cons hi, e]
    rw [d1, d2, cmpL] at h
    rw [hi1, hi2]
    refine wpAny_bind (eqBool_str ?_)
    cases hb' : (x == y) with
    | true =>
      rw [hb'] at h
      wp_walk
      rw [hc]
      exact ⟨plainId_quiet plain_eq_loop _, codeAny_builtin entry_eq_loop (by
        rw [Around.under_plainId plain_eq_loop _]
        exact ih (i + 1) (by omega) (by omega) prog w A R _ ⟨hl, hb, by simpa using h⟩)⟩
    | false =>
      rw [hb'] at h
      wp_walk using wpAny_loadPart' hl, wpAny_loadPart' hb
      rw [hi1, hi2]
      show wpAny _ _ (compareOp .Lt (.str x t) (.str y u) >>= fun v => ret v) _ _ _
      refine wpAny_bind (lt_str (wpAny_pure ?_))
      simpa [cmpS, sLt] using h

theorem le_loop (l b : Addr) (items items2 : Array Value) (n n2 : Nat) (dd dd2 : Option Addr) (sl sl2 : Array (Option Value)) (xs ys : List Str) (hxs : StrsAre items.toList xs) (hys : StrsAre items2.toList ys) (k : Nat) :
    ∀ i : Nat, min items.size items2.size - i = k → i ≤ min items.size items2.size → Meets (Builtin.«list.__eq__.loop» ⟨[.ref l, .ref b, rawInt i, rawInt 1], []⟩)
      (fun A R s => s.heap.get? l = some { cls := .type "list", dict := dd, data := .seq items n, slots := sl } ∧ s.heap.get? b = some { cls := .type "list", dict := dd2, data := .seq items2 n2, slots := sl2 } ∧
        R (.ok (.ret (.bool (cmpL .LtE (xs.drop i) (ys.drop i))))) s) := by
  have l1 : items.size = xs.length := by have := strsAre_len hxs; simpa using this
  have l2 : items2.size = ys.length := by have := strsAre_len hys; simpa using this
  induction k with
  | zero =>
    intro i hk hle prog w A R s h
    obtain ⟨hp, g, d, tk, os⟩ := s; obtain ⟨hl, hb, h⟩ := h
    wp_walk using wpAny_loadPart' hl, wpAny_loadPart' hb
    have hor : items.size = i ∨ items2.size = i := by omega
    have key : cmpL .LtE (xs.drop i) (ys.drop i) = cmpN .LtE items.size items2.size := by
      rw [l1, l2]
      rcases hor with e | e
      · have : xs.drop i = [] := by simp; omega
        rw [this, cmpL_nil_left]
        have := cmpN_add .LtE i 0 (ys.drop i).length
        rw [← this]
        congr 1 <;> simp <;> omega
      · have : ys.drop i = [] := by simp; omega
        rw [this, cmpL_nil_right]
        have := cmpN_add .LtE i (xs.drop i).length 0
        rw [← this]
        congr 1 <;> simp <;> omega
    rw [key] at h
    rcases hor with e | e
    · have hi1 : items[((i : Nat) : Int).toNat]? = none := by simp; omega
      rw [hi1]
      wp_walk using wpAny_loadPart' hl, wpAny_loadPart' hb
      exact h
    · have hi2 : items2[((i : Nat) : Int).toNat]? = none := by simp; omega
      rw [hi2]
      cases items[((i : Nat) : Int).toNat]? <;>
      · wp_walk using wpAny_loadPart' hl, wpAny_loadPart' hb
        exact h
  | succ k ih =>
    intro i hk hle prog w A R s h
    obtain ⟨hp, g, d, tk, os⟩ := s; obtain ⟨hl, hb, h⟩ := h
    wp_walk using wpAny_loadPart' hl, wpAny_loadPart' hb
    have hlt : i < items.size := by omega
    have hlt2 : i < items2.size := by omega
    obtain ⟨x, t, ex, hx⟩ := strsAre_at hxs (i := i) (v := items[i]) (by simp [hlt])
    obtain ⟨y, u, ey, hy⟩ := strsAre_at hys (i := i) (v := items2[i]) (by simp [hlt2])
    have hi1 : items[((i : Nat) : Int).toNat]? = some (.str x t) := by rw [← ex]; simp [hlt]
    have hi2 : items2[((i : Nat) : Int).toNat]? = some (.str y u) := by rw [← ey]; simp [hlt2]
    have hc : ((i : Int) + 1) = ((i + 1 : Nat) : Int) := by push_cast; rfl
    have d1 : xs.drop i = x :: xs.drop (i + 1) := by
      obtain ⟨hi, e⟩ := List.getElem?_eq_some_iff.mp hx
      rw [List.drop_eq_getElem_cons hi, e]
    have d2 : ys.drop i = y :: ys.drop (i + 1) := by
      obtain ⟨hi, e⟩ := List.getElem?_eq_some_iff.mp hy
      rw [List.drop_eq_getElem_cons hi, e]
    rw [d1, d2, cmpL] at h
    rw [hi1, hi2]
    refine wpAny_bind (eqBool_str ?_)
    cases hb' : (x == y) with
    | true =>
      rw [hb'] at h
      wp_walk
      rw [hc]
      exact ⟨plainId_quiet plain_eq_loop _, codeAny_builtin entry_eq_loop (by
        rw [Around.under_plainId plain_eq_loop _]
        exact ih (i + 1) (by omega) (by omega) prog w A R _ ⟨hl, hb, by simpa using h⟩)⟩
    | false =>
      rw [hb'] at h
      wp_walk using wpAny_loadPart' hl, wpAny_loadPart' hb
      rw [hi1, hi2]
      show wpAny _ _ (compareOp .LtE (.str x t) (.str y u) >>= fun v => ret v) _ _ _
      refine wpAny_bind (P.le_str (wpAny_pure ?_))
      simpa [cmpS, sLt] using h

theorem gt_loop (l b : Addr) (items items2 : Array Value) (n n2 : Nat) (dd dd2 : Option Addr) (sl sl2 : Array (Option Value)) (xs ys : List Str) (hxs : StrsAre items.toList xs) (hys : StrsAre items2.toList ys) (k : Nat) :
    ∀ i : Nat, min items.size items2.size - i = k → i ≤ min items.size items2.size → Meets (Builtin.«list.__eq__.loop» ⟨[.ref l, .ref b, rawInt i, rawInt 4], []⟩)
      (fun A R s => s.heap.get? l = some { cls := .type "list", dict := dd, data := .seq items n, slots := sl } ∧ s.heap.get? b = some { cls := .type "list", dict := dd2, data := .seq items2 n2, slots := sl2 } ∧
        R (.ok (.ret (.bool (cmpL .Gt (xs.drop i) (ys.drop i))))) s) := by
  have l1 : items.size = xs.length := by have := strsAre_len hxs; simpa using this
  have l2 : items2.size = ys.length := by have := strsAre_len hys; simpa using this
  induction k with
  | zero =>
    intro i hk hle prog w A R s h
    obtain ⟨hp, g, d, tk, os⟩ := s; obtain ⟨hl, hb, h⟩ := h
    wp_walk using wpAny_loadPart' hl, wpAny_loadPart' hb
    have hor : items.size = i ∨ items2.size = i := by omega
    have key : cmpL .Gt (xs.drop i) (ys.drop i) = cmpN .Gt items.size items2.size := by
      rw [l1, l2]
      rcases hor with e | e
      · have : xs.drop i = [] := by simp; omega
        rw [this, cmpL_nil_left]
        have := cmpN_add .Gt i 0 (ys.drop i).length
        rw [← this]
        congr 1 <;> simp <;> omega
      · have : ys.drop i = [] := by simp; omega
        rw [this, cmpL_nil_right]
        have := cmpN_add .Gt i (xs.drop i).length 0
        rw [← this]
        congr 1 <;> simp <;> omega
    rw [key] at h
    rcases hor with e | e
    · have hi1 : items[((i : Nat) : Int).toNat]? = none := by simp; omega
      rw [hi1]
      wp_walk using wpAny_loadPart' hl, wpAny_loadPart' hb
      exact h
    · have hi2 : items2[((i : Nat) : Int).toNat]? = none := by simp; omega
      rw [hi2]
      cases items[((i : Nat) : Int).toNat]? <;>
      · wp_walk using wpAny_loadPart' hl, wpAny_loadPart' hb
        exact h
  | succ k ih =>
    intro i hk hle prog w A R s h
    obtain ⟨hp, g, d, tk, os⟩ := s; obtain ⟨hl, hb, h⟩ := h
    wp_walk using wpAny_loadPart' hl, wpAny_loadPart' hb
    have hlt : i < items.size := by omega
    have hlt2 : i < items2.size := by omega
    obtain ⟨x, t, ex, hx⟩ := strsAre_at hxs (i := i) (v := items[i]) (by simp [hlt])
    obtain ⟨y, u, ey, hy⟩ := strsAre_at hys (i := i) (v := items2[i]) (by simp [hlt2])
    have hi1 : items[((i : Nat) : Int).toNat]? = some (.str x t) := by rw [← ex]; simp [hlt]
    have hi2 : items2[((i : Nat) : Int).toNat]? = some (.str y u) := by rw [← ey]; simp [hlt2]
    have hc : ((i : Int) + 1) = ((i + 1 : Nat) : Int) := by push_cast; rfl
    have d1 : xs.drop i = x :: xs.drop (i + 1) := by
      obtain ⟨hi, e⟩ := List.getElem?_eq_some_iff.mp hx
      rw [List.drop_eq_getElem_cons hi, e]
    have d2 : ys.drop i = y :: ys.drop (i + 1) := by
      obtain ⟨hi, e⟩ := List.getElem?_eq_some_iff.mp hy
      rw [List.drop_eq_getElem_cons hi, e]
    rw [d1, d2, cmpL] at h
    rw [hi1, hi2]
    refine wpAny_bind (eqBool_str ?_)
    cases hb' : (x == y) with
    | true =>
      rw [hb'] at h
      wp_walk
      rw [hc]
      exact ⟨plainId_quiet plain_eq_loop _, codeAny_builtin entry_eq_loop (by
        rw [Around.under_plainId plain_eq_loop _]
        exact ih (i + 1) (by omega) (by omega) prog w A R _ ⟨hl, hb, by simpa using h⟩)⟩
    | false =>
      rw [hb'] at h
      wp_walk using wpAny_loadPart' hl, wpAny_loadPart' hb
      rw [hi1, hi2]
      show wpAny _ _ (compareOp .Gt (.str x t) (.str y u) >>= fun v => ret v) _ _ _
      refine wpAny_bind (P.gt_str (wpAny_pure ?_))
      simpa [cmpS, sLt] using h
end Mine
namespace Mine
open PySem.Spec PySem.Calls PySem.W.X

open PySem.AutoSeq1 (wpAny_loadPart')
open PySem.MeetsSeq PySem.MeetsSeq2 PySem.MeetsSeq3

theorem list_ltS (l b : Addr) (items items2 : Array Value) (n n2 : Nat) (dd dd2 : Option Addr) (sl sl2 : Array (Option Value)) (xs ys : List Str) (hxs : StrsAre items.toList xs) (hys : StrsAre items2.toList ys) :
    Meets (Builtin.«list.__lt__» ⟨[.ref l, .ref b], []⟩)
      (fun A R s => s.heap.get? l = some { cls := .type "list", dict := dd, data := .seq items n, slots := sl } ∧ s.heap.get? b = some { cls := .type "list", dict := dd2, data := .seq items2 n2, slots := sl2 } ∧
        R (.ok (.ret (.bool (cmpL .Lt xs ys)))) s) := by
  intro prog w A R s h
  obtain ⟨hp, g, d, tk, os⟩ := s; obtain ⟨hl, hb, h⟩ := h
  have f3 := AutoSeq1.sub_list_list
  wp_walk using wpAny_loadPart' hl, wpAny_loadPart' hb
  exact ⟨plainId_quiet plain_eq_loop _, codeAny_builtin entry_eq_loop (by
    rw [Around.under_plainId plain_eq_loop _]
    exact lt_loop l b items items2 n n2 dd dd2 sl sl2 xs ys hxs hys _ 0 rfl (Nat.zero_le _) prog w A R _ ⟨hl, hb, by simpa using h⟩)⟩
theorem cmp_lt {prog : Program} {w : World} {A : Around} {E : Value → Shared → Prop} {s : Shared} {l b : Addr} {items items2 : Array Value} {n n2 : Nat} {xs ys : List Str} {Q : Value → Shared → Prop}
    (hu : A.units < cLine) (hl : s.heap.get? l = some (W.listOf items n)) (hb : s.heap.get? b = some (W.listOf items2 n2)) (hxs : StrsAre items.toList xs) (hys : StrsAre items2.toList ys) (h : Q (.bool (cmpL .Lt xs ys)) s) :
    wpAny (model prog w) A (richCompare .Lt (.ref l) (.ref b)) Q E s :=
  richCompare_meets_room (op := .Lt) ⟨_, hl, rfl⟩ ⟨_, hb, rfl⟩ F.slot_list_lt F.entry_list_lt (F.args_list_lt_2 _ _) (list_ltS l b items items2 n n2 none none #[] #[] xs ys hxs hys) ⟨hl, hb, show Value.bool (cmpL .Lt xs ys) ≠ Value.notImplemented ∧ Q (.bool (cmpL .Lt xs ys)) s from ⟨(fun e => nomatch e), h⟩⟩ hu

theorem list_leS (l b : Addr) (items items2 : Array Value) (n n2 : Nat) (dd dd2 : Option Addr) (sl sl2 : Array (Option Value)) (xs ys : List Str) (hxs : StrsAre items.toList xs) (hys : StrsAre items2.toList ys) :
    Meets (Builtin.«list.__le__» ⟨[.ref l, .ref b], []⟩)
      (fun A R s => s.heap.get? l = some { cls := .type "list", dict := dd, data := .seq items n, slots := sl } ∧ s.heap.get? b = some { cls := .type "list", dict := dd2, data := .seq items2 n2, slots := sl2 } ∧
        R (.ok (.ret (.bool (cmpL .LtE xs ys)))) s) := by
  intro prog w A R s h
  obtain ⟨hp, g, d, tk, os⟩ := s; obtain ⟨hl, hb, h⟩ := h
  have f3 := AutoSeq1.sub_list_list
  wp_walk using wpAny_loadPart' hl, wpAny_loadPart' hb
  exact ⟨plainId_quiet plain_eq_loop _, codeAny_builtin entry_eq_loop (by
    rw [Around.under_plainId plain_eq_loop _]
    exact le_loop l b items items2 n n2 dd dd2 sl sl2 xs ys hxs hys _ 0 rfl (Nat.zero_le _) prog w A R _ ⟨hl, hb, by simpa using h⟩)⟩
theorem cmp_le {prog : Program} {w : World} {A : Around} {E : Value → Shared → Prop} {s : Shared} {l b : Addr} {items items2 : Array Value} {n n2 : Nat} {xs ys : List Str} {Q : Value → Shared → Prop}
    (hu : A.units < cLine) (hl : s.heap.get? l = some (W.listOf items n)) (hb : s.heap.get? b = some (W.listOf items2 n2)) (hxs : StrsAre items.toList xs) (hys : StrsAre items2.toList ys) (h : Q (.bool (cmpL .LtE xs ys)) s) :
    wpAny (model prog w) A (richCompare .LtE (.ref l) (.ref b)) Q E s :=
  richCompare_meets_room (op := .LtE) ⟨_, hl, rfl⟩ ⟨_, hb, rfl⟩ F.slot_list_le F.entry_list_le (F.args_list_le_2 _ _) (list_leS l b items items2 n n2 none none #[] #[] xs ys hxs hys) ⟨hl, hb, show Value.bool (cmpL .LtE xs ys) ≠ Value.notImplemented ∧ Q (.bool (cmpL .LtE xs ys)) s from ⟨(fun e => nomatch e), h⟩⟩ hu

theorem list_gtS (l b : Addr) (items items2 : Array Value) (n n2 : Nat) (dd dd2 : Option Addr) (sl sl2 : Array (Option Value)) (xs ys : List Str) (hxs : StrsAre items.toList xs) (hys : StrsAre items2.toList ys) :
    Meets (Builtin.«list.__gt__» ⟨[.ref l, .ref b], []⟩)
      (fun A R s => s.heap.get? l = some { cls := .type "list", dict := dd, data := .seq items n, slots := sl } ∧ s.heap.get? b = some { cls := .type "list", dict := dd2, data := .seq items2 n2, slots := sl2 } ∧
        R (.ok (.ret (.bool (cmpL .Gt xs ys)))) s) := by
  intro prog w A R s h
  obtain ⟨hp, g, d, tk, os⟩ := s; obtain ⟨hl, hb, h⟩ := h
  have f3 := AutoSeq1.sub_list_list
  wp_walk using wpAny_loadPart' hl, wpAny_loadPart' hb
  exact ⟨plainId_quiet plain_eq_loop _, codeAny_builtin entry_eq_loop (by
    rw [Around.under_plainId plain_eq_loop _]
    exact gt_loop l b items items2 n n2 dd dd2 sl sl2 xs ys hxs hys _ 0 rfl (Nat.zero_le _) prog w A R _ ⟨hl, hb, by simpa using h⟩)⟩
theorem cmp_gt {prog : Program} {w : World} {A : Around} {E : Value → Shared → Prop} {s : Shared} {l b : Addr} {items items2 : Array Value} {n n2 : Nat} {xs ys : List Str} {Q : Value → Shared → Prop}
    (hu : A.units < cLine) (hl : s.heap.get? l = some (W.listOf items n)) (hb : s.heap.get? b = some (W.listOf items2 n2)) (hxs : StrsAre items.toList xs) (hys : StrsAre items2.toList ys) (h : Q (.bool (cmpL .Gt xs ys)) s) :
    wpAny (model prog w) A (richCompare .Gt (.ref l) (.ref b)) Q E s :=
  richCompare_meets_room (op := .Gt) ⟨_, hl, rfl⟩ ⟨_, hb, rfl⟩ F.slot_list_gt F.entry_list_gt (F.args_list_gt_2 _ _) (list_gtS l b items items2 n n2 none none #[] #[] xs ys hxs hys) ⟨hl, hb, show Value.bool (cmpL .Gt xs ys) ≠ Value.notImplemented ∧ Q (.bool (cmpL .Gt xs ys)) s from ⟨(fun e => nomatch e), h⟩⟩ hu
end Mine
namespace Mine
open PySem.Spec PySem.Calls PySem.W.X
section
variable {w : World} {A : Around} {s : Shared} {h₀ : Heap} {L : Addr} {m : Str → Option Value} {news : List (Addr × Obj)} {Q E : Value → Shared → Prop} {p q : Str} {t u : Tok} {l k : Addr} {vs ws : Array Value} {n n2 : Nat} {xs ys ps : List Str}
theorem isList_of {h : Heap} (F : Fr h₀ L h m) (hl : h₀.get? l = some (W.listOf vs n)) : h.IsList l vs := ⟨_, F.keep _ _ hl, rfl, n, rfl⟩
theorem use_len {prog : Program} (F : Fr h₀ L s.heap m) (hl : h₀.get? l = some (W.listOf vs n)) (hn : vs.size ≤ 1000) (h : Q (.int (vs.size : Int) (s.toks + 1)) { s with toks := s.toks + 1 + 1 }) :
    wpAny (model prog w) A (call (.builtin "len") [.ref l]) Q E s := len_list (isList_of F hl) (by omega) h
theorem getD_of {i : Nat} {y : Str} (h : ps[i]? = some y) : ps.getD i (Str.ofString "") = y := by simp [List.getD, h]
theorem use_item {prog : Program} {value slice : PySem.Expr} {i : Int} (F : Fr h₀ L s.heap m) (hl : h₀.get? l = some (W.listOf vs n)) (hps : StrsAre vs.toList ps) (h0 : 0 ≤ i) (h1 : i < ps.length) (hn : vs.size ≤ 1000)
    (h : ∀ t, Q (.str (ps.getD i.toNat (Str.ofString "")) t) s) (hs : subscripted slice false (.ref l) (.int i u) = operate [.ref l, .int i u] (getItem (.ref l) (.int i u)) := by with_unfolding_all rfl) :
    wpAny (model prog w) A (subscriptTail value slice (.ref l) (.int i u)) Q E s := by
  have hlen := strsAre_len hps
  have hi : i.toNat < vs.size := by have : vs.toList.length = vs.size := by simp
                                    omega
  obtain ⟨y, t, e, hy⟩ := strsAre_at hps (i := i.toNat) (v := vs[i.toNat]) (by simp [hi])
  have hl' := isList_of F hl
  refine tail_any hl'.typeIs slot_list_getitem.lookup (wpAny_getItem_list hl' h0 (by omega) (x := .str y t) (by rw [← e]; simp [hi]) ?_) hs
  have := h t
  rw [getD_of hy] at this
  exact this
theorem use_key (hp : p.length ≤ 1000) (R : Rdy w h₀) (F : Fr h₀ L s.heap m) (N : News h₀ L s.heap news) (hh : A.handled = none) (hd : A.depth ≤ 900) (hu : A.units ≤ 9000)
    (k : ∀ D vs n h' tk, StrsAre vs.toList (keyF p) → Fr h₀ L h' m → News h₀ L h' ((D, W.listOf vs n) :: news) → (∀ p ∈ news, p.1 ≠ D) → Q (.ref D) { s with heap := h', toks := tk }) :
    wpAny (model Challenge.rw_pd0082_01.row.prog w) A (call (.ref 178) [.str p t]) Q E s :=
  use (key_spec w s p t (R.fr F) hp) F N hh hd hu (fun v h' tk e g F' N' => by
    obtain ⟨D, vs, n, rfl, hD, ho, hS⟩ := e
    obtain ⟨a, b⟩ := news_add F N g hD ho
    exact k D vs n h' tk hS F' a b)
theorem cmp_lt_bl {prog : Program} {b : Addr} {items items2 : Array Value} (hu : A.units < cLine) (F : Fr h₀ L s.heap m) (N : News h₀ L s.heap news) (hl : h₀.get? l = some (W.listOf items n)) (hb : (b, W.listOf items2 n2) ∈ news) (hxs : StrsAre items.toList xs) (hys : StrsAre items2.toList ys) (h : Q (.bool (cmpL .Lt xs ys)) s) :
    wpAny (model prog w) A (compareOp .Lt (.ref l) (.ref b)) Q E s := cmp_ofLt (cmp_lt hu (F.keep _ _ hl) (News.get N hb) hxs hys h)
theorem cmp_lt_lb {prog : Program} {b : Addr} {items items2 : Array Value} (hu : A.units < cLine) (F : Fr h₀ L s.heap m) (N : News h₀ L s.heap news) (hl : h₀.get? l = some (W.listOf items n)) (hb : (b, W.listOf items2 n2) ∈ news) (hxs : StrsAre items.toList xs) (hys : StrsAre items2.toList ys) (h : Q (.bool (cmpL .Lt ys xs)) s) :
    wpAny (model prog w) A (compareOp .Lt (.ref b) (.ref l)) Q E s := cmp_ofLt (cmp_lt hu (News.get N hb) (F.keep _ _ hl) hys hxs h)
end
noncomputable def bsearch (p : Nat → Bool) : Nat → Nat → Nat → Nat
  | 0, lo, _ => lo
  | f + 1, lo, hi => if lo < hi then (if p ((lo + hi) / 2) then bsearch p f lo ((lo + hi) / 2) else bsearch p f ((lo + hi) / 2 + 1) hi) else lo
theorem bsearch_stop (p : Nat → Bool) : ∀ (f lo hi : Nat), ¬ lo < hi → bsearch p f lo hi = lo
  | 0, _, _, _ => rfl
  | f + 1, lo, hi, h => by unfold bsearch; rw [if_neg h]
theorem bsearch_fuel (p : Nat → Bool) : ∀ (f g lo hi : Nat), hi - lo ≤ f → hi - lo ≤ g → bsearch p f lo hi = bsearch p g lo hi
  | 0, g, lo, hi, h, _ => by rw [bsearch_stop p g lo hi (by omega)]; rfl
  | f + 1, 0, lo, hi, _, h => by rw [bsearch_stop p (f + 1) lo hi (by omega)]; rfl
  | f + 1, g + 1, lo, hi, hf, hg => by
    unfold bsearch
    by_cases hlt : lo < hi
    · rw [if_pos hlt, if_pos hlt]
      by_cases hp : p ((lo + hi) / 2) = true
      · rw [if_pos hp, if_pos hp]; exact bsearch_fuel p f g _ _ (by omega) (by omega)
      · rw [if_neg hp, if_neg hp]; exact bsearch_fuel p f g _ _ (by omega) (by omega)
    · rw [if_neg hlt, if_neg hlt]
theorem bsearch_up {p : Nat → Bool} {f lo hi r : Nat} (h : bsearch p f lo hi = r) (hf : hi - lo ≤ f) (hlt : lo < hi) (hp : p ((lo + hi) / 2) = false) : bsearch p (hi - ((lo + hi) / 2 + 1)) ((lo + hi) / 2 + 1) hi = r := by
  cases f with
  | zero => omega
  | succ f =>
    unfold bsearch at h
    rw [if_pos hlt, if_neg (by rw [hp]; decide)] at h
    rw [← h]; exact bsearch_fuel p _ _ _ _ (by omega) (by omega)
theorem bsearch_down {p : Nat → Bool} {f lo hi r : Nat} (h : bsearch p f lo hi = r) (hf : hi - lo ≤ f) (hlt : lo < hi) (hp : p ((lo + hi) / 2) = true) : bsearch p ((lo + hi) / 2 - lo) lo ((lo + hi) / 2) = r := by
  cases f with
  | zero => omega
  | succ f =>
    unfold bsearch at h
    rw [if_pos hlt, if_pos hp] at h
    rw [← h]; exact bsearch_fuel p _ _ _ _ (by omega) (by omega)
end Mine
namespace Mine
open PySem.Spec PySem.Calls PySem.W.X
noncomputable def bisM (l k : Addr) (lo hi : Nat) (tl th : Tok) (u : Option Value) : Str → Option Value := fun y =>
  if y = Str.ofString "lo" then some (.int (lo : Int) tl) else if y = Str.ofString "hi" then some (.int (hi : Int) th) else if y = Str.ofString "mid" then u else
    if y = Str.ofString "a" then some (.ref l) else if y = Str.ofString "x" then some (.ref k) else if y = Str.ofString "key" then some (.ref 178) else none
theorem bis_start {h₀ h : Heap} {L l k : Addr} {t th : Tok} {n : Nat} (F : Fr h₀ L h (fun y => if y = Str.ofString "hi" then some (.int (n : Int) th) else List.lookup y [(Str.ofString "key", .ref 178), (Str.ofString "hi", .none), (Str.ofString "lo", .int 0 t), (Str.ofString "x", .ref k), (Str.ofString "a", .ref l)])) :
    Fr h₀ L h (bisM l k 0 n t th none) := by
  have e : bisM l k 0 n t th none = (fun y => if y = Str.ofString "hi" then some (.int (n : Int) th) else List.lookup y [(Str.ofString "key", .ref 178), (Str.ofString "hi", .none), (Str.ofString "lo", .int 0 t), (Str.ofString "x", .ref k), (Str.ofString "a", .ref l)]) := by
    funext y
    unfold bisM
    by_cases h1 : y = Str.ofString "lo"
    · subst h1; rfl
    by_cases h2 : y = Str.ofString "hi"
    · subst h2; rfl
    by_cases h3 : y = Str.ofString "mid"
    · subst h3; rfl
    by_cases h4 : y = Str.ofString "a"
    · subst h4; rfl
    by_cases h5 : y = Str.ofString "x"
    · subst h5; rfl
    by_cases h6 : y = Str.ofString "key"
    · subst h6; rfl
    rw [if_neg h1, if_neg h2, if_neg h3, if_neg h4, if_neg h5, if_neg h6, if_neg h2]
    have z : ∀ x : Str, y ≠ x → (y == x) = false := fun x hx => by simpa using hx
    simp [List.lookup_cons, z _ h1, z _ h2, z _ h4, z _ h5, z _ h6]
  rw [e]; exact F
theorem bis_hi {h₀ h : Heap} {L l k : Addr} {tl th t1 t2 : Tok} {u : Option Value} {lo hi mid : Nat} {M : Int} (hM : M = (mid : Int)) (F : Fr h₀ L h (fun y => if y = Str.ofString "hi" then some (.int M t1) else if y = Str.ofString "mid" then some (.int M t2) else bisM l k lo hi tl th u y)) :
    Fr h₀ L h (bisM l k lo mid tl t1 (some (.int M t2))) := by
  have e : bisM l k lo mid tl t1 (some (.int M t2)) = (fun y => if y = Str.ofString "hi" then some (.int M t1) else if y = Str.ofString "mid" then some (.int M t2) else bisM l k lo hi tl th u y) := by
    funext y
    unfold bisM
    by_cases h1 : y = Str.ofString "lo"
    · subst h1; rfl
    by_cases h2 : y = Str.ofString "hi"
    · subst h2; rw [hM]; rfl
    by_cases h3 : y = Str.ofString "mid"
    · subst h3; rfl
    simp only [if_neg h1, if_neg h2, if_neg h3]
  rw [e]; exact F
theorem bis_lo {h₀ h : Heap} {L l k : Addr} {tl th t1 t2 : Tok} {u : Option Value} {lo hi mid : Nat} {M : Int} (hM : M = (mid : Int)) (F : Fr h₀ L h (fun y => if y = Str.ofString "lo" then some (.int (M + 1) t1) else if y = Str.ofString "mid" then some (.int M t2) else bisM l k lo hi tl th u y)) :
    Fr h₀ L h (bisM l k (mid + 1) hi t1 th (some (.int M t2))) := by
  have e : bisM l k (mid + 1) hi t1 th (some (.int M t2)) = (fun y => if y = Str.ofString "lo" then some (.int (M + 1) t1) else if y = Str.ofString "mid" then some (.int M t2) else bisM l k lo hi tl th u y) := by
    funext y
    unfold bisM
    by_cases h1 : y = Str.ofString "lo"
    · subst h1; rw [hM]; rfl
    by_cases h2 : y = Str.ofString "hi"
    · subst h2; rfl
    by_cases h3 : y = Str.ofString "mid"
    · subst h3; rfl
    simp only [if_neg h1, if_neg h2, if_neg h3]
  rw [e]; exact F
theorem mid_eq (lo hi : Nat) : ((lo : Int) + (hi : Int)).fdiv 2 = (((lo + hi) / 2 : Nat) : Int) := by
  rw [Int.fdiv_eq_ediv_of_nonneg _ (by decide)]
  omega
theorem getD_le {ps : List Str} (h : ∀ p ∈ ps, p.length ≤ 1000) (i : Nat) : (ps.getD i (Str.ofString "")).length ≤ 1000 := by
  unfold List.getD
  cases e : ps[i]? with
  | none => decide
  | some p => exact h p (List.mem_of_getElem? e)
theorem br_spec (w : World) (s : Shared) (l k : Addr) (t : Tok) (vs ws : Array Value) (n n2 : Nat) (ps xs : List Str) (R : Rdy w s.heap) (hl : s.heap.get? l = some (W.listOf vs n)) (hk : s.heap.get? k = some (W.listOf ws n2)) (hps : StrsAre vs.toList ps) (hxs : StrsAre ws.toList xs) (hn : vs.size ≤ 1000) (hpl : ∀ p ∈ ps, p.length ≤ 1000) :
    codeAny (model Challenge.rw_pd0082_01.row.prog w) (Ac 850 8500) (.call (.ref 39) ⟨[.ref l, .ref k, .int 0 t, .none], [(Str.ofString "key", .ref 178)]⟩) (Gives s (fun v _ => ∃ u, v = .int (bsearch (fun j => cmpL .Lt xs (keyF (ps.getD j (Str.ofString "")))) ps.length 0 ps.length : Nat) u)) s := by
  w_top off
  obtain ⟨X, mean, mg, mb, T⟩ := id R
  (refine' enterG (g := _) (led := []) (fun _ _ e => e) (Nat.le_refl _) (fun _ h => (nomatch h)) ?k1 ?k2 ?k6 ?k7 ?k8 ?k9 ?kB ?_ ?c2 ?c3 ?c4 ?c5; (case k1 => assumption); (case k2 => assumption); (case k6 => k_is); (case k7 => k_is); (case k8 => decide); (case k9 => first | exact BindsTo.of_eq rfl | (refine' kp_binds ?kx ?ke; (case kx => assumption); (case ke => exact fun _ => rfl))); (case kB => exact locs rfl); (case c2 => exact rfl); (case c3 => exact rfl); (case c4 => exact rfl); (case c5 => decide))
  intro L h₁ F N
  refine genQE ?_
  intro Q' hQ'
  replace F : Fr s.heap L h₁ (fun y => List.lookup y [(Str.ofString "key", .ref 178), (Str.ofString "hi", .none), (Str.ofString "lo", .int 0 t), (Str.ofString "x", .ref k), (Str.ofString "a", .ref l)]) := F
  dsimp only
  repeat' (first | (k_unfold; (try dsimp only)) | ((with_reducible show wpAny _ _ (compareOp CmpOp.Lt (Value.ref _) (Value.ref _)) _ _ _); first | with_reducible (((with_reducible rename Fr _ _ _ _ => lF'); (with_reducible rename News _ _ _ _ => lN'); k_dflt (first   | refine cmp_lt_bl (by exact Nat.le_of_ble_eq_true rfl) lF' lN' (by assumption) (by k_mem) (by assumption) (by assumption) ?_   | refine cmp_lt_lb (by exact Nat.le_of_ble_eq_true rfl) lF' lN' (by assumption) (by k_mem) (by assumption) (by assumption) ?_))) | (((with_reducible rename Fr _ _ _ _ => lF'); (with_reducible rename News _ _ _ _ => lN'); k_dflt (first   | refine cmp_lt_bl (by exact Nat.le_of_ble_eq_true rfl) lF' lN' (by assumption) (by k_mem) (by assumption) (by assumption) ?_   | refine cmp_lt_lb (by exact Nat.le_of_ble_eq_true rfl) lF' lN' (by assumption) (by k_mem) (by assumption) (by assumption) ?_)))) | ((with_reducible show wpAny _ _ (subscriptTail _ _ (Value.ref _) (Value.int _ _)) _ _ _); first | with_reducible (((with_reducible show wpAny _ _ (subscriptTail _ _ (Value.ref _) (Value.int _ _)) _ _ _); (with_reducible rename Fr _ _ _ _ => lF'); k_dflt (refine use_item lF' (by assumption) (by assumption) (by assumption) (by assumption) (by assumption) ?_ (by with_unfolding_all rfl)); intro tq')) | (((with_reducible show wpAny _ _ (subscriptTail _ _ (Value.ref _) (Value.int _ _)) _ _ _); (with_reducible rename Fr _ _ _ _ => lF'); k_dflt (refine use_item lF' (by assumption) (by assumption) (by assumption) (by assumption) (by assumption) ?_ (by with_unfolding_all rfl)); intro tq'))) | ((with_reducible show wpAny _ _ (call _ _ _) _ _ _); first | ((with_reducible show wpAny _ _ (call (Value.builtin "len") _ _) _ _ _); first | with_reducible (((with_reducible show wpAny _ _ (call (Value.builtin "len") [Value.ref _]) _ _ _); (with_reducible rename Fr _ _ _ _ => lF'); k_dflt (refine use_len lF' (by assumption) (by assumption) ?_))) | (((with_reducible show wpAny _ _ (call (Value.builtin "len") [Value.ref _]) _ _ _); (with_reducible rename Fr _ _ _ _ => lF'); k_dflt (refine use_len lF' (by assumption) (by assumption) ?_)))) | ((with_reducible show wpAny _ _ (call (Value.ref _) _ _) _ _ _); first | with_reducible (((with_reducible rename Fr _ _ _ _ => lF'); (with_reducible rename News _ _ _ _ => lN'); (with_reducible rename Rdy _ _ => lR'); first   | (refine use_fspath lR' lF' lN' (by rfl) (by exact Nat.le_of_ble_eq_true rfl) (by exact Nat.le_of_ble_eq_true rfl) ?_; intro h' tk' F' N')   | (refine use_key (by assumption) lR' lF' lN' (by rfl) (by exact Nat.le_of_ble_eq_true rfl) (by exact Nat.le_of_ble_eq_true rfl) ?_; intro D' v1' n1' h' tk' hS' F' N' ne'; (replace ne' := allNe_of ne'); (simp only [AllNe, and_true] at ne')))) | (((with_reducible rename Fr _ _ _ _ => lF'); (with_reducible rename News _ _ _ _ => lN'); (with_reducible rename Rdy _ _ => lR'); first   | (refine use_fspath lR' lF' lN' (by rfl) (by exact Nat.le_of_ble_eq_true rfl) (by exact Nat.le_of_ble_eq_true rfl) ?_; intro h' tk' F' N')   | (refine use_key (by assumption) lR' lF' lN' (by rfl) (by exact Nat.le_of_ble_eq_true rfl) (by exact Nat.le_of_ble_eq_true rfl) ?_; intro D' v1' n1' h' tk' hS' F' N' ne'; (replace ne' := allNe_of ne'); (simp only [AllNe, and_true] at ne')))))) | ((with_reducible show wpAny _ _ (exec (Stmt.While _ _ _ _) _) _ _ _); first | with_reducible ((refine Halt.out ?_)) | ((refine Halt.out ?_))) | walk1 | (dsimp only; first | ((with_reducible show wpAny _ _ (compareOp CmpOp.Lt (Value.ref _) (Value.ref _)) _ _ _); first | with_reducible (((with_reducible rename Fr _ _ _ _ => lF'); (with_reducible rename News _ _ _ _ => lN'); k_dflt (first   | refine cmp_lt_bl (by exact Nat.le_of_ble_eq_true rfl) lF' lN' (by assumption) (by k_mem) (by assumption) (by assumption) ?_   | refine cmp_lt_lb (by exact Nat.le_of_ble_eq_true rfl) lF' lN' (by assumption) (by k_mem) (by assumption) (by assumption) ?_))) | (((with_reducible rename Fr _ _ _ _ => lF'); (with_reducible rename News _ _ _ _ => lN'); k_dflt (first   | refine cmp_lt_bl (by exact Nat.le_of_ble_eq_true rfl) lF' lN' (by assumption) (by k_mem) (by assumption) (by assumption) ?_   | refine cmp_lt_lb (by exact Nat.le_of_ble_eq_true rfl) lF' lN' (by assumption) (by k_mem) (by assumption) (by assumption) ?_)))) | ((with_reducible show wpAny _ _ (subscriptTail _ _ (Value.ref _) (Value.int _ _)) _ _ _); first | with_reducible (((with_reducible show wpAny _ _ (subscriptTail _ _ (Value.ref _) (Value.int _ _)) _ _ _); (with_reducible rename Fr _ _ _ _ => lF'); k_dflt (refine use_item lF' (by assumption) (by assumption) (by assumption) (by assumption) (by assumption) ?_ (by with_unfolding_all rfl)); intro tq')) | (((with_reducible show wpAny _ _ (subscriptTail _ _ (Value.ref _) (Value.int _ _)) _ _ _); (with_reducible rename Fr _ _ _ _ => lF'); k_dflt (refine use_item lF' (by assumption) (by assumption) (by assumption) (by assumption) (by assumption) ?_ (by with_unfolding_all rfl)); intro tq'))) | ((with_reducible show wpAny _ _ (call _ _ _) _ _ _); first | ((with_reducible show wpAny _ _ (call (Value.builtin "len") _ _) _ _ _); first | with_reducible (((with_reducible show wpAny _ _ (call (Value.builtin "len") [Value.ref _]) _ _ _); (with_reducible rename Fr _ _ _ _ => lF'); k_dflt (refine use_len lF' (by assumption) (by assumption) ?_))) | (((with_reducible show wpAny _ _ (call (Value.builtin "len") [Value.ref _]) _ _ _); (with_reducible rename Fr _ _ _ _ => lF'); k_dflt (refine use_len lF' (by assumption) (by assumption) ?_)))) | ((with_reducible show wpAny _ _ (call (Value.ref _) _ _) _ _ _); first | with_reducible (((with_reducible rename Fr _ _ _ _ => lF'); (with_reducible rename News _ _ _ _ => lN'); (with_reducible rename Rdy _ _ => lR'); first   | (refine use_fspath lR' lF' lN' (by rfl) (by exact Nat.le_of_ble_eq_true rfl) (by exact Nat.le_of_ble_eq_true rfl) ?_; intro h' tk' F' N')   | (refine use_key (by assumption) lR' lF' lN' (by rfl) (by exact Nat.le_of_ble_eq_true rfl) (by exact Nat.le_of_ble_eq_true rfl) ?_; intro D' v1' n1' h' tk' hS' F' N' ne'; (replace ne' := allNe_of ne'); (simp only [AllNe, and_true] at ne')))) | (((with_reducible rename Fr _ _ _ _ => lF'); (with_reducible rename News _ _ _ _ => lN'); (with_reducible rename Rdy _ _ => lR'); first   | (refine use_fspath lR' lF' lN' (by rfl) (by exact Nat.le_of_ble_eq_true rfl) (by exact Nat.le_of_ble_eq_true rfl) ?_; intro h' tk' F' N')   | (refine use_key (by assumption) lR' lF' lN' (by rfl) (by exact Nat.le_of_ble_eq_true rfl) (by exact Nat.le_of_ble_eq_true rfl) ?_; intro D' v1' n1' h' tk' hS' F' N' ne'; (replace ne' := allNe_of ne'); (simp only [AllNe, and_true] at ne')))))) | ((with_reducible show wpAny _ _ (exec (Stmt.While _ _ _ _) _) _ _ _); first | with_reducible ((refine Halt.out ?_)) | ((refine Halt.out ?_))) | walk1) | (leave1; walk_say "STEP leave1"; try dsimp only) | fail "no step")
  refine Halt.mk ?_
  (with_reducible rename Fr _ _ _ _ => eF)
  have hlen : ps.length = vs.size := by have := strsAre_len hps; simpa using this.symm
  have eF2 := bis_start eF
  rw [← hlen] at eF2
  refine While_inv (h₀ := s.heap) (L := L) (news := []) (n₀ := ps.length) (fun f m news => news = [] ∧ ∃ lo hi tl th u, m = bisM l k lo hi tl th u ∧ lo ≤ hi ∧ hi ≤ ps.length ∧ f = hi - lo ∧ bsearch (fun j => cmpL .Lt xs (keyF (ps.getD j (Str.ofString "")))) (hi - lo) lo hi = bsearch (fun j => cmpL .Lt xs (keyF (ps.getD j (Str.ofString "")))) ps.length 0 ps.length) eF2 (fun _ h => (nomatch h)) ⟨rfl, 0, ps.length, _, _, none, rfl, Nat.zero_le _, Nat.le_refl _, rfl, rfl⟩ ?_
  rintro f m₁ news₁ h tk F₁ N₁ ⟨rfl, lo, hi, tl, th, u, rfl, hle, hhi, rfl, hb⟩
  clear eF eF2
  by_cases hlt : lo < hi
  · have hlt' : (lo : Int) < (hi : Int) := by omega
    have hm := mid_eq lo hi
    have hm0 : 0 ≤ ((lo : Int) + (hi : Int)).fdiv 2 := by omega
    have hm1 : ((lo : Int) + (hi : Int)).fdiv 2 < (ps.length : Int) := by omega
    have hpm := getD_le hpl (((lo : Int) + (hi : Int)).fdiv 2).toNat
    have hmt : (((lo : Int) + (hi : Int)).fdiv 2).toNat = (lo + hi) / 2 := by omega
    unfold bisM at F₁
    repeat' (first | (k_unfold; (try dsimp only)) | ((with_reducible show wpAny _ _ (compareOp CmpOp.Lt (Value.ref _) (Value.ref _)) _ _ _); first | with_reducible (((with_reducible rename Fr _ _ _ _ => lF'); (with_reducible rename News _ _ _ _ => lN'); k_dflt (first   | refine cmp_lt_bl (by exact Nat.le_of_ble_eq_true rfl) lF' lN' (by assumption) (by k_mem) (by assumption) (by assumption) ?_   | refine cmp_lt_lb (by exact Nat.le_of_ble_eq_true rfl) lF' lN' (by assumption) (by k_mem) (by assumption) (by assumption) ?_))) | (((with_reducible rename Fr _ _ _ _ => lF'); (with_reducible rename News _ _ _ _ => lN'); k_dflt (first   | refine cmp_lt_bl (by exact Nat.le_of_ble_eq_true rfl) lF' lN' (by assumption) (by k_mem) (by assumption) (by assumption) ?_   | refine cmp_lt_lb (by exact Nat.le_of_ble_eq_true rfl) lF' lN' (by assumption) (by k_mem) (by assumption) (by assumption) ?_)))) | ((with_reducible show wpAny _ _ (subscriptTail _ _ (Value.ref _) (Value.int _ _)) _ _ _); first | with_reducible (((with_reducible show wpAny _ _ (subscriptTail _ _ (Value.ref _) (Value.int _ _)) _ _ _); (with_reducible rename Fr _ _ _ _ => lF'); k_dflt (refine use_item lF' (by assumption) (by assumption) (by assumption) (by assumption) (by assumption) ?_ (by with_unfolding_all rfl)); intro tq')) | (((with_reducible show wpAny _ _ (subscriptTail _ _ (Value.ref _) (Value.int _ _)) _ _ _); (with_reducible rename Fr _ _ _ _ => lF'); k_dflt (refine use_item lF' (by assumption) (by assumption) (by assumption) (by assumption) (by assumption) ?_ (by with_unfolding_all rfl)); intro tq'))) | ((with_reducible show wpAny _ _ (call _ _ _) _ _ _); first | ((with_reducible show wpAny _ _ (call (Value.builtin "len") _ _) _ _ _); first | with_reducible (((with_reducible show wpAny _ _ (call (Value.builtin "len") [Value.ref _]) _ _ _); (with_reducible rename Fr _ _ _ _ => lF'); k_dflt (refine use_len lF' (by assumption) (by assumption) ?_))) | (((with_reducible show wpAny _ _ (call (Value.builtin "len") [Value.ref _]) _ _ _); (with_reducible rename Fr _ _ _ _ => lF'); k_dflt (refine use_len lF' (by assumption) (by assumption) ?_)))) | ((with_reducible show wpAny _ _ (call (Value.ref _) _ _) _ _ _); first | with_reducible (((with_reducible rename Fr _ _ _ _ => lF'); (with_reducible rename News _ _ _ _ => lN'); (with_reducible rename Rdy _ _ => lR'); first   | (refine use_fspath lR' lF' lN' (by rfl) (by exact Nat.le_of_ble_eq_true rfl) (by exact Nat.le_of_ble_eq_true rfl) ?_; intro h' tk' F' N')   | (refine use_key (by assumption) lR' lF' lN' (by rfl) (by exact Nat.le_of_ble_eq_true rfl) (by exact Nat.le_of_ble_eq_true rfl) ?_; intro D' v1' n1' h' tk' hS' F' N' ne'; (replace ne' := allNe_of ne'); (simp only [AllNe, and_true] at ne')))) | (((with_reducible rename Fr _ _ _ _ => lF'); (with_reducible rename News _ _ _ _ => lN'); (with_reducible rename Rdy _ _ => lR'); first   | (refine use_fspath lR' lF' lN' (by rfl) (by exact Nat.le_of_ble_eq_true rfl) (by exact Nat.le_of_ble_eq_true rfl) ?_; intro h' tk' F' N')   | (refine use_key (by assumption) lR' lF' lN' (by rfl) (by exact Nat.le_of_ble_eq_true rfl) (by exact Nat.le_of_ble_eq_true rfl) ?_; intro D' v1' n1' h' tk' hS' F' N' ne'; (replace ne' := allNe_of ne'); (simp only [AllNe, and_true] at ne')))))) | ((with_reducible show wpAny _ _ (exec (Stmt.While _ _ _ _) _) _ _ _); first | with_reducible ((refine Halt.out ?_)) | ((refine Halt.out ?_))) | walk1 | (dsimp only; first | ((with_reducible show wpAny _ _ (compareOp CmpOp.Lt (Value.ref _) (Value.ref _)) _ _ _); first | with_reducible (((with_reducible rename Fr _ _ _ _ => lF'); (with_reducible rename News _ _ _ _ => lN'); k_dflt (first   | refine cmp_lt_bl (by exact Nat.le_of_ble_eq_true rfl) lF' lN' (by assumption) (by k_mem) (by assumption) (by assumption) ?_   | refine cmp_lt_lb (by exact Nat.le_of_ble_eq_true rfl) lF' lN' (by assumption) (by k_mem) (by assumption) (by assumption) ?_))) | (((with_reducible rename Fr _ _ _ _ => lF'); (with_reducible rename News _ _ _ _ => lN'); k_dflt (first   | refine cmp_lt_bl (by exact Nat.le_of_ble_eq_true rfl) lF' lN' (by assumption) (by k_mem) (by assumption) (by assumption) ?_   | refine cmp_lt_lb (by exact Nat.le_of_ble_eq_true rfl) lF' lN' (by assumption) (by k_mem) (by assumption) (by assumption) ?_)))) | ((with_reducible show wpAny _ _ (subscriptTail _ _ (Value.ref _) (Value.int _ _)) _ _ _); first | with_reducible (((with_reducible show wpAny _ _ (subscriptTail _ _ (Value.ref _) (Value.int _ _)) _ _ _); (with_reducible rename Fr _ _ _ _ => lF'); k_dflt (refine use_item lF' (by assumption) (by assumption) (by assumption) (by assumption) (by assumption) ?_ (by with_unfolding_all rfl)); intro tq')) | (((with_reducible show wpAny _ _ (subscriptTail _ _ (Value.ref _) (Value.int _ _)) _ _ _); (with_reducible rename Fr _ _ _ _ => lF'); k_dflt (refine use_item lF' (by assumption) (by assumption) (by assumption) (by assumption) (by assumption) ?_ (by with_unfolding_all rfl)); intro tq'))) | ((with_reducible show wpAny _ _ (call _ _ _) _ _ _); first | ((with_reducible show wpAny _ _ (call (Value.builtin "len") _ _) _ _ _); first | with_reducible (((with_reducible show wpAny _ _ (call (Value.builtin "len") [Value.ref _]) _ _ _); (with_reducible rename Fr _ _ _ _ => lF'); k_dflt (refine use_len lF' (by assumption) (by assumption) ?_))) | (((with_reducible show wpAny _ _ (call (Value.builtin "len") [Value.ref _]) _ _ _); (with_reducible rename Fr _ _ _ _ => lF'); k_dflt (refine use_len lF' (by assumption) (by assumption) ?_)))) | ((with_reducible show wpAny _ _ (call (Value.ref _) _ _) _ _ _); first | with_reducible (((with_reducible rename Fr _ _ _ _ => lF'); (with_reducible rename News _ _ _ _ => lN'); (with_reducible rename Rdy _ _ => lR'); first   | (refine use_fspath lR' lF' lN' (by rfl) (by exact Nat.le_of_ble_eq_true rfl) (by exact Nat.le_of_ble_eq_true rfl) ?_; intro h' tk' F' N')   | (refine use_key (by assumption) lR' lF' lN' (by rfl) (by exact Nat.le_of_ble_eq_true rfl) (by exact Nat.le_of_ble_eq_true rfl) ?_; intro D' v1' n1' h' tk' hS' F' N' ne'; (replace ne' := allNe_of ne'); (simp only [AllNe, and_true] at ne')))) | (((with_reducible rename Fr _ _ _ _ => lF'); (with_reducible rename News _ _ _ _ => lN'); (with_reducible rename Rdy _ _ => lR'); first   | (refine use_fspath lR' lF' lN' (by rfl) (by exact Nat.le_of_ble_eq_true rfl) (by exact Nat.le_of_ble_eq_true rfl) ?_; intro h' tk' F' N')   | (refine use_key (by assumption) lR' lF' lN' (by rfl) (by exact Nat.le_of_ble_eq_true rfl) (by exact Nat.le_of_ble_eq_true rfl) ?_; intro D' v1' n1' h' tk' hS' F' N' ne'; (replace ne' := allNe_of ne'); (simp only [AllNe, and_true] at ne')))))) | ((with_reducible show wpAny _ _ (exec (Stmt.While _ _ _ _) _) _ _ _); first | with_reducible ((refine Halt.out ?_)) | ((refine Halt.out ?_))) | walk1) | (leave1; walk_say "STEP leave1"; try dsimp only) | fail "no step")
    all_goals (with_reducible rename Fr _ _ _ _ => eF)
    all_goals (rename (cmpL _ _ _ = _) => hc)
    all_goals (rw [hmt] at hc)
    · exact WhileStep.intro (bis_hi hm eF) News.nil (by omega) ⟨rfl, lo, _, _, _, _, rfl, by omega, by omega, rfl, bsearch_down hb (Nat.le_refl _) hlt hc⟩
    · exact WhileStep.intro (bis_lo hm eF) News.nil (by omega) ⟨rfl, _, hi, _, _, _, rfl, by omega, by omega, rfl, bsearch_up hb (Nat.le_refl _) hlt hc⟩
  · have hlt' : ¬ (lo : Int) < (hi : Int) := by omega
    unfold bisM at F₁
    repeat' (first | (k_unfold; (try dsimp only)) | ((with_reducible show wpAny _ _ (compareOp CmpOp.Lt (Value.ref _) (Value.ref _)) _ _ _); first | with_reducible (((with_reducible rename Fr _ _ _ _ => lF'); (with_reducible rename News _ _ _ _ => lN'); k_dflt (first   | refine cmp_lt_bl (by exact Nat.le_of_ble_eq_true rfl) lF' lN' (by assumption) (by k_mem) (by assumption) (by assumption) ?_   | refine cmp_lt_lb (by exact Nat.le_of_ble_eq_true rfl) lF' lN' (by assumption) (by k_mem) (by assumption) (by assumption) ?_))) | (((with_reducible rename Fr _ _ _ _ => lF'); (with_reducible rename News _ _ _ _ => lN'); k_dflt (first   | refine cmp_lt_bl (by exact Nat.le_of_ble_eq_true rfl) lF' lN' (by assumption) (by k_mem) (by assumption) (by assumption) ?_   | refine cmp_lt_lb (by exact Nat.le_of_ble_eq_true rfl) lF' lN' (by assumption) (by k_mem) (by assumption) (by assumption) ?_)))) | ((with_reducible show wpAny _ _ (subscriptTail _ _ (Value.ref _) (Value.int _ _)) _ _ _); first | with_reducible (((with_reducible show wpAny _ _ (subscriptTail _ _ (Value.ref _) (Value.int _ _)) _ _ _); (with_reducible rename Fr _ _ _ _ => lF'); k_dflt (refine use_item lF' (by assumption) (by assumption) (by assumption) (by assumption) (by assumption) ?_ (by with_unfolding_all rfl)); intro tq')) | (((with_reducible show wpAny _ _ (subscriptTail _ _ (Value.ref _) (Value.int _ _)) _ _ _); (with_reducible rename Fr _ _ _ _ => lF'); k_dflt (refine use_item lF' (by assumption) (by assumption) (by assumption) (by assumption) (by assumption) ?_ (by with_unfolding_all rfl)); intro tq'))) | ((with_reducible show wpAny _ _ (call _ _ _) _ _ _); first | ((with_reducible show wpAny _ _ (call (Value.builtin "len") _ _) _ _ _); first | with_reducible (((with_reducible show wpAny _ _ (call (Value.builtin "len") [Value.ref _]) _ _ _); (with_reducible rename Fr _ _ _ _ => lF'); k_dflt (refine use_len lF' (by assumption) (by assumption) ?_))) | (((with_reducible show wpAny _ _ (call (Value.builtin "len") [Value.ref _]) _ _ _); (with_reducible rename Fr _ _ _ _ => lF'); k_dflt (refine use_len lF' (by assumption) (by assumption) ?_)))) | ((with_reducible show wpAny _ _ (call (Value.ref _) _ _) _ _ _); first | with_reducible (((with_reducible rename Fr _ _ _ _ => lF'); (with_reducible rename News _ _ _ _ => lN'); (with_reducible rename Rdy _ _ => lR'); first   | (refine use_fspath lR' lF' lN' (by rfl) (by exact Nat.le_of_ble_eq_true rfl) (by exact Nat.le_of_ble_eq_true rfl) ?_; intro h' tk' F' N')   | (refine use_key (by assumption) lR' lF' lN' (by rfl) (by exact Nat.le_of_ble_eq_true rfl) (by exact Nat.le_of_ble_eq_true rfl) ?_; intro D' v1' n1' h' tk' hS' F' N' ne'; (replace ne' := allNe_of ne'); (simp only [AllNe, and_true] at ne')))) | (((with_reducible rename Fr _ _ _ _ => lF'); (with_reducible rename News _ _ _ _ => lN'); (with_reducible rename Rdy _ _ => lR'); first   | (refine use_fspath lR' lF' lN' (by rfl) (by exact Nat.le_of_ble_eq_true rfl) (by exact Nat.le_of_ble_eq_true rfl) ?_; intro h' tk' F' N')   | (refine use_key (by assumption) lR' lF' lN' (by rfl) (by exact Nat.le_of_ble_eq_true rfl) (by exact Nat.le_of_ble_eq_true rfl) ?_; intro D' v1' n1' h' tk' hS' F' N' ne'; (replace ne' := allNe_of ne'); (simp only [AllNe, and_true] at ne')))))) | ((with_reducible show wpAny _ _ (exec (Stmt.While _ _ _ _) _) _ _ _); first | with_reducible ((refine Halt.out ?_)) | ((refine Halt.out ?_))) | walk1 | (dsimp only; first | ((with_reducible show wpAny _ _ (compareOp CmpOp.Lt (Value.ref _) (Value.ref _)) _ _ _); first | with_reducible (((with_reducible rename Fr _ _ _ _ => lF'); (with_reducible rename News _ _ _ _ => lN'); k_dflt (first   | refine cmp_lt_bl (by exact Nat.le_of_ble_eq_true rfl) lF' lN' (by assumption) (by k_mem) (by assumption) (by assumption) ?_   | refine cmp_lt_lb (by exact Nat.le_of_ble_eq_true rfl) lF' lN' (by assumption) (by k_mem) (by assumption) (by assumption) ?_))) | (((with_reducible rename Fr _ _ _ _ => lF'); (with_reducible rename News _ _ _ _ => lN'); k_dflt (first   | refine cmp_lt_bl (by exact Nat.le_of_ble_eq_true rfl) lF' lN' (by assumption) (by k_mem) (by assumption) (by assumption) ?_   | refine cmp_lt_lb (by exact Nat.le_of_ble_eq_true rfl) lF' lN' (by assumption) (by k_mem) (by assumption) (by assumption) ?_)))) | ((with_reducible show wpAny _ _ (subscriptTail _ _ (Value.ref _) (Value.int _ _)) _ _ _); first | with_reducible (((with_reducible show wpAny _ _ (subscriptTail _ _ (Value.ref _) (Value.int _ _)) _ _ _); (with_reducible rename Fr _ _ _ _ => lF'); k_dflt (refine use_item lF' (by assumption) (by assumption) (by assumption) (by assumption) (by assumption) ?_ (by with_unfolding_all rfl)); intro tq')) | (((with_reducible show wpAny _ _ (subscriptTail _ _ (Value.ref _) (Value.int _ _)) _ _ _); (with_reducible rename Fr _ _ _ _ => lF'); k_dflt (refine use_item lF' (by assumption) (by assumption) (by assumption) (by assumption) (by assumption) ?_ (by with_unfolding_all rfl)); intro tq'))) | ((with_reducible show wpAny _ _ (call _ _ _) _ _ _); first | ((with_reducible show wpAny _ _ (call (Value.builtin "len") _ _) _ _ _); first | with_reducible (((with_reducible show wpAny _ _ (call (Value.builtin "len") [Value.ref _]) _ _ _); (with_reducible rename Fr _ _ _ _ => lF'); k_dflt (refine use_len lF' (by assumption) (by assumption) ?_))) | (((with_reducible show wpAny _ _ (call (Value.builtin "len") [Value.ref _]) _ _ _); (with_reducible rename Fr _ _ _ _ => lF'); k_dflt (refine use_len lF' (by assumption) (by assumption) ?_)))) | ((with_reducible show wpAny _ _ (call (Value.ref _) _ _) _ _ _); first | with_reducible (((with_reducible rename Fr _ _ _ _ => lF'); (with_reducible rename News _ _ _ _ => lN'); (with_reducible rename Rdy _ _ => lR'); first   | (refine use_fspath lR' lF' lN' (by rfl) (by exact Nat.le_of_ble_eq_true rfl) (by exact Nat.le_of_ble_eq_true rfl) ?_; intro h' tk' F' N')   | (refine use_key (by assumption) lR' lF' lN' (by rfl) (by exact Nat.le_of_ble_eq_true rfl) (by exact Nat.le_of_ble_eq_true rfl) ?_; intro D' v1' n1' h' tk' hS' F' N' ne'; (replace ne' := allNe_of ne'); (simp only [AllNe, and_true] at ne')))) | (((with_reducible rename Fr _ _ _ _ => lF'); (with_reducible rename News _ _ _ _ => lN'); (with_reducible rename Rdy _ _ => lR'); first   | (refine use_fspath lR' lF' lN' (by rfl) (by exact Nat.le_of_ble_eq_true rfl) (by exact Nat.le_of_ble_eq_true rfl) ?_; intro h' tk' F' N')   | (refine use_key (by assumption) lR' lF' lN' (by rfl) (by exact Nat.le_of_ble_eq_true rfl) (by exact Nat.le_of_ble_eq_true rfl) ?_; intro D' v1' n1' h' tk' hS' F' N' ne'; (replace ne' := allNe_of ne'); (simp only [AllNe, and_true] at ne')))))) | ((with_reducible show wpAny _ _ (exec (Stmt.While _ _ _ _) _) _ _ _); first | with_reducible ((refine Halt.out ?_)) | ((refine Halt.out ?_))) | walk1) | (leave1; walk_say "STEP leave1"; try dsimp only) | fail "no step")
    (with_reducible rename Fr _ _ _ _ => eF)
    rw [bsearch_stop _ _ _ _ hlt] at hb
    ((try dsimp only); exact hQ' _ _ (givesI eF ⟨_, by rw [← hb]⟩))
end Mine
namespace Mine
open PySem.Spec PySem.Calls PySem.W.X
theorem bl_spec (w : World) (s : Shared) (l k : Addr) (vs ws : Array Value) (n n2 : Nat) (ps xs : List Str) (R : Rdy w s.heap) (hl : s.heap.get? l = some (W.listOf vs n)) (hk : s.heap.get? k = some (W.listOf ws n2)) (hps : StrsAre vs.toList ps) (hxs : StrsAre ws.toList xs) (hn : vs.size ≤ 1000) (hpl : ∀ p ∈ ps, p.length ≤ 1000) :
    codeAny (model Challenge.rw_pd0082_01.row.prog w) (Ac 850 8500) (.call (.ref 48) ⟨[.ref l, .ref k], [(Str.ofString "key", .ref 178)]⟩) (Gives s (fun v _ => ∃ u, v = .int (bsearch (fun j => !cmpL .Lt (keyF (ps.getD j (Str.ofString ""))) xs) ps.length 0 ps.length : Nat) u)) s := by
  w_top off
  obtain ⟨X, mean, mg, mb, T⟩ := id R
  (refine' enterG (g := _) (led := []) (fun _ _ e => e) (Nat.le_refl _) (fun _ h => (nomatch h)) ?k1 ?k2 ?k6 ?k7 ?k8 ?k9 ?kB ?_ ?c2 ?c3 ?c4 ?c5; (case k1 => assumption); (case k2 => assumption); (case k6 => k_is); (case k7 => k_is); (case k8 => decide); (case k9 => first | exact BindsTo.of_eq rfl | (refine' kp_binds ?kx ?ke; (case kx => assumption); (case ke => exact fun _ => rfl))); (case kB => exact locs rfl); (case c2 => exact rfl); (case c3 => exact rfl); (case c4 => exact rfl); (case c5 => decide))
  intro L h₁ F N
  refine genQE ?_
  intro Q' hQ'
  replace F : Fr s.heap L h₁ (fun y => List.lookup y [(Str.ofString "key", .ref 178), (Str.ofString "hi", .none), (Str.ofString "lo", .int 0 223), (Str.ofString "x", .ref k), (Str.ofString "a", .ref l)]) := F
  dsimp only
  repeat' (first | (k_unfold; (try dsimp only)) | ((with_reducible show wpAny _ _ (compareOp CmpOp.Lt (Value.ref _) (Value.ref _)) _ _ _); first | with_reducible (((with_reducible rename Fr _ _ _ _ => lF'); (with_reducible rename News _ _ _ _ => lN'); k_dflt (first   | refine cmp_lt_bl (by exact Nat.le_of_ble_eq_true rfl) lF' lN' (by assumption) (by k_mem) (by assumption) (by assumption) ?_   | refine cmp_lt_lb (by exact Nat.le_of_ble_eq_true rfl) lF' lN' (by assumption) (by k_mem) (by assumption) (by assumption) ?_))) | (((with_reducible rename Fr _ _ _ _ => lF'); (with_reducible rename News _ _ _ _ => lN'); k_dflt (first   | refine cmp_lt_bl (by exact Nat.le_of_ble_eq_true rfl) lF' lN' (by assumption) (by k_mem) (by assumption) (by assumption) ?_   | refine cmp_lt_lb (by exact Nat.le_of_ble_eq_true rfl) lF' lN' (by assumption) (by k_mem) (by assumption) (by assumption) ?_)))) | ((with_reducible show wpAny _ _ (subscriptTail _ _ (Value.ref _) (Value.int _ _)) _ _ _); first | with_reducible (((with_reducible show wpAny _ _ (subscriptTail _ _ (Value.ref _) (Value.int _ _)) _ _ _); (with_reducible rename Fr _ _ _ _ => lF'); k_dflt (refine use_item lF' (by assumption) (by assumption) (by assumption) (by assumption) (by assumption) ?_ (by with_unfolding_all rfl)); intro tq')) | (((with_reducible show wpAny _ _ (subscriptTail _ _ (Value.ref _) (Value.int _ _)) _ _ _); (with_reducible rename Fr _ _ _ _ => lF'); k_dflt (refine use_item lF' (by assumption) (by assumption) (by assumption) (by assumption) (by assumption) ?_ (by with_unfolding_all rfl)); intro tq'))) | ((with_reducible show wpAny _ _ (call _ _ _) _ _ _); first | ((with_reducible show wpAny _ _ (call (Value.builtin "len") _ _) _ _ _); first | with_reducible (((with_reducible show wpAny _ _ (call (Value.builtin "len") [Value.ref _]) _ _ _); (with_reducible rename Fr _ _ _ _ => lF'); k_dflt (refine use_len lF' (by assumption) (by assumption) ?_))) | (((with_reducible show wpAny _ _ (call (Value.builtin "len") [Value.ref _]) _ _ _); (with_reducible rename Fr _ _ _ _ => lF'); k_dflt (refine use_len lF' (by assumption) (by assumption) ?_)))) | ((with_reducible show wpAny _ _ (call (Value.ref _) _ _) _ _ _); first | with_reducible (((with_reducible rename Fr _ _ _ _ => lF'); (with_reducible rename News _ _ _ _ => lN'); (with_reducible rename Rdy _ _ => lR'); first   | (refine use_fspath lR' lF' lN' (by rfl) (by exact Nat.le_of_ble_eq_true rfl) (by exact Nat.le_of_ble_eq_true rfl) ?_; intro h' tk' F' N')   | (refine use_key (by assumption) lR' lF' lN' (by rfl) (by exact Nat.le_of_ble_eq_true rfl) (by exact Nat.le_of_ble_eq_true rfl) ?_; intro D' v1' n1' h' tk' hS' F' N' ne'; (replace ne' := allNe_of ne'); (simp only [AllNe, and_true] at ne')))) | (((with_reducible rename Fr _ _ _ _ => lF'); (with_reducible rename News _ _ _ _ => lN'); (with_reducible rename Rdy _ _ => lR'); first   | (refine use_fspath lR' lF' lN' (by rfl) (by exact Nat.le_of_ble_eq_true rfl) (by exact Nat.le_of_ble_eq_true rfl) ?_; intro h' tk' F' N')   | (refine use_key (by assumption) lR' lF' lN' (by rfl) (by exact Nat.le_of_ble_eq_true rfl) (by exact Nat.le_of_ble_eq_true rfl) ?_; intro D' v1' n1' h' tk' hS' F' N' ne'; (replace ne' := allNe_of ne'); (simp only [AllNe, and_true] at ne')))))) | ((with_reducible show wpAny _ _ (exec (Stmt.While _ _ _ _) _) _ _ _); first | with_reducible ((refine Halt.out ?_)) | ((refine Halt.out ?_))) | walk1 | (dsimp only; first | ((with_reducible show wpAny _ _ (compareOp CmpOp.Lt (Value.ref _) (Value.ref _)) _ _ _); first | with_reducible (((with_reducible rename Fr _ _ _ _ => lF'); (with_reducible rename News _ _ _ _ => lN'); k_dflt (first   | refine cmp_lt_bl (by exact Nat.le_of_ble_eq_true rfl) lF' lN' (by assumption) (by k_mem) (by assumption) (by assumption) ?_   | refine cmp_lt_lb (by exact Nat.le_of_ble_eq_true rfl) lF' lN' (by assumption) (by k_mem) (by assumption) (by assumption) ?_))) | (((with_reducible rename Fr _ _ _ _ => lF'); (with_reducible rename News _ _ _ _ => lN'); k_dflt (first   | refine cmp_lt_bl (by exact Nat.le_of_ble_eq_true rfl) lF' lN' (by assumption) (by k_mem) (by assumption) (by assumption) ?_   | refine cmp_lt_lb (by exact Nat.le_of_ble_eq_true rfl) lF' lN' (by assumption) (by k_mem) (by assumption) (by assumption) ?_)))) | ((with_reducible show wpAny _ _ (subscriptTail _ _ (Value.ref _) (Value.int _ _)) _ _ _); first | with_reducible (((with_reducible show wpAny _ _ (subscriptTail _ _ (Value.ref _) (Value.int _ _)) _ _ _); (with_reducible rename Fr _ _ _ _ => lF'); k_dflt (refine use_item lF' (by assumption) (by assumption) (by assumption) (by assumption) (by assumption) ?_ (by with_unfolding_all rfl)); intro tq')) | (((with_reducible show wpAny _ _ (subscriptTail _ _ (Value.ref _) (Value.int _ _)) _ _ _); (with_reducible rename Fr _ _ _ _ => lF'); k_dflt (refine use_item lF' (by assumption) (by assumption) (by assumption) (by assumption) (by assumption) ?_ (by with_unfolding_all rfl)); intro tq'))) | ((with_reducible show wpAny _ _ (call _ _ _) _ _ _); first | ((with_reducible show wpAny _ _ (call (Value.builtin "len") _ _) _ _ _); first | with_reducible (((with_reducible show wpAny _ _ (call (Value.builtin "len") [Value.ref _]) _ _ _); (with_reducible rename Fr _ _ _ _ => lF'); k_dflt (refine use_len lF' (by assumption) (by assumption) ?_))) | (((with_reducible show wpAny _ _ (call (Value.builtin "len") [Value.ref _]) _ _ _); (with_reducible rename Fr _ _ _ _ => lF'); k_dflt (refine use_len lF' (by assumption) (by assumption) ?_)))) | ((with_reducible show wpAny _ _ (call (Value.ref _) _ _) _ _ _); first | with_reducible (((with_reducible rename Fr _ _ _ _ => lF'); (with_reducible rename News _ _ _ _ => lN'); (with_reducible rename Rdy _ _ => lR'); first   | (refine use_fspath lR' lF' lN' (by rfl) (by exact Nat.le_of_ble_eq_true rfl) (by exact Nat.le_of_ble_eq_true rfl) ?_; intro h' tk' F' N')   | (refine use_key (by assumption) lR' lF' lN' (by rfl) (by exact Nat.le_of_ble_eq_true rfl) (by exact Nat.le_of_ble_eq_true rfl) ?_; intro D' v1' n1' h' tk' hS' F' N' ne'; (replace ne' := allNe_of ne'); (simp only [AllNe, and_true] at ne')))) | (((with_reducible rename Fr _ _ _ _ => lF'); (with_reducible rename News _ _ _ _ => lN'); (with_reducible rename Rdy _ _ => lR'); first   | (refine use_fspath lR' lF' lN' (by rfl) (by exact Nat.le_of_ble_eq_true rfl) (by exact Nat.le_of_ble_eq_true rfl) ?_; intro h' tk' F' N')   | (refine use_key (by assumption) lR' lF' lN' (by rfl) (by exact Nat.le_of_ble_eq_true rfl) (by exact Nat.le_of_ble_eq_true rfl) ?_; intro D' v1' n1' h' tk' hS' F' N' ne'; (replace ne' := allNe_of ne'); (simp only [AllNe, and_true] at ne')))))) | ((with_reducible show wpAny _ _ (exec (Stmt.While _ _ _ _) _) _ _ _); first | with_reducible ((refine Halt.out ?_)) | ((refine Halt.out ?_))) | walk1) | (leave1; walk_say "STEP leave1"; try dsimp only) | fail "no step")
  refine Halt.mk ?_
  (with_reducible rename Fr _ _ _ _ => eF)
  have hlen : ps.length = vs.size := by have := strsAre_len hps; simpa using this.symm
  have eF2 := bis_start eF
  rw [← hlen] at eF2
  refine While_inv (h₀ := s.heap) (L := L) (news := []) (n₀ := ps.length) (fun f m news => news = [] ∧ ∃ lo hi tl th u, m = bisM l k lo hi tl th u ∧ lo ≤ hi ∧ hi ≤ ps.length ∧ f = hi - lo ∧ bsearch (fun j => !cmpL .Lt (keyF (ps.getD j (Str.ofString ""))) xs) (hi - lo) lo hi = bsearch (fun j => !cmpL .Lt (keyF (ps.getD j (Str.ofString ""))) xs) ps.length 0 ps.length) eF2 (fun _ h => (nomatch h)) ⟨rfl, 0, ps.length, _, _, none, rfl, Nat.zero_le _, Nat.le_refl _, rfl, rfl⟩ ?_
  rintro f m₁ news₁ h tk F₁ N₁ ⟨rfl, lo, hi, tl, th, u, rfl, hle, hhi, rfl, hb⟩
  clear eF eF2
  by_cases hlt : lo < hi
  · have hlt' : (lo : Int) < (hi : Int) := by omega
    have hm := mid_eq lo hi
    have hm0 : 0 ≤ ((lo : Int) + (hi : Int)).fdiv 2 := by omega
    have hm1 : ((lo : Int) + (hi : Int)).fdiv 2 < (ps.length : Int) := by omega
    have hpm := getD_le hpl (((lo : Int) + (hi : Int)).fdiv 2).toNat
    have hmt : (((lo : Int) + (hi : Int)).fdiv 2).toNat = (lo + hi) / 2 := by omega
    unfold bisM at F₁
    repeat' (first | (k_unfold; (try dsimp only)) | ((with_reducible show wpAny _ _ (compareOp CmpOp.Lt (Value.ref _) (Value.ref _)) _ _ _); first | with_reducible (((with_reducible rename Fr _ _ _ _ => lF'); (with_reducible rename News _ _ _ _ => lN'); k_dflt (first   | refine cmp_lt_bl (by exact Nat.le_of_ble_eq_true rfl) lF' lN' (by assumption) (by k_mem) (by assumption) (by assumption) ?_   | refine cmp_lt_lb (by exact Nat.le_of_ble_eq_true rfl) lF' lN' (by assumption) (by k_mem) (by assumption) (by assumption) ?_))) | (((with_reducible rename Fr _ _ _ _ => lF'); (with_reducible rename News _ _ _ _ => lN'); k_dflt (first   | refine cmp_lt_bl (by exact Nat.le_of_ble_eq_true rfl) lF' lN' (by assumption) (by k_mem) (by assumption) (by assumption) ?_   | refine cmp_lt_lb (by exact Nat.le_of_ble_eq_true rfl) lF' lN' (by assumption) (by k_mem) (by assumption) (by assumption) ?_)))) | ((with_reducible show wpAny _ _ (subscriptTail _ _ (Value.ref _) (Value.int _ _)) _ _ _); first | with_reducible (((with_reducible show wpAny _ _ (subscriptTail _ _ (Value.ref _) (Value.int _ _)) _ _ _); (with_reducible rename Fr _ _ _ _ => lF'); k_dflt (refine use_item lF' (by assumption) (by assumption) (by assumption) (by assumption) (by assumption) ?_ (by with_unfolding_all rfl)); intro tq')) | (((with_reducible show wpAny _ _ (subscriptTail _ _ (Value.ref _) (Value.int _ _)) _ _ _); (with_reducible rename Fr _ _ _ _ => lF'); k_dflt (refine use_item lF' (by assumption) (by assumption) (by assumption) (by assumption) (by assumption) ?_ (by with_unfolding_all rfl)); intro tq'))) | ((with_reducible show wpAny _ _ (call _ _ _) _ _ _); first | ((with_reducible show wpAny _ _ (call (Value.builtin "len") _ _) _ _ _); first | with_reducible (((with_reducible show wpAny _ _ (call (Value.builtin "len") [Value.ref _]) _ _ _); (with_reducible rename Fr _ _ _ _ => lF'); k_dflt (refine use_len lF' (by assumption) (by assumption) ?_))) | (((with_reducible show wpAny _ _ (call (Value.builtin "len") [Value.ref _]) _ _ _); (with_reducible rename Fr _ _ _ _ => lF'); k_dflt (refine use_len lF' (by assumption) (by assumption) ?_)))) | ((with_reducible show wpAny _ _ (call (Value.ref _) _ _) _ _ _); first | with_reducible (((with_reducible rename Fr _ _ _ _ => lF'); (with_reducible rename News _ _ _ _ => lN'); (with_reducible rename Rdy _ _ => lR'); first   | (refine use_fspath lR' lF' lN' (by rfl) (by exact Nat.le_of_ble_eq_true rfl) (by exact Nat.le_of_ble_eq_true rfl) ?_; intro h' tk' F' N')   | (refine use_key (by assumption) lR' lF' lN' (by rfl) (by exact Nat.le_of_ble_eq_true rfl) (by exact Nat.le_of_ble_eq_true rfl) ?_; intro D' v1' n1' h' tk' hS' F' N' ne'; (replace ne' := allNe_of ne'); (simp only [AllNe, and_true] at ne')))) | (((with_reducible rename Fr _ _ _ _ => lF'); (with_reducible rename News _ _ _ _ => lN'); (with_reducible rename Rdy _ _ => lR'); first   | (refine use_fspath lR' lF' lN' (by rfl) (by exact Nat.le_of_ble_eq_true rfl) (by exact Nat.le_of_ble_eq_true rfl) ?_; intro h' tk' F' N')   | (refine use_key (by assumption) lR' lF' lN' (by rfl) (by exact Nat.le_of_ble_eq_true rfl) (by exact Nat.le_of_ble_eq_true rfl) ?_; intro D' v1' n1' h' tk' hS' F' N' ne'; (replace ne' := allNe_of ne'); (simp only [AllNe, and_true] at ne')))))) | ((with_reducible show wpAny _ _ (exec (Stmt.While _ _ _ _) _) _ _ _); first | with_reducible ((refine Halt.out ?_)) | ((refine Halt.out ?_))) | walk1 | (dsimp only; first | ((with_reducible show wpAny _ _ (compareOp CmpOp.Lt (Value.ref _) (Value.ref _)) _ _ _); first | with_reducible (((with_reducible rename Fr _ _ _ _ => lF'); (with_reducible rename News _ _ _ _ => lN'); k_dflt (first   | refine cmp_lt_bl (by exact Nat.le_of_ble_eq_true rfl) lF' lN' (by assumption) (by k_mem) (by assumption) (by assumption) ?_   | refine cmp_lt_lb (by exact Nat.le_of_ble_eq_true rfl) lF' lN' (by assumption) (by k_mem) (by assumption) (by assumption) ?_))) | (((with_reducible rename Fr _ _ _ _ => lF'); (with_reducible rename News _ _ _ _ => lN'); k_dflt (first   | refine cmp_lt_bl (by exact Nat.le_of_ble_eq_true rfl) lF' lN' (by assumption) (by k_mem) (by assumption) (by assumption) ?_   | refine cmp_lt_lb (by exact Nat.le_of_ble_eq_true rfl) lF' lN' (by assumption) (by k_mem) (by assumption) (by assumption) ?_)))) | ((with_reducible show wpAny _ _ (subscriptTail _ _ (Value.ref _) (Value.int _ _)) _ _ _); first | with_reducible (((with_reducible show wpAny _ _ (subscriptTail _ _ (Value.ref _) (Value.int _ _)) _ _ _); (with_reducible rename Fr _ _ _ _ => lF'); k_dflt (refine use_item lF' (by assumption) (by assumption) (by assumption) (by assumption) (by assumption) ?_ (by with_unfolding_all rfl)); intro tq')) | (((with_reducible show wpAny _ _ (subscriptTail _ _ (Value.ref _) (Value.int _ _)) _ _ _); (with_reducible rename Fr _ _ _ _ => lF'); k_dflt (refine use_item lF' (by assumption) (by assumption) (by assumption) (by assumption) (by assumption) ?_ (by with_unfolding_all rfl)); intro tq'))) | ((with_reducible show wpAny _ _ (call _ _ _) _ _ _); first | ((with_reducible show wpAny _ _ (call (Value.builtin "len") _ _) _ _ _); first | with_reducible (((with_reducible show wpAny _ _ (call (Value.builtin "len") [Value.ref _]) _ _ _); (with_reducible rename Fr _ _ _ _ => lF'); k_dflt (refine use_len lF' (by assumption) (by assumption) ?_))) | (((with_reducible show wpAny _ _ (call (Value.builtin "len") [Value.ref _]) _ _ _); (with_reducible rename Fr _ _ _ _ => lF'); k_dflt (refine use_len lF' (by assumption) (by assumption) ?_)))) | ((with_reducible show wpAny _ _ (call (Value.ref _) _ _) _ _ _); first | with_reducible (((with_reducible rename Fr _ _ _ _ => lF'); (with_reducible rename News _ _ _ _ => lN'); (with_reducible rename Rdy _ _ => lR'); first   | (refine use_fspath lR' lF' lN' (by rfl) (by exact Nat.le_of_ble_eq_true rfl) (by exact Nat.le_of_ble_eq_true rfl) ?_; intro h' tk' F' N')   | (refine use_key (by assumption) lR' lF' lN' (by rfl) (by exact Nat.le_of_ble_eq_true rfl) (by exact Nat.le_of_ble_eq_true rfl) ?_; intro D' v1' n1' h' tk' hS' F' N' ne'; (replace ne' := allNe_of ne'); (simp only [AllNe, and_true] at ne')))) | (((with_reducible rename Fr _ _ _ _ => lF'); (with_reducible rename News _ _ _ _ => lN'); (with_reducible rename Rdy _ _ => lR'); first   | (refine use_fspath lR' lF' lN' (by rfl) (by exact Nat.le_of_ble_eq_true rfl) (by exact Nat.le_of_ble_eq_true rfl) ?_; intro h' tk' F' N')   | (refine use_key (by assumption) lR' lF' lN' (by rfl) (by exact Nat.le_of_ble_eq_true rfl) (by exact Nat.le_of_ble_eq_true rfl) ?_; intro D' v1' n1' h' tk' hS' F' N' ne'; (replace ne' := allNe_of ne'); (simp only [AllNe, and_true] at ne')))))) | ((with_reducible show wpAny _ _ (exec (Stmt.While _ _ _ _) _) _ _ _); first | with_reducible ((refine Halt.out ?_)) | ((refine Halt.out ?_))) | walk1) | (leave1; walk_say "STEP leave1"; try dsimp only) | fail "no step")
    all_goals (with_reducible rename Fr _ _ _ _ => eF)
    all_goals (rename (cmpL _ _ _ = _) => hc)
    all_goals (rw [hmt] at hc)
    · exact WhileStep.intro (bis_lo hm eF) News.nil (by omega) ⟨rfl, _, hi, _, _, _, rfl, by omega, by omega, rfl, bsearch_up hb (Nat.le_refl _) hlt (by show (!_) = false; rw [hc]; rfl)⟩
    · exact WhileStep.intro (bis_hi hm eF) News.nil (by omega) ⟨rfl, lo, _, _, _, _, rfl, by omega, by omega, rfl, bsearch_down hb (Nat.le_refl _) hlt (by show (!_) = true; rw [hc]; rfl)⟩
  · have hlt' : ¬ (lo : Int) < (hi : Int) := by omega
    unfold bisM at F₁
    repeat' (first | (k_unfold; (try dsimp only)) | ((with_reducible show wpAny _ _ (compareOp CmpOp.Lt (Value.ref _) (Value.ref _)) _ _ _); first | with_reducible (((with_reducible rename Fr _ _ _ _ => lF'); (with_reducible rename News _ _ _ _ => lN'); k_dflt (first   | refine cmp_lt_bl (by exact Nat.le_of_ble_eq_true rfl) lF' lN' (by assumption) (by k_mem) (by assumption) (by assumption) ?_   | refine cmp_lt_lb (by exact Nat.le_of_ble_eq_true rfl) lF' lN' (by assumption) (by k_mem) (by assumption) (by assumption) ?_))) | (((with_reducible rename Fr _ _ _ _ => lF'); (with_reducible rename News _ _ _ _ => lN'); k_dflt (first   | refine cmp_lt_bl (by exact Nat.le_of_ble_eq_true rfl) lF' lN' (by assumption) (by k_mem) (by assumption) (by assumption) ?_   | refine cmp_lt_lb (by exact Nat.le_of_ble_eq_true rfl) lF' lN' (by assumption) (by k_mem) (by assumption) (by assumption) ?_)))) | ((with_reducible show wpAny _ _ (subscriptTail _ _ (Value.ref _) (Value.int _ _)) _ _ _); first | with_reducible (((with_reducible show wpAny _ _ (subscriptTail _ _ (Value.ref _) (Value.int _ _)) _ _ _); (with_reducible rename Fr _ _ _ _ => lF'); k_dflt (refine use_item lF' (by assumption) (by assumption) (by assumption) (by assumption) (by assumption) ?_ (by with_unfolding_all rfl)); intro tq')) | (((with_reducible show wpAny _ _ (subscriptTail _ _ (Value.ref _) (Value.int _ _)) _ _ _); (with_reducible rename Fr _ _ _ _ => lF'); k_dflt (refine use_item lF' (by assumption) (by assumption) (by assumption) (by assumption) (by assumption) ?_ (by with_unfolding_all rfl)); intro tq'))) | ((with_reducible show wpAny _ _ (call _ _ _) _ _ _); first | ((with_reducible show wpAny _ _ (call (Value.builtin "len") _ _) _ _ _); first | with_reducible (((with_reducible show wpAny _ _ (call (Value.builtin "len") [Value.ref _]) _ _ _); (with_reducible rename Fr _ _ _ _ => lF'); k_dflt (refine use_len lF' (by assumption) (by assumption) ?_))) | (((with_reducible show wpAny _ _ (call (Value.builtin "len") [Value.ref _]) _ _ _); (with_reducible rename Fr _ _ _ _ => lF'); k_dflt (refine use_len lF' (by assumption) (by assumption) ?_)))) | ((with_reducible show wpAny _ _ (call (Value.ref _) _ _) _ _ _); first | with_reducible (((with_reducible rename Fr _ _ _ _ => lF'); (with_reducible rename News _ _ _ _ => lN'); (with_reducible rename Rdy _ _ => lR'); first   | (refine use_fspath lR' lF' lN' (by rfl) (by exact Nat.le_of_ble_eq_true rfl) (by exact Nat.le_of_ble_eq_true rfl) ?_; intro h' tk' F' N')   | (refine use_key (by assumption) lR' lF' lN' (by rfl) (by exact Nat.le_of_ble_eq_true rfl) (by exact Nat.le_of_ble_eq_true rfl) ?_; intro D' v1' n1' h' tk' hS' F' N' ne'; (replace ne' := allNe_of ne'); (simp only [AllNe, and_true] at ne')))) | (((with_reducible rename Fr _ _ _ _ => lF'); (with_reducible rename News _ _ _ _ => lN'); (with_reducible rename Rdy _ _ => lR'); first   | (refine use_fspath lR' lF' lN' (by rfl) (by exact Nat.le_of_ble_eq_true rfl) (by exact Nat.le_of_ble_eq_true rfl) ?_; intro h' tk' F' N')   | (refine use_key (by assumption) lR' lF' lN' (by rfl) (by exact Nat.le_of_ble_eq_true rfl) (by exact Nat.le_of_ble_eq_true rfl) ?_; intro D' v1' n1' h' tk' hS' F' N' ne'; (replace ne' := allNe_of ne'); (simp only [AllNe, and_true] at ne')))))) | ((with_reducible show wpAny _ _ (exec (Stmt.While _ _ _ _) _) _ _ _); first | with_reducible ((refine Halt.out ?_)) | ((refine Halt.out ?_))) | walk1 | (dsimp only; first | ((with_reducible show wpAny _ _ (compareOp CmpOp.Lt (Value.ref _) (Value.ref _)) _ _ _); first | with_reducible (((with_reducible rename Fr _ _ _ _ => lF'); (with_reducible rename News _ _ _ _ => lN'); k_dflt (first   | refine cmp_lt_bl (by exact Nat.le_of_ble_eq_true rfl) lF' lN' (by assumption) (by k_mem) (by assumption) (by assumption) ?_   | refine cmp_lt_lb (by exact Nat.le_of_ble_eq_true rfl) lF' lN' (by assumption) (by k_mem) (by assumption) (by assumption) ?_))) | (((with_reducible rename Fr _ _ _ _ => lF'); (with_reducible rename News _ _ _ _ => lN'); k_dflt (first   | refine cmp_lt_bl (by exact Nat.le_of_ble_eq_true rfl) lF' lN' (by assumption) (by k_mem) (by assumption) (by assumption) ?_   | refine cmp_lt_lb (by exact Nat.le_of_ble_eq_true rfl) lF' lN' (by assumption) (by k_mem) (by assumption) (by assumption) ?_)))) | ((with_reducible show wpAny _ _ (subscriptTail _ _ (Value.ref _) (Value.int _ _)) _ _ _); first | with_reducible (((with_reducible show wpAny _ _ (subscriptTail _ _ (Value.ref _) (Value.int _ _)) _ _ _); (with_reducible rename Fr _ _ _ _ => lF'); k_dflt (refine use_item lF' (by assumption) (by assumption) (by assumption) (by assumption) (by assumption) ?_ (by with_unfolding_all rfl)); intro tq')) | (((with_reducible show wpAny _ _ (subscriptTail _ _ (Value.ref _) (Value.int _ _)) _ _ _); (with_reducible rename Fr _ _ _ _ => lF'); k_dflt (refine use_item lF' (by assumption) (by assumption) (by assumption) (by assumption) (by assumption) ?_ (by with_unfolding_all rfl)); intro tq'))) | ((with_reducible show wpAny _ _ (call _ _ _) _ _ _); first | ((with_reducible show wpAny _ _ (call (Value.builtin "len") _ _) _ _ _); first | with_reducible (((with_reducible show wpAny _ _ (call (Value.builtin "len") [Value.ref _]) _ _ _); (with_reducible rename Fr _ _ _ _ => lF'); k_dflt (refine use_len lF' (by assumption) (by assumption) ?_))) | (((with_reducible show wpAny _ _ (call (Value.builtin "len") [Value.ref _]) _ _ _); (with_reducible rename Fr _ _ _ _ => lF'); k_dflt (refine use_len lF' (by assumption) (by assumption) ?_)))) | ((with_reducible show wpAny _ _ (call (Value.ref _) _ _) _ _ _); first | with_reducible (((with_reducible rename Fr _ _ _ _ => lF'); (with_reducible rename News _ _ _ _ => lN'); (with_reducible rename Rdy _ _ => lR'); first   | (refine use_fspath lR' lF' lN' (by rfl) (by exact Nat.le_of_ble_eq_true rfl) (by exact Nat.le_of_ble_eq_true rfl) ?_; intro h' tk' F' N')   | (refine use_key (by assumption) lR' lF' lN' (by rfl) (by exact Nat.le_of_ble_eq_true rfl) (by exact Nat.le_of_ble_eq_true rfl) ?_; intro D' v1' n1' h' tk' hS' F' N' ne'; (replace ne' := allNe_of ne'); (simp only [AllNe, and_true] at ne')))) | (((with_reducible rename Fr _ _ _ _ => lF'); (with_reducible rename News _ _ _ _ => lN'); (with_reducible rename Rdy _ _ => lR'); first   | (refine use_fspath lR' lF' lN' (by rfl) (by exact Nat.le_of_ble_eq_true rfl) (by exact Nat.le_of_ble_eq_true rfl) ?_; intro h' tk' F' N')   | (refine use_key (by assumption) lR' lF' lN' (by rfl) (by exact Nat.le_of_ble_eq_true rfl) (by exact Nat.le_of_ble_eq_true rfl) ?_; intro D' v1' n1' h' tk' hS' F' N' ne'; (replace ne' := allNe_of ne'); (simp only [AllNe, and_true] at ne')))))) | ((with_reducible show wpAny _ _ (exec (Stmt.While _ _ _ _) _) _ _ _); first | with_reducible ((refine Halt.out ?_)) | ((refine Halt.out ?_))) | walk1) | (leave1; walk_say "STEP leave1"; try dsimp only) | fail "no step")
    (with_reducible rename Fr _ _ _ _ => eF)
    rw [bsearch_stop _ _ _ _ hlt] at hb
    ((try dsimp only); exact hQ' _ _ (givesI eF ⟨_, by rw [← hb]⟩))
end Mine
namespace Mine
open PySem.Spec PySem.Calls PySem.W.X
noncomputable def insAt (ps : List Str) (b : Nat) (p : Str) : List Str := ps.take b ++ p :: ps.drop b
noncomputable def posR (ps : List Str) (xs : List Str) : Nat := bsearch (fun j => cmpL .Lt xs (keyF (ps.getD j (Str.ofString "")))) ps.length 0 ps.length
noncomputable def Mut (s : Shared) (l : Addr) (P : Obj → Prop) (r : Result) (s' : Shared) : Prop :=
  ∃ h' tk o, r = .ok (.ret .none) ∧ s' = { s with heap := h', toks := tk } ∧ (∀ b ob, b ≠ l → s.heap.get? b = some ob → h'.get? b = some ob) ∧ h'.get? l = some o ∧ P o
theorem bsearch_le (p : Nat → Bool) : ∀ (f lo hi : Nat), lo ≤ hi → bsearch p f lo hi ≤ hi
  | 0, _, _, h => h
  | f + 1, lo, hi, h => by
    unfold bsearch
    split
    · split
      · exact Nat.le_trans (bsearch_le p f _ _ (by omega)) (by omega)
      · exact bsearch_le p f _ _ (by omega)
    · exact h
theorem posR_le (ps xs : List Str) : posR ps xs ≤ ps.length := bsearch_le _ _ _ _ (Nat.zero_le _)
theorem strsAre_take {vs : List Value} {xs : List Str} (h : StrsAre vs xs) : ∀ k, StrsAre (vs.take k) (xs.take k) := by
  induction h with
  | nil => intro k; simp; exact .nil
  | cons y t _ ih =>
    intro k
    cases k with
    | zero => exact .nil
    | succ k => exact .cons _ _ (ih k)
theorem strsAre_drop {vs : List Value} {xs : List Str} (h : StrsAre vs xs) : ∀ k, StrsAre (vs.drop k) (xs.drop k) := by
  induction h with
  | nil => intro k; simp; exact .nil
  | cons y t h ih =>
    intro k
    cases k with
    | zero => exact .cons _ _ h
    | succ k => exact ih k
theorem strsAre_append {vs ws : List Value} {xs ys : List Str} (h : StrsAre vs xs) (h2 : StrsAre ws ys) : StrsAre (vs ++ ws) (xs ++ ys) := by
  induction h with
  | nil => exact h2
  | cons y t _ ih => exact .cons _ _ ih
theorem strsAre_ins {vs : Array Value} {ps : List Str} {p : Str} {t : Tok} (h : StrsAre vs.toList ps) {b : Nat} (hb : b ≤ ps.length) : StrsAre (kl_ins vs.toList (b : Int) (.str p t)).toArray.toList (insAt ps b p) := by
  have hlen := strsAre_len h
  have e : (if (b : Int) < 0 then ((b : Int) + (vs.toList.length : Int)).toNat else min (b : Int).toNat vs.toList.length) = b := by
    rw [if_neg (by omega)]
    omega
  unfold kl_ins insAt
  rw [e]
  exact strsAre_append (strsAre_take h b) (.cons _ _ (strsAre_drop h b))
theorem fitsIdx_of {b : Nat} (h : b ≤ 1000) : Builtin.List.listFitsIndex (b : Int) = true := by
  unfold Builtin.List.listFitsIndex
  simp
  omega
section
variable {w : World} {A : Around} {s : Shared} {h₀ : Heap} {L : Addr} {m : Str → Option Value} {news : List (Addr × Obj)} {Q E : Value → Shared → Prop} {p q : Str} {t u : Tok}
variable {l k : Addr} {vs ws : Array Value} {n n2 : Nat} {ps xs : List Str}
theorem use_br (R : Rdy w h₀) (F : Fr h₀ L s.heap m) (N : News h₀ L s.heap news) (hh : A.handled = none) (hd : A.depth ≤ 850) (hu : A.units ≤ 8500) (hl : (l, W.listOf vs n) ∈ news) (hk : (k, W.listOf ws n2) ∈ news) (hps : StrsAre vs.toList ps) (hxs : StrsAre ws.toList xs) (hn : vs.size ≤ 1000) (hpl : ∀ p ∈ ps, p.length ≤ 1000)
    (c : ∀ u h' tk, Fr h₀ L h' m → News h₀ L h' news → Q (.int (posR ps xs : Nat) u) { s with heap := h', toks := tk }) :
    wpAny (model Challenge.rw_pd0082_01.row.prog w) A (call (.ref 39) [.ref l, .ref k, .int 0 t, .none] [(Str.ofString "key", .ref 178)]) Q E s :=
  use (br_spec w s l k t vs ws n n2 ps xs (R.fr F) (News.get N hl) (News.get N hk) hps hxs hn hpl) F N hh hd hu (fun v h' tk e g F' N' => by
    obtain ⟨u, rfl⟩ := e
    exact c u h' tk F' N')
end
theorem ins_spec (w : World) (s : Shared) (l : Addr) (p : Str) (t : Tok) (vs : Array Value) (n : Nat) (ps : List Str) (R : Rdy w (hideAll s.heap [l])) (hl : s.heap.get? l = some (W.listOf vs n)) (hps : StrsAre vs.toList ps) (hn : vs.size ≤ 1000) (hpl : ∀ p ∈ ps, p.length ≤ 1000) (hp : p.length ≤ 1000) :
    codeAny (model Challenge.rw_pd0082_01.row.prog w) (Ac 800 8000) (.call (.ref 30) ⟨[.ref l, .str p t], [(Str.ofString "key", .ref 178)]⟩) (Mut s l (fun o => ∃ vs' n', o = W.listOf vs' n' ∧ StrsAre vs'.toList (insAt ps (posR ps (keyF p)) p))) s := by
  w_top off
  obtain ⟨X, mean, mg, mb, T⟩ := id R
  have hg : ∀ b o, (hideAll s.heap [l]).get? b = some o → s.heap.get? b = some o := fun b o e => of_hideAll _ e
  refine' enterG (g := hideAll s.heap [l]) (led := [(l, W.listOf vs n)]) hg (Nat.le_of_eq (hideAll_size _ _)) ?hled X T ?k6 ?k7 ?k8 ?k9 ?kB ?_ ?c2 ?c3 ?c4 ?c5
  case hled =>
    intro q hq
    rw [List.mem_singleton] at hq
    subst hq
    exact ⟨hl, hideAll_none _ (List.mem_singleton.mpr rfl)⟩
  case k6 => k_is
  case k7 => k_is
  case k8 => decide
  case k9 => exact kp_binds (X.keeps hg) (fun _ => rfl)
  case kB => exact locs rfl
  case c2 => exact rfl
  case c3 => exact rfl
  case c4 => exact rfl
  case c5 => decide
  intro L h₁ F N
  replace F : Fr (hideAll s.heap [l]) L h₁ (fun y => List.lookup y [(Str.ofString "key", .ref 178), (Str.ofString "hi", .none), (Str.ofString "lo", .int 0 196), (Str.ofString "x", .str p t), (Str.ofString "a", .ref l)]) := F
  have hlen := strsAre_len hps
  have hle := posR_le ps (keyF p)
  have hsz : vs.toList.length = vs.size := by simp
  have hfit : Builtin.List.listFitsIndex (posR ps (keyF p) : Nat) = true := fitsIdx_of (by omega)
  have hroom : vs.toList.length ≤ sizeLine := by rw [sizeLine_eq]; omega
  dsimp only
  repeat' (first | (k_unfold; (try dsimp only)) | ((with_reducible show wpAny _ _ (call _ _ _) _ _ _); first | ((with_reducible show wpAny _ _ (call (Value.builtin "list.insert") _ _) _ _ _); first | with_reducible (((with_reducible show wpAny _ _ (call (Value.builtin _) [Value.ref _, Value.int _ _, _]) _ _ _); k_dflt (refine' kl_insert ?F ?N ?f rfl ?U ?z ?_; (case F => k_asm); (case N => k_asm); (case U => k_upd); (case f => assumption); (case z => assumption)); intro h' F' N')) | (((with_reducible show wpAny _ _ (call (Value.builtin _) [Value.ref _, Value.int _ _, _]) _ _ _); k_dflt (refine' kl_insert ?F ?N ?f rfl ?U ?z ?_; (case F => k_asm); (case N => k_asm); (case U => k_upd); (case f => assumption); (case z => assumption)); intro h' F' N'))) | ((with_reducible show wpAny _ _ (call (Value.ref _) _ _) _ _ _); first | with_reducible (((with_reducible rename Fr _ _ _ _ => lF'); (with_reducible rename News _ _ _ _ => lN'); (with_reducible rename Rdy _ _ => lR'); first   | (refine use_key (by assumption) lR' lF' lN' (by rfl) (by exact Nat.le_of_ble_eq_true rfl) (by exact Nat.le_of_ble_eq_true rfl) ?_; intro D' v1' n1' h' tk' hS' F' N' ne'; (replace ne' := allNe_of ne'); (simp only [AllNe, and_true] at ne'))   | (refine use_br lR' lF' lN' (by rfl) (by exact Nat.le_of_ble_eq_true rfl) (by exact Nat.le_of_ble_eq_true rfl) (by k_mem) (by k_mem) (by assumption) (by assumption) (by assumption) (by assumption) ?_; intro u' h' tk' F' N'))) | (((with_reducible rename Fr _ _ _ _ => lF'); (with_reducible rename News _ _ _ _ => lN'); (with_reducible rename Rdy _ _ => lR'); first   | (refine use_key (by assumption) lR' lF' lN' (by rfl) (by exact Nat.le_of_ble_eq_true rfl) (by exact Nat.le_of_ble_eq_true rfl) ?_; intro D' v1' n1' h' tk' hS' F' N' ne'; (replace ne' := allNe_of ne'); (simp only [AllNe, and_true] at ne'))   | (refine use_br lR' lF' lN' (by rfl) (by exact Nat.le_of_ble_eq_true rfl) (by exact Nat.le_of_ble_eq_true rfl) (by k_mem) (by k_mem) (by assumption) (by assumption) (by assumption) (by assumption) ?_; intro u' h' tk' F' N'))))) | walk1 | (dsimp only; first | ((with_reducible show wpAny _ _ (call _ _ _) _ _ _); first | ((with_reducible show wpAny _ _ (call (Value.builtin "list.insert") _ _) _ _ _); first | with_reducible (((with_reducible show wpAny _ _ (call (Value.builtin _) [Value.ref _, Value.int _ _, _]) _ _ _); k_dflt (refine' kl_insert ?F ?N ?f rfl ?U ?z ?_; (case F => k_asm); (case N => k_asm); (case U => k_upd); (case f => assumption); (case z => assumption)); intro h' F' N')) | (((with_reducible show wpAny _ _ (call (Value.builtin _) [Value.ref _, Value.int _ _, _]) _ _ _); k_dflt (refine' kl_insert ?F ?N ?f rfl ?U ?z ?_; (case F => k_asm); (case N => k_asm); (case U => k_upd); (case f => assumption); (case z => assumption)); intro h' F' N'))) | ((with_reducible show wpAny _ _ (call (Value.ref _) _ _) _ _ _); first | with_reducible (((with_reducible rename Fr _ _ _ _ => lF'); (with_reducible rename News _ _ _ _ => lN'); (with_reducible rename Rdy _ _ => lR'); first   | (refine use_key (by assumption) lR' lF' lN' (by rfl) (by exact Nat.le_of_ble_eq_true rfl) (by exact Nat.le_of_ble_eq_true rfl) ?_; intro D' v1' n1' h' tk' hS' F' N' ne'; (replace ne' := allNe_of ne'); (simp only [AllNe, and_true] at ne'))   | (refine use_br lR' lF' lN' (by rfl) (by exact Nat.le_of_ble_eq_true rfl) (by exact Nat.le_of_ble_eq_true rfl) (by k_mem) (by k_mem) (by assumption) (by assumption) (by assumption) (by assumption) ?_; intro u' h' tk' F' N'))) | (((with_reducible rename Fr _ _ _ _ => lF'); (with_reducible rename News _ _ _ _ => lN'); (with_reducible rename Rdy _ _ => lR'); first   | (refine use_key (by assumption) lR' lF' lN' (by rfl) (by exact Nat.le_of_ble_eq_true rfl) (by exact Nat.le_of_ble_eq_true rfl) ?_; intro D' v1' n1' h' tk' hS' F' N' ne'; (replace ne' := allNe_of ne'); (simp only [AllNe, and_true] at ne'))   | (refine use_br lR' lF' lN' (by rfl) (by exact Nat.le_of_ble_eq_true rfl) (by exact Nat.le_of_ble_eq_true rfl) (by k_mem) (by k_mem) (by assumption) (by assumption) (by assumption) (by assumption) ?_; intro u' h' tk' F' N'))))) | walk1) | (leave1; walk_say "STEP leave1"; try dsimp only) | fail "no step")
  (with_reducible rename Fr _ _ _ _ => eF)
  (with_reducible rename News _ _ _ _ => eN)
  refine ⟨_, _, _, rfl, rfl, ?_, News.get eN (.tail _ (.head _)), _, _, rfl, strsAre_ins hps hle⟩
  intro b ob hb e
  exact eF.keep b ob (hideAll_get _ e (fun hm => hb (List.mem_singleton.mp hm)))
end Mine
namespace Mine
open PySem.Spec PySem.Calls PySem.W.X

section
noncomputable def MapMade (s : Shared) (l : Addr) (v : Value) (s' : Shared) : Prop :=
  ∃ I T M h' tk, v = .ref M ∧ s' = { s with heap := h', toks := tk } ∧ Grows s.heap h' ∧ s.heap.get? I = none ∧ s.heap.get? T = none ∧ s.heap.get? M = none ∧ I ≠ T ∧ I ≠ M ∧ T ≠ M ∧
    h'.get? I = some ⟨.type "list_iterator", none, .fields #[.ref l, .int 0 0], #[]⟩ ∧ h'.get? T = some ⟨.type "tuple", none, .seq #[.ref I] 0, #[]⟩ ∧ h'.get? M = some ⟨.type "map", none, .fields #[.ref T, .ref 121], #[]⟩
theorem MapMade.intro {s : Shared} {l I T M : Addr} {h' : Heap} {tk : Nat} (D : Mem s.heap h' [] [(M, ⟨.type "map", none, .fields #[.ref T, .ref 121], #[]⟩), (T, ⟨.type "tuple", none, .seq #[.ref I] 0, #[]⟩), (I, ⟨.type "list_iterator", none, .fields #[.ref l, .int 0 0], #[]⟩)]) : MapMade s l (.ref M) ⟨h', s.gens, s.drawn, tk, s.os⟩ := by
  have hM := D.nw _ (.head _)
  have hT := D.nw _ (.tail _ (.head _))
  have hI := D.nw _ (.tail _ (.tail _ (.head _)))
  have o := D.ord
  simp only [List.map_cons, List.map_nil, List.pairwise_cons, List.mem_cons, List.not_mem_nil, or_false, forall_eq_or_imp, forall_eq] at o
  exact ⟨I, T, M, h', tk, rfl, rfl, fun b o e => D.keep b o e (by simp [away]), hI.2, hT.2, hM.2, Nat.ne_of_lt o.2.1, Nat.ne_of_lt o.1.2, Nat.ne_of_lt o.1.1, hI.1, hT.1, hM.1⟩
local macro_rules | `(tactic| x_close) => `(tactic| exact MapMade.intro (by assumption))
theorem map_made {prog : Program} {w : World} {s : Shared} {l : Addr} {its : Array Value} {n : Nat} {E : Value → Shared → Prop} (hl : s.heap.get? l = some ⟨.type "list", none, .seq its n, #[]⟩) :
   wpAny (model prog w) (Ac 980 9800) (call (.type "map") [.ref 121, .ref l]) (MapMade s l) E s := by
  x_run
end
section
theorem mf_owner : Manifest.owners.lookup (String.ofList ['p', 'a', 'm'].reverse) = some Manifest.sig_map := by kernel_rfl
theorem mf_slot_next : Slot "map" "__next__" "map.__next__" :=
  .of (owner := "map") (n := "__next__") (by rw [typeLookup_type, builtinLookup_eq_fast]; kernel_rfl) (by decide +kernel) (by decide +kernel) (by decide +kernel)
    (by first | exact .inl (by decide +kernel) | exact .inr (by decide +kernel)) (by rw [isSubtype_type]; kernel_rfl)
theorem mf_slot_iter : Slot "map" "__iter__" "map.__iter__" :=
  .of (owner := "map") (n := "__iter__") (by rw [typeLookup_type, builtinLookup_eq_fast]; kernel_rfl) (by decide +kernel) (by decide +kernel) (by decide +kernel)
    (by first | exact .inl (by decide +kernel) | exact .inr (by decide +kernel)) (by rw [isSubtype_type]; kernel_rfl)
theorem mf_entry_next : entryFor table "map.__next__" = some Builtin.«map.__next__» := entryFor_of_tree (by kernel_rfl)
theorem mf_args_next (a : Value) : argsOk "map.__next__" ⟨[a], []⟩ := by
  unfold argsOk; rw [signature?_of (id := "map.__next__") (n := ['_', '_', 't', 'x', 'e', 'n', '_', '_']) (o := ['p', 'a', 'm']) (by kernel_rfl) mf_owner]; kernel_rfl
theorem mf_entry_iter : entryFor table "map.__iter__" = some Builtin.«dict_keyiterator.__iter__» :=
  entryFor_alias (id' := "dict_keyiterator.__iter__") (by kernel_rfl) (by first | rfl | decide +kernel) (by decide +kernel) (by kernel_rfl)
theorem mf_args_iter (a : Value) : argsOk "map.__iter__" ⟨[a], []⟩ := by
  unfold argsOk; rw [signature?_of (id := "map.__iter__") (n := ['_', '_', 'r', 'e', 't', 'i', '_', '_']) (o := ['p', 'a', 'm']) (by kernel_rfl) mf_owner]; kernel_rfl
theorem mf_no_len : typeLookup (.type "map") "__len__" = pure none := by rw [typeLookup_type, builtinLookup_eq_fast]; kernel_rfl
theorem mf_no_hint : typeLookup (.type "map") "__length_hint__" = pure none := by rw [typeLookup_type, builtinLookup_eq_fast]; kernel_rfl
end
noncomputable abbrev mapObj (T : Addr) : Obj := ⟨.type "map", none, .fields #[.ref T, .ref 121], #[]⟩
noncomputable abbrev tupObj (vs : Array Value) : Obj := ⟨.type "tuple", none, .seq vs 0, #[]⟩
structure MapAt (w : World) (h₀ h : Heap) (M T I l : Addr) (items : Array Value) (i : Nat) : Prop where
  R : Rdy w h₀
  keep : Grows h₀ h
  fresh : h₀.get? I = none
  m : h.get? M = some (mapObj T)
  t : h.get? T = some (tupObj #[.ref I])
  it : h.IsListIter I l i
  ls : h.IsList l items
  mI : M ≠ I
  tI : T ≠ I
  lI : l ≠ I
theorem MapAt.on {w : World} {h₀ h h' : Heap} {M T I l : Addr} {items : Array Value} {i j : Nat} (X : MapAt w h₀ h M T I l items i) (k : ∀ b o, b ≠ I → h.get? b = some o → h'.get? b = some o) (it : h'.IsListIter I l j) : MapAt w h₀ h' M T I l items j :=
  ⟨X.R, fun b o e => k b o (fun q => by rw [q, X.fresh] at e; cases e) (X.keep b o e), X.fresh, k _ _ X.mI X.m, k _ _ X.tI X.t, it, X.ls.at fun o e => k _ _ X.lI e, X.mI, X.tI, X.lI⟩
section
variable {w : World} {A : Around} {E : Value → Shared → Prop} {s : Shared} {h₀ : Heap} {M T I l : Addr} {items : Array Value} {i : Nat} {p : Str} {t : Tok}
theorem map_item {Q : Option Value → Shared → Prop} (hh : A.handled = none) (hd : A.depth ≤ 940) (hu : A.units ≤ 9400) (X : MapAt w h₀ s.heap M T I l items i) (hx : items[i]? = some (.str p t))
    (hQ : ∀ h' tk, MapAt w h₀ h' M T I l items (i + 1) → (∀ b o, b ≠ I → s.heap.get? b = some o → h'.get? b = some o) → Q (some (.str p t)) { s with heap := h', toks := tk }) :
    wpAny (model Challenge.rw_pd0082_01.row.prog w) A (pyNext (.ref M)) Q E s := by
  have hT : s.TypeIs (.ref M) "map" := ⟨_, X.m, rfl⟩
  unfold pyNext
  refine wpAny_bind (wpAny_attempt (wpAny_callSpecial?_slot (name := Str.ofString "__next__") hT mf_slot_next (wpAny_call_entry mf_slot_next hT mf_entry_next ?_ (mf_args_next _))))
  show wpAny _ _ (field (.ref M) 0 >>= _) _ _ s
  refine wpAny_bind (wpAny_field X.m rfl (x := .ref T) rfl ?_)
  show wpAny _ _ (seqItems? (.ref T) >>= _) _ _ s
  refine wpAny_bind (wpAny_seqItems X.t rfl ?_)
  simp only [List.forIn_cons, List.forIn_nil, ← Array.forIn_toList]
  refine wpAny_bind (wpAny_bind (wpAny_bind (wpAny_holding (wpAny_nextOf_list_item X.it X.ls hx fun h' hit hs => wpAny_pure (wpAny_pure ?_)))))
  have X' : MapAt w h₀ h' M T I l items (i + 1) := X.on (fun b o hb e => hs.extBut b o hb e) hit
  refine wpAny_bind (wpAny_field X'.m rfl (x := .ref 121) rfl ?_)
  show wpAny _ _ (holding _ (call (.ref 121) [.str p t]) >>= _) _ _ { s with heap := h' }
  refine wpAny_bind (wpAny_holding (wpAny_call (codeAny_mono (weaken (fspath_spec w { s with heap := h' } p t (X'.R.grows X'.keep)) hh (Nat.le_trans hd (by decide)) (by show A.units + 1 ≤ _; omega)) ?_)))
  rintro r s' ⟨v, h'', tk, rfl, rfl, g, rfl⟩
  refine wpAny_bind (wpAny_letGo (wpAny_pure ⟨_, rfl, wpAny_pure ?_⟩))
  have k2 : ∀ b o, b ≠ I → h'.get? b = some o → h''.get? b = some o := fun b o _ e => g b o e
  exact hQ h'' tk (X'.on k2 (hit.at fun o e => g _ _ e)) (fun b o hb e => g b o (hs.extBut b o hb e))
theorem map_end {Q : Option Value → Shared → Prop} (hh : A.handled = none) (X : MapAt w h₀ s.heap M T I l items i) (hx : items[i]? = none)
    (hQ : ∀ h', (∀ b o, b ≠ I → s.heap.get? b = some o → h'.get? b = some o) → Q none { s with heap := h' }) :
    wpAny (model Challenge.rw_pd0082_01.row.prog w) A (pyNext (.ref M)) Q E s := by
  have hT : s.TypeIs (.ref M) "map" := ⟨_, X.m, rfl⟩
  unfold pyNext
  refine wpAny_bind (wpAny_attempt (wpAny_callSpecial?_slot (name := Str.ofString "__next__") hT mf_slot_next (wpAny_call_entry mf_slot_next hT mf_entry_next ?_ (mf_args_next _))))
  show wpAny _ _ (field (.ref M) 0 >>= _) _ _ s
  refine wpAny_bind (wpAny_field X.m rfl (x := .ref T) rfl ?_)
  show wpAny _ _ (seqItems? (.ref T) >>= _) _ _ s
  refine wpAny_bind (wpAny_seqItems X.t rfl ?_)
  simp only [List.forIn_cons, List.forIn_nil, ← Array.forIn_toList]
  refine wpAny_bind (wpAny_bind (wpAny_bind (wpAny_holding (wpAny_nextOf_list_end hh X.it X.ls hx fun h' x he' hx' => ?_))))
  obtain ⟨o, ho, hc⟩ := hx'
  refine wpAny_bind (wpAny_isInstance (T := "StopIteration") (b := true) ⟨o, ho, hc⟩ isSubtype_stop ?_)
  exact wpAny_pure (hQ _ he')
theorem map_self {Q : Value → Shared → Prop} (X : MapAt w h₀ s.heap M T I l items i) (h : Q (.ref M) s) : wpAny (model Challenge.rw_pd0082_01.row.prog w) A (pyIter (.ref M)) Q E s := by
  have hT : s.TypeIs (.ref M) "map" := ⟨_, X.m, rfl⟩
  refine wpAny_pyIter_slot hT mf_slot_iter (wpAny_call_entry mf_slot_iter hT mf_entry_iter ?_ (mf_args_iter _))
  show wpAny _ _ (ret (.ref M)) _ _ s
  exact wpAny_pure ⟨_, rfl, "map", _, hT, mf_slot_next.lookup, h⟩
end
end Mine
namespace Mine
open PySem.Spec PySem.Calls PySem.W.X
noncomputable abbrev lstO (vs : Array Value) (c : Nat) : Obj := ⟨.type "list", none, .seq vs c, #[]⟩
theorem MapAt.off {w : World} {h₀ h h' : Heap} {M T I l S : Addr} {items : Array Value} {i : Nat} (X : MapAt w h₀ h M T I l items i) (k : ∀ b o, b ≠ S → h.get? b = some o → h'.get? b = some o) (hS : h₀.get? S = none) (sM : S ≠ M) (sT : S ≠ T) (sI : S ≠ I) (sl : S ≠ l) : MapAt w h₀ h' M T I l items i :=
  ⟨X.R, fun b o e => k b o (fun q => by rw [q, hS] at e; cases e) (X.keep b o e), X.fresh, k _ _ (Ne.symm sM) X.m, k _ _ (Ne.symm sT) X.t, X.it.at fun o e => k _ _ (Ne.symm sI) e, X.ls.at fun o e => k _ _ (Ne.symm sl) e, X.mI, X.tI, X.lI⟩
section
variable {w : World} {A : Around} {E : Value → Shared → Prop} {s : Shared} {h₀ : Heap} {M T I l S : Addr} {items acc : Array Value} {i c : Nat} {p q : Str} {t u : Tok} {R : Result → Shared → Prop}
theorem ext_item (hh : A.handled = none) (hd : A.depth ≤ 940) (hu : A.units ≤ 9300) (X : MapAt w h₀ s.heap M T I l items i) (hx : items[i]? = some (.str p t)) (hS : s.heap.get? S = some (lstO acc c)) (hsz : acc.size ≤ 1000)
    (hS₀ : h₀.get? S = none) (sM : S ≠ M) (sT : S ≠ T) (sI : S ≠ I) (sl : S ≠ l)
    (h : ∀ h' tk c', MapAt w h₀ h' M T I l items (i + 1) → h'.get? S = some (lstO (acc.push (.str p t)) c') → (∀ b o, b ≠ I → b ≠ S → s.heap.get? b = some o → h'.get? b = some o) →
      codeAny (model Challenge.rw_pd0082_01.row.prog w) A (.builtin "list.extend.loop" ⟨[.ref S, .ref M, .ref S], []⟩) R { s with heap := h', toks := tk }) :
    codeAny (model Challenge.rw_pd0082_01.row.prog w) A (.builtin "list.extend.loop" ⟨[.ref S, .ref M, .ref S], []⟩) R s := by
  refine codeAny_builtin F.entry_extend_loop ?_
  rw [Around.under_plainId F.plain_extend_loop _]
  show wpAny _ A.in1 (pyNext (.ref M) >>= _) _ _ s
  refine wpAny_bind (map_item hh hd (by show A.units + 1 ≤ _; omega) X hx fun h' tk X' hk => ?_)
  have hS' := hk S _ sI hS
  show wpAny _ A.in1 (updateSeq S (·.push (.str p t)) >>= _) _ _ _
  refine wpAny_bind ?_
  refine wpAny_updateSeq hS' rfl (wpAny_pure ⟨plainId_quiet F.plain_extend_loop _, ?_⟩) (by rw [sizeLine_eq]; omega) (by show (acc.push _).size ≤ sizeLine + 1; rw [Array.size_push, sizeLine_eq]; omega)
  have k : ∀ b o, b ≠ S → h'.get? b = some o → (h'.update S (Obj.mapSeq (·.push (.str p t)))).get? b = some o := fun b o hb e => (Heap.get?_update_other _ _ (Ne.symm hb)).trans e
  exact h _ tk _ (X'.off k hS₀ sM sT sI sl) (Heap.get?_update_self _ hS' rfl) (fun b o hb hb2 e => k b o hb2 (hk b o hb e))
theorem ext_end (hh : A.handled = none) (X : MapAt w h₀ s.heap M T I l items i) (hx : items[i]? = none) (hS : s.heap.get? S = some (lstO acc c)) (sI : S ≠ I)
    (h : ∀ h', h'.get? S = some (lstO acc c) → (∀ b o, b ≠ I → s.heap.get? b = some o → h'.get? b = some o) → R (.ok (.ret (.ref S))) { s with heap := h' }) :
    codeAny (model Challenge.rw_pd0082_01.row.prog w) A (.builtin "list.extend.loop" ⟨[.ref S, .ref M, .ref S], []⟩) R s := by
  refine codeAny_builtin F.entry_extend_loop ?_
  rw [Around.under_plainId F.plain_extend_loop _]
  show wpAny _ A.in1 (pyNext (.ref M) >>= _) _ _ s
  refine wpAny_bind (map_end hh X hx fun h' hk => ?_)
  exact wpAny_pure (h h' (hk S _ sI hS) hk)
theorem map_collect {Q : List Value → Shared → Prop} (hh : A.handled = none) (hd : A.depth ≤ 940) (hu : A.units ≤ 9200) (X : MapAt w h₀ s.heap M T I l #[.str p t, .str q u] 0)
    (hQ : ∀ (h' : Heap) (tk : Nat), (∀ b o, b ≠ I → s.heap.get? b = some o → h'.get? b = some o) → Q [.str p t, .str q u] { s with heap := h', toks := tk }) :
    wpAny (model Challenge.rw_pd0082_01.row.prog w) A (collect (.ref M)) Q E s := by
  have hM : s.TypeIs (.ref M) "map" := ⟨_, X.m, rfl⟩
  have fr : ∀ b o, s.heap.get? b = some o → s.heap.objs.size ≠ b := fun b o e => Nat.ne_of_gt (Heap.lt_size e)
  obtain ⟨oI, hoI, _⟩ := X.it
  obtain ⟨ol, hol, _⟩ := X.ls
  have sM := fr _ _ X.m
  have sT := fr _ _ X.t
  have sI := fr _ _ hoI
  have sl := fr _ _ hol
  have hS₀ : h₀.get? s.heap.objs.size = none := by
    cases e : h₀.get? s.heap.objs.size with
    | none => rfl
    | some o => exact absurd (Heap.lt_size (X.keep _ _ e)) (Nat.lt_irrefl _)
  unfold collect
  refine wpAny_bind (wpAny_runValue (codeAny_builtin F.entry_proto_collect ?_))
  rw [Around.under_plainId F.plain_proto_collect _]
  show wpAny _ A.in1 (newList [] >>= fun l => again (.builtin "list.__iadd__" ⟨[l, .ref M], []⟩)) _ _ s
  refine wpAny_bind (wpAny_newObj_type ?_)
  refine wpAny_pure ⟨plainId_quiet F.plain_list_iadd _, codeAny_builtin F.entry_list_iadd ?_⟩
  rw [Around.under_plainId F.plain_list_iadd _]
  have up : ∀ b o, s.heap.get? b = some o → (s.heap.push { cls := .type "list", data := .seq ([] : List Value).toArray }).get? b = some o := fun b o e => Heap.get?_push_of_some _ e
  have X₁ : MapAt w h₀ (s.heap.push { cls := .type "list", data := .seq ([] : List Value).toArray }) M T I l #[.str p t, .str q u] 0 := X.off (S := s.heap.objs.size) (fun b o _ e => up b o e) hS₀ sM sT sI sl
  have hS₁ : (s.heap.push { cls := .type "list", data := .seq ([] : List Value).toArray }).get? s.heap.objs.size = some (lstO #[] 0) := Heap.get?_push_size _ rfl
  have hT₁ : ({ s with heap := s.heap.push { cls := .type "list", data := .seq ([] : List Value).toArray } } : Shared).TypeIs (.ref M) "map" := ⟨_, X₁.m, rfl⟩
  show wpAny _ A.in1 (Builtin.List.listExtendWith (.ref s.heap.objs.size) (.ref M) (.ref s.heap.objs.size)) _ _ _
  unfold Builtin.List.listExtendWith
  refine wpAny_bind (wpAny_typeOf hT₁ ?_)
  have h1 : Builtin.List.listSameRef (.ref s.heap.objs.size) (.ref M) = false := by simp [Builtin.List.listSameRef, sM]
  have h2 : (Value.type "map" == Value.type "list") = false := by decide
  have h3 : (Value.type "map" == Value.type "tuple") = false := by decide
  simp only [h1, h2, h3, Bool.or_false, Bool.false_eq_true, if_false]
  refine wpAny_bind (map_self X₁ ?_)
  refine wpAny_bind (wpAny_holding ?_)
  unfold Builtin.List.listLengthHint
  refine wpAny_bind (wpAny_specialOf hT₁ mf_no_len ?_)
  show wpAny _ A.in1 (specialOf (Value.ref M) (Str.ofString "__length_hint__") >>= _) _ _ _
  refine wpAny_bind (wpAny_specialOf hT₁ mf_no_hint ?_)
  refine wpAny_pure ?_
  show wpAny _ A.in1 (rule "list.extend.makes-room" >>= fun _ => Builtin.List.listTouch (.ref s.heap.objs.size) >>= fun _ =>
    again (.builtin "list.extend.loop" ⟨[.ref s.heap.objs.size, .ref M, .ref s.heap.objs.size], []⟩)) _ _ _
  refine wpAny_bind (wpAny_rule ?_)
  refine wpAny_bind ?_
  show wpAny _ A.in1 (updateSeq s.heap.objs.size (·.push .none) >>= fun _ => updateSeq s.heap.objs.size (·.pop)) _ _ _
  refine wpAny_bind (wpAny_updateSeq hS₁ rfl ?_)
  have hS₂ := Heap.get?_update_self (Obj.mapSeq (·.push Value.none)) hS₁ rfl
  refine wpAny_updateSeq hS₂ rfl ?_
  have hS₃ := Heap.get?_update_self (Obj.mapSeq (·.pop)) hS₂ rfl
  have oth : ∀ b o, b ≠ s.heap.objs.size → (s.heap.push { cls := .type "list", data := .seq ([] : List Value).toArray }).get? b = some o →
      (((s.heap.push { cls := .type "list", data := .seq ([] : List Value).toArray }).update s.heap.objs.size (Obj.mapSeq (·.push Value.none))).update s.heap.objs.size (Obj.mapSeq (·.pop))).get? b = some o :=
    fun b o hb e => (Heap.get?_update_other _ _ (Ne.symm hb)).trans ((Heap.get?_update_other _ _ (Ne.symm hb)).trans e)
  have X₂ := X₁.off (S := s.heap.objs.size) oth hS₀ sM sT sI sl
  refine wpAny_pure ⟨plainId_quiet F.plain_extend_loop _, ?_⟩
  refine ext_item (S := s.heap.objs.size) (acc := #[]) hh (by show A.depth ≤ _; omega) (by show A.units ≤ _; omega) X₂ rfl hS₃ (by decide) hS₀ sM sT sI sl fun h₂ tk₂ c₂ X₂ hS₂ k₂ => ?_
  refine ext_item (S := s.heap.objs.size) (s := { s with heap := h₂, toks := tk₂ }) hh (by show A.depth ≤ _; omega) (by show A.units ≤ _; omega) X₂ rfl hS₂ (by simp) hS₀ sM sT sI sl fun h₃ tk₃ c₃ X₃ hS₃ k₃ => ?_
  refine ext_end (s := { s with heap := h₃, toks := tk₃ }) hh X₃ rfl hS₃ sI fun h₄ hS₄ k₄ => ?_
  show wpAny _ A (load s.heap.objs.size >>= _) _ _ _
  refine wpAny_bind (wpAny_load hS₄ ?_)
  refine wpAny_pure (hQ h₄ tk₃ fun b o hb e => ?_)
  have hbS : b ≠ s.heap.objs.size := Nat.ne_of_lt (Heap.lt_size e)
  exact k₄ b o hb (k₃ b o hb hbS (k₂ b o hb hbS (oth b o hbS (up b o e))))
theorem code_tuple_map {Q₁ : Value → Shared → Prop} (hh : A.handled = none) (hd : A.depth ≤ 930) (hu : A.units ≤ 9000) (X : MapAt w h₀ s.heap M T I l #[.str p t, .str q u] 0)
    (h : ∀ (h' : Heap) (tk : Nat), (∀ b o, b ≠ I → s.heap.get? b = some o → h'.get? b = some o) → Q₁ (.ref h'.objs.size) { s with heap := h'.push { cls := .type "tuple", data := .seq #[.str p t, .str q u] }, toks := tk }) :
    codeAny (model Challenge.rw_pd0082_01.row.prog w) A (.call (.builtin "tuple.__new__") ⟨[.type "tuple", .ref M], []⟩) (wants Q₁ E) s := by
  refine codeAny_of_tree ?_
  show wpAny _ A.in1 (do checkBuiltinCall "tuple.__new__" ⟨[.type "tuple", .ref M], []⟩; again (.builtin "tuple.__new__" ⟨[.type "tuple", .ref M], []⟩)) _ _ s
  refine wpAny_bind (wpAny_of_eq (F.newCall_tuple_1 _) (wpAny_pure ⟨plainId_quiet F.plain_tuple_new _, codeAny_builtin F.entry_tuple_new ?_⟩))
  rw [Around.under_plainId F.plain_tuple_new _]
  have hsub := sub_tuple_self
  have hinit := init_tuple_lookup
  have hmh := madeHere_tuple
  have hTI : s.TypeIs (.ref M) "map" := ⟨_, X.m, rfl⟩
  wp_walk using wpAny_typeOf hTI, map_collect (A := A.in1) hh (by show A.depth ≤ _; omega) (by show A.units + 1 ≤ _; omega) X
  intro h' tk hk
  show wpAny _ _ (Builtin.Tuple.tupleExact _ >>= fun v => ret v) _ _ _
  unfold Builtin.Tuple.tupleExact
  refine wpAny_bind (wpAny_newObj_type ?_ (by show 2 ≤ sizeLine; rw [sizeLine_eq]; decide))
  exact wpAny_pure (h h' tk hk)
theorem call_tuple_map {Q : Value → Shared → Prop} (hh : A.handled = none) (hd : A.depth ≤ 900) (hu : A.units ≤ 8900) (X : MapAt w h₀ s.heap M T I l #[.str p t, .str q u] 0)
    (hQ : ∀ (h' : Heap) (tk : Nat), (∀ b o, b ≠ I → s.heap.get? b = some o → h'.get? b = some o) → Q (.ref h'.objs.size) { s with heap := h'.push { cls := .type "tuple", data := .seq #[.str p t, .str q u] }, toks := tk }) :
    wpAny (model Challenge.rw_pd0082_01.row.prog w) A (call (.type "tuple") [.ref M]) Q E s := by
  refine callType_codes (Q₁ := fun obj s₁ => s₁.TypeIs obj "tuple" ∧ Q obj s₁) F.called_tuple (F.typeCall_tuple_1 _) F.entry_object_init
    (code_tuple_map hh (by show A.depth ≤ _; omega) (by show A.units + 1 ≤ _; omega) X fun h' tk hk => ⟨⟨_, Heap.get?_push_size _ rfl, rfl⟩, hQ h' tk hk⟩) fun obj s₁ h₁ => ?_
  exact ⟨h₁.1, F.args_object_init_2 obj _, object_init_meets F.called_tuple.init.lookup F.called_tuple.made (by decide) Challenge.rw_pd0082_01.row.prog w A.in1 _ s₁ ⟨h₁.1, rfl, h₁.2⟩⟩
end
end Mine
namespace Mine
open PySem.Spec PySem.Calls PySem.W.X
noncomputable def MapIn (w : World) (h₀ : Heap) (L : Addr) (m : Str → Option Value) (news : List (Addr × Obj)) (h : Heap) (M : Addr) (items : Array Value) : Prop :=
  ∃ hc T I l, MapAt w hc h M T I l items 0 ∧ Fr h₀ L hc m ∧ News h₀ L hc news
section
variable {w : World} {A : Around} {E Q : Value → Shared → Prop} {s : Shared} {h₀ : Heap} {L M l : Addr} {m : Str → Option Value} {news : List (Addr × Obj)} {p q : Str} {t u : Tok} {items : Array Value} {n : Nat}
theorem use_map (R : Rdy w h₀) (F : Fr h₀ L s.heap m) (N : News h₀ L s.heap news) (hh : A.handled = none) (hd : A.depth ≤ 980) (hu : A.units ≤ 9800) (hl : h₀.get? l = some (W.listOf items n))
    (c : ∀ M h' tk, MapIn w h₀ L m news h' M items → Fr h₀ L h' m → News h₀ L h' news → Q (.ref M) { s with heap := h', toks := tk }) :
    wpAny (model Challenge.rw_pd0082_01.row.prog w) A (call (.type "map") [.ref 121, .ref l]) Q E s := by
  have hl' : s.heap.get? l = some ⟨.type "list", none, .seq items n, #[]⟩ := F.keep _ _ hl
  refine wpAny_mono (weakenW (map_made hl') hh hd hu) ?_ (fun _ _ h => h)
  rintro v s' ⟨I, T, M, h', tk, rfl, rfl, g, fI, fT, fM, e1, e2, e3, oI, oT, oM⟩
  refine c M h' tk ⟨s.heap, T, I, l, ⟨R.fr F, g, fI, oM, oT, ⟨_, oI, rfl, rfl⟩, ⟨_, g _ _ hl', rfl, _, rfl⟩, Ne.symm e2, Ne.symm e1, fun e => ?_⟩, F, N⟩ (Fr.keeps F g) (News.grown N g)
  rw [e, fI] at hl'
  cases hl'
theorem use_tuple_map (X : MapIn w h₀ L m news s.heap M #[.str p t, .str q u]) (hh : A.handled = none) (hd : A.depth ≤ 900) (hu : A.units ≤ 8900)
    (c : ∀ D h' tk, Fr h₀ L h' m → News h₀ L h' ((D, ({ cls := .type "tuple", data := .seq #[.str p t, .str q u] } : Obj)) :: news) → Q (.ref D) { s with heap := h', toks := tk }) :
    wpAny (model Challenge.rw_pd0082_01.row.prog w) A (call (.type "tuple") [.ref M]) Q E s := by
  obtain ⟨hc, T, I, l, X, F, N⟩ := X
  refine call_tuple_map hh hd hu X fun h' tk hk => ?_
  have g : Grows hc h' := fun b o e => hk b o (fun q => by rw [q, X.fresh] at e; cases e) (X.keep b o e)
  have F' := Fr.keeps F g
  have N' := News.grown N g
  exact c _ _ tk (F'.push _) (N'.push F' _)
end
end Mine
namespace Mine
open PySem.Spec PySem.Calls PySem.W.X
noncomputable def SrcAtT (ax : Addr) (its : Array Value) (news : List (Addr × Obj)) : Prop := ∃ o, (ax, o) ∈ news ∧ o.cls = .type "tuple" ∧ ∃ n, o.data = .seq its n
theorem SrcAtT.tup {h₀ h : Heap} {L ax : Addr} {its : Array Value} {news : List (Addr × Obj)} (x : SrcAtT ax its news) (N : News h₀ L h news) : h.IsTuple ax its := by
  obtain ⟨o, hm, r⟩ := x
  exact ⟨o, (N _ hm).1, r⟩
noncomputable def CompSrcT (prog : Program) (w : World) (A : Around) (h₀ : Heap) (L : Addr) (m : Str → Option Value) (env : Env) (elt : PySem.Expr) (x : Str) (scope : Scope) (cl : List (Str × Addr)) (Fin : Shared → List Value → List (Addr × Obj) → Prop) (xv : Value) (s₁ : Shared) : Prop :=
  ∃ ax its news, xv = .ref ax ∧ A.handled = none ∧ Fr h₀ L s₁.heap m ∧ News h₀ L s₁.heap news ∧ SrcAtT ax its news ∧ its.size ≤ sizeLine ∧
    ∀ s₂ : Shared, (∃ h, s₂ = { s₁ with heap := h }) → LCg.CompRest prog w A h₀ L m env elt x scope cl s₂ (SrcAtT ax its) (fun i v => its[i]? = some v) (Fin s₂) its.size 0 [] news
section
variable {prog : Program} {w : World} {A : Around} {E : Value → Shared → Prop} {s : Shared} {h₀ : Heap} {L : Addr} {m : Str → Option Value} {env : Env}
theorem CompSrcT.ledger {elt : PySem.Expr} {x : Str} {scope : Scope} {cl : List (Str × Addr)} {Fin : Shared → List Value → List (Addr × Obj) → Prop} {ax : Addr} {its : Array Value} {k : Nat} {news : List (Addr × Obj)} {s₁ : Shared}
    (hh : A.handled = none) (F : Fr h₀ L s₁.heap m) (N : News h₀ L s₁.heap news) (hm : (ax, ({ cls := .type "tuple", data := .seq its k } : Obj)) ∈ news) (hsz : its.size ≤ sizeLine)
    (h : ∀ g, LCg.CompRest prog w A h₀ L m env elt x scope cl { s₁ with heap := g } (SrcAtT ax its) (fun i v => its[i]? = some v) (Fin { s₁ with heap := g }) its.size 0 [] news) :
    CompSrcT prog w A h₀ L m env elt x scope cl Fin (.ref ax) s₁ := ⟨ax, its, news, rfl, hh, F, N, ⟨_, hm, rfl, _, rfl⟩, hsz, fun _ ⟨g, e⟩ => e ▸ h g⟩
theorem tup_st {ax I : Addr} {its : Array Value} : ∀ i (h h' : Heap) (o : Obj) (nw : List (Addr × Obj)), (h.IsTupleIter I ax i ∧ h.IsTuple ax its) → h.get? I = some o → h'.get? I = some o → (∀ b o, h₀.get? b = some o → h'.get? b = some o) → News h₀ L h' nw → SrcAtT ax its nw → (h'.IsTupleIter I ax i ∧ h'.IsTuple ax its) :=
  fun i h h' o nw st e e' k N S => ⟨by obtain ⟨o', q, r⟩ := st.1; rw [e] at q; cases q; exact ⟨o, e', r⟩, S.tup N⟩
theorem Assign_ListComp_T {elt iter : PySem.Expr} {x y : Str} {px py : Pos} {scope : Scope} {cl : List (Str × Addr)} {pos spos : Pos} {Q : Flow → Shared → Prop} (F₀ : Fr h₀ L s.heap m) (hLe : env.locals = L)
    (hsw : swapsWith (.ListComp elt [⟨.Name x px, iter, [], 0⟩] scope pos) (some (.Name y py)) spos.line env = pure true)
    (hclos : closureFor scope env = pure cl) (hcell : ∀ z ∈ scope.names, z.2 ≠ .cell) (hkind : scope.kind = .function)
    (hnames : ∀ z ∈ scope.names, z.2 = .local → scope.names.lookup z.1 = some .local) (hx : scope.names.lookup x = some .local)
    (hy : env.kindOf y = some .local) (hp : (env.scope.kind == .class || (env.scope.kind == .module && env.locals != env.globals)) = false)
    (h : wpAny (model prog w) A (eval iter env) (CompSrcT prog w A h₀ L m env elt x scope cl (fun s₂ => LCg.FinA h₀ L m s₂ y Q)) E s)
    (hs : ∀ x, foldedSetIterable iter env x = pure x := by intro _; rfl) :
    wpAny (model prog w) A (exec (.Assign [.Name y py] (.ListComp elt [⟨.Name x px, iter, [], 0⟩] scope pos) spos) env) Q E s := by
  subst hLe
  rw [exec_Assign_Name_used _ _ _ _ hsw]
  refine wpAny_bind (wpAny_standAt (wpAny_bind ?_))
  show wpAny _ A (do let _ ← comprehension (.ListComp elt [⟨.Name x px, iter, [], 0⟩] scope pos) scope env _ (newList []) false (eval iter env) (some (assign (.Name y py) env))) _ _ s
  refine wpAny_bind (wpAny_mono (wpAny_comprehension_free (use := some (assign (.Name y py) env)) (Q := fun _ s' => Q .next s') rfl hs hclos hkind hnames
    (wpAny_mono h (fun xv s₁ h₁ => ?_) fun _ _ e => e)) (fun _ s' hq => wpAny_pure (wpAny_pure hq)) fun _ _ e => e)
  obtain ⟨ax, its, news, rfl, hh, F, N, S, hsz, R⟩ := h₁
  have hl := S.tup N
  have hlt : ax < s₁.heap.objs.size := by obtain ⟨_, e, _⟩ := hl; exact Heap.lt_size e
  refine wpAny_pyIter_tuple hl ?_
  have up : ∀ b o, s₁.heap.get? b = some o → (s₁.heap.push { cls := .type "tuple_iterator", data := .fields #[.ref ax, .int 0 0] }).get? b = some o := fun b o e => Heap.get?_push_of_some _ e
  refine LCg.block_U (Walks.tuple hh s₁.heap.objs.size ax (Nat.ne_of_lt hlt) its) hsz (fun i h st => by obtain ⟨o, e, _⟩ := st.1; exact ⟨o, e⟩) tup_st hcell hkind hx ⟨⟨_, Heap.get?_push_size _ rfl, rfl, rfl⟩, hl.push _⟩ (fun b hb => ?_)
    (F.keeps up) (N.grown up) (Nat.ne_of_lt F.ns.lt) (next_is_new F) (fun p hp => Nat.ne_of_lt (Heap.lt_size (N p hp).1)) S (R _ ⟨_, rfl⟩) ?_
  · show b < (s₁.heap.push _).objs.size
    rw [Heap.size_push]
    rcases List.mem_cons.mp hb with rfl | hb
    · exact Nat.lt_succ_self _
    · rw [List.mem_singleton.mp hb]; exact Nat.lt_succ_of_lt hlt
  · intro D C h' tk m' ys news' F' N' o1 hn hC₀ hD₀ hCL hDL hCD offC fin
    show wpAny _ A (assign (.Name y py) env (.ref D)) _ _ _
    refine wpAny_assign_Name (wpAny_storeName_local hy F'.ns (fun h₂ hn₂ hs₂ => ?_) hp)
    have hL₀ : h₀.get? env.locals = none := Heap.get?_none_of_le F'.above
    have F₂ : Fr h₀ env.locals h₂ (fun z => if z = y then some (.ref D) else m z) := ⟨hn₂, fun b o e => hs₂.extBut b o (fun q => by rw [q, hL₀] at e; cases e) (F'.keep b o e), F'.above⟩
    refine ⟨m', hn.sameBut hs₂ hCL, fun h'' hs'' => fin D h'' _ (F₂.change hs'' hCL hC₀) (fun p hp => ?_) o1⟩
    have z : h₂.get? p.1 = some p.2 := hs₂.extBut _ _ (N' p hp).2.1 (N' p hp).1
    refine ⟨hs''.extBut _ _ ?_ z, (N' p hp).2⟩
    rcases List.mem_cons.mp hp with rfl | hp
    · exact Ne.symm hCD
    · exact offC p hp
end
end Mine
namespace Mine
open PySem.Spec PySem.Calls PySem.W.X
theorem off1_size {h₀ h : Heap} {L : Addr} {news : List (Addr × Obj)} (N : News h₀ L h news) : LCg.Off1 h.objs.size news := by
  have : ∀ l : List (Addr × Obj), (∀ p ∈ l, p.1 < h.objs.size) → LCg.Off1 h.objs.size l := by
    intro l
    induction l with
    | nil => intro _; trivial
    | cons p l ih => intro hl; exact ⟨Nat.ne_of_lt (hl p (.head _)), ih fun q hq => hl q (.tail _ hq)⟩
  exact this news fun p hp => Heap.lt_size (N p hp).1
section
variable {w : World} {A : Around} {s : Shared} {h₀ : Heap} {L : Addr} {m : Str → Option Value} {news : List (Addr × Obj)} {Q E : Value → Shared → Prop} {p q : Str} {t u : Tok}
theorem use_split (F : Fr h₀ L s.heap m) (N : News h₀ L s.heap news) (hp : p.length ≤ 1000) (hq : (q.length == 0) = false)
    (c : ∀ D vs n h' tk, LCg.Off1 D news → (∀ b o, h₀.get? b = some o → b ≠ D) → StrsAre vs.toList (Txt.split p q) → Fr h₀ L h' m → News h₀ L h' ((D, W.listOf vs n) :: news) → Q (.ref D) { s with heap := h', toks := tk }) :
    wpAny (model Challenge.rw_pd0082_01.row.prog w) A (call (.builtin "str.split") [.str p t, .str q u]) Q E s := by
  refine splitN1A F N hq (fun l h' k e a1 a2 a3 F' N' => ?_) (by rw [sizeLine_eq]; omega)
  refine c _ (strValues l).toArray 0 h' k (off1_size N) (fun b o hb => Nat.ne_of_lt (Heap.lt_size (F.keep b o hb))) ?_ F' N'
  rw [← e]
  exact a1
end
end Mine
namespace Mine
open PySem.Spec PySem.Calls PySem.W.X
noncomputable abbrev freshT (led : Bool) : SetTable := .fresh 0 0 led
noncomputable def oneT (led : Bool) : SetTable := (layNew (freshT led) #[] 1 (.bool true)).2.1
theorem lay_one (led : Bool) : layNew (freshT led) #[] 1 (.bool true) = (#[(1, .bool true)], oneT led, false, false) := by
  cases led <;> decide +kernel
theorem oneT_plain (led : Bool) : (oneT led).plain = true := by cases led <;> decide +kernel
theorem oneT_full (led : Bool) : (oneT led).tooFull = false := by cases led <;> decide +kernel
theorem oneT_fits (led : Bool) : (oneT led).fits 1 = true := by cases led <;> decide +kernel
theorem oneT_led (led : Bool) : (oneT led).led = led := by cases led <;> decide +kernel
theorem oneT_place (led : Bool) : ∃ j, (oneT led).place = #[j] := by cases led <;> exact ⟨1, by decide +kernel⟩
noncomputable abbrev set0 (led : Bool) : Obj := { cls := .type "set", data := .set #[] 0 (freshT led) }
noncomputable abbrev set1 (led : Bool) : Obj := { cls := .type "set", data := .set #[(1, .bool true)] 1 (oneT led) }
section
variable {prog : Program} {w : World} {A : Around} {E : Value → Shared → Prop} {s : Shared} {a : Addr} {led : Bool}
theorem hash_true {Q : Int → Shared → Prop} (hu : A.units ≤ 9000) (h : ∀ tk, Q 1 { s with toks := tk }) : wpAny (model prog w) A (pyHash (.bool true)) Q E s := by
  refine pyHash_slot (T := "bool") rfl F.slot_bool_hash entry_int_hash (args_int_hash _) (beq_builtin_none _) (.inr (by unfold cLine; omega)) ?_
  exact (show wpAny _ _ (do ret (← mkInt 1)) _ _ s from wpAny_bind (wpAny_mkInt (wpAny_pure ⟨_, _, rfl, h _⟩)))
theorem add_first {Q : Value → Shared → Prop} (hu : A.units ≤ 8900) (ho : s.heap.get? a = some (set0 led))
    (h : ∀ h' tk, Heap.SameBut a s.heap h' → h'.get? a = some (set1 led) → Q .none { s with heap := h', toks := tk }) :
    wpAny (model prog w) A (call (.builtin "set.add") [.ref a, .bool true]) Q E s := by
  have hT : s.TypeIs (.ref a) "set" := ⟨_, ho, rfl⟩
  refine wpAny_call_entry F.slot_set_add hT F.entry_set_add ?_ (F.args_set_add_2 _ _)
  unfold Builtin.«set.add» Builtin.Frozenset.oneOther
  simp only [List.isEmpty_nil, bind_assoc]
  unfold Builtin.Frozenset.addrOf setAdd
  refine wpAny_bind (wpAny_pure ?_)
  try dsimp only
  refine wpAny_bind (wpAny_pure ?_)
  try dsimp only
  refine wpAny_bind ?_
  refine wpAny_holding ?_
  refine wpAny_bind (hash_true (by show A.units + 1 ≤ _; omega) fun tk => ?_)
  unfold setAddHashed setAddHashedIn
  refine wpAny_holding (wpAny_bind (wpAny_setState_of (es := #[]) (ep := 0) (t := freshT led) (s := { s with toks := tk }) ho rfl (by cases led <;> rfl) ?_))
  dsimp only
  rw [show byScan (.bool true) #[] = true from by decide +kernel]
  simp only [↓reduceIte]
  unfold setAddByScan
  refine wpAny_bind ?_
  refine wpAny_bind (wpAny_rule ?_)
  refine wpAny_bind (m := setScan a (.bool true) 1 true #[]) (wpAny_pure ?_)
  dsimp only
  have hgw : ∀ (b : Bool) {A : Around} {E : Value → Shared → Prop} {s₁ : Shared} {Q' : Unit → Shared → Prop}, Q' () s₁ → wpAny (model prog w) A (match b with | true => rule "set.scan.the-table-gave-way" | false => pure ()) Q' E s₁ :=
    fun b A E s₁ Q' hq => by cases b <;> first | exact wpAny_pure hq | exact wpAny_rule hq
  rw [lay_one led]
  dsimp only
  refine wpAny_bind (hgw false ?_)
  rw [oneT_plain led]
  simp only [↓reduceIte]
  refine wpAny_bind (m := hashByValue 8 (.bool true)) (wpAny_pure ?_)
  simp only [↓reduceIte]
  refine wpAny_bind (wpAny_storeSet_of (s := { s with toks := tk }) ho rfl ?_)
  rw [oneT_full led]
  simp only [Bool.and_false, Bool.false_eq_true, ↓reduceIte]
  refine wpAny_pure (wpAny_pure ?_)
  show wpAny _ _ (ret Value.none) _ _ _
  exact wpAny_pure ⟨_, rfl, h _ tk (Heap.SameBut.update ..) (Heap.get?_update_self _ ho rfl)⟩
theorem add_again {Q : Value → Shared → Prop} (hu : A.units ≤ 8900) (ho : s.heap.get? a = some (set1 led))
    (h : ∀ tk, Q .none { s with toks := tk }) :
    wpAny (model prog w) A (call (.builtin "set.add") [.ref a, .bool true]) Q E s := by
  have hT : s.TypeIs (.ref a) "set" := ⟨_, ho, rfl⟩
  refine wpAny_call_entry F.slot_set_add hT F.entry_set_add ?_ (F.args_set_add_2 _ _)
  unfold Builtin.«set.add» Builtin.Frozenset.oneOther
  simp only [List.isEmpty_nil, bind_assoc]
  unfold Builtin.Frozenset.addrOf setAdd
  refine wpAny_bind (wpAny_pure ?_)
  try dsimp only
  refine wpAny_bind (wpAny_pure ?_)
  try dsimp only
  refine wpAny_bind ?_
  refine wpAny_holding ?_
  refine wpAny_bind (hash_true (by show A.units + 1 ≤ _; omega) fun tk => ?_)
  unfold setAddHashed setAddHashedIn
  refine wpAny_holding (wpAny_bind (wpAny_setState_of (es := #[(1, .bool true)]) (ep := 1) (t := oneT led) (s := { s with toks := tk }) ho rfl (oneT_fits led) ?_))
  dsimp only
  rw [show byScan (.bool true) #[(1, .bool true)] = true from by decide +kernel]
  simp only [↓reduceIte]
  unfold setAddByScan
  refine wpAny_bind ?_
  refine wpAny_bind (wpAny_rule ?_)
  refine wpAny_bind (m := setScan a (.bool true) 1 true #[(1, .bool true)]) ?_
  unfold setScan setScanFrom
  simp only [beq_self_eq_true, ↓reduceIte]
  unfold setEpoch
  refine wpAny_bind (wpAny_bind (wpAny_setState_of (es := #[(1, .bool true)]) (ep := 1) (t := oneT led) (s := { s with toks := tk }) ho rfl (oneT_fits led) (wpAny_pure ?_)))
  unfold eqBool
  simp only [beq_self_eq_true, ↓reduceIte]
  refine wpAny_bind (wpAny_bind (wpAny_rule (wpAny_pure ?_)))
  simp only [Bool.and_self, ↓reduceIte]
  refine wpAny_pure (wpAny_pure (wpAny_pure ?_))
  show wpAny _ _ (ret Value.none) _ _ _
  exact wpAny_pure ⟨_, rfl, h tk⟩
end
end Mine
namespace Mine
open PySem.Spec PySem.Calls PySem.W.X
noncomputable def ledOf (w : World) : Bool := !w.params.followText "set-order"
noncomputable def nxOf (w : World) : Nat := if w.params.followText "set-order" then 0 else 2
theorem pick_one {α : Type} (f : Nat → Nat) (x : α) : pickOrder f #[x] = #[x] := by
  show pickOrder.go f 1 0 [x] #[] = _
  simp [pickOrder.go, Nat.mod_one]
theorem oneT_place1 (led : Bool) : (oneT led).place = #[1] := by cases led <;> decide +kernel
theorem below_0 : SetTable.below #[1] 0 = 0 := by decide +kernel
theorem below_2 : SetTable.below #[1] 2 = 1 := by decide +kernel
section
variable {prog : Program} {w : World} {A : Around} {E : Value → Shared → Prop} {s : Shared} {a it : Addr}
theorem set_state {Q : (Array (Int × Value) × Nat × SetTable) → Shared → Prop} (ho : s.heap.get? a = some (set1 (ledOf w))) (h : Q (#[(1, .bool true)], 1, oneT (ledOf w)) s) : wpAny (model prog w) A (setState a) Q E s :=
  wpAny_setState_of ho rfl (oneT_fits _) h
theorem by_text {Q : Bool → Shared → Prop} (h : Q (w.params.followText "set-order") s) : wpAny (model prog w) A setsByText Q E s := by
  unfold setsByText
  exact wpAny_bind (wpAny_askSetting (wpAny_pure h))
theorem setNext_0 {Q : Option (Value × Nat) → Shared → Prop} (ho : s.heap.get? a = some (set1 (ledOf w))) (h : Q (some (.bool true, nxOf w)) s) : wpAny (model prog w) A (setNext a 0 0 1) Q E s := by
  unfold setNext
  refine wpAny_bind (set_state ho ?_)
  dsimp only
  refine wpAny_bind (by_text ?_)
  cases hb : w.params.followText "set-order" with
  | true =>
    simp only [↓reduceIte, bne_self_eq_false, Bool.false_eq_true]
    unfold setWalk
    refine wpAny_bind (wpAny_bind (set_state ho ?_))
    dsimp only
    refine wpAny_bind (by_text ?_)
    simp only [hb, ↓reduceIte]
    refine wpAny_bind (wpAny_askSetting ?_)
    refine wpAny_pure ?_
    rw [pick_one]
    refine wpAny_pure ?_
    simpa [nxOf, hb] using h
  | false =>
    simp only [Bool.false_eq_true, ↓reduceIte]
    show wpAny _ _ (if (!(oneT (ledOf w)).plain && decide (1 > 1)) = true then _ else _) _ _ s
    rw [if_neg (by simp)]
    have hl : (oneT (ledOf w)).led = true := by rw [oneT_led]; simp [ledOf, hb]
    show wpAny _ _ ((if (!(oneT (ledOf w)).led && !(#[((1 : Int), Value.bool true)] : Array (Int × Value)).isEmpty) = true then unsupported "set:maker-not-led" else pure ()) >>= _) _ _ s
    rw [if_neg (by simp [hl])]
    refine wpAny_bind (wpAny_pure ?_)
    rw [oneT_place1, below_0]
    refine wpAny_pure ?_
    simpa [nxOf, hb] using h
theorem setNext_1 {Q : Option (Value × Nat) → Shared → Prop} (ho : s.heap.get? a = some (set1 (ledOf w))) (h : Q none s) : wpAny (model prog w) A (setNext a (nxOf w) 1 1) Q E s := by
  unfold setNext
  refine wpAny_bind (set_state ho ?_)
  dsimp only
  refine wpAny_bind (by_text ?_)
  cases hb : w.params.followText "set-order" with
  | true =>
    simp only [↓reduceIte, bne_self_eq_false, Bool.false_eq_true]
    unfold setWalk
    refine wpAny_bind (wpAny_bind (set_state ho ?_))
    dsimp only
    refine wpAny_bind (by_text ?_)
    simp only [hb, ↓reduceIte]
    refine wpAny_bind (wpAny_askSetting ?_)
    refine wpAny_pure ?_
    rw [pick_one]
    refine wpAny_pure ?_
    simpa using h
  | false =>
    simp only [Bool.false_eq_true, ↓reduceIte]
    show wpAny _ _ (if (!(oneT (ledOf w)).plain && decide (1 > 1)) = true then _ else _) _ _ s
    rw [if_neg (by simp)]
    have hl : (oneT (ledOf w)).led = true := by rw [oneT_led]; simp [ledOf, hb]
    show wpAny _ _ ((if (!(oneT (ledOf w)).led && !(#[((1 : Int), Value.bool true)] : Array (Int × Value)).isEmpty) = true then unsupported "set:maker-not-led" else pure ()) >>= _) _ _ s
    rw [if_neg (by simp [hl])]
    refine wpAny_bind (wpAny_pure ?_)
    rw [oneT_place1, show nxOf w = 2 from by simp [nxOf, hb], below_2]
    exact wpAny_pure (by simpa using h)
end
end Mine
namespace Mine
open PySem.Spec PySem.Calls PySem.W.X
section
theorem sf_owner : Manifest.owners.lookup (String.ofList ['r', 'o', 't', 'a', 'r', 'e', 't', 'i', '_', 't', 'e', 's'].reverse) = some Manifest.sig_set_iterator := by kernel_rfl
theorem sf_slot_next : Slot "set_iterator" "__next__" "set_iterator.__next__" :=
  .of (owner := "set_iterator") (n := "__next__") (by rw [typeLookup_type, builtinLookup_eq_fast]; kernel_rfl) (by decide +kernel) (by decide +kernel) (by decide +kernel)
    (by first | exact .inl (by decide +kernel) | exact .inr (by decide +kernel)) (by rw [isSubtype_type]; kernel_rfl)
theorem sf_entry_next : entryFor table "set_iterator.__next__" = some Builtin.«set_iterator.__next__» := entryFor_of_tree (by kernel_rfl)
theorem sf_args_next (a : Value) : argsOk "set_iterator.__next__" ⟨[a], []⟩ := by
  unfold argsOk; rw [signature?_of (id := "set_iterator.__next__") (n := ['_', '_', 't', 'x', 'e', 'n', '_', '_']) (o := ['r', 'o', 't', 'a', 'r', 'e', 't', 'i', '_', 't', 'e', 's']) (by kernel_rfl) sf_owner]; kernel_rfl
theorem sf_entry_iter : entryFor table "set.__iter__" = some Builtin.«frozenset.__iter__» :=
  entryFor_alias (id' := "frozenset.__iter__") (by kernel_rfl) (by first | rfl | decide +kernel) (by decide +kernel) (by kernel_rfl)
end
noncomputable abbrev setIt (a : Addr) (x i : Nat) : Obj := { cls := .type "set_iterator", data := .fields #[.int x 0, .int i 0, .ref a, .int 1 0, .int 1 0] }
section
variable {prog : Program} {w : World} {A : Around} {E : Value → Shared → Prop} {s : Shared} {a it : Addr}
theorem set_iter {Q : Value → Shared → Prop} (ho : s.heap.get? a = some (set1 (ledOf w))) (h : Q (.ref s.heap.objs.size) { s with heap := s.heap.push (setIt a 0 0) }) :
    wpAny (model prog w) A (pyIter (.ref a)) Q E s := by
  have hT : s.TypeIs (.ref a) "set" := ⟨_, ho, rfl⟩
  refine wpAny_pyIter_slot hT F.slot_set_iter (wpAny_call_entry F.slot_set_iter hT sf_entry_iter ?_ (F.args_set_iter_1 _))
  unfold Builtin.«frozenset.__iter__» Builtin.Frozenset.slot0 slotArgs
  simp only [List.isEmpty_nil, Bool.not_true, Bool.false_eq_true, ↓reduceIte, bind_assoc, List.length_nil, bne_self_eq_false]
  unfold Builtin.Frozenset.addrOf Builtin.Frozenset.sizeOf
  refine wpAny_bind (wpAny_pure ?_)
  try dsimp only
  refine wpAny_bind (wpAny_pure ?_)
  refine wpAny_bind (wpAny_bind (wpAny_setEntries_of ho rfl (oneT_fits _) (wpAny_pure ?_)))
  unfold setDrawn
  refine wpAny_bind (wpAny_bind (set_state ho ?_))
  dsimp only
  refine wpAny_bind (by_text (wpAny_pure ?_))
  show wpAny _ _ (if (!w.params.followText "set-order" && (!(oneT (ledOf w)).plain && decide (1 > 1))) = true then _ else _) _ _ s
  rw [if_neg (by simp)]
  refine wpAny_bind (wpAny_pure ?_)
  unfold setEpoch
  refine wpAny_bind (wpAny_bind (set_state ho (wpAny_pure ?_)))
  refine wpAny_bind (wpAny_newObj_type (wpAny_pure ⟨_, rfl, "set_iterator", _, ⟨_, Heap.get?_push_size _ rfl, rfl⟩, sf_slot_next.lookup, ?_⟩))
  exact h
theorem set_next {Q : Option Value → Shared → Prop} (ho : s.heap.get? a = some (set1 (ledOf w))) (hi : s.heap.get? it = some (setIt a 0 0)) (hne : a ≠ it)
    (h : ∀ h', h'.get? it = some (setIt a (nxOf w) 1) → Heap.ExtBut it s.heap h' → Q (some (.bool true)) { s with heap := h' }) :
    wpAny (model prog w) A (pyNext (.ref it)) Q E s := by
  have hT : s.TypeIs (.ref it) "set_iterator" := ⟨_, hi, rfl⟩
  unfold pyNext
  refine wpAny_bind (wpAny_attempt (wpAny_callSpecial?_slot (name := Str.ofString "__next__") hT sf_slot_next (wpAny_call_entry sf_slot_next hT sf_entry_next ?_ (sf_args_next _))))
  show wpAny _ _ (fieldsOf (.ref it) >>= _) _ _ s
  refine wpAny_bind (wpAny_fieldsOf hi rfl ?_)
  show wpAny _ _ (setEntries a >>= _) _ _ s
  refine wpAny_bind (wpAny_setEntries_of ho rfl (oneT_fits _) ?_)
  show wpAny _ _ (setNext a 0 0 1 >>= _) _ _ s
  refine wpAny_bind (setNext_0 ho ?_)
  dsimp only
  refine wpAny_bind (wpAny_setField hi rfl (by simp) ?_)
  have hi2 : (s.heap.update it (Obj.mapFields (·.setIfInBounds 0 (rawInt (nxOf w))))).get? it = some { cls := .type "set_iterator", data := .fields #[.int (nxOf w) 0, .int 0 0, .ref a, .int 1 0, .int 1 0] } := Heap.get?_update_self _ hi rfl
  refine wpAny_bind (wpAny_setField (s := { s with heap := s.heap.update it (Obj.mapFields (·.setIfInBounds 0 (rawInt (nxOf w)))) }) hi2 rfl (by simp) ?_)
  refine wpAny_pure ⟨_, rfl, wpAny_pure ?_⟩
  exact h _ (Heap.get?_update_self _ hi2 rfl) ((Heap.SameBut.update ..).trans (Heap.SameBut.update ..)).extBut
theorem set_end {Q : Option Value → Shared → Prop} (hh : A.handled = none) (ho : s.heap.get? a = some (set1 (ledOf w))) (hi : s.heap.get? it = some (setIt a (nxOf w) 1)) (hne : a ≠ it)
    (h : ∀ h', Heap.ExtBut it s.heap h' → Q none { s with heap := h' }) :
    wpAny (model prog w) A (pyNext (.ref it)) Q E s := by
  have hT : s.TypeIs (.ref it) "set_iterator" := ⟨_, hi, rfl⟩
  unfold pyNext
  refine wpAny_bind (wpAny_attempt (wpAny_callSpecial?_slot (name := Str.ofString "__next__") hT sf_slot_next (wpAny_call_entry sf_slot_next hT sf_entry_next ?_ (sf_args_next _))))
  show wpAny _ _ (fieldsOf (.ref it) >>= _) _ _ s
  refine wpAny_bind (wpAny_fieldsOf hi rfl ?_)
  show wpAny _ _ (setEntries a >>= _) _ _ s
  refine wpAny_bind (wpAny_setEntries_of ho rfl (oneT_fits _) ?_)
  show wpAny _ _ (setNext a (nxOf w) 1 1 >>= _) _ _ s
  refine wpAny_bind (setNext_1 ho ?_)
  dsimp only
  refine wpAny_bind (wpAny_setField hi rfl (by simp) ?_)
  show wpAny _ _ (newExc (.type "StopIteration") [] >>= _) _ _ _
  refine wpAny_bind ?_
  simp only [newExc, newTuple]
  refine wpAny_bind (wpAny_newObj_type ?_ (by size_fits))
  refine wpAny_bind (m := firstArgMember _ _) (wpAny_of_eq (a := Value.none) (by first | rfl | (simp only [firstArgMember]; rfl)) ?_)
  refine wpAny_newObj_type ?_ (by size_fits)
  simp only [raiseNew]
  refine wpAny_bind (wpAny_handled ?_)
  first | rw [show A.in1.handled = none from hh] | rw [hh]
  refine wpAny_bind (wpAny_pure (wpAny_throw ?_))
  refine wpAny_bind (wpAny_isInstance (T := "StopIteration") (b := true) ⟨_, Heap.get?_push_size _ rfl, rfl⟩ isSubtype_stop ?_)
  exact wpAny_pure (h _ (((Heap.SameBut.update ..).extBut.push _).push _))
theorem set_unpack {Q : List Value → Shared → Prop} (hh : A.handled = none) (ho : s.heap.get? a = some (set1 (ledOf w)))
    (h : ∀ h', Grows s.heap h' → Q [.bool true] { s with heap := h' }) : wpAny (model prog w) A (unpackItems (.ref a) 1 none) Q E s := by
  have hT : s.TypeIs (.ref a) "set" := ⟨_, ho, rfl⟩
  have hne : a ≠ s.heap.objs.size := Nat.ne_of_lt (Heap.lt_size ho)
  unfold unpackItems
  refine wpAny_bind ?_
  unfold notIterableAtAll
  refine wpAny_bind (wpAny_specialOf hT F.slot_set_iter.lookup ?_)
  refine wpAny_pure ?_
  simp only [Bool.false_eq_true, if_false]
  refine wpAny_bind (wpAny_holding (set_iter ho ?_))
  refine wpAny_bind (wpAny_holding ?_)
  show wpAny _ _ (pyNext (.ref s.heap.objs.size) >>= _) _ _ _
  have up : ∀ b o, s.heap.get? b = some o → (s.heap.push (setIt a 0 0)).get? b = some o := fun b o e => Heap.get?_push_of_some _ e
  refine wpAny_bind (set_next (s := { s with heap := s.heap.push (setIt a 0 0) }) (up _ _ ho) (Heap.get?_push_size _ rfl) hne fun h₁ hi₁ k₁ => ?_)
  refine wpAny_bind (wpAny_holding (wpAny_pure (wpAny_pure ?_)))
  show wpAny _ _ ((holding _ (pyNext (.ref s.heap.objs.size))) >>= _) _ _ _
  refine wpAny_bind (wpAny_holding (set_end (s := { s with heap := h₁ }) hh (k₁ _ _ hne (up _ _ ho)) hi₁ hne fun h₂ k₂ => ?_))
  refine wpAny_pure (h h₂ fun b o e => ?_)
  have hb : b ≠ s.heap.objs.size := Nat.ne_of_lt (Heap.lt_size e)
  exact k₂ _ _ hb (k₁ _ _ hb (up _ _ e))
end
end Mine
namespace Mine
open PySem.Spec PySem.Calls PySem.W.X
theorem compTurn_set (elt target iter : PySem.Expr) (ifs : List PySem.Expr) (scope : Scope) (pos : Pos) (it acc : Value) (env : Env) :
    compTurn (.SetComp elt [⟨target, iter, ifs, 0⟩] scope pos) 0 it acc env = (do
      standAt iter.pos
      match ← pyNext it with
      | none => pure (.done .next)
      | some v =>
        letOwnedTupleGo target it v
        assign target env v
        let mut ok := true
        for c in ifs do
          if ok then ok ← isTrue c env (eval c env)
        if ok then
          (do let v ← eval elt env; standAt elt.pos; let _ ← call (.builtin "set.add") [acc, v])
        again (.compLoop (.SetComp elt [⟨target, iter, ifs, 0⟩] scope pos) 0 it acc env)) := by rfl
theorem eval_SetComp (elt : PySem.Expr) (gens : List Comprehension) (scope : Scope) (pos : Pos) (env : Env) : eval (.SetComp elt gens scope pos) env =
    comprehension (.SetComp elt gens scope pos) scope env (firstIterPos gens pos) (newSet (.type "set")) (firstAsync gens) (firstIter gens env) := rfl
section
variable {prog : Program} {w : World} {A : Around} {E : Value → Shared → Prop} {R : Result → Shared → Prop} {s : Shared}
theorem codeAny_compLoop_testsS {elt target iter : PySem.Expr} {ifs : List PySem.Expr} {scope : Scope} {pos : Pos} {it acc : Value} {env : Env} (I : Nat → Shared → Prop)
    (turn : ∀ n s, I n s → wpAny (model prog w) A (pyNext it) (fun r s₁ => match r with
      | none => R (.ok .next) s₁
      | some v => wpAny (model prog w) A (assign target env v) (fun _ s₂ =>
          wpAny (model prog w) A (forIn ifs true fun c r => if r = true then do let ok ← isTrue c env (eval c env); pure (ForInStep.yield ok) else pure (ForInStep.yield r)) (fun ok s₃ =>
            if ok = true then wpAny (model prog w) A (eval elt env) (fun x s₄ =>
              wpAny (model prog w) A (call (.builtin "set.add") [acc, x]) (fun _ s₅ => ∃ m, m < n ∧ I m s₅) (notedBy (model prog w) A env fun e s' => R (.error e) s') s₄) (notedBy (model prog w) A env fun e s' => R (.error e) s') s₃
            else ∃ m, m < n ∧ I m s₃) (notedBy (model prog w) A env fun e s' => R (.error e) s') s₂) (notedBy (model prog w) A env fun e s' => R (.error e) s') s₁) (notedBy (model prog w) A env fun e s' => R (.error e) s') s)
    (n : Nat) (h : I n s) (ht : ∀ v, letOwnedTupleGo target it v = pure () := by intro _; rfl) :
    codeAny (model prog w) A (.compLoop (.SetComp elt [⟨target, iter, ifs, 0⟩] scope pos) 0 it acc env) R s := by
  refine codeAny_loop rfl I (fun n s hI => ?_) n h
  show wpAny _ A ((compTurn (.SetComp elt [⟨target, iter, ifs, 0⟩] scope pos) 0 it acc env).onRaise (fun x => do noteFrame x env; theTreesLotGoes x)) _ _ s
  refine wpAny_noted ?_
  rw [compTurn_set]
  refine wpAny_bind (wpAny_standAt (wpAny_bind (wpAny_mono (turn n s hI) (fun r s₁ h₁ => ?_) fun _ _ h' => h')))
  cases r with
  | none => exact wpAny_pure h₁
  | some v =>
    refine wpAny_bind (wpAny_of_eq (ht v) ?_)
    refine wpAny_bind (wpAny_mono h₁ (fun _ s₂ h₂ => wpAny_bind (wpAny_mono h₂ (fun ok s₃ h₃ => ?_) fun _ _ h' => h')) fun _ _ h' => h')
    cases ok with
    | false => exact wpAny_pure ⟨rfl, h₃⟩
    | true =>
      exact wpAny_bind (wpAny_bind (wpAny_mono h₃ (fun x s₄ h₄ => wpAny_bind (wpAny_standAt (wpAny_bind (wpAny_mono h₄ (fun _ s₅ h₅ => wpAny_pure (wpAny_pure ⟨rfl, h₅⟩)) fun _ _ h' => h')))) fun _ _ h' => h'))
theorem codeAny_compStart_set {elt target iter : PySem.Expr} {ifs : List PySem.Expr} {rest : List Comprehension} {scope : Scope} {pos : Pos} {it acc : Value} {env : Env}
    (h0 : codeAny (model prog w) A (.compLoop (.SetComp elt (⟨target, iter, ifs, 0⟩ :: rest) scope pos) 0 it acc env) R s)
    (h : wpAny (model prog w) A (pyIter it) (fun it' s' => codeAny (model prog w) A (.compLoop (.SetComp elt (⟨target, iter, ifs, 0⟩ :: rest) scope pos) 0 it' acc env) R s')
      (notedBy (model prog w) A env fun x s' => R (.error x) s') s) :
    codeAny (model prog w) A (.compStart (.SetComp elt (⟨target, iter, ifs, 0⟩ :: rest) scope pos) 0 it acc env) R s := by
  refine codeAny_of_tree ?_
  show wpAny _ _ ((compStart (.SetComp elt (⟨target, iter, ifs, 0⟩ :: rest) scope pos) 0 it acc env).onRaise (fun x => do noteFrame x env; standAt theWindowsPlace)) _ _ s
  refine wpAny_notedAt ?_
  unfold compStart
  show wpAny _ _ (ask >>= _) _ _ s
  refine wpAny_bind (wpAny_askSetting (wpAny_ite ?_))
  split
  · first
      | exact wpAny_bind (wpAny_pure (wpAny_pure (And.intro rfl h0)))
      | exact wpAny_pure (And.intro rfl h0)
  · first
      | exact wpAny_bind (wpAny_rule (wpAny_bind (wpAny_standAt (wpAny_bind (wpAny_mono h (fun it' s' h' => wpAny_pure (And.intro rfl h')) fun _ _ x => x)))))
      | (refine wpAny_bind (wpAny_rule ?_); show wpAny _ _ (standAt iter.pos >>= _) _ _ s; exact wpAny_bind (wpAny_standAt (wpAny_bind (wpAny_mono h (fun it' s' h' => wpAny_pure (And.intro rfl h')) fun _ _ x => x))))
end
end Mine
namespace Mine
open PySem.Spec PySem.Calls PySem.W.X
noncomputable def TrueEl (news : List (Addr × Obj)) (y : Value) (news' : List (Addr × Obj)) : Prop := news' = news ∧ y = .bool true
noncomputable def setAt (w : World) : Nat → Obj
  | 0 => set0 (ledOf w)
  | _ + 1 => set1 (ledOf w)
section
variable {prog : Program} {w : World} {A : Around} {E : Value → Shared → Prop} {h₀ : Heap} {L : Addr} {m : Str → Option Value} {env : Env}
theorem new_set {s : Shared} {Q : Value → Shared → Prop} (h : Q (.ref s.heap.objs.size) { s with heap := s.heap.push (set0 (ledOf w)) }) : wpAny (model prog w) A (newSet (.type "set")) Q E s := by
  unfold newSet
  refine wpAny_bind (by_text ?_)
  dsimp only
  simp only [newObj]
  exact wpAny_bind (wpAny_alloc (wpAny_pure h))
theorem add_true {s : Shared} {a : Addr} {i : Nat} {Q : Value → Shared → Prop} (hu : A.units ≤ 8900) (ho : s.heap.get? a = some (setAt w i))
    (h : ∀ h' tk, Heap.SameBut a s.heap h' → h'.get? a = some (setAt w (i + 1)) → Q .none { s with heap := h', toks := tk }) :
    wpAny (model prog w) A (call (.builtin "set.add") [.ref a, .bool true]) Q E s := by
  cases i with
  | zero => exact add_first hu ho h
  | succ i => exact add_again hu ho fun tk => h s.heap tk (Heap.SameBut.refl _ _) ho
theorem set_block {elt iter : PySem.Expr} {x : Str} {px : Pos} {scope : Scope} {cl : List (Str × Addr)} {pos : Pos} {s₂ : Shared} {I : Addr} {fp : List Addr} {n : Nat} {P : Nat → Value → Prop} {St : Nat → Heap → Prop} {S : List (Addr × Obj) → Prop} {news : List (Addr × Obj)}
    {RR : Value → Addr → Result → Shared → Prop} (hu : A.units ≤ 8900)
    (W : Walks prog w A I fp [I] n P St) (hIo : ∀ i h, St i h → ∃ o, h.get? I = some o)
    (hSt : ∀ i h h' o nw, St i h → h.get? I = some o → h'.get? I = some o → (∀ b o, h₀.get? b = some o → h'.get? b = some o) → News h₀ L h' nw → S nw → St i h')
    (hcell : ∀ y ∈ scope.names, y.2 ≠ .cell) (hkind : scope.kind = .function) (hx : scope.names.lookup x = some .local) (hst : St 0 s₂.heap) (hfp : ∀ b ∈ fp, b < s₂.heap.objs.size)
    (F : Fr h₀ L s₂.heap m) (N : News h₀ L s₂.heap news) (hIL : L ≠ I) (hI₀ : h₀.get? I = none) (off : ∀ p ∈ news, p.1 ≠ I) (hS : S news)
    (turn : ∀ i v I oI C oC D oD m₂ h tk (E' : Value → Shared → Prop), P i v → LCg.NsObj oC m₂ → m₂ x = some v → Fr h₀ L h m → News h₀ L h ((I, oI) :: (C, oC) :: (D, oD) :: news) → LCg.Off3 I C D news → ((@Ne Nat I C) ∧ (@Ne Nat I D) ∧ (@Ne Nat C D)) →
      wpAny (model prog w) A (eval elt (compEnvC scope cl C env)) (LCg.CompEnd h₀ L m { s₂ with heap := h, toks := tk } I oI C oC D oD S (TrueEl news)) E' { s₂ with heap := h, toks := tk })
    (hRR : ∀ D C h tk m', Fr h₀ L h m → News h₀ L h ((D, setAt w n) :: news) → LCg.Off1 D news → h.Ns C m' → h₀.get? C = none → h₀.get? D = none → C ≠ L → D ≠ L → C ≠ D → (∀ p ∈ news, p.1 ≠ C) → RR (.ref D) C (.ok .next) { s₂ with heap := h, toks := tk }) :
    wpAny (model prog w) A (newSet (.type "set")) (fun acc s₃ => wpAny (model prog w) A (newFunctionEnv scope env.globals cl [] env.qual none .none (some env)) (fun cenv s₄ =>
      codeAny (model prog w) A (.compStart (.SetComp elt [⟨.Name x px, iter, [], 0⟩] scope pos) 0 (.ref I) acc { cenv with scope := relabel scope env }) (RR acc cenv.locals) s₄) E s₃) E s₂ := by
  refine new_set (wpAny_newFunctionEnv hcell (by intro y hy; simp at hy) (fun h₁ hns₁ hsb₁ => ?_) hkind)
  dsimp only at hns₁ hsb₁ ⊢
  generalize hH2 : s₂.heap.push (set0 (ledOf w)) = H2 at hns₁ hsb₁ ⊢
  have hC : H2.objs.size = s₂.heap.objs.size + 1 := by rw [← hH2, Heap.size_push]
  have hDC : s₂.heap.objs.size ≠ H2.objs.size := by rw [hC]; exact Nat.ne_of_lt (Nat.lt_succ_self _)
  have below : ∀ b, b < s₂.heap.objs.size → b ≠ H2.objs.size ∧ b ≠ s₂.heap.objs.size := fun b hb => ⟨by rw [hC]; exact Nat.ne_of_lt (Nat.lt_succ_of_lt hb), Nat.ne_of_lt hb⟩
  have hDf : s₂.heap.objs.size ∉ fp := fun hm => Nat.lt_irrefl _ (hfp _ hm)
  have hCf : H2.objs.size ∉ fp := fun hm => by have := hfp _ hm; rw [hC] at this; exact Nat.lt_irrefl _ (Nat.lt_of_succ_lt this)
  have hIlt : I < s₂.heap.objs.size := hfp I (W.sub I (List.mem_singleton.mpr rfl))
  have old : ∀ b o, s₂.heap.get? b = some o → h₁.get? b = some o := fun b o e => hsb₁.extBut b o (below b (Heap.lt_size e)).1 (Heap.get?_push_of_some _ (hH2 ▸ Heap.get?_push_of_some _ e))
  have hacc : h₁.get? s₂.heap.objs.size = some (setAt w 0) := hsb₁.extBut _ _ hDC (Heap.get?_push_of_some _ (hH2 ▸ Heap.get?_push_size _ rfl))
  have hst₁ : St 0 h₁ := W.frame _ _ _ hst fun b _ o e => old b o e
  have fresh₀ : ∀ a, s₂.heap.objs.size ≤ a → h₀.get? a = none := fun a ha => by
    cases e : h₀.get? a with
    | none => rfl
    | some o' => exact absurd (Heap.lt_size (F.keep a o' e)) (Nat.not_lt.mpr ha)
  have hD₀ : h₀.get? s₂.heap.objs.size = none := fresh₀ _ (Nat.le_refl _)
  have hC₀ : h₀.get? H2.objs.size = none := fresh₀ _ (by rw [hC]; exact Nat.le_succ _)
  have hLlt : L < s₂.heap.objs.size := F.ns.lt
  have hDL : s₂.heap.objs.size ≠ L := Ne.symm (below L hLlt).2
  have hCL : H2.objs.size ≠ L := Ne.symm (below L hLlt).1
  have hCI : I ≠ H2.objs.size := (below I hIlt).1
  have hDI : I ≠ s₂.heap.objs.size := (below I hIlt).2
  have off₀ : LCg.Off3 I H2.objs.size s₂.heap.objs.size news := LCg.Off3.of fun p hp => ⟨off p hp, (below _ (Heap.lt_size (N p hp).1)).1, (below _ (Heap.lt_size (N p hp).1)).2⟩
  have off3 := off₀.mem
  have loop : ∀ s₃ : Shared, s₃ = { s₂ with heap := h₁, toks := s₂.toks + ([] : List (Str × Value)).length } →
      codeAny (model prog w) A (.compLoop (.SetComp elt [⟨.Name x px, iter, [], 0⟩] scope pos) 0 (.ref I) (.ref s₂.heap.objs.size) (compEnvC scope cl H2.objs.size env))
        (RR (.ref s₂.heap.objs.size) H2.objs.size) s₃ := by
    rintro s₃ rfl
    refine codeAny_compLoop_testsS
      (fun k s' => ∃ h' tk i m', s' = { s₂ with heap := h', toks := tk } ∧ i ≤ n ∧ k = n + 1 - i ∧ St i h' ∧ Fr h₀ L h' m ∧ h'.Ns H2.objs.size m' ∧ News h₀ L h' ((s₂.heap.objs.size, setAt w i) :: news)) ?_ (n + 1)
      ⟨h₁, _, 0, _, rfl, Nat.zero_le _, rfl, hst₁, F.keeps old, hns₁, fun p hp => ?_⟩
    · rintro k s' ⟨h', tk, i, m', rfl, hi, rfl, hst', F', hn', N'⟩
      by_cases hlt : i < n
      · refine W.item i _ _ _ hlt hst' fun v h₂ tk₂ hPv hst₂ hk₂ => ?_
        refine wpAny_assign_Name (wpAny_storeName_local (lookup_relabel_local hx) (hn'.at' fun o e => hk₂ _ o (by simpa using Ne.symm hCI) e) (fun h₃ hn₃ hs₃ => ?_) (by simp [compEnvC, relabel, hkind]))
        refine wpAny_tests_nil ?_
        simp only [if_true]
        have hst₃ : St (i + 1) h₃ := W.frame _ _ _ hst₂ fun b hb o e => hs₃.extBut b o (fun q => hCf (by have q' : b = H2.objs.size := q; rw [← q']; exact hb)) e
        obtain ⟨oI, heI⟩ := hIo _ _ hst₃
        obtain ⟨oC, heC, hoC⟩ := LCg.ns_obj hn₃
        have F₃ : Fr h₀ L h₃ m := (LCg.fr_but F' hk₂ hIL hI₀).change hs₃ hCL hC₀
        have N₂ : News h₀ L h₂ ((s₂.heap.objs.size, setAt w i) :: news) := LCg.news_but N' hk₂ fun p hp => by
          rcases List.mem_cons.mp hp with rfl | hp
          · exact Ne.symm hDI
          · exact (off3 p hp).1
        have N₃ : News h₀ L h₃ ((I, oI) :: (H2.objs.size, oC) :: (s₂.heap.objs.size, setAt w i) :: news) := fun p hp => by
          rcases List.mem_cons.mp hp with rfl | hp
          · exact ⟨heI, Ne.symm hIL, hI₀⟩
          · rcases List.mem_cons.mp hp with rfl | hp
            · exact ⟨heC, hCL, hC₀⟩
            · have z := N₂ p hp
              refine ⟨hs₃.extBut _ _ ?_ z.1, z.2⟩
              rcases List.mem_cons.mp hp with rfl | hp
              · exact hDC
              · exact (off3 p hp).2.1
        refine wpAny_mono (turn i v I oI H2.objs.size oC s₂.heap.objs.size _ _ h₃ _ _ hPv hoC (by simp) F₃ N₃ off₀ ⟨hCI, hDI, Ne.symm hDC⟩) (fun y s₄ h₄ => ?_) fun _ _ e => e
        obtain ⟨h₄, tk₄, news₄, rfl, F₄, N₄, off₄, hS₄, rfl, rfl⟩ := h₄
        have zI := (N₄ (I, oI) List.mem_cons_self).1
        have zC := (N₄ (H2.objs.size, oC) (List.mem_cons_of_mem _ List.mem_cons_self)).1
        have zD := (N₄ (s₂.heap.objs.size, setAt w i) (List.mem_cons_of_mem _ (List.mem_cons_of_mem _ List.mem_cons_self))).1
        have N₄' : News h₀ L h₄ news₄ := fun p hp => N₄ p (List.mem_cons_of_mem _ (List.mem_cons_of_mem _ (List.mem_cons_of_mem _ hp)))
        have hst₄ : St (i + 1) h₄ := hSt _ _ _ _ _ hst₃ heI zI F₄.keep N₄' hS₄
        refine add_true hu zD fun h₅ tk₅ hs₅ hD₅ => ?_
        refine ⟨n + 1 - (i + 1), by omega, h₅, tk₅, i + 1, _, rfl, hlt, rfl, W.frame _ _ _ hst₄ fun b hb o e => hs₅.extBut b o (fun q => hDf (q ▸ hb)) e, F₄.change hs₅ hDL hD₀,
          (hoC.ns zC).sameBut hs₅ (Ne.symm hDC), fun p hp => ?_⟩
        rcases List.mem_cons.mp hp with rfl | hp
        · exact ⟨hD₅, hDL, hD₀⟩
        · exact ⟨hs₅.extBut _ _ (off3 p hp).2.2 (N₄' p hp).1, (N₄' p hp).2⟩
      · obtain rfl : i = n := Nat.le_antisymm hi (Nat.not_lt.mp hlt)
        refine W.done _ _ _ hst' fun h₂ tk₂ hk₂ => ?_
        exact hRR _ _ h₂ tk₂ _ (LCg.fr_but F' hk₂ hIL hI₀) (LCg.news_but N' hk₂ fun p hp => by
          rcases List.mem_cons.mp hp with rfl | hp
          · exact Ne.symm hDI
          · exact (off3 p hp).1) off₀.one (hn'.at' fun o e => hk₂ _ o (by simpa using Ne.symm hCI) e) hC₀ hD₀ hCL hDL (Ne.symm hDC) (fun p hp => (off3 p hp).2.1)
    · rcases List.mem_cons.mp hp with rfl | hp
      · exact ⟨hacc, hDL, hD₀⟩
      · exact ⟨old _ _ (N p hp).1, (N p hp).2⟩
  exact codeAny_compStart_set (loop _ rfl) (W.self 0 _ _ _ hst₁ (loop _ rfl))
noncomputable def SetSrc (prog : Program) (w : World) (A : Around) (h₀ : Heap) (L : Addr) (m : Str → Option Value) (env : Env) (elt : PySem.Expr) (x : Str) (scope : Scope) (cl : List (Str × Addr)) (Q : Value → Shared → Prop) (xv : Value) (s₁ : Shared) : Prop :=
  ∃ ax its n news, xv = .ref ax ∧ A.handled = none ∧ A.units ≤ 8900 ∧ Fr h₀ L s₁.heap m ∧ News h₀ L s₁.heap news ∧ SrcAtT ax its news ∧ its.size = n + 1 ∧
    (∀ (i : Nat) v I oI C oC D oD m₂ h tk (E' : Value → Shared → Prop), its[i]? = some v → LCg.NsObj oC m₂ → m₂ x = some v → Fr h₀ L h m → News h₀ L h ((I, oI) :: (C, oC) :: (D, oD) :: news) → LCg.Off3 I C D news → ((@Ne Nat I C) ∧ (@Ne Nat I D) ∧ (@Ne Nat C D)) →
      ∃ s₀ : Shared, ({ s₀ with heap := h, toks := tk } : Shared) = { s₁ with heap := h, toks := tk } ∧ wpAny (model prog w) A (eval elt (compEnvC scope cl C env)) (LCg.CompEnd h₀ L m { s₀ with heap := h, toks := tk } I oI C oC D oD (SrcAtT ax its) (TrueEl news)) E' { s₀ with heap := h, toks := tk }) ∧
    (∀ D h tk, Fr h₀ L h m → News h₀ L h ((D, set1 (ledOf w)) :: news) → LCg.Off1 D news → Q (.ref D) { s₁ with heap := h, toks := tk })
theorem SetComp_T {s : Shared} {elt iter : PySem.Expr} {x : Str} {px : Pos} {scope : Scope} {cl : List (Str × Addr)} {pos : Pos} {Q : Value → Shared → Prop} (F₀ : Fr h₀ L s.heap m)
    (hclos : closureFor scope env = pure cl) (hcell : ∀ y ∈ scope.names, y.2 ≠ .cell) (hkind : scope.kind = .function)
    (hnames : ∀ y ∈ scope.names, y.2 = .local → scope.names.lookup y.1 = some .local) (hx : scope.names.lookup x = some .local)
    (h : wpAny (model prog w) A (eval iter env) (SetSrc prog w A h₀ L m env elt x scope cl Q) E s)
    (hs : ∀ x, foldedSetIterable iter env x = pure x := by intro _; rfl) :
    wpAny (model prog w) A (eval (.SetComp elt [⟨.Name x px, iter, [], 0⟩] scope pos) env) Q E s := by
  rw [eval_SetComp]
  refine wpAny_comprehension_free (use := none) rfl hs hclos hkind hnames (wpAny_mono h (fun xv s₁ h₁ => ?_) fun _ _ e => e)
  obtain ⟨ax, its, n, news, rfl, hh, hu, F, N, S, hsz, turn, fin⟩ := h₁
  have hl := S.tup N
  have hlt : ax < s₁.heap.objs.size := by obtain ⟨_, e, _⟩ := hl; exact Heap.lt_size e
  refine wpAny_pyIter_tuple hl ?_
  have up : ∀ b o, s₁.heap.get? b = some o → (s₁.heap.push { cls := .type "tuple_iterator", data := .fields #[.ref ax, .int 0 0] }).get? b = some o := fun b o e => Heap.get?_push_of_some _ e
  refine set_block (S := SrcAtT ax its) hu (Walks.tuple hh s₁.heap.objs.size ax (Nat.ne_of_lt hlt) its) (fun i h st => by obtain ⟨o, e, _⟩ := st.1; exact ⟨o, e⟩) tup_st hcell hkind hx ⟨⟨_, Heap.get?_push_size _ rfl, rfl, rfl⟩, hl.push _⟩ (fun b hb => ?_)
    (F.keeps up) (N.grown up) (Nat.ne_of_lt F.ns.lt) (next_is_new F) (fun p hp => Nat.ne_of_lt (Heap.lt_size (N p hp).1)) S ?_ ?_
  · show b < (s₁.heap.push _).objs.size
    rw [Heap.size_push]
    rcases List.mem_cons.mp hb with rfl | hb
    · exact Nat.lt_succ_self _
    · rw [List.mem_singleton.mp hb]; exact Nat.lt_succ_of_lt hlt
  · intro i v I oI C oC D oD m₂ h tk E' hv hC hx' F' N' off ne
    obtain ⟨s₀, e, H⟩ := turn i v I oI C oC D oD m₂ h tk E' hv hC hx' F' N' off ne
    have e' : ({ s₀ with heap := h, toks := tk } : Shared) = { { s₁ with heap := s₁.heap.push { cls := .type "tuple_iterator", data := .fields #[.ref ax, .int 0 0] } } with heap := h, toks := tk } := e
    rw [e'] at H
    exact H
  · intro D C h tk m' F' N' o1 hn hC₀ hD₀ hCL hDL hCD offC
    rw [hsz] at N'
    refine ⟨m', hn, fun h'' hs'' => fin D h'' tk (F'.change hs'' hCL hC₀) (fun p hp => ?_) o1⟩
    refine ⟨hs''.extBut _ _ ?_ (N' p hp).1, (N' p hp).2⟩
    rcases List.mem_cons.mp hp with rfl | hp
    · exact Ne.symm hCD
    · exact offC p hp
theorem SetSrc.two {s₁ : Shared} {elt : PySem.Expr} {x : Str} {scope : Scope} {cl : List (Str × Addr)} {Q : Value → Shared → Prop} {ax : Addr} {k : Nat} {news : List (Addr × Obj)} {p q : Str} {t u : Tok} {G : Str → Prop}
    (hh : A.handled = none) (hu : A.units ≤ 8900) (F : Fr h₀ L s₁.heap m) (N : News h₀ L s₁.heap news) (hm : (ax, ({ cls := .type "tuple", data := .seq #[.str p t, .str q u] k } : Obj)) ∈ news) (hp : G p) (hq : G q)
    (turn : ∀ r tr I oI C oC D oD m₂ h tk (E' : Value → Shared → Prop), G r → LCg.NsObj oC m₂ → m₂ x = some (.str r tr) → Fr h₀ L h m → News h₀ L h ((I, oI) :: (C, oC) :: (D, oD) :: news) → LCg.Off3 I C D news → ((@Ne Nat I C) ∧ (@Ne Nat I D) ∧ (@Ne Nat C D)) →
      wpAny (model prog w) A (eval elt (compEnvC scope cl C env)) (LCg.CompEnd h₀ L m { s₁ with heap := h, toks := tk } I oI C oC D oD (SrcAtT ax #[.str p t, .str q u]) (TrueEl news)) E' { s₁ with heap := h, toks := tk })
    (fin : ∀ D h tk, Fr h₀ L h m → News h₀ L h ((D, set1 (ledOf w)) :: news) → LCg.Off1 D news → Q (.ref D) { s₁ with heap := h, toks := tk }) :
    SetSrc prog w A h₀ L m env elt x scope cl Q (.ref ax) s₁ := by
  refine ⟨ax, _, 1, news, rfl, hh, hu, F, N, ⟨_, hm, rfl, _, rfl⟩, rfl, ?_, fin⟩
  intro i v I oI C oC D oD m₂ h tk E' hv hC hx' F' N' off ne
  refine ⟨s₁, rfl, ?_⟩
  match i, hv with
  | 0, hv =>
    have hv : v = .str p t := (Option.some.inj hv).symm
    subst hv
    exact turn p t I oI C oC D oD m₂ h tk E' hp hC hx' F' N' off ne
  | 1, hv =>
    have hv : v = .str q u := (Option.some.inj hv).symm
    subst hv
    exact turn q u I oI C oC D oD m₂ h tk E' hq hC hx' F' N' off ne

end
section
variable {prog : Program} {w : World} {A : Around} {E : Value → Shared → Prop} {h₀ : Heap} {L : Addr} {m : Str → Option Value} {env : Env} {s : Shared} {news : List (Addr × Obj)} {a : Addr}
theorem use_unpack {Q : List Value → Shared → Prop} (hh : A.handled = none) (F : Fr h₀ L s.heap m) (N : News h₀ L s.heap news) (hm : (a, set1 (ledOf w)) ∈ news)
    (h : ∀ h', Fr h₀ L h' m → News h₀ L h' news → Q [.bool true] { s with heap := h' }) : wpAny (model prog w) A (unpackItems (.ref a) 1 none) Q E s :=
  set_unpack hh (News.get N hm) fun h' g => h h' (Fr.keeps F g) (News.grown N g)
theorem TrueEl.intro {news news' : List (Addr × Obj)} {b : Bool} (e : news' = news) (h : b = true) : TrueEl news (.bool b) news' := ⟨e, by rw [h]⟩
end
end Mine
namespace Mine
open PySem.Spec PySem.Calls PySem.W.X
section
variable {prog : Program} {w : World} {A : Around} {E : Value → Shared → Prop} {h₀ : Heap} {L : Addr} {m : Str → Option Value} {env : Env} {s : Shared} {news : List (Addr × Obj)} {a : Addr}
theorem use_assign_set {elts : List PySem.Expr} {k : Nat} {pos : Pos} {Q : Unit → Shared → Prop} (hh : A.handled = none) (F : Fr h₀ L s.heap m) (N : News h₀ L s.heap news) (hm : (a, set1 (ledOf w)) ∈ news)
    (hn : (assignEach elts env).length = 1) (hstar : (assignEach elts env).findIdx? (·.1) = none)
    (h : ∀ h', Fr h₀ L h' m → News h₀ L h' news → wpAny (model prog w) A (assignInOrder ((assignEach elts env).map (·.2)) [.bool true]) Q E { s with heap := h' }) :
    wpAny (model prog w) A (assign (.Tuple elts k pos) env (.ref a)) Q E s := by
  rw [arm_assign_Tuple]
  refine wpAny_bind (wpAny_standAt ?_)
  unfold unpack
  rw [hn, hstar]
  exact wpAny_bind (wpAny_holding (use_unpack hh F N hm h))
end
end Mine
namespace Mine
open PySem.Spec PySem.Calls PySem.W.X

section
variable {prog : Program} {w : World} {A : Around} {R : Result → Shared → Prop} {I : Addr} {fp wr : List Addr} {n : Nat} {P : Nat → Value → Prop} {St : Nat → Heap → Prop}
theorem min_go (W : Walks prog w A.in1 I fp wr n P St) (K : Heap → Prop) (bt : Nat → Nat → Bool)
    (hcmp : ∀ i j vi vj (s : Shared) (Q : Value → Shared → Prop) (E : Value → Shared → Prop), K s.heap → P i vi → P j vj → Q (.bool (bt i j)) s → wpAny (model prog w) A.in1 (richCompare .Lt vi vj) Q E s)
    (S : Addr) (hSf : S ∉ fp) (hK : ∀ h h' : Heap, K h → (∀ b o, b ∉ wr → b ≠ S → h.get? b = some o → h'.get? b = some o) → K h') :
    ∀ (k j : Nat) (s : Shared) (vb : Value) (c : Nat), n - (j + 1) = k → j + 1 ≤ n → St (j + 1) s.heap → K s.heap → P (argBest bt j) vb →
    s.heap.get? S = some { cls := .type "list", dict := none, data := .seq #[vb, vb] c, slots := #[] } →
    (∀ v h' tk, P (argBest bt (n - 1)) v → (∀ b o, b ∉ wr → b ≠ S → s.heap.get? b = some o → h'.get? b = some o) → R (.ok (.ret v)) { s with heap := h', toks := tk }) →
    codeAny (model prog w) A (.builtin "min.loop" ⟨[.ref I, .none, .ref S], []⟩) R s := by
  have hSw : S ∉ wr := fun h => hSf (W.sub _ h)
  have hname : (toString "min" ++ toString ".loop" : String) = "min.loop" := by decide
  intro k
  induction k with
  | zero =>
    intro j s vb c hk hj hst hKs hPb hS hR
    have hin : j + 1 = n := by omega
    refine codeAny_builtin F.entry_min_loop ?_
    rw [Around.under_plainId F.plain_min_loop _]
    show wpAny _ A.in1 (seqItems? (.ref S) >>= _) _ _ s
    refine wpAny_bind (wpAny_seqItems hS rfl ?_)
    show wpAny _ A.in1 (tryCatch (pyNext (.ref I)) _ >>= _) _ _ s
    refine wpAny_bind (wpAny_tryCatch (W.done s _ _ (hin ▸ hst) fun h' tk hk' => ?_))
    have hS' := hk' S _ hSw hS
    show wpAny _ A.in1 (updateSeq S (fun _ => #[]) >>= _) _ _ _
    refine wpAny_bind ?_
    refine wpAny_updateSeq hS' rfl (wpAny_bind (wpAny_letGo (wpAny_pure ?_)))
    exact hR vb _ tk (by rw [← hin]; exact hPb) fun b o hbw hbS e => (Heap.get?_update_other _ _ (Ne.symm hbS)).trans (hk' b o hbw e)
  | succ k ih =>
    intro j s vb c hk hj hst hKs hPb hS hR
    have hlt : j + 1 < n := by omega
    refine codeAny_builtin F.entry_min_loop ?_
    rw [Around.under_plainId F.plain_min_loop _]
    show wpAny _ A.in1 (seqItems? (.ref S) >>= _) _ _ s
    refine wpAny_bind (wpAny_seqItems hS rfl ?_)
    show wpAny _ A.in1 (tryCatch (pyNext (.ref I)) _ >>= _) _ _ s
    refine wpAny_bind (wpAny_tryCatch (W.item (j + 1) s _ _ hlt hst fun v h' tk hP hst' hk' => ?_))
    have hS' := hk' S _ hSw hS
    have hK' : K h' := hK _ _ hKs fun b o hb _ e => hk' b o hb e
    show wpAny _ A.in1 (tryCatch (holding [v, v] (richCompare .Lt v vb >>= _)) _ >>= _) _ _ _
    refine wpAny_bind (wpAny_tryCatch (wpAny_holding (wpAny_bind (hcmp (j + 1) (argBest bt j) v vb _ _ _ hK' hP hPb ?_))))
    refine wpAny_bind (wpAny_holding (wpAny_truthy_bool ?_))
    refine wpAny_bind (wpAny_letGo (wpAny_pure ?_))
    by_cases hb : bt (j + 1) (argBest bt j) = true
    · rw [hb]
      simp only [if_true]
      refine wpAny_bind ?_
      refine wpAny_updateSeq hS' rfl (wpAny_bind (wpAny_letGo ?_))
      rw [hname]
      have hup : ∀ b o, b ≠ S → h'.get? b = some o → (h'.update S fun o => { o with data := .seq #[v, v] }).get? b = some o := fun b o hbS e => (Heap.get?_update_other _ _ (Ne.symm hbS)).trans e
      refine wpAny_pure ⟨plainId_quiet F.plain_min_loop _, ih (j + 1) _ v _ (by omega) hlt (W.frame _ _ _ hst' fun b hbf o e => ?_) (hK _ _ hK' fun b o _ hbS e => ?_) (by simp only [argBest, hb, if_true]; exact hP) (Heap.get?_update_self _ hS' rfl)
        fun v' h'' tk'' hP' hk'' => ?_⟩
      · exact (Heap.get?_update_other _ _ (fun h : S = b => hSf (by rw [h]; exact hbf))).trans e
      · exact (Heap.get?_update_other _ _ (Ne.symm hbS)).trans e
      · exact hR v' h'' tk'' hP' fun b o hbw hbS e => hk'' b o hbw hbS ((Heap.get?_update_other _ _ (Ne.symm hbS)).trans (hk' b o hbw e))
    · have hb : bt (j + 1) (argBest bt j) = false := by simpa using hb
      rw [hb]
      simp only [Bool.false_eq_true, if_false]
      refine wpAny_bind (wpAny_letGo ?_)
      rw [hname]
      refine wpAny_pure ⟨plainId_quiet F.plain_min_loop _, ih (j + 1) _ vb c (by omega) hlt hst' hK' (by simp only [argBest, hb, Bool.false_eq_true, if_false]; exact hPb) hS' fun v' h'' tk'' hP' hk'' => ?_⟩
      exact hR v' h'' tk'' hP' fun b o hbw hbS e => hk'' b o hbw hbS (hk' b o hbw e)
theorem min_first (W : Walks prog w A.in1 I fp wr n P St) (K : Heap → Prop) (bt : Nat → Nat → Bool)
    (hcmp : ∀ i j vi vj (s : Shared) (Q : Value → Shared → Prop) (E : Value → Shared → Prop), K s.heap → P i vi → P j vj → Q (.bool (bt i j)) s → wpAny (model prog w) A.in1 (richCompare .Lt vi vj) Q E s)
    (S : Addr) (hSf : S ∉ fp) (hK : ∀ h h' : Heap, K h → (∀ b o, b ∉ wr → b ≠ S → h.get? b = some o → h'.get? b = some o) → K h') (hn : 0 < n) {s : Shared} {c : Nat} (hst : St 0 s.heap) (hKs : K s.heap)
    (hS : s.heap.get? S = some { cls := .type "list", dict := none, data := .seq #[] c, slots := #[] })
    (hR : ∀ v h' tk, P (argBest bt (n - 1)) v → (∀ b o, b ∉ wr → b ≠ S → s.heap.get? b = some o → h'.get? b = some o) → R (.ok (.ret v)) { s with heap := h', toks := tk }) :
    codeAny (model prog w) A (.builtin "min.loop" ⟨[.ref I, .none, .ref S], []⟩) R s := by
  have hSw : S ∉ wr := fun h => hSf (W.sub _ h)
  have hname : (toString "min" ++ toString ".loop" : String) = "min.loop" := by decide
  refine codeAny_builtin F.entry_min_loop ?_
  rw [Around.under_plainId F.plain_min_loop _]
  show wpAny _ A.in1 (seqItems? (.ref S) >>= _) _ _ s
  refine wpAny_bind (wpAny_seqItems hS rfl ?_)
  show wpAny _ A.in1 (tryCatch (pyNext (.ref I)) _ >>= _) _ _ s
  refine wpAny_bind (wpAny_tryCatch (W.item 0 s _ _ hn hst fun v h' tk hP hst' hk' => ?_))
  have hS' := hk' S _ hSw hS
  have hK' : K h' := hK _ _ hKs fun b o hb _ e => hk' b o hb e
  show wpAny _ A.in1 (updateSeq S (fun _ => #[v, v]) >>= _) _ _ _
  refine wpAny_bind ?_
  refine wpAny_updateSeq hS' rfl ?_
  rw [hname]
  refine wpAny_pure ⟨plainId_quiet F.plain_min_loop _, min_go W K bt hcmp S hSf hK _ 0 _ v _ rfl hn (W.frame _ _ _ hst' fun b hbf o e => ?_) (hK _ _ hK' fun b o _ hbS e => ?_) hP (Heap.get?_update_self _ hS' rfl) fun v' h'' tk'' hP' hk'' => ?_⟩
  · exact (Heap.get?_update_other _ _ (fun h : S = b => hSf (by rw [h]; exact hbf))).trans e
  · exact (Heap.get?_update_other _ _ (Ne.symm hbS)).trans e
  · exact hR v' h'' tk'' hP' fun b o hbw hbS e => hk'' b o hbw hbS ((Heap.get?_update_other _ _ (Ne.symm hbS)).trans (hk' b o hbw e))
end
section
variable {prog : Program} {w : World} {A : Around} {E : Value → Shared → Prop} {s : Shared}
noncomputable def Pickmin (xs ys : List Str) (x y : Addr) : Addr := if cmpL .Lt ys xs = true then y else x
theorem call_min_lists {l x y : Addr} {its its2 : Array Value} {c c2 k : Nat} {xs ys : List Str} {Q : Value → Shared → Prop} (hh : A.handled = none) (hu : A.units + 1 < cLine)
    (hl : s.heap.get? l = some (W.listOf #[.ref x, .ref y] k)) (hx : s.heap.get? x = some (W.listOf its c)) (hy : s.heap.get? y = some (W.listOf its2 c2)) (hxs : StrsAre its.toList xs) (hys : StrsAre its2.toList ys)
    (h : ∀ h' tk, Grows s.heap h' → Q (.ref (Pickmin xs ys x y)) { s with heap := h', toks := tk }) :
    wpAny (model prog w) A (call (.builtin "min") [.ref l]) Q E s := by
  have hname : (toString "min" ++ toString ".loop" : String) = "min.loop" := by decide
  refine call_function_tree F.kind_min F.plain_min F.entry_min (F.args_min1 _) ?_
  show wpAny _ A.in1 (Builtin.Builtins.bindParams "min" ["key", "default"] 0 ⟨[], []⟩ >>= _) _ _ s
  refine wpAny_bind (wpAny_of_eq (show Builtin.Builtins.bindParams "min" ["key", "default"] 0 ⟨[], []⟩ = pure [none, none] from rfl) ?_)
  refine wpAny_bind (wpAny_pure ?_)
  have hls : s.heap.IsList l #[.ref x, .ref y] := ⟨_, hl, rfl, k, rfl⟩
  have hlt : l < s.heap.objs.size := Heap.lt_size hl
  refine wpAny_bind (wpAny_pyIter_list hls ?_)
  have up : ∀ b o, s.heap.get? b = some o → (s.heap.push { cls := .type "list_iterator", data := .fields #[.ref l, .int 0 0] }).get? b = some o := fun b o e => Heap.get?_push_of_some _ e
  refine wpAny_bind (wpAny_newObj_type ?_)
  rw [hname]
  have hsz : (s.heap.push { cls := .type "list_iterator", data := .fields #[.ref l, .int 0 0] }).objs.size = s.heap.objs.size + 1 := Heap.size_push _ _
  have Wk := Walks.list (prog := prog) (w := w) (A := A.in1) hh s.heap.objs.size l (Nat.ne_of_lt hlt) #[.ref x, .ref y]
  have hSl : ∀ b, b < s.heap.objs.size → b ≠ (s.heap.push { cls := .type "list_iterator", data := .fields #[.ref l, .int 0 0] }).objs.size := fun b hb => by rw [hsz]; exact Nat.ne_of_lt (Nat.lt_succ_of_lt hb)
  refine wpAny_pure ⟨plainId_quiet F.plain_min_loop _, min_first Wk (fun h => h.get? x = some (W.listOf its c) ∧ h.get? y = some (W.listOf its2 c2))
    (fun i j => cmpL .Lt (if i = 0 then xs else ys) (if j = 0 then xs else ys)) ?_ _ ?_ ?_ (Nat.le_of_ble_eq_true rfl) ?_ ?_ (Heap.get?_push_size _ rfl) ?_⟩
  · intro i j vi vj s' Q' E' hK hi hj hQ
    have hA : A.in1.units < cLine := by have e : A.in1.units = A.units + 1 := rfl; omega
    have case2 : ∀ (i : Nat) (v : Value), (#[Value.ref x, Value.ref y] : Array Value)[i]? = some v → (i = 0 ∧ v = .ref x) ∨ (i ≠ 0 ∧ v = .ref y) := by
      intro i v hv
      match i, hv with
      | 0, hv => exact .inl ⟨rfl, (Option.some.inj hv).symm⟩
      | 1, hv => exact .inr ⟨by decide, (Option.some.inj hv).symm⟩
    rcases case2 i vi hi with ⟨i0, rfl⟩ | ⟨i0, rfl⟩ <;> rcases case2 j vj hj with ⟨j0, rfl⟩ | ⟨j0, rfl⟩ <;> simp only [i0, j0, if_true, if_false] at hQ
    · exact cmp_lt hA hK.1 hK.1 hxs hxs hQ
    · exact cmp_lt hA hK.1 hK.2 hxs hys hQ
    · exact cmp_lt hA hK.2 hK.1 hys hxs hQ
    · exact cmp_lt hA hK.2 hK.2 hys hys hQ
  · intro hm
    rcases List.mem_cons.mp hm with e | hm
    · exact absurd (e.symm.trans hsz) (Nat.ne_of_lt (Nat.lt_succ_self _))
    · exact absurd (List.mem_singleton.mp hm).symm (hSl l hlt)
  · intro h h' hK hk
    have f : ∀ b o, s.heap.get? b = some o → h.get? b = some o → h'.get? b = some o := fun b o e e2 => hk b o (fun hm => by rw [List.mem_singleton.mp hm] at e; exact absurd (Heap.lt_size e) (Nat.lt_irrefl _)) (hSl b (Heap.lt_size e)) e2
    exact ⟨f _ _ hx hK.1, f _ _ hy hK.2⟩
  · exact Wk.frame _ _ _ ⟨⟨_, Heap.get?_push_size _ rfl, rfl, rfl⟩, hls.push _⟩ fun b _ o e => Heap.get?_push_of_some _ e
  · exact ⟨Heap.get?_push_of_some _ (up _ _ hx), Heap.get?_push_of_some _ (up _ _ hy)⟩
  · intro v h' tk hP hk
    have hv : v = .ref (Pickmin xs ys x y) := by
      unfold Pickmin
      have e2 : (#[Value.ref x, Value.ref y] : Array Value).size - 1 = 1 := rfl
      rw [e2] at hP
      by_cases hb : cmpL .Lt ys xs = true
      · have e : argBest (fun i j => cmpL .Lt (if i = 0 then xs else ys) (if j = 0 then xs else ys)) 1 = 1 := by simp [argBest, hb]
        rw [e] at hP
        rw [if_pos hb]
        exact (Option.some.inj hP).symm
      · have e : argBest (fun i j => cmpL .Lt (if i = 0 then xs else ys) (if j = 0 then xs else ys)) 1 = 0 := by simp [argBest, hb]
        rw [e] at hP
        rw [if_neg hb]
        exact (Option.some.inj hP).symm
    rw [hv]
    exact h h' tk fun b o e => hk b o (fun hm => by rw [List.mem_singleton.mp hm] at e; exact absurd (Heap.lt_size e) (Nat.lt_irrefl _)) (hSl b (Heap.lt_size e)) (Heap.get?_push_of_some _ (up _ _ e))
end

section
variable {prog : Program} {w : World} {A : Around} {R : Result → Shared → Prop} {I : Addr} {fp wr : List Addr} {n : Nat} {P : Nat → Value → Prop} {St : Nat → Heap → Prop}
theorem max_go (W : Walks prog w A.in1 I fp wr n P St) (K : Heap → Prop) (bt : Nat → Nat → Bool)
    (hcmp : ∀ i j vi vj (s : Shared) (Q : Value → Shared → Prop) (E : Value → Shared → Prop), K s.heap → P i vi → P j vj → Q (.bool (bt i j)) s → wpAny (model prog w) A.in1 (richCompare .Gt vi vj) Q E s)
    (S : Addr) (hSf : S ∉ fp) (hK : ∀ h h' : Heap, K h → (∀ b o, b ∉ wr → b ≠ S → h.get? b = some o → h'.get? b = some o) → K h') :
    ∀ (k j : Nat) (s : Shared) (vb : Value) (c : Nat), n - (j + 1) = k → j + 1 ≤ n → St (j + 1) s.heap → K s.heap → P (argBest bt j) vb →
    s.heap.get? S = some { cls := .type "list", dict := none, data := .seq #[vb, vb] c, slots := #[] } →
    (∀ v h' tk, P (argBest bt (n - 1)) v → (∀ b o, b ∉ wr → b ≠ S → s.heap.get? b = some o → h'.get? b = some o) → R (.ok (.ret v)) { s with heap := h', toks := tk }) →
    codeAny (model prog w) A (.builtin "max.loop" ⟨[.ref I, .none, .ref S], []⟩) R s := by
  have hSw : S ∉ wr := fun h => hSf (W.sub _ h)
  have hname : (toString "max" ++ toString ".loop" : String) = "max.loop" := by decide
  intro k
  induction k with
  | zero =>
    intro j s vb c hk hj hst hKs hPb hS hR
    have hin : j + 1 = n := by omega
    refine codeAny_builtin F.entry_max_loop ?_
    rw [Around.under_plainId F.plain_max_loop _]
    show wpAny _ A.in1 (seqItems? (.ref S) >>= _) _ _ s
    refine wpAny_bind (wpAny_seqItems hS rfl ?_)
    show wpAny _ A.in1 (tryCatch (pyNext (.ref I)) _ >>= _) _ _ s
    refine wpAny_bind (wpAny_tryCatch (W.done s _ _ (hin ▸ hst) fun h' tk hk' => ?_))
    have hS' := hk' S _ hSw hS
    show wpAny _ A.in1 (updateSeq S (fun _ => #[]) >>= _) _ _ _
    refine wpAny_bind ?_
    refine wpAny_updateSeq hS' rfl (wpAny_bind (wpAny_letGo (wpAny_pure ?_)))
    exact hR vb _ tk (by rw [← hin]; exact hPb) fun b o hbw hbS e => (Heap.get?_update_other _ _ (Ne.symm hbS)).trans (hk' b o hbw e)
  | succ k ih =>
    intro j s vb c hk hj hst hKs hPb hS hR
    have hlt : j + 1 < n := by omega
    refine codeAny_builtin F.entry_max_loop ?_
    rw [Around.under_plainId F.plain_max_loop _]
    show wpAny _ A.in1 (seqItems? (.ref S) >>= _) _ _ s
    refine wpAny_bind (wpAny_seqItems hS rfl ?_)
    show wpAny _ A.in1 (tryCatch (pyNext (.ref I)) _ >>= _) _ _ s
    refine wpAny_bind (wpAny_tryCatch (W.item (j + 1) s _ _ hlt hst fun v h' tk hP hst' hk' => ?_))
    have hS' := hk' S _ hSw hS
    have hK' : K h' := hK _ _ hKs fun b o hb _ e => hk' b o hb e
    show wpAny _ A.in1 (tryCatch (holding [v, v] (richCompare .Gt v vb >>= _)) _ >>= _) _ _ _
    refine wpAny_bind (wpAny_tryCatch (wpAny_holding (wpAny_bind (hcmp (j + 1) (argBest bt j) v vb _ _ _ hK' hP hPb ?_))))
    refine wpAny_bind (wpAny_holding (wpAny_truthy_bool ?_))
    refine wpAny_bind (wpAny_letGo (wpAny_pure ?_))
    by_cases hb : bt (j + 1) (argBest bt j) = true
    · rw [hb]
      simp only [if_true]
      refine wpAny_bind ?_
      refine wpAny_updateSeq hS' rfl (wpAny_bind (wpAny_letGo ?_))
      rw [hname]
      have hup : ∀ b o, b ≠ S → h'.get? b = some o → (h'.update S fun o => { o with data := .seq #[v, v] }).get? b = some o := fun b o hbS e => (Heap.get?_update_other _ _ (Ne.symm hbS)).trans e
      refine wpAny_pure ⟨plainId_quiet F.plain_max_loop _, ih (j + 1) _ v _ (by omega) hlt (W.frame _ _ _ hst' fun b hbf o e => ?_) (hK _ _ hK' fun b o _ hbS e => ?_) (by simp only [argBest, hb, if_true]; exact hP) (Heap.get?_update_self _ hS' rfl)
        fun v' h'' tk'' hP' hk'' => ?_⟩
      · exact (Heap.get?_update_other _ _ (fun h : S = b => hSf (by rw [h]; exact hbf))).trans e
      · exact (Heap.get?_update_other _ _ (Ne.symm hbS)).trans e
      · exact hR v' h'' tk'' hP' fun b o hbw hbS e => hk'' b o hbw hbS ((Heap.get?_update_other _ _ (Ne.symm hbS)).trans (hk' b o hbw e))
    · have hb : bt (j + 1) (argBest bt j) = false := by simpa using hb
      rw [hb]
      simp only [Bool.false_eq_true, if_false]
      refine wpAny_bind (wpAny_letGo ?_)
      rw [hname]
      refine wpAny_pure ⟨plainId_quiet F.plain_max_loop _, ih (j + 1) _ vb c (by omega) hlt hst' hK' (by simp only [argBest, hb, Bool.false_eq_true, if_false]; exact hPb) hS' fun v' h'' tk'' hP' hk'' => ?_⟩
      exact hR v' h'' tk'' hP' fun b o hbw hbS e => hk'' b o hbw hbS (hk' b o hbw e)
theorem max_first (W : Walks prog w A.in1 I fp wr n P St) (K : Heap → Prop) (bt : Nat → Nat → Bool)
    (hcmp : ∀ i j vi vj (s : Shared) (Q : Value → Shared → Prop) (E : Value → Shared → Prop), K s.heap → P i vi → P j vj → Q (.bool (bt i j)) s → wpAny (model prog w) A.in1 (richCompare .Gt vi vj) Q E s)
    (S : Addr) (hSf : S ∉ fp) (hK : ∀ h h' : Heap, K h → (∀ b o, b ∉ wr → b ≠ S → h.get? b = some o → h'.get? b = some o) → K h') (hn : 0 < n) {s : Shared} {c : Nat} (hst : St 0 s.heap) (hKs : K s.heap)
    (hS : s.heap.get? S = some { cls := .type "list", dict := none, data := .seq #[] c, slots := #[] })
    (hR : ∀ v h' tk, P (argBest bt (n - 1)) v → (∀ b o, b ∉ wr → b ≠ S → s.heap.get? b = some o → h'.get? b = some o) → R (.ok (.ret v)) { s with heap := h', toks := tk }) :
    codeAny (model prog w) A (.builtin "max.loop" ⟨[.ref I, .none, .ref S], []⟩) R s := by
  have hSw : S ∉ wr := fun h => hSf (W.sub _ h)
  have hname : (toString "max" ++ toString ".loop" : String) = "max.loop" := by decide
  refine codeAny_builtin F.entry_max_loop ?_
  rw [Around.under_plainId F.plain_max_loop _]
  show wpAny _ A.in1 (seqItems? (.ref S) >>= _) _ _ s
  refine wpAny_bind (wpAny_seqItems hS rfl ?_)
  show wpAny _ A.in1 (tryCatch (pyNext (.ref I)) _ >>= _) _ _ s
  refine wpAny_bind (wpAny_tryCatch (W.item 0 s _ _ hn hst fun v h' tk hP hst' hk' => ?_))
  have hS' := hk' S _ hSw hS
  have hK' : K h' := hK _ _ hKs fun b o hb _ e => hk' b o hb e
  show wpAny _ A.in1 (updateSeq S (fun _ => #[v, v]) >>= _) _ _ _
  refine wpAny_bind ?_
  refine wpAny_updateSeq hS' rfl ?_
  rw [hname]
  refine wpAny_pure ⟨plainId_quiet F.plain_max_loop _, max_go W K bt hcmp S hSf hK _ 0 _ v _ rfl hn (W.frame _ _ _ hst' fun b hbf o e => ?_) (hK _ _ hK' fun b o _ hbS e => ?_) hP (Heap.get?_update_self _ hS' rfl) fun v' h'' tk'' hP' hk'' => ?_⟩
  · exact (Heap.get?_update_other _ _ (fun h : S = b => hSf (by rw [h]; exact hbf))).trans e
  · exact (Heap.get?_update_other _ _ (Ne.symm hbS)).trans e
  · exact hR v' h'' tk'' hP' fun b o hbw hbS e => hk'' b o hbw hbS ((Heap.get?_update_other _ _ (Ne.symm hbS)).trans (hk' b o hbw e))
end
section
variable {prog : Program} {w : World} {A : Around} {E : Value → Shared → Prop} {s : Shared}
noncomputable def Pickmax (xs ys : List Str) (x y : Addr) : Addr := if cmpL .Gt ys xs = true then y else x
theorem call_max_lists {l x y : Addr} {its its2 : Array Value} {c c2 k : Nat} {xs ys : List Str} {Q : Value → Shared → Prop} (hh : A.handled = none) (hu : A.units + 1 < cLine)
    (hl : s.heap.get? l = some (W.listOf #[.ref x, .ref y] k)) (hx : s.heap.get? x = some (W.listOf its c)) (hy : s.heap.get? y = some (W.listOf its2 c2)) (hxs : StrsAre its.toList xs) (hys : StrsAre its2.toList ys)
    (h : ∀ h' tk, Grows s.heap h' → Q (.ref (Pickmax xs ys x y)) { s with heap := h', toks := tk }) :
    wpAny (model prog w) A (call (.builtin "max") [.ref l]) Q E s := by
  have hname : (toString "max" ++ toString ".loop" : String) = "max.loop" := by decide
  refine call_function_tree F.kind_max F.plain_max F.entry_max (F.args_max1 _) ?_
  show wpAny _ A.in1 (Builtin.Builtins.bindParams "max" ["key", "default"] 0 ⟨[], []⟩ >>= _) _ _ s
  refine wpAny_bind (wpAny_of_eq (show Builtin.Builtins.bindParams "max" ["key", "default"] 0 ⟨[], []⟩ = pure [none, none] from rfl) ?_)
  refine wpAny_bind (wpAny_pure ?_)
  have hls : s.heap.IsList l #[.ref x, .ref y] := ⟨_, hl, rfl, k, rfl⟩
  have hlt : l < s.heap.objs.size := Heap.lt_size hl
  refine wpAny_bind (wpAny_pyIter_list hls ?_)
  have up : ∀ b o, s.heap.get? b = some o → (s.heap.push { cls := .type "list_iterator", data := .fields #[.ref l, .int 0 0] }).get? b = some o := fun b o e => Heap.get?_push_of_some _ e
  refine wpAny_bind (wpAny_newObj_type ?_)
  rw [hname]
  have hsz : (s.heap.push { cls := .type "list_iterator", data := .fields #[.ref l, .int 0 0] }).objs.size = s.heap.objs.size + 1 := Heap.size_push _ _
  have Wk := Walks.list (prog := prog) (w := w) (A := A.in1) hh s.heap.objs.size l (Nat.ne_of_lt hlt) #[.ref x, .ref y]
  have hSl : ∀ b, b < s.heap.objs.size → b ≠ (s.heap.push { cls := .type "list_iterator", data := .fields #[.ref l, .int 0 0] }).objs.size := fun b hb => by rw [hsz]; exact Nat.ne_of_lt (Nat.lt_succ_of_lt hb)
  refine wpAny_pure ⟨plainId_quiet F.plain_max_loop _, max_first Wk (fun h => h.get? x = some (W.listOf its c) ∧ h.get? y = some (W.listOf its2 c2))
    (fun i j => cmpL .Gt (if i = 0 then xs else ys) (if j = 0 then xs else ys)) ?_ _ ?_ ?_ (Nat.le_of_ble_eq_true rfl) ?_ ?_ (Heap.get?_push_size _ rfl) ?_⟩
  · intro i j vi vj s' Q' E' hK hi hj hQ
    have hA : A.in1.units < cLine := by have e : A.in1.units = A.units + 1 := rfl; omega
    have case2 : ∀ (i : Nat) (v : Value), (#[Value.ref x, Value.ref y] : Array Value)[i]? = some v → (i = 0 ∧ v = .ref x) ∨ (i ≠ 0 ∧ v = .ref y) := by
      intro i v hv
      match i, hv with
      | 0, hv => exact .inl ⟨rfl, (Option.some.inj hv).symm⟩
      | 1, hv => exact .inr ⟨by decide, (Option.some.inj hv).symm⟩
    rcases case2 i vi hi with ⟨i0, rfl⟩ | ⟨i0, rfl⟩ <;> rcases case2 j vj hj with ⟨j0, rfl⟩ | ⟨j0, rfl⟩ <;> simp only [i0, j0, if_true, if_false] at hQ
    · exact cmp_gt hA hK.1 hK.1 hxs hxs hQ
    · exact cmp_gt hA hK.1 hK.2 hxs hys hQ
    · exact cmp_gt hA hK.2 hK.1 hys hxs hQ
    · exact cmp_gt hA hK.2 hK.2 hys hys hQ
  · intro hm
    rcases List.mem_cons.mp hm with e | hm
    · exact absurd (e.symm.trans hsz) (Nat.ne_of_lt (Nat.lt_succ_self _))
    · exact absurd (List.mem_singleton.mp hm).symm (hSl l hlt)
  · intro h h' hK hk
    have f : ∀ b o, s.heap.get? b = some o → h.get? b = some o → h'.get? b = some o := fun b o e e2 => hk b o (fun hm => by rw [List.mem_singleton.mp hm] at e; exact absurd (Heap.lt_size e) (Nat.lt_irrefl _)) (hSl b (Heap.lt_size e)) e2
    exact ⟨f _ _ hx hK.1, f _ _ hy hK.2⟩
  · exact Wk.frame _ _ _ ⟨⟨_, Heap.get?_push_size _ rfl, rfl, rfl⟩, hls.push _⟩ fun b _ o e => Heap.get?_push_of_some _ e
  · exact ⟨Heap.get?_push_of_some _ (up _ _ hx), Heap.get?_push_of_some _ (up _ _ hy)⟩
  · intro v h' tk hP hk
    have hv : v = .ref (Pickmax xs ys x y) := by
      unfold Pickmax
      have e2 : (#[Value.ref x, Value.ref y] : Array Value).size - 1 = 1 := rfl
      rw [e2] at hP
      by_cases hb : cmpL .Gt ys xs = true
      · have e : argBest (fun i j => cmpL .Gt (if i = 0 then xs else ys) (if j = 0 then xs else ys)) 1 = 1 := by simp [argBest, hb]
        rw [e] at hP
        rw [if_pos hb]
        exact (Option.some.inj hP).symm
      · have e : argBest (fun i j => cmpL .Gt (if i = 0 then xs else ys) (if j = 0 then xs else ys)) 1 = 0 := by simp [argBest, hb]
        rw [e] at hP
        rw [if_neg hb]
        exact (Option.some.inj hP).symm
    rw [hv]
    exact h h' tk fun b o e => hk b o (fun hm => by rw [List.mem_singleton.mp hm] at e; exact absurd (Heap.lt_size e) (Nat.lt_irrefl _)) (hSl b (Heap.lt_size e)) (Heap.get?_push_of_some _ (up _ _ e))
end
end Mine
namespace Mine
open PySem.Spec PySem.Calls PySem.W.X
noncomputable def minL (xs ys : List Str) : List Str := if cmpL .Lt ys xs = true then ys else xs
noncomputable def maxL (xs ys : List Str) : List Str := if cmpL .Gt ys xs = true then ys else xs
section
variable {prog : Program} {w : World} {A : Around} {E : Value → Shared → Prop} {h₀ : Heap} {L : Addr} {m : Str → Option Value} {news : List (Addr × Obj)} {s : Shared}
theorem use_minL {l x y : Addr} {its its2 : Array Value} {c c2 k : Nat} {xs ys : List Str} {Q : Value → Shared → Prop} (hh : A.handled = none) (hu : A.units + 1 < cLine) (F : Fr h₀ L s.heap m) (N : News h₀ L s.heap news)
    (hl : (l, W.listOf #[.ref x, .ref y] k) ∈ news) (hx : (x, W.listOf its c) ∈ news) (hy : (y, W.listOf its2 c2) ∈ news) (hxs : StrsAre its.toList xs) (hys : StrsAre its2.toList ys)
    (h : ∀ a vs n h' tk, StrsAre vs.toList (minL xs ys) → Fr h₀ L h' m → News h₀ L h' ((a, W.listOf vs n) :: news) → Q (.ref a) { s with heap := h', toks := tk }) :
    wpAny (model prog w) A (call (.builtin "min") [.ref l]) Q E s := by
  refine call_min_lists hh hu (News.get N hl) (News.get N hx) (News.get N hy) hxs hys fun h' tk g => ?_
  have F' := Fr.keeps F g
  have N' := News.grown N g
  unfold Pickmin
  unfold minL at h
  by_cases hc : cmpL .Lt ys xs = true
  · rw [if_pos hc]
    simp only [if_pos hc] at h
    refine h y its2 c2 h' tk hys F' fun p hp => ?_
    rcases List.mem_cons.mp hp with rfl | hp
    · exact N' _ hy
    · exact N' p hp
  · rw [if_neg hc]
    simp only [if_neg hc] at h
    refine h x its c h' tk hxs F' fun p hp => ?_
    rcases List.mem_cons.mp hp with rfl | hp
    · exact N' _ hx
    · exact N' p hp
theorem use_maxL {l x y : Addr} {its its2 : Array Value} {c c2 k : Nat} {xs ys : List Str} {Q : Value → Shared → Prop} (hh : A.handled = none) (hu : A.units + 1 < cLine) (F : Fr h₀ L s.heap m) (N : News h₀ L s.heap news)
    (hl : (l, W.listOf #[.ref x, .ref y] k) ∈ news) (hx : (x, W.listOf its c) ∈ news) (hy : (y, W.listOf its2 c2) ∈ news) (hxs : StrsAre its.toList xs) (hys : StrsAre its2.toList ys)
    (h : ∀ a vs n h' tk, StrsAre vs.toList (maxL xs ys) → Fr h₀ L h' m → News h₀ L h' ((a, W.listOf vs n) :: news) → Q (.ref a) { s with heap := h', toks := tk }) :
    wpAny (model prog w) A (call (.builtin "max") [.ref l]) Q E s := by
  refine call_max_lists hh hu (News.get N hl) (News.get N hx) (News.get N hy) hxs hys fun h' tk g => ?_
  have F' := Fr.keeps F g
  have N' := News.grown N g
  unfold Pickmax
  unfold maxL at h
  by_cases hc : cmpL .Gt ys xs = true
  · rw [if_pos hc]
    simp only [if_pos hc] at h
    refine h y its2 c2 h' tk hys F' fun p hp => ?_
    rcases List.mem_cons.mp hp with rfl | hp
    · exact N' _ hy
    · exact N' p hp
  · rw [if_neg hc]
    simp only [if_neg hc] at h
    refine h x its c h' tk hxs F' fun p hp => ?_
    rcases List.mem_cons.mp hp with rfl | hp
    · exact N' _ hx
    · exact N' p hp
end
end Mine
namespace Mine
open PySem.Spec PySem.Calls PySem.W.X
noncomputable def SelG (b : Nat → Bool) (G : Nat → Value → Prop) : Nat → List Value → Prop
  | 0, ys => ys = []
  | i + 1, ys => if b i = true then ∃ zs y, ys = zs ++ [y] ∧ SelG b G i zs ∧ G i y else SelG b G i ys
theorem SelG.len {b : Nat → Bool} {G : Nat → Value → Prop} : ∀ {i : Nat} {ys : List Value}, SelG b G i ys → ys.length ≤ i
  | 0, ys, h => by rw [show ys = [] from h]; exact Nat.le_refl _
  | i + 1, ys, h => by
    unfold SelG at h
    split at h
    · obtain ⟨zs, y, rfl, h, _⟩ := h
      have := SelG.len h
      simp; exact this
    · exact Nat.le_succ_of_le (SelG.len h)
theorem SelG.push {b : Nat → Bool} {G : Nat → Value → Prop} {i : Nat} {ys : List Value} {y : Value} (h : SelG b G i ys) (hb : b i = true) (hy : G i y) : SelG b G (i + 1) (ys ++ [y]) := by
  unfold SelG; rw [if_pos hb]; exact ⟨ys, y, rfl, h, hy⟩
theorem SelG.skip {b : Nat → Bool} {G : Nat → Value → Prop} {i : Nat} {ys : List Value} (h : SelG b G i ys) (hb : b i = false) : SelG b G (i + 1) ys := by
  unfold SelG; rw [if_neg (by rw [hb]; exact Bool.false_ne_true)]; exact h
noncomputable def FltEl (b : Nat → Bool) (G : Nat → Value → Prop) (i : Nat) (news : List (Addr × Obj)) (y : Value) (news' : List (Addr × Obj)) : Prop := (∀ p ∈ news, p ∈ news') ∧ b i = true ∧ G i y
noncomputable def FltNo (b : Nat → Bool) (i : Nat) (news : List (Addr × Obj)) (y : Value) (news' : List (Addr × Obj)) : Prop := (∀ p ∈ news, p ∈ news') ∧ b i = false
noncomputable abbrev testsOf (ifs : List PySem.Expr) (env : Env) : Sem Bool := forIn ifs true fun c r => if r = true then do let ok ← isTrue c env (eval c env); pure (ForInStep.yield ok) else pure (ForInStep.yield r)
section
variable {prog : Program} {w : World} {A : Around} {E : Value → Shared → Prop} {h₀ : Heap} {L : Addr} {m : Str → Option Value} {env : Env}
noncomputable def FltTurn (prog : Program) (w : World) (A : Around) (h₀ : Heap) (L : Addr) (m : Str → Option Value) (env : Env) (elt : PySem.Expr) (x : Str) (ifs : List PySem.Expr) (scope : Scope) (cl : List (Str × Addr)) (s₂ : Shared) (news : List (Addr × Obj)) (n : Nat) (P : Nat → Value → Prop) (b : Nat → Bool) (G : Nat → Value → Prop) : Prop :=
  ∀ i v I oI C oC D oD m₂ h tk (E' : Value → Shared → Prop), i < n → P i v → LCg.NsObj oC m₂ → m₂ x = some v → Fr h₀ L h m → News h₀ L h ((I, oI) :: (C, oC) :: (D, oD) :: news) → LCg.Off3 I C D news → ((@Ne Nat I C) ∧ (@Ne Nat I D) ∧ (@Ne Nat C D)) →
      wpAny (model prog w) A (testsOf ifs (compEnvC scope cl C env)) (fun ok s₃ =>
        if ok = true then wpAny (model prog w) A (eval elt (compEnvC scope cl C env)) (LCg.CompEnd h₀ L m { s₂ with heap := h, toks := tk } I oI C oC D oD (fun _ => True) (FltEl b G i news)) E' s₃
        else LCg.CompEnd h₀ L m { s₂ with heap := h, toks := tk } I oI C oC D oD (fun _ => True) (FltNo b i news) .none s₃) E' { s₂ with heap := h, toks := tk }
theorem flt_block {elt iter : PySem.Expr} {x : Str} {px : Pos} {ifs : List PySem.Expr} {scope : Scope} {cl : List (Str × Addr)} {pos : Pos} {s₂ : Shared} {I : Addr} {fp : List Addr} {n : Nat} {P : Nat → Value → Prop} {St : Nat → Heap → Prop} {news : List (Addr × Obj)}
    {RR : Value → Addr → Result → Shared → Prop} {b : Nat → Bool} {G : Nat → Value → Prop}
    (W : Walks prog w A I fp [I] n P St) (hsz : n ≤ sizeLine) (hIo : ∀ i h, St i h → ∃ o, h.get? I = some o)
    (hSt : ∀ i h h' o, St i h → h.get? I = some o → h'.get? I = some o → (∀ b o, h₀.get? b = some o → h'.get? b = some o) → News h₀ L h' news → St i h')
    (hcell : ∀ y ∈ scope.names, y.2 ≠ .cell) (hkind : scope.kind = .function) (hx : scope.names.lookup x = some .local) (hst : St 0 s₂.heap) (hfp : ∀ b ∈ fp, b < s₂.heap.objs.size)
    (F : Fr h₀ L s₂.heap m) (N : News h₀ L s₂.heap news) (hIL : L ≠ I) (hI₀ : h₀.get? I = none) (off : ∀ p ∈ news, p.1 ≠ I)
    (turn : FltTurn prog w A h₀ L m env elt x ifs scope cl s₂ news n P b G)
    (hRR : ∀ D C h tk m' ys, Fr h₀ L h m → News h₀ L h ((D, LCg.lst ys) :: news) → LCg.Off1 D news → h.Ns C m' → h₀.get? C = none → h₀.get? D = none → s₂.heap.get? D = none → C ≠ L → D ≠ L → C ≠ D → (∀ p ∈ news, p.1 ≠ C) → SelG b G n ys → RR (.ref D) C (.ok .next) { s₂ with heap := h, toks := tk }) :
    wpAny (model prog w) A (newList []) (fun acc s₃ => wpAny (model prog w) A (newFunctionEnv scope env.globals cl [] env.qual none .none (some env)) (fun cenv s₄ =>
      codeAny (model prog w) A (.compStart (.ListComp elt [⟨.Name x px, iter, ifs, 0⟩] scope pos) 0 (.ref I) acc { cenv with scope := relabel scope env }) (RR acc cenv.locals) s₄) E s₃) E s₂ := by
  refine wpAny_newObj_type (wpAny_newFunctionEnv hcell (by intro y hy; simp at hy) (fun h₁ hns₁ hsb₁ => ?_) hkind)
  dsimp only at hns₁ hsb₁ ⊢
  generalize hH2 : s₂.heap.push { cls := .type "list", dict := none, data := .seq ([] : List Value).toArray } = H2 at hns₁ hsb₁ ⊢
  have hC : H2.objs.size = s₂.heap.objs.size + 1 := by rw [← hH2, Heap.size_push]
  have hDC : s₂.heap.objs.size ≠ H2.objs.size := by rw [hC]; exact Nat.ne_of_lt (Nat.lt_succ_self _)
  have below : ∀ b, b < s₂.heap.objs.size → b ≠ H2.objs.size ∧ b ≠ s₂.heap.objs.size := fun b hb => ⟨by rw [hC]; exact Nat.ne_of_lt (Nat.lt_succ_of_lt hb), Nat.ne_of_lt hb⟩
  have hDf : s₂.heap.objs.size ∉ fp := fun hm => Nat.lt_irrefl _ (hfp _ hm)
  have hCf : H2.objs.size ∉ fp := fun hm => by have := hfp _ hm; rw [hC] at this; exact Nat.lt_irrefl _ (Nat.lt_of_succ_lt this)
  have hIlt : I < s₂.heap.objs.size := hfp I (W.sub I (List.mem_singleton.mpr rfl))
  have old : ∀ b o, s₂.heap.get? b = some o → h₁.get? b = some o := fun b o e => hsb₁.extBut b o (below b (Heap.lt_size e)).1 (Heap.get?_push_of_some _ (hH2 ▸ Heap.get?_push_of_some _ e))
  have hacc : h₁.get? s₂.heap.objs.size = some (LCg.lst []) := hsb₁.extBut _ _ hDC (Heap.get?_push_of_some _ (hH2 ▸ Heap.get?_push_size _ rfl))
  have hst₁ : St 0 h₁ := W.frame _ _ _ hst fun b _ o e => old b o e
  have fresh₁ : s₂.heap.get? s₂.heap.objs.size = none := by
    cases e : s₂.heap.get? s₂.heap.objs.size with
    | none => rfl
    | some o' => exact absurd (Heap.lt_size e) (Nat.lt_irrefl _)
  have fresh₀ : ∀ a, s₂.heap.objs.size ≤ a → h₀.get? a = none := fun a ha => by
    cases e : h₀.get? a with
    | none => rfl
    | some o' => exact absurd (Heap.lt_size (F.keep a o' e)) (Nat.not_lt.mpr ha)
  have hD₀ : h₀.get? s₂.heap.objs.size = none := fresh₀ _ (Nat.le_refl _)
  have hC₀ : h₀.get? H2.objs.size = none := fresh₀ _ (by rw [hC]; exact Nat.le_succ _)
  have hLlt : L < s₂.heap.objs.size := F.ns.lt
  have hDL : s₂.heap.objs.size ≠ L := Ne.symm (below L hLlt).2
  have hCL : H2.objs.size ≠ L := Ne.symm (below L hLlt).1
  have hCI : I ≠ H2.objs.size := (below I hIlt).1
  have hDI : I ≠ s₂.heap.objs.size := (below I hIlt).2
  have off₀ : LCg.Off3 I H2.objs.size s₂.heap.objs.size news := LCg.Off3.of fun p hp => ⟨off p hp, (below _ (Heap.lt_size (N p hp).1)).1, (below _ (Heap.lt_size (N p hp).1)).2⟩
  have off3 := off₀.mem
  have loop : ∀ s₃ : Shared, s₃ = { s₂ with heap := h₁, toks := s₂.toks + ([] : List (Str × Value)).length } →
      codeAny (model prog w) A (.compLoop (.ListComp elt [⟨.Name x px, iter, ifs, 0⟩] scope pos) 0 (.ref I) (.ref s₂.heap.objs.size) (compEnvC scope cl H2.objs.size env))
        (RR (.ref s₂.heap.objs.size) H2.objs.size) s₃ := by
    rintro s₃ rfl
    refine codeAny_compLoop_tests
      (fun k s' => ∃ h' tk i ys m', s' = { s₂ with heap := h', toks := tk } ∧ i ≤ n ∧ k = n + 1 - i ∧ SelG b G i ys ∧ St i h' ∧ Fr h₀ L h' m ∧ h'.Ns H2.objs.size m' ∧ News h₀ L h' ((s₂.heap.objs.size, LCg.lst ys) :: news)) ?_ (n + 1)
      ⟨h₁, _, 0, [], _, rfl, Nat.zero_le _, rfl, rfl, hst₁, F.keeps old, hns₁, fun p hp => ?_⟩
    · rintro k s' ⟨h', tk, i, ys, m', rfl, hi, rfl, hsel, hst', F', hn', N'⟩
      by_cases hlt : i < n
      · refine W.item i _ _ _ hlt hst' fun v h₂ tk₂ hPv hst₂ hk₂ => ?_
        refine wpAny_assign_Name (wpAny_storeName_local (lookup_relabel_local hx) (hn'.at' fun o e => hk₂ _ o (by simpa using Ne.symm hCI) e) (fun h₃ hn₃ hs₃ => ?_) (by simp [compEnvC, relabel, hkind]))
        have hst₃ : St (i + 1) h₃ := W.frame _ _ _ hst₂ fun b hb o e => hs₃.extBut b o (fun q => hCf (by have q' : b = H2.objs.size := q; rw [← q']; exact hb)) e
        obtain ⟨oI, heI⟩ := hIo _ _ hst₃
        obtain ⟨oC, heC, hoC⟩ := LCg.ns_obj hn₃
        have F₃ : Fr h₀ L h₃ m := (LCg.fr_but F' hk₂ hIL hI₀).change hs₃ hCL hC₀
        have N₂ : News h₀ L h₂ ((s₂.heap.objs.size, LCg.lst ys) :: news) := LCg.news_but N' hk₂ fun p hp => by
          rcases List.mem_cons.mp hp with rfl | hp
          · exact Ne.symm hDI
          · exact (off3 p hp).1
        have N₃ : News h₀ L h₃ ((I, oI) :: (H2.objs.size, oC) :: (s₂.heap.objs.size, LCg.lst ys) :: news) := fun p hp => by
          rcases List.mem_cons.mp hp with rfl | hp
          · exact ⟨heI, Ne.symm hIL, hI₀⟩
          · rcases List.mem_cons.mp hp with rfl | hp
            · exact ⟨heC, hCL, hC₀⟩
            · have z := N₂ p hp
              refine ⟨hs₃.extBut _ _ ?_ z.1, z.2⟩
              rcases List.mem_cons.mp hp with rfl | hp
              · exact hDC
              · exact (off3 p hp).2.1
        have ends : ∀ {h₄ : Heap} {tk₄ : Nat} {news₄ : List (Addr × Obj)}, Fr h₀ L h₄ m → News h₀ L h₄ ((I, oI) :: (H2.objs.size, oC) :: (s₂.heap.objs.size, LCg.lst ys) :: news₄) → (∀ p ∈ news, p ∈ news₄) →
            h₄.get? I = some oI ∧ h₄.get? H2.objs.size = some oC ∧ h₄.get? s₂.heap.objs.size = some (LCg.lst ys) ∧ News h₀ L h₄ news ∧ St (i + 1) h₄ := by
          intro h₄ tk₄ news₄ F₄ N₄ hsub
          have zI := (N₄ (I, oI) List.mem_cons_self).1
          have zC := (N₄ (H2.objs.size, oC) (List.mem_cons_of_mem _ List.mem_cons_self)).1
          have zD := (N₄ (s₂.heap.objs.size, LCg.lst ys) (List.mem_cons_of_mem _ (List.mem_cons_of_mem _ List.mem_cons_self))).1
          have N₄' : News h₀ L h₄ news := fun p hp => N₄ p (List.mem_cons_of_mem _ (List.mem_cons_of_mem _ (List.mem_cons_of_mem _ (hsub p hp))))
          exact ⟨zI, zC, zD, N₄', hSt _ _ _ _ hst₃ heI zI F₄.keep N₄'⟩
        refine wpAny_mono (turn i v I oI H2.objs.size oC s₂.heap.objs.size _ _ h₃ _ _ hlt hPv hoC (by simp) F₃ N₃ off₀ ⟨hCI, hDI, Ne.symm hDC⟩) (fun ok s₄ h₄ => ?_) fun _ _ e => e
        by_cases hok : ok = true
        · rw [if_pos hok] at h₄
          rw [if_pos hok]
          refine wpAny_mono h₄ (fun y s₄ h₄ => ?_) fun _ _ e => e
          obtain ⟨h₄, tk₄, news₄, rfl, F₄, N₄, off₄, _, hsub, hb, hG⟩ := h₄
          obtain ⟨zI, zC, zD, N₄', hst₄⟩ := ends (tk₄ := tk₄) F₄ N₄ hsub
          refine append_at (hsz := by show ys.toArray.size ≤ sizeLine; rw [List.size_toArray]; exact Nat.le_trans hsel.len (Nat.le_trans hi hsz)) zD fun h₅ hs₅ hD₅ => ?_
          refine ⟨n + 1 - (i + 1), by omega, h₅, tk₄, i + 1, ys ++ [y], _, rfl, hlt, rfl, hsel.push hb hG, W.frame _ _ _ hst₄ fun b hb o e => hs₅.extBut b o (fun q => hDf (q ▸ hb)) e, F₄.change hs₅ hDL hD₀,
            (hoC.ns zC).sameBut hs₅ (Ne.symm hDC), fun p hp => ?_⟩
          rcases List.mem_cons.mp hp with rfl | hp
          · exact ⟨hD₅.trans (congrArg some (LCg.lst_snoc ys y)), hDL, hD₀⟩
          · exact ⟨hs₅.extBut _ _ (off3 p hp).2.2 (N₄' p hp).1, (N₄' p hp).2⟩
        · rw [if_neg hok] at h₄
          rw [if_neg hok]
          obtain ⟨h₄, tk₄, news₄, rfl, F₄, N₄, off₄, _, hsub, hb⟩ := h₄
          obtain ⟨zI, zC, zD, N₄', hst₄⟩ := ends (tk₄ := tk₄) F₄ N₄ hsub
          refine ⟨n + 1 - (i + 1), by omega, h₄, tk₄, i + 1, ys, _, rfl, hlt, rfl, hsel.skip hb, hst₄, F₄, hoC.ns zC, fun p hp => ?_⟩
          rcases List.mem_cons.mp hp with rfl | hp
          · exact ⟨zD, hDL, hD₀⟩
          · exact N₄' p hp
      · obtain rfl : i = n := Nat.le_antisymm hi (Nat.not_lt.mp hlt)
        refine W.done _ _ _ hst' fun h₂ tk₂ hk₂ => ?_
        exact hRR _ _ h₂ tk₂ _ ys (LCg.fr_but F' hk₂ hIL hI₀) (LCg.news_but N' hk₂ fun p hp => by
          rcases List.mem_cons.mp hp with rfl | hp
          · exact Ne.symm hDI
          · exact (off3 p hp).1) off₀.one (hn'.at' fun o e => hk₂ _ o (by simpa using Ne.symm hCI) e) hC₀ hD₀ fresh₁ hCL hDL (Ne.symm hDC) (fun p hp => (off3 p hp).2.1) hsel
    · rcases List.mem_cons.mp hp with rfl | hp
      · exact ⟨hacc, hDL, hD₀⟩
      · exact ⟨old _ _ (N p hp).1, (N p hp).2⟩
  exact codeAny_compStart_list (loop _ rfl) (W.self 0 _ _ _ hst₁ (loop _ rfl))
noncomputable def FltSrc (prog : Program) (w : World) (A : Around) (h₀ : Heap) (L : Addr) (m : Str → Option Value) (env : Env) (elt : PySem.Expr) (x : Str) (ifs : List PySem.Expr) (scope : Scope) (cl : List (Str × Addr)) (Q : Value → Shared → Prop) (xv : Value) (s₁ : Shared) : Prop :=
  ∃ ax its news b G, xv = .ref ax ∧ A.handled = none ∧ Fr h₀ L s₁.heap m ∧ News h₀ L s₁.heap news ∧ LCg.SrcAt h₀ ax its news ∧ its.size ≤ sizeLine ∧
    (∀ h, FltTurn prog w A h₀ L m env elt x ifs scope cl { s₁ with heap := h } news its.size (fun i v => its[i]? = some v) b G) ∧
    (∀ D h tk ys, Fr h₀ L h m → News h₀ L h ((D, LCg.lst ys) :: news) → LCg.Off1 D news → (∀ b o, h₀.get? b = some o → b ≠ D) → SelG b G its.size ys → Q (.ref D) { s₁ with heap := h, toks := tk })
theorem list_st' {news : List (Addr × Obj)} {ax I : Addr} {its : Array Value} (S : LCg.SrcAt h₀ ax its news) : ∀ i (h h' : Heap) (o : Obj), (h.IsListIter I ax i ∧ h.IsList ax its) → h.get? I = some o → h'.get? I = some o → (∀ b o, h₀.get? b = some o → h'.get? b = some o) → News h₀ L h' news → (h'.IsListIter I ax i ∧ h'.IsList ax its) :=
  fun i h h' o st e e' k N => ⟨by obtain ⟨o', q, r⟩ := st.1; rw [e] at q; cases q; exact ⟨o, e', r⟩, S.list k N⟩
theorem ListComp_F {s : Shared} {elt iter : PySem.Expr} {x : Str} {px : Pos} {ifs : List PySem.Expr} {scope : Scope} {cl : List (Str × Addr)} {pos : Pos} {Q : Value → Shared → Prop} (F₀ : Fr h₀ L s.heap m)
    (hclos : closureFor scope env = pure cl) (hcell : ∀ y ∈ scope.names, y.2 ≠ .cell) (hkind : scope.kind = .function)
    (hnames : ∀ y ∈ scope.names, y.2 = .local → scope.names.lookup y.1 = some .local) (hx : scope.names.lookup x = some .local)
    (h : wpAny (model prog w) A (eval iter env) (FltSrc prog w A h₀ L m env elt x ifs scope cl Q) E s)
    (hs : ∀ x, foldedSetIterable iter env x = pure x := by intro _; rfl) :
    wpAny (model prog w) A (eval (.ListComp elt [⟨.Name x px, iter, ifs, 0⟩] scope pos) env) Q E s := by
  rw [eval_ListComp]
  refine wpAny_comprehension_free (use := none) rfl hs hclos hkind hnames (wpAny_mono h (fun xv s₁ h₁ => ?_) fun _ _ e => e)
  obtain ⟨ax, its, news, b, G, rfl, hh, F, N, S, hsz, turn, fin⟩ := h₁
  have hl := S.list F.keep N
  have hlt : ax < s₁.heap.objs.size := by obtain ⟨_, e, _⟩ := hl; exact Heap.lt_size e
  refine wpAny_pyIter_list hl ?_
  have up : ∀ b o, s₁.heap.get? b = some o → (s₁.heap.push { cls := .type "list_iterator", data := .fields #[.ref ax, .int 0 0] }).get? b = some o := fun b o e => Heap.get?_push_of_some _ e
  refine flt_block (b := b) (G := G) (Walks.list hh s₁.heap.objs.size ax (Nat.ne_of_lt hlt) its) hsz (fun i h st => by obtain ⟨o, e, _⟩ := st.1; exact ⟨o, e⟩) (list_st' S) hcell hkind hx ⟨⟨_, Heap.get?_push_size _ rfl, rfl, rfl⟩, hl.push _⟩ (fun b hb => ?_)
    (F.keeps up) (N.grown up) (Nat.ne_of_lt F.ns.lt) (next_is_new F) (fun p hp => Nat.ne_of_lt (Heap.lt_size (N p hp).1)) (turn _) ?_
  · show b < (s₁.heap.push _).objs.size
    rw [Heap.size_push]
    rcases List.mem_cons.mp hb with rfl | hb
    · exact Nat.lt_succ_self _
    · rw [List.mem_singleton.mp hb]; exact Nat.lt_succ_of_lt hlt
  · intro D C h tk m' ys F' N' o1 hn hC₀ hD₀ hDs hCL hDL hCD offC hsel
    refine ⟨m', hn, fun h'' hs'' => fin D h'' tk ys (F'.change hs'' hCL hC₀) (fun p hp => ?_) o1 (fun b o e q => by rw [q, hD₀] at e; cases e) hsel⟩
    refine ⟨hs''.extBut _ _ ?_ (N' p hp).1, (N' p hp).2⟩
    rcases List.mem_cons.mp hp with rfl | hp
    · exact Ne.symm hCD
    · exact offC p hp
theorem FltTurn.test {elt c : PySem.Expr} {x : Str} {scope : Scope} {cl : List (Str × Addr)} {s₂ : Shared} {news : List (Addr × Obj)} {n : Nat} {P : Nat → Value → Prop} {b : Nat → Bool} {G : Nat → Value → Prop}
    (h : ∀ i v I oI C oC D oD m₂ h tk (E' : Value → Shared → Prop), i < n → P i v → LCg.NsObj oC m₂ → m₂ x = some v → Fr h₀ L h m → News h₀ L h ((I, oI) :: (C, oC) :: (D, oD) :: news) → LCg.Off3 I C D news → ((@Ne Nat I C) ∧ (@Ne Nat I D) ∧ (@Ne Nat C D)) →
      wpAny (model prog w) A (isTrue c (compEnvC scope cl C env) (eval c (compEnvC scope cl C env))) (fun ok s₃ =>
        if ok = true then wpAny (model prog w) A (eval elt (compEnvC scope cl C env)) (LCg.CompEnd h₀ L m { s₂ with heap := h, toks := tk } I oI C oC D oD (fun _ => True) (FltEl b G i news)) E' s₃
        else LCg.CompEnd h₀ L m { s₂ with heap := h, toks := tk } I oI C oC D oD (fun _ => True) (FltNo b i news) .none s₃) E' { s₂ with heap := h, toks := tk }) :
    FltTurn prog w A h₀ L m env elt x [c] scope cl s₂ news n P b G :=
  fun i v I oI C oC D oD m₂ hp tk E' hi hP hC hx F N off ne => wpAny_tests_one (h i v I oI C oC D oD m₂ hp tk E' hi hP hC hx F N off ne)
theorem FltTurn.all {elt : PySem.Expr} {x : Str} {scope : Scope} {cl : List (Str × Addr)} {s₂ : Shared} {news : List (Addr × Obj)} {n : Nat} {P : Nat → Value → Prop} {b : Nat → Bool} {G : Nat → Value → Prop}
    (h : ∀ i v I oI C oC D oD m₂ h tk (E' : Value → Shared → Prop), i < n → P i v → LCg.NsObj oC m₂ → m₂ x = some v → Fr h₀ L h m → News h₀ L h ((I, oI) :: (C, oC) :: (D, oD) :: news) → LCg.Off3 I C D news → ((@Ne Nat I C) ∧ (@Ne Nat I D) ∧ (@Ne Nat C D)) →
      wpAny (model prog w) A (eval elt (compEnvC scope cl C env)) (LCg.CompEnd h₀ L m { s₂ with heap := h, toks := tk } I oI C oC D oD (fun _ => True) (FltEl b G i news)) E' { s₂ with heap := h, toks := tk }) :
    FltTurn prog w A h₀ L m env elt x [] scope cl s₂ news n P b G :=
  fun i v I oI C oC D oD m₂ hp tk E' hi hP hC hx F N off ne => wpAny_tests_nil (by rw [if_pos rfl]; exact h i v I oI C oC D oD m₂ hp tk E' hi hP hC hx F N off ne)
end
end Mine
namespace Mine
open PySem.Spec PySem.Calls PySem.W.X
theorem strsAt {vs : List Value} {ps : List Str} (h : StrsAre vs ps) : ∀ {i : Nat} {v : Value}, vs[i]? = some v → ∃ c t, v = .str c t ∧ ps[i]? = some c := by
  induction h with
  | nil => intro i v e; simp at e
  | cons y t _ ih =>
    intro i v e
    cases i with
    | zero => cases e; exact ⟨_, _, rfl, rfl⟩
    | succ i => exact ih e
theorem strsAre_snoc {vs : List Value} {ys : List Str} {c : Str} {t : Tok} (h : StrsAre vs ys) : StrsAre (vs ++ [.str c t]) (ys ++ [c]) := by
  induction h with
  | nil => exact .cons _ _ .nil
  | cons y t _ ih => exact .cons _ _ ih
theorem strsAre_len' {vs : List Value} {ys : List Str} (h : StrsAre vs ys) : vs.length = ys.length := by
  induction h with
  | nil => rfl
  | cons y t _ ih => simp [ih]
noncomputable def StrEl (f : Str → Str) (p : Str → Bool) (news : List (Addr × Obj)) (c : Str) (y : Value) (news' : List (Addr × Obj)) : Prop := (∀ q ∈ news, q ∈ news') ∧ p c = true ∧ ∃ t, y = .str (f c) t
noncomputable def StrNo (p : Str → Bool) (news : List (Addr × Obj)) (c : Str) (y : Value) (news' : List (Addr × Obj)) : Prop := (∀ q ∈ news, q ∈ news') ∧ p c = false
theorem selG_strs {p : Str → Bool} {f : Str → Str} {ps : List Str} {b : Nat → Bool} {G : Nat → Value → Prop} (hb : ∀ i c, ps[i]? = some c → b i = p c) (hG : ∀ i c y, ps[i]? = some c → G i y → ∃ t, y = .str (f c) t) :
    ∀ i, i ≤ ps.length → ∀ ys, SelG b G i ys → StrsAre ys (((ps.take i).filter p).map f)
  | 0, _, ys, h => by rw [show ys = [] from h]; exact .nil
  | i + 1, hi, ys, h => by
    obtain ⟨c, hc⟩ : ∃ c, ps[i]? = some c := ⟨ps[i], by simp [Nat.lt_of_succ_le hi]⟩
    rw [take_succ_filter p ps i c hc, List.map_append]
    unfold SelG at h
    rw [hb i c hc] at h
    by_cases hp : p c = true
    · rw [if_pos hp] at h ⊢
      obtain ⟨zs, y, rfl, h, hy⟩ := h
      obtain ⟨t, rfl⟩ := hG i c y hc hy
      exact strsAre_snoc (selG_strs hb hG i (Nat.le_of_succ_le hi) zs h)
    · rw [if_neg hp] at h ⊢
      simpa using selG_strs hb hG i (Nat.le_of_succ_le hi) ys h
section
variable {prog : Program} {w : World} {A : Around} {E : Value → Shared → Prop} {h₀ : Heap} {L : Addr} {m : Str → Option Value} {env : Env}
theorem FltSrc.strs {elt test : PySem.Expr} {x : Str} {scope : Scope} {cl : List (Str × Addr)} {s₁ : Shared} {Q : Value → Shared → Prop} {news : List (Addr × Obj)} {ax : Addr} {its : Array Value} {ps : List Str} (p : Str → Bool) (f : Str → Str)
    (hh : A.handled = none) (F : Fr h₀ L s₁.heap m) (N : News h₀ L s₁.heap news) (hS : LCg.SrcAt h₀ ax its news) (hits : StrsAre its.toList ps) (hsz : its.size ≤ 1000)
    (turn : ∀ c t I oI C oC D oD m₂ h tk (E' : Value → Shared → Prop), c ∈ ps → LCg.NsObj oC m₂ → m₂ x = some (.str c t) → Fr h₀ L h m → News h₀ L h ((I, oI) :: (C, oC) :: (D, oD) :: news) → LCg.Off3 I C D news → ((@Ne Nat I C) ∧ (@Ne Nat I D) ∧ (@Ne Nat C D)) →
      wpAny (model prog w) A (isTrue test (compEnvC scope cl C env) (eval test (compEnvC scope cl C env))) (fun ok s₃ =>
        if ok = true then wpAny (model prog w) A (eval elt (compEnvC scope cl C env)) (LCg.CompEnd h₀ L m { s₁ with heap := h, toks := tk } I oI C oC D oD (fun _ => True) (StrEl f p news c)) E' s₃
        else LCg.CompEnd h₀ L m { s₁ with heap := h, toks := tk } I oI C oC D oD (fun _ => True) (StrNo p news c) .none s₃) E' { s₁ with heap := h, toks := tk })
    (fin : ∀ D h tk vs n, Fr h₀ L h m → News h₀ L h ((D, W.listOf vs n) :: news) → LCg.Off1 D news → (∀ b o, h₀.get? b = some o → b ≠ D) → StrsAre vs.toList ((ps.filter p).map f) → Q (.ref D) { s₁ with heap := h, toks := tk }) :
    FltSrc prog w A h₀ L m env elt x [test] scope cl Q (.ref ax) s₁ := by
  have hlen := strsAre_len' hits
  have hsz' : its.size = its.toList.length := by simp
  refine ⟨ax, its, news, fun i => p (ps.getD i (Str.ofString "")), fun i y => ∃ t, y = .str (f (ps.getD i (Str.ofString ""))) t, rfl, hh, F, N, hS, by rw [sizeLine_eq]; omega, fun h => FltTurn.test ?_, ?_⟩
  · intro i v I oI C oC D oD m₂ h' tk E' hi hv hC hx F' N' off ne
    have hv : its[i]? = some v := hv
    obtain ⟨c, t, rfl, hc⟩ := strsAt hits (i := i) (v := v) (by simpa using hv)
    have hget : ps.getD i (Str.ofString "") = c := by simp [List.getD, hc]
    refine wpAny_mono (turn c t I oI C oC D oD m₂ h' tk E' (List.mem_of_getElem? hc) hC hx F' N' off ne) (fun ok s₃ h₃ => ?_) fun _ _ e => e
    by_cases hok : ok = true
    · rw [if_pos hok] at h₃ ⊢
      refine wpAny_mono h₃ (fun y s₄ h₄ => ?_) fun _ _ e => e
      obtain ⟨h₄, tk₄, news₄, e, F₄, N₄, off₄, hS₄, hsub, hp, ht⟩ := h₄
      exact ⟨h₄, tk₄, news₄, e, F₄, N₄, off₄, hS₄, hsub, by show p _ = true; rw [hget]; exact hp, by show ∃ t, y = .str (f _) t; rw [hget]; exact ht⟩
    · rw [if_neg hok] at h₃ ⊢
      obtain ⟨h₄, tk₄, news₄, e, F₄, N₄, off₄, hS₄, hsub, hp⟩ := h₃
      exact ⟨h₄, tk₄, news₄, e, F₄, N₄, off₄, hS₄, hsub, by show p _ = false; rw [hget]; exact hp⟩
  · intro D h tk ys F' N' o1 hne hsel
    refine fin D h tk ys.toArray ys.length F' N' o1 hne ?_
    have hi : its.size = ps.length := by omega
    rw [hi] at hsel
    have := selG_strs (p := p) (f := f) (ps := ps) (fun i c hc => by simp [List.getD, hc]) (fun i c y hc hy => by simpa [List.getD, hc] using hy) ps.length (Nat.le_refl _) ys hsel
    rw [List.take_length] at this
    exact this
end
end Mine
namespace Mine
open PySem.Spec PySem.Calls PySem.W.X
noncomputable abbrev enumO (it : Addr) (i : Int) (old : Value) : Obj := { cls := .type "enumerate", dict := none, data := .fields #[.none, .bool false, .ref it, rawInt i, .none, old], slots := #[] }
section
variable {prog : Program} {w : World} {A : Around} {E : Value → Shared → Prop} {s : Shared} {env : Env}
noncomputable def EnumPost (h₀ : Heap) (L : Addr) (xi xv : Str) (m : Str → Option Value) (led : List (Addr × Obj)) (J : Prop) (s₁ : Shared) (Q : Flow → Shared → Prop) (f : Flow) (s₂ : Shared) : Prop :=
  match f with
  | .brk => Q .next s₂
  | .ret v => Q (.ret v) s₂
  | _ => ∃ h' tk m₂, s₂ = { s₁ with heap := h', toks := tk } ∧ Fr h₀ L h' m₂ ∧ (∀ z, z ≠ xv → z ≠ xi → m₂ z = m z) ∧ News h₀ L h' led ∧ J
noncomputable def EnumSrc (prog : Program) (w : World) (A : Around) (h₀ : Heap) (env : Env) (xi xv : Str) (body : List Stmt) (Q : Flow → Shared → Prop) (E : Value → Shared → Prop) (xval : Value) (s₁ : Shared) : Prop :=
  ∃ (e it l : Addr) (its : Array Value) (n : Nat) (m : Str → Option Value) (news : List (Addr × Obj)) (J : Nat → Prop), xval = .ref e ∧ A.handled = none ∧ e ≠ it ∧ e ≠ env.locals ∧ it ≠ env.locals ∧ h₀.get? e = none ∧ h₀.get? it = none ∧
    (∀ p ∈ news, p.1 ≠ e ∧ p.1 ≠ it) ∧ (l, W.listOf its n) ∈ news ∧ IsEnum s₁.heap e it 0 .none ∧ s₁.heap.IsListIter it l 0 ∧ Fr h₀ env.locals s₁.heap m ∧ News h₀ env.locals s₁.heap news ∧ J 0 ∧
    (∀ i v tk oe oi h tk', its[i]? = some v → J i → Fr h₀ env.locals h (fun z => if z = xv then some v else if z = xi then some (.int i tk) else m z) → News h₀ env.locals h ((e, oe) :: (it, oi) :: news) →
      wpAny (model prog w) A (execs body env) (EnumPost h₀ env.locals xi xv m ((e, oe) :: (it, oi) :: news) (J (i + 1)) s₁ Q) E { s₁ with heap := h, toks := tk' }) ∧
    (∀ (u : Str → Option Value) h tk, J its.size → Fr h₀ env.locals h (fun z => if z = xv then u z else if z = xi then u z else m z) → News h₀ env.locals h news → Q .next { s₁ with heap := h, toks := tk })
theorem For_enum {Q : Flow → Shared → Prop} {xi xv : Str} {pi pv pt pos : Pos} {x1 : Nat} {iter : PySem.Expr} {body : List Stmt} (h₀ : Heap) (hxi : env.kindOf xi = some .local) (hxv : env.kindOf xv = some .local)
    (hp : (env.scope.kind == .class || (env.scope.kind == .module && env.locals != env.globals)) = false)
    (h : wpAny (model prog w) A (eval iter env) (EnumSrc prog w A h₀ env xi xv body Q E) E s)
    (hs : ∀ x, foldedSetIterable iter env x = pure x := by intro _; rfl)
    (hE : PassesOwn (model prog w) A env E := by passes_own) :
    wpAny (model prog w) A (exec (.For (.Tuple [.Name xi pi, .Name xv pv] x1 pt) iter body [] pos) env) Q E s := by
  refine wpAny_For (wpAny_mono h (fun xval s₁ h₁ => ?_) fun _ _ x => x) hs
  obtain ⟨e, it, l, items, n, m, news, J, rfl, hh, hei, heL, hiL, he₀, hi₀, hoff, hm, he, hit, F, N, h0, step, hQ⟩ := h₁
  refine wpAny_pyIter_enum he ?_
  have hlN := N _ hm
  have hlL : l ≠ env.locals := hlN.2.1
  have hle : l ≠ e := (hoff _ hm).1
  have hli : l ≠ it := (hoff _ hm).2
  have isl : ∀ {h : Heap}, News h₀ env.locals h news → h.IsList l items := fun N => ⟨_, (N _ hm).1, rfl, n, rfl⟩
  refine codeAny_forLoop_any
    (fun k s' => ∃ h' tk m' i old, s' = { s₁ with heap := h', toks := tk } ∧ IsEnum h' e it ((i : Nat) : Int) old ∧ h'.IsListIter it l i ∧ Fr h₀ env.locals h' m' ∧ (∀ z, z ≠ xv → z ≠ xi → m' z = m z) ∧ News h₀ env.locals h' news ∧ J i ∧ i ≤ items.size ∧
      k = items.size + 1 - i) ?_ (items.size + 1)
    ⟨s₁.heap, s₁.toks, m, 0, .none, rfl, he, hit, F, fun _ _ _ => rfl, N, h0, Nat.zero_le _, rfl⟩
  rintro k s' ⟨H, tk, m', i, old, rfl, he', hit', F', hm', N', hJ, hi, rfl⟩
  have hl' := isl N'
  cases hv : items[i]? with
  | none =>
    have hsz : i = items.size := Nat.le_antisymm hi (by simpa using hv)
    refine wpAny_pyNext_enum_end hh he' hit' hl' hv fun h₁ he₁ => wpAny_execs_nil ?_
    have F₁ : Fr h₀ env.locals h₁ m' := ⟨F'.ns.extBut he₁ (Ne.symm hiL), fun b o x => he₁ b o (fun q => by rw [q, hi₀] at x; cases x) (F'.keep b o x), F'.above⟩
    have e2 : m' = fun z => if z = xv then m' z else if z = xi then m' z else m z := by
      funext z
      by_cases z1 : z = xv
      · rw [if_pos z1]
      · rw [if_neg z1]
        by_cases z2 : z = xi
        · rw [if_pos z2]
        · rw [if_neg z2]; exact hm' z z1 z2
    exact hQ m' h₁ tk (hsz ▸ hJ) (by rw [← e2]; exact F₁) fun p hp => ⟨he₁ _ _ (hoff p hp).2 (N' p hp).1, (N' p hp).2⟩
  | some v =>
    have hlt : i < items.size := (Array.getElem?_eq_some_iff.mp hv).1
    have heH : e < H.objs.size := Heap.lt_size he'
    have hLH : env.locals < H.objs.size := F'.ns.lt
    obtain ⟨oi, hoi, _⟩ := id hit'
    have hiH : it < H.objs.size := Heap.lt_size hoi
    refine wpAny_pyNext_enum_item he' hit' hl' hv hei fun h₁ heo hit₁ ht₁ hz₁ hk₁ => ?_
    refine wpAny_letOwnedTupleGo_enum heo fun h₂ he₂ hs₂ => ?_
    replace hs₂ : Heap.SameBut e h₁ h₂ := hs₂
    have ht₂ : h₂.IsTuple H.objs.size #[.int i tk, v] := ⟨_, (hs₂.2 _ (Nat.ne_of_gt heH)).trans ht₁, rfl, _, rfl⟩
    have hz₂ : h₂.objs.size = H.objs.size + 1 := hs₂.1.trans hz₁
    refine wpAny_assign_Tuple hh ht₂ rfl rfl fun h₃ hx₃ => ?_
    replace hx₃ : Heap.ExtBut h₂.objs.size h₂ h₃ := hx₃
    have old₃ : ∀ b o, b < H.objs.size → h₂.get? b = some o → h₃.get? b = some o := fun b o hb x => hx₃ b o (by rw [hz₂]; exact Nat.ne_of_lt (Nat.lt_succ_of_lt hb)) x
    have hn₃ : h₃.Ns env.locals m' := (F'.ns.at fun o x => hk₁ _ o (Ne.symm heL) (Ne.symm hiL) x).sameBut hs₂ (Ne.symm heL) |>.at fun o x => old₃ _ o hLH x
    show wpAny _ A (do holding [v] (assign (.Name xi pi) env (.int i tk)); do holding [] (assign (.Name xv pv) env v); pure ()) _ _ _
    refine wpAny_bind (wpAny_holding (wpAny_assign_Name (wpAny_storeName_local hxi hn₃ (fun h₄ hn₄ hs₄ => ?_) hp)))
    replace hs₄ : Heap.SameBut env.locals h₃ h₄ := hs₄
    refine wpAny_bind (wpAny_holding (wpAny_assign_Name (wpAny_storeName_local hxv hn₄ (fun h₅ hn₅ hs₅ => wpAny_pure ?_) hp)))
    replace hs₅ : Heap.SameBut env.locals h₄ h₅ := hs₅
    have up : ∀ b o, b ≠ env.locals → b < H.objs.size → h₂.get? b = some o → h₅.get? b = some o := fun b o hbL hb x => hs₅.extBut b o hbL (hs₄.extBut b o hbL (old₃ b o hb x))
    have up2 : ∀ b o, b ≠ env.locals → b ≠ e → b ≠ it → H.get? b = some o → h₅.get? b = some o := fun b o hbL hbe hbi x => up b o hbL (Heap.lt_size x) (hs₂.extBut b o hbe (hk₁ b o hbe hbi x))
    have he₅ : IsEnum h₅ e it ((i : Int) + 1) v := up e _ heL heH he₂
    have hit₂ : h₂.IsListIter it l (i + 1) := hit₁.extBut hs₂.extBut (Ne.symm hei)
    have hit₅ : h₅.IsListIter it l (i + 1) := hit₂.at fun o x => up it o hiL hiH x
    obtain ⟨oi₅, hoi₅, hir⟩ := id hit₅
    have F₅ : Fr h₀ env.locals h₅ (fun z => if z = xv then some v else if z = xi then some (.int i tk) else m z) := by
      refine ⟨?_, fun b o x => up2 b o (fun q => by have := F'.above; rw [q] at x; exact absurd (Heap.lt_size x) (Nat.not_lt.mpr this)) (fun q => by rw [q, he₀] at x; cases x) (fun q => by rw [q, hi₀] at x; cases x) (F'.keep b o x), F'.above⟩
      have e2 : (fun z => if z = xv then some v else if z = xi then some (.int i tk) else m z) = (fun y => if y = xv then some v else if y = xi then some (Value.int i tk) else m' y) := by
        funext z
        by_cases z1 : z = xv
        · simp only [if_pos z1]
        · simp only [if_neg z1]
          by_cases z2 : z = xi
          · simp only [if_pos z2]
          · simp only [if_neg z2]; exact (hm' z z1 z2).symm
      rw [e2]; exact hn₅
    have N₅ : News h₀ env.locals h₅ news := fun p hp => ⟨up2 _ _ (N' p hp).2.1 (hoff p hp).1 (hoff p hp).2 (N' p hp).1, (N' p hp).2⟩
    have N₆ : News h₀ env.locals h₅ ((e, enumO it ((i : Int) + 1) v) :: (it, oi₅) :: news) := fun p hp => by
      rcases List.mem_cons.mp hp with rfl | hp
      · exact ⟨he₅, heL, he₀⟩
      · rcases List.mem_cons.mp hp with rfl | hp
        · exact ⟨hoi₅, hiL, hi₀⟩
        · exact N₅ p hp
    have hstep := fun tk' => step i v tk _ oi₅ h₅ tk' hv hJ F₅ N₆
    dsimp only
    refine wpAny_mono (wpAny_passesOwn hE (hstep _)) (fun f s₃ h₆ => ?_) fun _ _ x => x
    have go : (∃ h' tk m₂, s₃ = { s₁ with heap := h', toks := tk } ∧ Fr h₀ env.locals h' m₂ ∧ (∀ z, z ≠ xv → z ≠ xi → m₂ z = m z) ∧ News h₀ env.locals h' ((e, enumO it ((i : Int) + 1) v) :: (it, oi₅) :: news) ∧ J (i + 1)) →
        ∃ k', k' < items.size + 1 - i ∧ ∃ h' tk m' i old, s₃ = { s₁ with heap := h', toks := tk } ∧ IsEnum h' e it ((i : Nat) : Int) old ∧ h'.IsListIter it l i ∧ Fr h₀ env.locals h' m' ∧ (∀ z, z ≠ xv → z ≠ xi → m' z = m z) ∧ News h₀ env.locals h' news ∧ J i ∧ i ≤ items.size ∧ k' = items.size + 1 - i := by
      rintro ⟨g₆, tk₆, m₂, rfl, F₆, hm₂, N₆, hJ₆⟩
      refine ⟨items.size + 1 - (i + 1), by omega, g₆, tk₆, m₂, i + 1, v, rfl, ?_, ⟨oi₅, (N₆ _ (.tail _ (.head _))).1, hir⟩, F₆, hm₂, fun p hp => N₆ p (.tail _ (.tail _ hp)), hJ₆, hlt, rfl⟩
      have : ((i + 1 : Nat) : Int) = (i : Int) + 1 := by push_cast; rfl
      rw [this]; exact (N₆ _ (.head _)).1
    cases f with
    | brk => exact h₆
    | ret v => exact h₆
    | next => exact go h₆
    | cont => exact go h₆
theorem use_enum {h₀ : Heap} {xi xv : Str} {body : List Stmt} {Q : Flow → Shared → Prop} {l : Addr} {its : Array Value} {n : Nat} {m : Str → Option Value} {news : List (Addr × Obj)} {xs : List Str} (J : Nat → Prop)
    (hh : A.handled = none) (F : Fr h₀ env.locals s.heap m) (N : News h₀ env.locals s.heap news) (hm : (l, W.listOf its n) ∈ news) (hxs : StrsAre its.toList xs) (h0 : J 0)
    (step : ∀ i c t tk e oe it oi h tk', xs[i]? = some c → J i → Fr h₀ env.locals h (fun z => if z = xv then some (.str c t) else if z = xi then some (.int i tk) else m z) → News h₀ env.locals h ((e, oe) :: (it, oi) :: news) →
      wpAny (model prog w) A (execs body env) (EnumPost h₀ env.locals xi xv m ((e, oe) :: (it, oi) :: news) (J (i + 1)) s Q) E { s with heap := h, toks := tk' })
    (done : ∀ (u : Str → Option Value) h tk, J xs.length → Fr h₀ env.locals h (fun z => if z = xv then u z else if z = xi then u z else m z) → News h₀ env.locals h news → Q .next { s with heap := h, toks := tk }) :
    wpAny (model prog w) A (call (.type "enumerate") [.ref l]) (EnumSrc prog w A h₀ env xi xv body Q E) E s := by
  have hl := News.get N hm
  have hlen := strsAre_len' hxs
  have hsz' : its.size = its.toList.length := by simp
  refine call_enumerate_1 hl fun h' he hit hsz hk => ?_
  have F' := F.keeps hk
  have N' := N.grown hk
  have hnew : ∀ a, s.heap.objs.size ≤ a → h₀.get? a = none := fun a ha => by
    cases q : h₀.get? a with
    | none => rfl
    | some o => exact absurd (Heap.lt_size (F.keep _ _ q)) (Nat.not_lt.mpr ha)
  have hL : env.locals < s.heap.objs.size := F.ns.lt
  refine ⟨s.heap.objs.size + 1, s.heap.objs.size, l, its, n, m, news, J, rfl, hh, Nat.succ_ne_self _, Nat.ne_of_gt (Nat.lt_succ_of_lt hL), Nat.ne_of_gt hL, hnew _ (Nat.le_succ _), hnew _ (Nat.le_refl _),
    fun p hp => ⟨Nat.ne_of_lt (Nat.lt_succ_of_lt (Heap.lt_size (N p hp).1)), Nat.ne_of_lt (Heap.lt_size (N p hp).1)⟩, hm, he, hit, F', N', h0, ?_, ?_⟩
  · intro i v tk oe oi h tk' hv hJ F₁ N₁
    obtain ⟨c, t, rfl, hc⟩ := strsAt hxs (i := i) (v := v) (by simpa using hv)
    exact step i c t tk _ oe _ oi h tk' hc hJ F₁ N₁
  · intro u h tk hJ F₁ N₁
    exact done u h tk (by have e : its.size = xs.length := by omega
                          rw [← e]; exact hJ) F₁ N₁
end
end Mine
namespace Mine
open PySem.Spec PySem.Calls PySem.W.X
theorem okComp_true2 {c : Str} (h : (c.length : Int) ≠ 0) (h2 : (c != Str.ofString ".") = true) : okComp c = true := okComp_true h (by simpa using h2)
theorem okComp_dot {c : Str} (h2 : (c != Str.ofString ".") = false) : okComp c = false := by
  have e : c = Str.ofString "." := by simpa using h2
  rw [e]; decide
theorem size_of_strs {vs : Array Value} {ps : List Str} (h : StrsAre vs.toList ps) (hn : ps.length ≤ 1000) : vs.size ≤ 1000 := by
  have := strsAre_len' h
  have e : vs.toList.length = vs.size := by simp
  omega
noncomputable def SamePre (xs ys : List Str) (i : Nat) : Prop := ∀ j, j < i → xs.getD j (Str.ofString "") = ys.getD j (Str.ofString "")
theorem SamePre.zero {xs ys : List Str} : SamePre xs ys 0 := fun _ h => absurd h (Nat.not_lt_zero _)
theorem SamePre.succ {xs ys : List Str} {i : Nat} {c : Str} (h : SamePre xs ys i) (hc : xs[i]? = some c) (e : (c != ys.getD i (Str.ofString "")) = false) : SamePre xs ys (i + 1) := by
  intro j hj
  by_cases hji : j < i
  · exact h j hji
  · have : j = i := by omega
    subst this
    have e1 : xs.getD j (Str.ofString "") = c := by simp [List.getD, hc]
    rw [e1]
    simpa using e
section
variable {prog : Program} {w : World} {A : Around} {E : Value → Shared → Prop} {h₀ : Heap} {L : Addr} {m : Str → Option Value} {news : List (Addr × Obj)} {s : Shared} {Q : Value → Shared → Prop}
theorem use_itemN {value slice : PySem.Expr} {i : Nat} {u : Tok} {l : Addr} {vs : Array Value} {n : Nat} {ps : List Str} (N : News h₀ L s.heap news) (hl : (l, W.listOf vs n) ∈ news) (hps : StrsAre vs.toList ps) (h1 : i < ps.length) (hn : ps.length ≤ 1000)
    (h : ∀ t, Q (.str (ps.getD i (Str.ofString "")) t) s) (hs : subscripted slice false (.ref l) (.int i u) = operate [.ref l, .int i u] (getItem (.ref l) (.int i u)) := by with_unfolding_all rfl) :
    wpAny (model prog w) A (subscriptTail value slice (.ref l) (.int i u)) Q E s := by
  have hlen := strsAre_len' hps
  have hi : i < vs.size := by have : vs.toList.length = vs.size := by simp
                              omega
  obtain ⟨y, t, e, hy⟩ := strsAt hps (i := i) (v := vs[i]) (by simp [hi])
  have hl' : s.heap.IsList l vs := ⟨_, News.get N hl, rfl, n, rfl⟩
  refine tail_any hl'.typeIs slot_list_getitem.lookup (wpAny_getItem_list hl' (by omega) (by omega) (x := .str y t) (by rw [← e]; simp [hi]) ?_) hs
  have := h t
  have e1 : ps.getD i (Str.ofString "") = y := by simp [List.getD, hy]
  rw [e1] at this
  exact this
end
section
variable {prog : Program} {w : World} {A : Around} {E : Value → Shared → Prop} {s : Shared} {env : Env} {h₀ : Heap} {m₀ : Str → Option Value}
theorem For_enumF {Q : Flow → Shared → Prop} {xi xv : Str} {pi pv pt pos : Pos} {x1 : Nat} {iter : PySem.Expr} {body : List Stmt} (F₀ : Fr h₀ env.locals s.heap m₀) (hxi : env.kindOf xi = some .local) (hxv : env.kindOf xv = some .local)
    (hp : (env.scope.kind == .class || (env.scope.kind == .module && env.locals != env.globals)) = false)
    (h : wpAny (model prog w) A (eval iter env) (EnumSrc prog w A h₀ env xi xv body Q E) E s)
    (hs : ∀ x, foldedSetIterable iter env x = pure x)
    (hE : PassesOwn (model prog w) A env E) :
    wpAny (model prog w) A (exec (.For (.Tuple [.Name xi pi, .Name xv pv] x1 pt) iter body [] pos) env) Q E s := For_enum h₀ hxi hxv hp h hs hE
theorem use_enumP {xi xv : Str} {body : List Stmt} {Q : Flow → Shared → Prop} {l : Addr} {its : Array Value} {n : Nat} {m : Str → Option Value} {news : List (Addr × Obj)} {xs ys : List Str}
    (hh : A.handled = none) (F : Fr h₀ env.locals s.heap m) (N : News h₀ env.locals s.heap news) (hm : (l, W.listOf its n) ∈ news) (hxs : StrsAre its.toList (minL xs ys))
    (hlt : ∀ i, i < (minL xs ys).length → SamePre (minL xs ys) (maxL xs ys) i → i < (maxL xs ys).length)
    (step : ∀ i c t tk e oe it oi h tk', (minL xs ys)[i]? = some c → i < (minL xs ys).length → i < (maxL xs ys).length → SamePre (minL xs ys) (maxL xs ys) i → Fr h₀ env.locals h (fun z => if z = xv then some (.str c t) else if z = xi then some (.int i tk) else m z) → News h₀ env.locals h ((e, oe) :: (it, oi) :: news) →
      wpAny (model prog w) A (execs body env) (EnumPost h₀ env.locals xi xv m ((e, oe) :: (it, oi) :: news) (SamePre (minL xs ys) (maxL xs ys) (i + 1)) s Q) E { s with heap := h, toks := tk' })
    (done : ∀ (u : Str → Option Value) h tk, SamePre (minL xs ys) (maxL xs ys) (minL xs ys).length → Fr h₀ env.locals h (fun z => if z = xv then u z else if z = xi then u z else m z) → News h₀ env.locals h news → Q .next { s with heap := h, toks := tk }) :
    wpAny (model prog w) A (call (.type "enumerate") [.ref l]) (EnumSrc prog w A h₀ env xi xv body Q E) E s :=
  use_enum (SamePre (minL xs ys) (maxL xs ys)) hh F N hm hxs SamePre.zero (fun i c t tk e oe it oi h tk' hc hJ F' N' =>
    have hi := (List.getElem?_eq_some_iff.mp hc).1
    step i c t tk e oe it oi h tk' hc hi (hlt i hi hJ) hJ F' N') done
theorem EnumPost.brk {L : Addr} {xi xv : Str} {m : Str → Option Value} {led : List (Addr × Obj)} {J : Prop} {s₁ s₂ : Shared} {Q : Flow → Shared → Prop} (h : Q .next s₂) : EnumPost h₀ L xi xv m led J s₁ Q .brk s₂ := h
theorem EnumPost.next {L : Addr} {xi xv : Str} {m m₂ : Str → Option Value} {led : List (Addr × Obj)} {J : Prop} {s₁ : Shared} {Q : Flow → Shared → Prop} {h' : Heap} {tk : Nat} (F : Fr h₀ L h' m₂) (N : News h₀ L h' led) (hm : ∀ z, z ≠ xv → z ≠ xi → m₂ z = m z) (hJ : J) :
    EnumPost h₀ L xi xv m led J s₁ Q .next { s₁ with heap := h', toks := tk } := ⟨h', tk, m₂, rfl, F, hm, N, hJ⟩
end
end Mine
namespace Mine
open PySem.Spec PySem.Calls PySem.W.X
section
variable {lo hi : Option Int}
theorem clip_nat (i n : Nat) : max 0 (min (if (i : Int) < 0 then (i : Int) + n else (i : Int)) (n : Int)) = ((min i n : Nat) : Int) := by
  rw [if_neg (Int.not_lt.mpr (Int.natCast_nonneg i))]
  omega
theorem bounds_nn (a b n : Nat) : sliceBounds (some (a : Int)) (some (b : Int)) none n = (((min a n : Nat) : Int), ((min b n : Nat) : Int), 1) := by
  show (max 0 (min (if (a : Int) < 0 then (a : Int) + n else (a : Int)) (n : Int)), max 0 (min (if (b : Int) < 0 then (b : Int) + n else (b : Int)) (n : Int)), (1 : Int)) = _
  rw [clip_nat, clip_nat]
theorem bounds_n0 (b n : Nat) : sliceBounds none (some (b : Int)) none n = (((0 : Nat) : Int), ((min b n : Nat) : Int), 1) := by
  show (0, max 0 (min (if (b : Int) < 0 then (b : Int) + n else (b : Int)) (n : Int)), (1 : Int)) = _
  rw [clip_nat]
  rfl
theorem bounds_0n (a n : Nat) : sliceBounds (some (a : Int)) none none n = (((min a n : Nat) : Int), (n : Int), 1) := by
  show (max 0 (min (if (a : Int) < 0 then (a : Int) + n else (a : Int)) (n : Int)), (n : Int), (1 : Int)) = _
  rw [clip_nat]
theorem drop_take_min {α : Type} (l : List α) (a b : Nat) : (l.drop (min a l.length)).take (min b l.length - min a l.length) = (l.take b).drop a := by
  rw [← List.drop_take, kmk_take_min]
  by_cases h : a ≤ l.length
  · rw [Nat.min_eq_left h]
  · have h := Nat.le_of_not_le h
    rw [Nat.min_eq_right h, List.drop_of_length_le (by rw [List.length_take]; exact Nat.min_le_right _ _), List.drop_of_length_le (by rw [List.length_take]; exact Nat.le_trans (Nat.min_le_right _ _) h)]
theorem pick_upto (vs : Array Value) {y : Int} (h : 0 ≤ y) : slicePick vs none (some y) none = (vs.toList.take y.toNat).toArray := by
  obtain ⟨k, rfl⟩ := Int.eq_ofNat_of_zero_le h
  rw [kmk_pick_nat _ (bounds_n0 k _), List.drop_zero, Nat.sub_zero, ← Array.length_toList, kmk_take_min, Int.toNat_natCast]
theorem pick_from (vs : Array Value) {x : Int} (h : 0 ≤ x) : slicePick vs (some x) none none = (vs.toList.drop x.toNat).toArray := by
  obtain ⟨k, rfl⟩ := Int.eq_ofNat_of_zero_le h
  rw [kmk_pick_nat _ (bounds_0n k _), ← Array.length_toList, kmk_drop_min, List.take_of_length_le (by rw [List.length_drop]; exact Nat.sub_le_sub_left (Nat.min_le_left _ _) _), Int.toNat_natCast]
theorem pick_run (vs : Array Value) {x y : Int} (h : 0 ≤ x) (h2 : 0 ≤ y) : slicePick vs (some x) (some y) none = ((vs.toList.take y.toNat).drop x.toNat).toArray := by
  obtain ⟨a, rfl⟩ := Int.eq_ofNat_of_zero_le h
  obtain ⟨b, rfl⟩ := Int.eq_ofNat_of_zero_le h2
  rw [kmk_pick_nat _ (bounds_nn a b _), ← Array.length_toList, drop_take_min, Int.toNat_natCast, Int.toNat_natCast]
end
theorem strsTake {vs : List Value} {xs : List Str} (h : StrsAre vs xs) : ∀ k, StrsAre (vs.take k) (xs.take k) := by
  induction h with
  | nil => intro k; simp; exact .nil
  | cons y t _ ih =>
    intro k
    cases k with
    | zero => exact .nil
    | succ k => exact .cons _ _ (ih k)
noncomputable def PreLen (xs ys : List Str) (k : Nat) : Prop := k ≤ xs.length ∧ SamePre xs ys k ∧ (k < xs.length → xs.getD k (Str.ofString "") ≠ ys.getD k (Str.ofString ""))
theorem PreLen.brk {xs ys : List Str} {i : Nat} {c : Str} (h : SamePre xs ys i) (hc : xs[i]? = some c) (e : (c != ys.getD i (Str.ofString "")) = true) : PreLen xs ys i :=
  ⟨Nat.le_of_lt (List.getElem?_eq_some_iff.mp hc).1, h, fun _ => by
    have e1 : xs.getD i (Str.ofString "") = c := by simp [List.getD, hc]
    rw [e1]
    simpa using e⟩
theorem PreLen.done {xs ys : List Str} (h : SamePre xs ys xs.length) : PreLen xs ys xs.length := ⟨Nat.le_refl _, h, fun q => absurd q (Nat.lt_irrefl _)⟩
section
variable {prog : Program} {w : World} {A : Around} {E : Value → Shared → Prop} {h₀ : Heap} {L : Addr} {m : Str → Option Value} {news : List (Addr × Obj)} {s : Shared} {Q : Value → Shared → Prop} {l : Addr} {vs : Array Value} {n : Nat} {xs : List Str} {t : Tok}
theorem use_joinS {i : Nat} (N : News h₀ L s.heap news) (hl : (l, W.listOf (slicePick vs none (some (i : Int)) none) n) ∈ news) (hS : StrsAre vs.toList xs)
    (h4 : ∀ k : Nat, (((xs.take k).map (·.length)).sum + (xs.take k).length ≤ 1048576)) (h5 : ∀ k : Nat, (Txt.join (Str.ofString "/") (xs.take k)).length ≤ 1000)
    (c : ∀ t' tk, (Txt.join (Str.ofString "/") (xs.take i)).length ≤ 1000 → Q (.str (Txt.join (Str.ofString "/") (xs.take i)) t') { s with toks := tk }) :
    wpAny (model prog w) A (call (.builtin "str.join") [.str (Str.ofString "/") t, .ref l]) Q E s := by
  rw [pick_upto _ (by omega)] at hl
  exact join_listW ⟨_, News.get N hl, rfl, n, rfl⟩ (by simpa using strsTake hS i) (by decide) (h4 i) fun t' k => c t' k (h5 i)
theorem use_joinW (N : News h₀ L s.heap news) (hl : (l, W.listOf vs n) ∈ news) (hS : StrsAre vs.toList xs)
    (h4 : ∀ k : Nat, (((xs.take k).map (·.length)).sum + (xs.take k).length ≤ 1048576)) (h5 : ∀ k : Nat, (Txt.join (Str.ofString "/") (xs.take k)).length ≤ 1000)
    (c : ∀ t' tk, (Txt.join (Str.ofString "/") (xs.take xs.length)).length ≤ 1000 → Q (.str (Txt.join (Str.ofString "/") (xs.take xs.length)) t') { s with toks := tk }) :
    wpAny (model prog w) A (call (.builtin "str.join") [.str (Str.ofString "/") t, .ref l]) Q E s := by
  have h4' := h4 xs.length
  have h5' := h5 xs.length
  rw [List.take_length] at h4' h5' c
  exact join_listW ⟨_, News.get N hl, rfl, n, rfl⟩ hS (by decide) h4' fun t' k => c t' k h5'
end
end Mine
namespace Mine
open PySem.Spec PySem.Calls PySem.W.X
theorem neMem0 {a D : Addr} {o : Obj} {news : List (Addr × Obj)} (h : ∀ p ∈ news, p.1 ≠ D) (m : (a, o) ∈ news) : @Ne Nat a D := h _ m
theorem ltMem0 {a D : Addr} {o : Obj} {news : List (Addr × Obj)} (h : ∀ p ∈ news, p.1 < D) (m : (a, o) ∈ news) : @Ne Nat a D := Nat.ne_of_lt (h _ m)
theorem off1Mem {a D : Addr} {o : Obj} {news : List (Addr × Obj)} (h : LCg.Off1 D news) (m : (a, o) ∈ news) : @Ne Nat a D := by
  induction news with
  | nil => cases m
  | cons p r ih =>
    rcases List.mem_cons.mp m with e | m
    · rw [← e] at h; exact h.1
    · exact ih h.2 m
theorem off3a {a I C D : Addr} {o : Obj} {news : List (Addr × Obj)} (h : LCg.Off3 I C D news) (m : (a, o) ∈ news) : @Ne Nat a I := (h.mem _ m).1
theorem off3b {a I C D : Addr} {o : Obj} {news : List (Addr × Obj)} (h : LCg.Off3 I C D news) (m : (a, o) ∈ news) : @Ne Nat a C := (h.mem _ m).2.1
theorem off3c {a I C D : Addr} {o : Obj} {news : List (Addr × Obj)} (h : LCg.Off3 I C D news) (m : (a, o) ∈ news) : @Ne Nat a D := (h.mem _ m).2.2
theorem and2 {A B C : Prop} (h : A ∧ B ∧ C) : B := h.2.1
theorem and3 {A B C : Prop} (h : A ∧ B ∧ C) : C := h.2.2
local macro_rules | `(tactic| lcg_src) => `(tactic| exact ⟨_, by k_mem, rfl, _, rfl⟩)
local macro_rules | `(tactic| k_ne) => `(tactic| (refine neN ?_; (try dsimp only); first | (with_reducible assumption) | (refine Ne.symm ?_; with_reducible assumption) | (first | exact neMem0 (by with_reducible assumption) (by k_mem) | exact ltMem0 (by with_reducible assumption) (by k_mem) | exact off1Mem (by with_reducible assumption) (by k_mem) | exact off3a (by with_reducible assumption) (by k_mem) | exact off3b (by with_reducible assumption) (by k_mem) | exact off3c (by with_reducible assumption) (by k_mem) | exact And.left (by with_reducible assumption) | exact and2 (by with_reducible assumption) | exact and3 (by with_reducible assumption)) | (refine Ne.symm ?_; first | exact neMem0 (by with_reducible assumption) (by k_mem) | exact ltMem0 (by with_reducible assumption) (by k_mem) | exact off1Mem (by with_reducible assumption) (by k_mem) | exact off3a (by with_reducible assumption) (by k_mem) | exact off3b (by with_reducible assumption) (by k_mem) | exact off3c (by with_reducible assumption) (by k_mem) | exact And.left (by with_reducible assumption) | exact and2 (by with_reducible assumption) | exact and3 (by with_reducible assumption)) | ((repeat ((with_reducible rename _ ∧ _ => z'); obtain ⟨_, _⟩ := z')); first | (with_reducible assumption) | (refine Ne.symm ?_; with_reducible assumption))))
theorem cp_spec (w : World) (s : Shared) (l : Addr) (p q : Str) (t u : Tok) (R : Rdy w s.heap) (hsp : (Txt.split p (Str.ofString "/")).length ≤ 1000) (hsq : (Txt.split q (Str.ofString "/")).length ≤ 1000) (hp : p.length ≤ 1000) (hq : q.length ≤ 1000) (sp : Txt.startswith p (Str.ofString "/") = true) (sq : Txt.startswith q (Str.ofString "/") = true) (hl : s.heap.get? l = some (W.listOf #[.str p t, .str q u] 0)) (hmi : (minL ((Txt.split p (Str.ofString "/")).filter okComp) ((Txt.split q (Str.ofString "/")).filter okComp)).length ≤ 1000) (hma : (maxL ((Txt.split p (Str.ofString "/")).filter okComp) ((Txt.split q (Str.ofString "/")).filter okComp)).length ≤ 1000) (hlt : ∀ i, i < (minL ((Txt.split p (Str.ofString "/")).filter okComp) ((Txt.split q (Str.ofString "/")).filter okComp)).length → SamePre (minL ((Txt.split p (Str.ofString "/")).filter okComp) ((Txt.split q (Str.ofString "/")).filter okComp)) (maxL ((Txt.split p (Str.ofString "/")).filter okComp) ((Txt.split q (Str.ofString "/")).filter okComp)) i → i < (maxL ((Txt.split p (Str.ofString "/")).filter okComp) ((Txt.split q (Str.ofString "/")).filter okComp)).length) (hj5 : ∀ k : Nat, (Txt.join (Str.ofString "/") ((minL ((Txt.split p (Str.ofString "/")).filter okComp) ((Txt.split q (Str.ofString "/")).filter okComp)).take k)).length ≤ 1000) (hj4 : ∀ k : Nat, ((((minL ((Txt.split p (Str.ofString "/")).filter okComp) ((Txt.split q (Str.ofString "/")).filter okComp)).take k).map (·.length)).sum + ((minL ((Txt.split p (Str.ofString "/")).filter okComp) ((Txt.split q (Str.ofString "/")).filter okComp)).take k).length ≤ 1048576)) :
    codeAny (model Challenge.rw_pd0082_01.row.prog w) (Ac 850 8500) (.call (.ref 168) ⟨[.ref l], []⟩) (Gives s (fun v _ => ∃ k u, PreLen (minL ((Txt.split p (Str.ofString "/")).filter okComp) ((Txt.split q (Str.ofString "/")).filter okComp)) (maxL ((Txt.split p (Str.ofString "/")).filter okComp) ((Txt.split q (Str.ofString "/")).filter okComp)) k ∧ v = .str (Str.ofString "/" ++ Txt.join (Str.ofString "/") ((minL ((Txt.split p (Str.ofString "/")).filter okComp) ((Txt.split q (Str.ofString "/")).filter okComp)).take k)) u)) s := by
  w_top off
  obtain ⟨X, mean, mg, mb, T⟩ := id R
  (refine' enterC ?k1 ?k2 ?k6 ?k7 ?k8 ?k9 ?kB ?kD ?_ ?c2 ?c3 ?c4; (case k1 => assumption); (case k2 => assumption); (case k6 => k_is); (case k7 => k_is); (case k8 => decide); (case k9 => first | exact BindsTo.of_eq rfl | (refine' kp_binds ?kx ?ke; (case kx => assumption); (case ke => exact fun _ => rfl))); (case kB => exact rfl); (case kD => decide +kernel); (case c2 => exact rfl); (case c3 => exact rfl); (case c4 => exact rfl))
  intro L h₁ tk cells F N Y
  refine genQE ?_
  intro Q' hQ'
  obtain ⟨oc1, oc2, rfl, d1, d2⟩ := CellsAre.two Y
  clear Y
  replace d1 : oc1.data = .cell none := d1
  replace d2 : oc2.data = .cell none := d2
  replace F : Fr s.heap L h₁ (fun y => if y = Str.ofString "paths" then some (.ref l) else none) := F

  repeat' (first | (k_unfold; (try dsimp only)) | ((with_reducible show wpAny _ _ (subscriptTail _ (PySem.Expr.Slice none (some _) none _) (Value.ref _) (Value.ref _)) _ _ _); refine slice_list (by with_reducible assumption) (by with_reducible assumption) (by is_list) (by first | exact .none | exact .int _ _) (by first | exact .none | exact .int _ _) ?_; intro _ _ _) | ((with_reducible show wpAny _ _ (call _ _ _) _ _ _); first | ((with_reducible show wpAny _ _ (call (Value.builtin "str.join") _ _) _ _ _); first | with_reducible (((with_reducible rename News _ _ _ _ => lN'); (rename (∀ k : Nat, List.sum _ + _ ≤ 1048576) => z4'); (rename (∀ k : Nat, Str.length _ ≤ 1000) => z5'); first | (refine use_joinS lN' (by k_mem) (by first | with_reducible assumption | assumption) z4' z5' ?_) | (refine use_joinW lN' (by k_mem) (by first | with_reducible assumption | assumption) z4' z5' ?_); intro t' tk' le')) | (((with_reducible rename News _ _ _ _ => lN'); (rename (∀ k : Nat, List.sum _ + _ ≤ 1048576) => z4'); (rename (∀ k : Nat, Str.length _ ≤ 1000) => z5'); first | (refine use_joinS lN' (by k_mem) (by first | with_reducible assumption | assumption) z4' z5' ?_) | (refine use_joinW lN' (by k_mem) (by first | with_reducible assumption | assumption) z4' z5' ?_); intro t' tk' le'))) | ((with_reducible show wpAny _ _ (call (Value.type "enumerate") _ _) _ _ _); first | with_reducible (((with_reducible show wpAny _ _ (call (Value.type _) [Value.ref _]) _ _ _); (with_reducible rename Fr _ _ _ _ => lF'); (with_reducible rename News _ _ _ _ => lN'); k_dflt (refine use_enumP (by rfl) lF' lN' (by k_mem) (by first | with_reducible assumption | assumption) (by first | with_reducible assumption | assumption) ?_ ?_); (intro i' c' t' tk' e' oe' it' oi' h' tk2' hc' hi1' hi2' hJ' F' N'); rotate_left; (intro u' h' tk' hJ' F' N'); rotate_left)) | (((with_reducible show wpAny _ _ (call (Value.type _) [Value.ref _]) _ _ _); (with_reducible rename Fr _ _ _ _ => lF'); (with_reducible rename News _ _ _ _ => lN'); k_dflt (refine use_enumP (by rfl) lF' lN' (by k_mem) (by first | with_reducible assumption | assumption) (by first | with_reducible assumption | assumption) ?_ ?_); (intro i' c' t' tk' e' oe' it' oi' h' tk2' hc' hi1' hi2' hJ' F' N'); rotate_left; (intro u' h' tk' hJ' F' N'); rotate_left))) | ((with_reducible show wpAny _ _ (call (Value.builtin "max") _ _) _ _ _); first | with_reducible (((with_reducible show wpAny _ _ (call (Value.builtin _) [Value.ref _]) _ _ _); (with_reducible rename Fr _ _ _ _ => lF'); (with_reducible rename News _ _ _ _ => lN'); k_dflt (refine use_maxL (by rfl) (by exact Nat.le_of_ble_eq_true rfl) lF' lN' (by k_mem) (by k_mem) (by k_mem) (by first | with_reducible assumption | assumption) (by first | with_reducible assumption | assumption) ?_); intro a' vs' n' h' tk' sa' F' N')) | (((with_reducible show wpAny _ _ (call (Value.builtin _) [Value.ref _]) _ _ _); (with_reducible rename Fr _ _ _ _ => lF'); (with_reducible rename News _ _ _ _ => lN'); k_dflt (refine use_maxL (by rfl) (by exact Nat.le_of_ble_eq_true rfl) lF' lN' (by k_mem) (by k_mem) (by k_mem) (by first | with_reducible assumption | assumption) (by first | with_reducible assumption | assumption) ?_); intro a' vs' n' h' tk' sa' F' N'))) | ((with_reducible show wpAny _ _ (call (Value.builtin "min") _ _) _ _ _); first | with_reducible (((with_reducible show wpAny _ _ (call (Value.builtin _) [Value.ref _]) _ _ _); (with_reducible rename Fr _ _ _ _ => lF'); (with_reducible rename News _ _ _ _ => lN'); k_dflt (refine use_minL (by rfl) (by exact Nat.le_of_ble_eq_true rfl) lF' lN' (by k_mem) (by k_mem) (by k_mem) (by first | with_reducible assumption | assumption) (by first | with_reducible assumption | assumption) ?_); intro a' vs' n' h' tk' sa' F' N')) | (((with_reducible show wpAny _ _ (call (Value.builtin _) [Value.ref _]) _ _ _); (with_reducible rename Fr _ _ _ _ => lF'); (with_reducible rename News _ _ _ _ => lN'); k_dflt (refine use_minL (by rfl) (by exact Nat.le_of_ble_eq_true rfl) lF' lN' (by k_mem) (by k_mem) (by k_mem) (by first | with_reducible assumption | assumption) (by first | with_reducible assumption | assumption) ?_); intro a' vs' n' h' tk' sa' F' N'))) | ((with_reducible show wpAny _ _ (call (Value.builtin "str.split") _ _) _ _ _); first | with_reducible (((with_reducible rename Fr _ _ _ _ => lF'); (with_reducible rename News _ _ _ _ => lN'); k_dflt (refine use_split lF' lN' (by first | with_reducible assumption | assumption) (by decide) ?_); intro D' vs' n' h' tk' o1' o2' sa' F' N')) | (((with_reducible rename Fr _ _ _ _ => lF'); (with_reducible rename News _ _ _ _ => lN'); k_dflt (refine use_split lF' lN' (by first | with_reducible assumption | assumption) (by decide) ?_); intro D' vs' n' h' tk' o1' o2' sa' F' N'))) | ((with_reducible show wpAny _ _ (call (Value.type "tuple") _ _) _ _ _); first | with_reducible (((with_reducible rename MapIn _ _ _ _ _ _ _ _ => lX'); k_dflt (refine use_tuple_map lX' (by rfl) (by exact Nat.le_of_ble_eq_true rfl) (by exact Nat.le_of_ble_eq_true rfl) ?_); clear lX'; intro D' h' tk' F' N')) | (((with_reducible rename MapIn _ _ _ _ _ _ _ _ => lX'); k_dflt (refine use_tuple_map lX' (by rfl) (by exact Nat.le_of_ble_eq_true rfl) (by exact Nat.le_of_ble_eq_true rfl) ?_); clear lX'; intro D' h' tk' F' N'))) | ((with_reducible show wpAny _ _ (call (Value.type "map") _ _) _ _ _); first | with_reducible (((with_reducible rename Fr _ _ _ _ => lF'); (with_reducible rename News _ _ _ _ => lN'); (with_reducible rename Rdy _ _ => lR'); k_dflt (refine use_map lR' lF' lN' (by rfl) (by exact Nat.le_of_ble_eq_true rfl) (by exact Nat.le_of_ble_eq_true rfl) (by first | with_reducible assumption | assumption) ?_); intro M' h' tk' X' F' N')) | (((with_reducible rename Fr _ _ _ _ => lF'); (with_reducible rename News _ _ _ _ => lN'); (with_reducible rename Rdy _ _ => lR'); k_dflt (refine use_map lR' lF' lN' (by rfl) (by exact Nat.le_of_ble_eq_true rfl) (by exact Nat.le_of_ble_eq_true rfl) (by first | with_reducible assumption | assumption) ?_); intro M' h' tk' X' F' N'))) | ((with_reducible show wpAny _ _ (call (Value.ref _) _ _) _ _ _); first | with_reducible (((with_reducible rename Fr _ _ _ _ => lF'); (with_reducible rename News _ _ _ _ => lN'); (with_reducible rename Rdy _ _ => lR'); first   | (refine use_fspath lR' lF' lN' (by rfl) (by exact Nat.le_of_ble_eq_true rfl) (by exact Nat.le_of_ble_eq_true rfl) ?_; intro h' tk' F' N')   | (refine use_getsep lR' lF' lN' (by rfl) (by exact Nat.le_of_ble_eq_true rfl) (by exact Nat.le_of_ble_eq_true rfl) ?_; intro u' h' tk' F' N'))) | (((with_reducible rename Fr _ _ _ _ => lF'); (with_reducible rename News _ _ _ _ => lN'); (with_reducible rename Rdy _ _ => lR'); first   | (refine use_fspath lR' lF' lN' (by rfl) (by exact Nat.le_of_ble_eq_true rfl) (by exact Nat.le_of_ble_eq_true rfl) ?_; intro h' tk' F' N')   | (refine use_getsep lR' lF' lN' (by rfl) (by exact Nat.le_of_ble_eq_true rfl) (by exact Nat.le_of_ble_eq_true rfl) ?_; intro u' h' tk' F' N'))))) | ((with_reducible show EnumPost _ _ _ _ _ _ _ _ _ _ _); first | with_reducible (((with_reducible show EnumPost _ _ _ _ _ _ _ _ _ Flow.brk _); refine EnumPost.brk ?_)) | (((with_reducible show EnumPost _ _ _ _ _ _ _ _ _ Flow.brk _); refine EnumPost.brk ?_))) | ((with_reducible show EnumPost _ _ _ _ _ _ _ _ _ _ _); first | with_reducible (((with_reducible show EnumPost _ _ _ _ _ _ _ _ _ Flow.next _); (with_reducible rename Fr _ _ _ _ => lF'); (with_reducible rename News _ _ _ _ => lN'); exact EnumPost.next lF' lN' (fun z h1 h2 => (if_neg h1).trans (if_neg h2)) (SamePre.succ (by first | with_reducible assumption | assumption) (by first | with_reducible assumption | assumption) (by first | with_reducible assumption | assumption)))) | (((with_reducible show EnumPost _ _ _ _ _ _ _ _ _ Flow.next _); (with_reducible rename Fr _ _ _ _ => lF'); (with_reducible rename News _ _ _ _ => lN'); exact EnumPost.next lF' lN' (fun z h1 h2 => (if_neg h1).trans (if_neg h2)) (SamePre.succ (by first | with_reducible assumption | assumption) (by first | with_reducible assumption | assumption) (by first | with_reducible assumption | assumption))))) | ((with_reducible show wpAny _ _ (subscriptTail _ _ (Value.ref _) (Value.int _ _)) _ _ _); first | with_reducible (((with_reducible show wpAny _ _ (subscriptTail _ _ (Value.ref _) (Value.int (Nat.cast _) _)) _ _ _); (with_reducible rename Fr _ _ _ _ => lF'); (with_reducible rename News _ _ _ _ => lN'); k_dflt (refine use_itemN lN' (by k_mem) (by first | with_reducible assumption | assumption) (by first | with_reducible assumption | assumption) (by first | with_reducible assumption | assumption) ?_ (by with_unfolding_all rfl)); intro tq')) | (((with_reducible show wpAny _ _ (subscriptTail _ _ (Value.ref _) (Value.int (Nat.cast _) _)) _ _ _); (with_reducible rename Fr _ _ _ _ => lF'); (with_reducible rename News _ _ _ _ => lN'); k_dflt (refine use_itemN lN' (by k_mem) (by first | with_reducible assumption | assumption) (by first | with_reducible assumption | assumption) (by first | with_reducible assumption | assumption) ?_ (by with_unfolding_all rfl)); intro tq'))) | ((with_reducible show wpAny _ _ (exec _ _) _ _ _); first | ((with_reducible show wpAny _ _ (exec (Stmt.For (PySem.Expr.Tuple _ _ _) _ _ _ _) _) _ _ _); first | with_reducible (((with_reducible show wpAny _ _ (exec (Stmt.For (Expr.Tuple _ _ _) (Expr.Call (Expr.Name (Str.ofString "enumerate") _) _ _ _) _ _ _) _) _ _ _); k_dflt (refine For_enumF (F₀ := by k_asm) (by rfl) (by rfl) (by rfl) ?_ (by intro _; rfl) (by passes_own)))) | (((with_reducible show wpAny _ _ (exec (Stmt.For (Expr.Tuple _ _ _) (Expr.Call (Expr.Name (Str.ofString "enumerate") _) _ _ _) _ _ _) _) _ _ _); k_dflt (refine For_enumF (F₀ := by k_asm) (by rfl) (by rfl) (by rfl) ?_ (by intro _; rfl) (by passes_own))))) | ((with_reducible show wpAny _ _ (exec (Stmt.Assign _ (PySem.Expr.ListComp _ _ _ _) _) _) _ _ _); first | with_reducible (((with_reducible show wpAny _ _ (exec (Stmt.Assign _ (Expr.ListComp _ [⟨_, Expr.Name (Str.ofString "paths") _, _, _⟩] _ _) _) _) _ _ _); k_dflt (refine Assign_ListComp_T (F₀ := by k_asm) (by rfl) (by with_unfolding_all rfl) (by with_unfolding_all rfl) (by decide) (by rfl) (by decide) (by rfl) (by rfl) (by rfl) ?_))) | (((with_reducible show wpAny _ _ (exec (Stmt.Assign _ (Expr.ListComp _ [⟨_, Expr.Name (Str.ofString "paths") _, _, _⟩] _ _) _) _) _ _ _); k_dflt (refine Assign_ListComp_T (F₀ := by k_asm) (by rfl) (by with_unfolding_all rfl) (by with_unfolding_all rfl) (by decide) (by rfl) (by decide) (by rfl) (by rfl) (by rfl) ?_)))) | ((with_reducible show wpAny _ _ (exec (Stmt.Try _ _ _ _ _) _) _ _ _); first | with_reducible (((with_reducible show wpAny _ _ (exec (Stmt.Try _ (_ :: _) _ [] _) (envOfC _ _ _ _ _)) _ _ _); refine wpAny_Try_except ?_)) | (((with_reducible show wpAny _ _ (exec (Stmt.Try _ (_ :: _) _ [] _) (envOfC _ _ _ _ _)) _ _ _); refine wpAny_Try_except ?_)))) | ((with_reducible show LCg.FinA _ _ _ _ _ _ _ _ _ _); first | with_reducible (((unfold LCg.FinA); intro D' h' tk' F' N' o1'; (try simp only [List.nil_append, List.cons_append] at N'); (try dsimp only); (repeat ((with_reducible rename LCg.NsObj _ _ => z'); clear z')); (repeat ((with_reducible rename InElt _ _ => z'); clear z')); (repeat ((with_reducible rename LCg.Off3 _ _ _ _ => z'); clear z')); (repeat ((with_reducible rename _ ∧ _ => z'); clear z')))) | (((unfold LCg.FinA); intro D' h' tk' F' N' o1'; (try simp only [List.nil_append, List.cons_append] at N'); (try dsimp only); (repeat ((with_reducible rename LCg.NsObj _ _ => z'); clear z')); (repeat ((with_reducible rename InElt _ _ => z'); clear z')); (repeat ((with_reducible rename LCg.Off3 _ _ _ _ => z'); clear z')); (repeat ((with_reducible rename _ ∧ _ => z'); clear z'))))) | ((with_reducible show LCg.CompEnd _ _ _ _ _ _ _ _ _ _ _ _ _ _); first | with_reducible (((with_reducible show LCg.CompEnd _ _ _ _ _ _ _ _ _ _ _ (StrNo _ _ _) _ _); (with_reducible rename Fr _ _ _ _ => lF'); (with_reducible rename News _ _ _ _ => lN'); (with_reducible rename LCg.Off3 _ _ _ _ => lO'); exact LCg.CompEnd.intro lF' lN' _ (fun _ h => h) lO' True.intro ⟨fun _ h => h, by first | exact okComp_dot (by first | with_reducible assumption | assumption) | exact okComp_empty (by first | with_reducible assumption | assumption)⟩)) | (((with_reducible show LCg.CompEnd _ _ _ _ _ _ _ _ _ _ _ (StrNo _ _ _) _ _); (with_reducible rename Fr _ _ _ _ => lF'); (with_reducible rename News _ _ _ _ => lN'); (with_reducible rename LCg.Off3 _ _ _ _ => lO'); exact LCg.CompEnd.intro lF' lN' _ (fun _ h => h) lO' True.intro ⟨fun _ h => h, by first | exact okComp_dot (by first | with_reducible assumption | assumption) | exact okComp_empty (by first | with_reducible assumption | assumption)⟩))) | ((with_reducible show LCg.CompEnd _ _ _ _ _ _ _ _ _ _ _ _ _ _); first | with_reducible (((with_reducible show LCg.CompEnd _ _ _ _ _ _ _ _ _ _ _ (StrEl _ _ _ _) _ _); (with_reducible rename Fr _ _ _ _ => lF'); (with_reducible rename News _ _ _ _ => lN'); (with_reducible rename LCg.Off3 _ _ _ _ => lO'); exact LCg.CompEnd.intro lF' lN' _ (fun _ h => h) lO' True.intro ⟨fun _ h => h, okComp_true2 (by first | with_reducible assumption | assumption) (by first | with_reducible assumption | assumption), _, rfl⟩)) | (((with_reducible show LCg.CompEnd _ _ _ _ _ _ _ _ _ _ _ (StrEl _ _ _ _) _ _); (with_reducible rename Fr _ _ _ _ => lF'); (with_reducible rename News _ _ _ _ => lN'); (with_reducible rename LCg.Off3 _ _ _ _ => lO'); exact LCg.CompEnd.intro lF' lN' _ (fun _ h => h) lO' True.intro ⟨fun _ h => h, okComp_true2 (by first | with_reducible assumption | assumption) (by first | with_reducible assumption | assumption), _, rfl⟩))) | ((with_reducible show FltSrc _ _ _ _ _ _ _ _ _ _ _ _ _ _ _); first | with_reducible (((with_reducible rename Fr _ _ _ _ => lF'); (with_reducible rename News _ _ _ _ => lN'); k_dflt (refine FltSrc.strs okComp id (by rfl) lF' lN' (Or.inr ⟨_, by k_mem, rfl, _, rfl⟩) (by first | with_reducible assumption | assumption) (size_of_strs (by first | with_reducible assumption | assumption) (by first | with_reducible assumption | assumption)) ?_ ?_); ((intro c' t' I' oI' C' oC' D' oD' m' h' tk' E' hc' hC' hx' F' N' off' ne'); (try dsimp only); (have hcl' := Nat.le_trans (part_short hc') (by assumption : _ ≤ 1000)); clear hc' ne'); rotate_left; ((intro D' h' tk' vs' n' F' N' o1' o2' sa'); (try dsimp only); (simp only [List.map_id] at sa')); rotate_left)) | (((with_reducible rename Fr _ _ _ _ => lF'); (with_reducible rename News _ _ _ _ => lN'); k_dflt (refine FltSrc.strs okComp id (by rfl) lF' lN' (Or.inr ⟨_, by k_mem, rfl, _, rfl⟩) (by first | with_reducible assumption | assumption) (size_of_strs (by first | with_reducible assumption | assumption) (by first | with_reducible assumption | assumption)) ?_ ?_); ((intro c' t' I' oI' C' oC' D' oD' m' h' tk' E' hc' hC' hx' F' N' off' ne'); (try dsimp only); (have hcl' := Nat.le_trans (part_short hc') (by assumption : _ ≤ 1000)); clear hc' ne'); rotate_left; ((intro D' h' tk' vs' n' F' N' o1' o2' sa'); (try dsimp only); (simp only [List.map_id] at sa')); rotate_left))) | ((with_reducible show wpAny _ _ (eval _ _) _ _ _); first | ((with_reducible show wpAny _ _ (eval (PySem.Expr.ListComp _ _ _ _) _) _ _ _); first | with_reducible (((with_reducible show wpAny _ _ (eval (Expr.ListComp _ [⟨_, Expr.Name (Str.ofString "s") _, _, _⟩] _ _) _) _ _ _); k_dflt (refine ListComp_F (F₀ := by k_asm) (by with_unfolding_all rfl) (by decide) (by rfl) (by decide) (by rfl) ?_))) | (((with_reducible show wpAny _ _ (eval (Expr.ListComp _ [⟨_, Expr.Name (Str.ofString "s") _, _, _⟩] _ _) _) _ _ _); k_dflt (refine ListComp_F (F₀ := by k_asm) (by with_unfolding_all rfl) (by decide) (by rfl) (by decide) (by rfl) ?_)))) | ((with_reducible show wpAny _ _ (eval (PySem.Expr.SetComp _ _ _ _) _) _ _ _); first | with_reducible ((k_dflt (refine SetComp_T (F₀ := by k_asm) (by with_unfolding_all rfl) (by decide) (by rfl) (by decide) (by rfl) ?_))) | ((k_dflt (refine SetComp_T (F₀ := by k_asm) (by with_unfolding_all rfl) (by decide) (by rfl) (by decide) (by rfl) ?_))))) | ((with_reducible show LCg.CompSrc _ _ _ _ _ _ _ _ _ _ _ _ _ _); first | with_reducible ((k_dflt (refine LCg.CompSrc.ledger (by rfl) (by k_asm) (by k_asm) (by k_mem) (by exact Nat.le_of_ble_eq_true rfl) ?_; intro g'; (try dsimp only); lcg_lit))) | ((k_dflt (refine LCg.CompSrc.ledger (by rfl) (by k_asm) (by k_asm) (by k_mem) (by exact Nat.le_of_ble_eq_true rfl) ?_; intro g'; (try dsimp only); lcg_lit)))) | ((with_reducible show wpAny _ _ (assign (PySem.Expr.Tuple _ _ _) _ _) _ _ _); first | with_reducible (((with_reducible show wpAny _ _ (assign (Expr.Tuple _ _ _) _ (Value.ref _)) _ _ _); (with_reducible rename Fr _ _ _ _ => lF'); (with_reducible rename News _ _ _ _ => lN'); k_dflt (refine use_assign_set (by rfl) lF' lN' (by k_mem) (by exact rfl) (by exact rfl) ?_); intro h' F' N')) | (((with_reducible show wpAny _ _ (assign (Expr.Tuple _ _ _) _ (Value.ref _)) _ _ _); (with_reducible rename Fr _ _ _ _ => lF'); (with_reducible rename News _ _ _ _ => lN'); k_dflt (refine use_assign_set (by rfl) lF' lN' (by k_mem) (by exact rfl) (by exact rfl) ?_); intro h' F' N'))) | ((with_reducible show TrueEl _ _ _); first | with_reducible (exact TrueEl.intro (by with_unfolding_all rfl) (by first | with_reducible assumption | assumption)) | (exact TrueEl.intro (by with_unfolding_all rfl) (by first | with_reducible assumption | assumption))) | ((with_reducible show SetSrc _ _ _ _ _ _ _ _ _ _ _ _ _ _); first | with_reducible (((with_reducible rename Fr _ _ _ _ => lF'); (with_reducible rename News _ _ _ _ => lN'); k_dflt (refine SetSrc.two (G := fun r => r.length ≤ 1000 ∧ Txt.startswith r (Str.ofString "/") = true) (by rfl) (by exact Nat.le_of_ble_eq_true rfl) lF' lN' (by k_mem) ⟨by assumption, by assumption⟩ ⟨by assumption, by assumption⟩ ?_ ?_); ((intro r' tr' I' oI' C' oC' D' oD' m' h' tk' E' hG' hC' hx' F' N' off' ne'); (obtain ⟨hG1', hG2'⟩ := hG'); (try dsimp only)); rotate_left; ((intro D' h' tk' F' N' o1'); (try dsimp only)); rotate_left)) | (((with_reducible rename Fr _ _ _ _ => lF'); (with_reducible rename News _ _ _ _ => lN'); k_dflt (refine SetSrc.two (G := fun r => r.length ≤ 1000 ∧ Txt.startswith r (Str.ofString "/") = true) (by rfl) (by exact Nat.le_of_ble_eq_true rfl) lF' lN' (by k_mem) ⟨by assumption, by assumption⟩ ⟨by assumption, by assumption⟩ ?_ ?_); ((intro r' tr' I' oI' C' oC' D' oD' m' h' tk' E' hG' hC' hx' F' N' off' ne'); (obtain ⟨hG1', hG2'⟩ := hG'); (try dsimp only)); rotate_left; ((intro D' h' tk' F' N' o1'); (try dsimp only)); rotate_left))) | ((with_reducible show CompSrcT _ _ _ _ _ _ _ _ _ _ _ _ _ _); first | with_reducible (((with_reducible rename News _ _ _ _ => lN'); (try simp only [List.nil_append, List.cons_append] at lN'); k_dflt (refine CompSrcT.ledger (by rfl) (by k_asm) (by k_asm) (by k_mem) (by exact Nat.le_of_ble_eq_true rfl) ?_; intro g'; (try dsimp only); lcg_lit))) | (((with_reducible rename News _ _ _ _ => lN'); (try simp only [List.nil_append, List.cons_append] at lN'); k_dflt (refine CompSrcT.ledger (by rfl) (by k_asm) (by k_asm) (by k_mem) (by exact Nat.le_of_ble_eq_true rfl) ?_; intro g'; (try dsimp only); lcg_lit)))) | walk1 | (dsimp only; first | ((with_reducible show wpAny _ _ (call _ _ _) _ _ _); first | ((with_reducible show wpAny _ _ (call (Value.builtin "str.join") _ _) _ _ _); first | with_reducible (((with_reducible rename News _ _ _ _ => lN'); (rename (∀ k : Nat, List.sum _ + _ ≤ 1048576) => z4'); (rename (∀ k : Nat, Str.length _ ≤ 1000) => z5'); first | (refine use_joinS lN' (by k_mem) (by first | with_reducible assumption | assumption) z4' z5' ?_) | (refine use_joinW lN' (by k_mem) (by first | with_reducible assumption | assumption) z4' z5' ?_); intro t' tk' le')) | (((with_reducible rename News _ _ _ _ => lN'); (rename (∀ k : Nat, List.sum _ + _ ≤ 1048576) => z4'); (rename (∀ k : Nat, Str.length _ ≤ 1000) => z5'); first | (refine use_joinS lN' (by k_mem) (by first | with_reducible assumption | assumption) z4' z5' ?_) | (refine use_joinW lN' (by k_mem) (by first | with_reducible assumption | assumption) z4' z5' ?_); intro t' tk' le'))) | ((with_reducible show wpAny _ _ (call (Value.type "enumerate") _ _) _ _ _); first | with_reducible (((with_reducible show wpAny _ _ (call (Value.type _) [Value.ref _]) _ _ _); (with_reducible rename Fr _ _ _ _ => lF'); (with_reducible rename News _ _ _ _ => lN'); k_dflt (refine use_enumP (by rfl) lF' lN' (by k_mem) (by first | with_reducible assumption | assumption) (by first | with_reducible assumption | assumption) ?_ ?_); (intro i' c' t' tk' e' oe' it' oi' h' tk2' hc' hi1' hi2' hJ' F' N'); rotate_left; (intro u' h' tk' hJ' F' N'); rotate_left)) | (((with_reducible show wpAny _ _ (call (Value.type _) [Value.ref _]) _ _ _); (with_reducible rename Fr _ _ _ _ => lF'); (with_reducible rename News _ _ _ _ => lN'); k_dflt (refine use_enumP (by rfl) lF' lN' (by k_mem) (by first | with_reducible assumption | assumption) (by first | with_reducible assumption | assumption) ?_ ?_); (intro i' c' t' tk' e' oe' it' oi' h' tk2' hc' hi1' hi2' hJ' F' N'); rotate_left; (intro u' h' tk' hJ' F' N'); rotate_left))) | ((with_reducible show wpAny _ _ (call (Value.builtin "max") _ _) _ _ _); first | with_reducible (((with_reducible show wpAny _ _ (call (Value.builtin _) [Value.ref _]) _ _ _); (with_reducible rename Fr _ _ _ _ => lF'); (with_reducible rename News _ _ _ _ => lN'); k_dflt (refine use_maxL (by rfl) (by exact Nat.le_of_ble_eq_true rfl) lF' lN' (by k_mem) (by k_mem) (by k_mem) (by first | with_reducible assumption | assumption) (by first | with_reducible assumption | assumption) ?_); intro a' vs' n' h' tk' sa' F' N')) | (((with_reducible show wpAny _ _ (call (Value.builtin _) [Value.ref _]) _ _ _); (with_reducible rename Fr _ _ _ _ => lF'); (with_reducible rename News _ _ _ _ => lN'); k_dflt (refine use_maxL (by rfl) (by exact Nat.le_of_ble_eq_true rfl) lF' lN' (by k_mem) (by k_mem) (by k_mem) (by first | with_reducible assumption | assumption) (by first | with_reducible assumption | assumption) ?_); intro a' vs' n' h' tk' sa' F' N'))) | ((with_reducible show wpAny _ _ (call (Value.builtin "min") _ _) _ _ _); first | with_reducible (((with_reducible show wpAny _ _ (call (Value.builtin _) [Value.ref _]) _ _ _); (with_reducible rename Fr _ _ _ _ => lF'); (with_reducible rename News _ _ _ _ => lN'); k_dflt (refine use_minL (by rfl) (by exact Nat.le_of_ble_eq_true rfl) lF' lN' (by k_mem) (by k_mem) (by k_mem) (by first | with_reducible assumption | assumption) (by first | with_reducible assumption | assumption) ?_); intro a' vs' n' h' tk' sa' F' N')) | (((with_reducible show wpAny _ _ (call (Value.builtin _) [Value.ref _]) _ _ _); (with_reducible rename Fr _ _ _ _ => lF'); (with_reducible rename News _ _ _ _ => lN'); k_dflt (refine use_minL (by rfl) (by exact Nat.le_of_ble_eq_true rfl) lF' lN' (by k_mem) (by k_mem) (by k_mem) (by first | with_reducible assumption | assumption) (by first | with_reducible assumption | assumption) ?_); intro a' vs' n' h' tk' sa' F' N'))) | ((with_reducible show wpAny _ _ (call (Value.builtin "str.split") _ _) _ _ _); first | with_reducible (((with_reducible rename Fr _ _ _ _ => lF'); (with_reducible rename News _ _ _ _ => lN'); k_dflt (refine use_split lF' lN' (by first | with_reducible assumption | assumption) (by decide) ?_); intro D' vs' n' h' tk' o1' o2' sa' F' N')) | (((with_reducible rename Fr _ _ _ _ => lF'); (with_reducible rename News _ _ _ _ => lN'); k_dflt (refine use_split lF' lN' (by first | with_reducible assumption | assumption) (by decide) ?_); intro D' vs' n' h' tk' o1' o2' sa' F' N'))) | ((with_reducible show wpAny _ _ (call (Value.type "tuple") _ _) _ _ _); first | with_reducible (((with_reducible rename MapIn _ _ _ _ _ _ _ _ => lX'); k_dflt (refine use_tuple_map lX' (by rfl) (by exact Nat.le_of_ble_eq_true rfl) (by exact Nat.le_of_ble_eq_true rfl) ?_); clear lX'; intro D' h' tk' F' N')) | (((with_reducible rename MapIn _ _ _ _ _ _ _ _ => lX'); k_dflt (refine use_tuple_map lX' (by rfl) (by exact Nat.le_of_ble_eq_true rfl) (by exact Nat.le_of_ble_eq_true rfl) ?_); clear lX'; intro D' h' tk' F' N'))) | ((with_reducible show wpAny _ _ (call (Value.type "map") _ _) _ _ _); first | with_reducible (((with_reducible rename Fr _ _ _ _ => lF'); (with_reducible rename News _ _ _ _ => lN'); (with_reducible rename Rdy _ _ => lR'); k_dflt (refine use_map lR' lF' lN' (by rfl) (by exact Nat.le_of_ble_eq_true rfl) (by exact Nat.le_of_ble_eq_true rfl) (by first | with_reducible assumption | assumption) ?_); intro M' h' tk' X' F' N')) | (((with_reducible rename Fr _ _ _ _ => lF'); (with_reducible rename News _ _ _ _ => lN'); (with_reducible rename Rdy _ _ => lR'); k_dflt (refine use_map lR' lF' lN' (by rfl) (by exact Nat.le_of_ble_eq_true rfl) (by exact Nat.le_of_ble_eq_true rfl) (by first | with_reducible assumption | assumption) ?_); intro M' h' tk' X' F' N'))) | ((with_reducible show wpAny _ _ (call (Value.ref _) _ _) _ _ _); first | with_reducible (((with_reducible rename Fr _ _ _ _ => lF'); (with_reducible rename News _ _ _ _ => lN'); (with_reducible rename Rdy _ _ => lR'); first   | (refine use_fspath lR' lF' lN' (by rfl) (by exact Nat.le_of_ble_eq_true rfl) (by exact Nat.le_of_ble_eq_true rfl) ?_; intro h' tk' F' N')   | (refine use_getsep lR' lF' lN' (by rfl) (by exact Nat.le_of_ble_eq_true rfl) (by exact Nat.le_of_ble_eq_true rfl) ?_; intro u' h' tk' F' N'))) | (((with_reducible rename Fr _ _ _ _ => lF'); (with_reducible rename News _ _ _ _ => lN'); (with_reducible rename Rdy _ _ => lR'); first   | (refine use_fspath lR' lF' lN' (by rfl) (by exact Nat.le_of_ble_eq_true rfl) (by exact Nat.le_of_ble_eq_true rfl) ?_; intro h' tk' F' N')   | (refine use_getsep lR' lF' lN' (by rfl) (by exact Nat.le_of_ble_eq_true rfl) (by exact Nat.le_of_ble_eq_true rfl) ?_; intro u' h' tk' F' N'))))) | ((with_reducible show EnumPost _ _ _ _ _ _ _ _ _ _ _); first | with_reducible (((with_reducible show EnumPost _ _ _ _ _ _ _ _ _ Flow.brk _); refine EnumPost.brk ?_)) | (((with_reducible show EnumPost _ _ _ _ _ _ _ _ _ Flow.brk _); refine EnumPost.brk ?_))) | ((with_reducible show EnumPost _ _ _ _ _ _ _ _ _ _ _); first | with_reducible (((with_reducible show EnumPost _ _ _ _ _ _ _ _ _ Flow.next _); (with_reducible rename Fr _ _ _ _ => lF'); (with_reducible rename News _ _ _ _ => lN'); exact EnumPost.next lF' lN' (fun z h1 h2 => (if_neg h1).trans (if_neg h2)) (SamePre.succ (by first | with_reducible assumption | assumption) (by first | with_reducible assumption | assumption) (by first | with_reducible assumption | assumption)))) | (((with_reducible show EnumPost _ _ _ _ _ _ _ _ _ Flow.next _); (with_reducible rename Fr _ _ _ _ => lF'); (with_reducible rename News _ _ _ _ => lN'); exact EnumPost.next lF' lN' (fun z h1 h2 => (if_neg h1).trans (if_neg h2)) (SamePre.succ (by first | with_reducible assumption | assumption) (by first | with_reducible assumption | assumption) (by first | with_reducible assumption | assumption))))) | ((with_reducible show wpAny _ _ (subscriptTail _ _ (Value.ref _) (Value.int _ _)) _ _ _); first | with_reducible (((with_reducible show wpAny _ _ (subscriptTail _ _ (Value.ref _) (Value.int (Nat.cast _) _)) _ _ _); (with_reducible rename Fr _ _ _ _ => lF'); (with_reducible rename News _ _ _ _ => lN'); k_dflt (refine use_itemN lN' (by k_mem) (by first | with_reducible assumption | assumption) (by first | with_reducible assumption | assumption) (by first | with_reducible assumption | assumption) ?_ (by with_unfolding_all rfl)); intro tq')) | (((with_reducible show wpAny _ _ (subscriptTail _ _ (Value.ref _) (Value.int (Nat.cast _) _)) _ _ _); (with_reducible rename Fr _ _ _ _ => lF'); (with_reducible rename News _ _ _ _ => lN'); k_dflt (refine use_itemN lN' (by k_mem) (by first | with_reducible assumption | assumption) (by first | with_reducible assumption | assumption) (by first | with_reducible assumption | assumption) ?_ (by with_unfolding_all rfl)); intro tq'))) | ((with_reducible show wpAny _ _ (exec _ _) _ _ _); first | ((with_reducible show wpAny _ _ (exec (Stmt.For (PySem.Expr.Tuple _ _ _) _ _ _ _) _) _ _ _); first | with_reducible (((with_reducible show wpAny _ _ (exec (Stmt.For (Expr.Tuple _ _ _) (Expr.Call (Expr.Name (Str.ofString "enumerate") _) _ _ _) _ _ _) _) _ _ _); k_dflt (refine For_enumF (F₀ := by k_asm) (by rfl) (by rfl) (by rfl) ?_ (by intro _; rfl) (by passes_own)))) | (((with_reducible show wpAny _ _ (exec (Stmt.For (Expr.Tuple _ _ _) (Expr.Call (Expr.Name (Str.ofString "enumerate") _) _ _ _) _ _ _) _) _ _ _); k_dflt (refine For_enumF (F₀ := by k_asm) (by rfl) (by rfl) (by rfl) ?_ (by intro _; rfl) (by passes_own))))) | ((with_reducible show wpAny _ _ (exec (Stmt.Assign _ (PySem.Expr.ListComp _ _ _ _) _) _) _ _ _); first | with_reducible (((with_reducible show wpAny _ _ (exec (Stmt.Assign _ (Expr.ListComp _ [⟨_, Expr.Name (Str.ofString "paths") _, _, _⟩] _ _) _) _) _ _ _); k_dflt (refine Assign_ListComp_T (F₀ := by k_asm) (by rfl) (by with_unfolding_all rfl) (by with_unfolding_all rfl) (by decide) (by rfl) (by decide) (by rfl) (by rfl) (by rfl) ?_))) | (((with_reducible show wpAny _ _ (exec (Stmt.Assign _ (Expr.ListComp _ [⟨_, Expr.Name (Str.ofString "paths") _, _, _⟩] _ _) _) _) _ _ _); k_dflt (refine Assign_ListComp_T (F₀ := by k_asm) (by rfl) (by with_unfolding_all rfl) (by with_unfolding_all rfl) (by decide) (by rfl) (by decide) (by rfl) (by rfl) (by rfl) ?_)))) | ((with_reducible show wpAny _ _ (exec (Stmt.Try _ _ _ _ _) _) _ _ _); first | with_reducible (((with_reducible show wpAny _ _ (exec (Stmt.Try _ (_ :: _) _ [] _) (envOfC _ _ _ _ _)) _ _ _); refine wpAny_Try_except ?_)) | (((with_reducible show wpAny _ _ (exec (Stmt.Try _ (_ :: _) _ [] _) (envOfC _ _ _ _ _)) _ _ _); refine wpAny_Try_except ?_)))) | ((with_reducible show LCg.FinA _ _ _ _ _ _ _ _ _ _); first | with_reducible (((unfold LCg.FinA); intro D' h' tk' F' N' o1'; (try simp only [List.nil_append, List.cons_append] at N'); (try dsimp only); (repeat ((with_reducible rename LCg.NsObj _ _ => z'); clear z')); (repeat ((with_reducible rename InElt _ _ => z'); clear z')); (repeat ((with_reducible rename LCg.Off3 _ _ _ _ => z'); clear z')); (repeat ((with_reducible rename _ ∧ _ => z'); clear z')))) | (((unfold LCg.FinA); intro D' h' tk' F' N' o1'; (try simp only [List.nil_append, List.cons_append] at N'); (try dsimp only); (repeat ((with_reducible rename LCg.NsObj _ _ => z'); clear z')); (repeat ((with_reducible rename InElt _ _ => z'); clear z')); (repeat ((with_reducible rename LCg.Off3 _ _ _ _ => z'); clear z')); (repeat ((with_reducible rename _ ∧ _ => z'); clear z'))))) | ((with_reducible show LCg.CompEnd _ _ _ _ _ _ _ _ _ _ _ _ _ _); first | with_reducible (((with_reducible show LCg.CompEnd _ _ _ _ _ _ _ _ _ _ _ (StrNo _ _ _) _ _); (with_reducible rename Fr _ _ _ _ => lF'); (with_reducible rename News _ _ _ _ => lN'); (with_reducible rename LCg.Off3 _ _ _ _ => lO'); exact LCg.CompEnd.intro lF' lN' _ (fun _ h => h) lO' True.intro ⟨fun _ h => h, by first | exact okComp_dot (by first | with_reducible assumption | assumption) | exact okComp_empty (by first | with_reducible assumption | assumption)⟩)) | (((with_reducible show LCg.CompEnd _ _ _ _ _ _ _ _ _ _ _ (StrNo _ _ _) _ _); (with_reducible rename Fr _ _ _ _ => lF'); (with_reducible rename News _ _ _ _ => lN'); (with_reducible rename LCg.Off3 _ _ _ _ => lO'); exact LCg.CompEnd.intro lF' lN' _ (fun _ h => h) lO' True.intro ⟨fun _ h => h, by first | exact okComp_dot (by first | with_reducible assumption | assumption) | exact okComp_empty (by first | with_reducible assumption | assumption)⟩))) | ((with_reducible show LCg.CompEnd _ _ _ _ _ _ _ _ _ _ _ _ _ _); first | with_reducible (((with_reducible show LCg.CompEnd _ _ _ _ _ _ _ _ _ _ _ (StrEl _ _ _ _) _ _); (with_reducible rename Fr _ _ _ _ => lF'); (with_reducible rename News _ _ _ _ => lN'); (with_reducible rename LCg.Off3 _ _ _ _ => lO'); exact LCg.CompEnd.intro lF' lN' _ (fun _ h => h) lO' True.intro ⟨fun _ h => h, okComp_true2 (by first | with_reducible assumption | assumption) (by first | with_reducible assumption | assumption), _, rfl⟩)) | (((with_reducible show LCg.CompEnd _ _ _ _ _ _ _ _ _ _ _ (StrEl _ _ _ _) _ _); (with_reducible rename Fr _ _ _ _ => lF'); (with_reducible rename News _ _ _ _ => lN'); (with_reducible rename LCg.Off3 _ _ _ _ => lO'); exact LCg.CompEnd.intro lF' lN' _ (fun _ h => h) lO' True.intro ⟨fun _ h => h, okComp_true2 (by first | with_reducible assumption | assumption) (by first | with_reducible assumption | assumption), _, rfl⟩))) | ((with_reducible show FltSrc _ _ _ _ _ _ _ _ _ _ _ _ _ _ _); first | with_reducible (((with_reducible rename Fr _ _ _ _ => lF'); (with_reducible rename News _ _ _ _ => lN'); k_dflt (refine FltSrc.strs okComp id (by rfl) lF' lN' (Or.inr ⟨_, by k_mem, rfl, _, rfl⟩) (by first | with_reducible assumption | assumption) (size_of_strs (by first | with_reducible assumption | assumption) (by first | with_reducible assumption | assumption)) ?_ ?_); ((intro c' t' I' oI' C' oC' D' oD' m' h' tk' E' hc' hC' hx' F' N' off' ne'); (try dsimp only); (have hcl' := Nat.le_trans (part_short hc') (by assumption : _ ≤ 1000)); clear hc' ne'); rotate_left; ((intro D' h' tk' vs' n' F' N' o1' o2' sa'); (try dsimp only); (simp only [List.map_id] at sa')); rotate_left)) | (((with_reducible rename Fr _ _ _ _ => lF'); (with_reducible rename News _ _ _ _ => lN'); k_dflt (refine FltSrc.strs okComp id (by rfl) lF' lN' (Or.inr ⟨_, by k_mem, rfl, _, rfl⟩) (by first | with_reducible assumption | assumption) (size_of_strs (by first | with_reducible assumption | assumption) (by first | with_reducible assumption | assumption)) ?_ ?_); ((intro c' t' I' oI' C' oC' D' oD' m' h' tk' E' hc' hC' hx' F' N' off' ne'); (try dsimp only); (have hcl' := Nat.le_trans (part_short hc') (by assumption : _ ≤ 1000)); clear hc' ne'); rotate_left; ((intro D' h' tk' vs' n' F' N' o1' o2' sa'); (try dsimp only); (simp only [List.map_id] at sa')); rotate_left))) | ((with_reducible show wpAny _ _ (eval _ _) _ _ _); first | ((with_reducible show wpAny _ _ (eval (PySem.Expr.ListComp _ _ _ _) _) _ _ _); first | with_reducible (((with_reducible show wpAny _ _ (eval (Expr.ListComp _ [⟨_, Expr.Name (Str.ofString "s") _, _, _⟩] _ _) _) _ _ _); k_dflt (refine ListComp_F (F₀ := by k_asm) (by with_unfolding_all rfl) (by decide) (by rfl) (by decide) (by rfl) ?_))) | (((with_reducible show wpAny _ _ (eval (Expr.ListComp _ [⟨_, Expr.Name (Str.ofString "s") _, _, _⟩] _ _) _) _ _ _); k_dflt (refine ListComp_F (F₀ := by k_asm) (by with_unfolding_all rfl) (by decide) (by rfl) (by decide) (by rfl) ?_)))) | ((with_reducible show wpAny _ _ (eval (PySem.Expr.SetComp _ _ _ _) _) _ _ _); first | with_reducible ((k_dflt (refine SetComp_T (F₀ := by k_asm) (by with_unfolding_all rfl) (by decide) (by rfl) (by decide) (by rfl) ?_))) | ((k_dflt (refine SetComp_T (F₀ := by k_asm) (by with_unfolding_all rfl) (by decide) (by rfl) (by decide) (by rfl) ?_))))) | ((with_reducible show LCg.CompSrc _ _ _ _ _ _ _ _ _ _ _ _ _ _); first | with_reducible ((k_dflt (refine LCg.CompSrc.ledger (by rfl) (by k_asm) (by k_asm) (by k_mem) (by exact Nat.le_of_ble_eq_true rfl) ?_; intro g'; (try dsimp only); lcg_lit))) | ((k_dflt (refine LCg.CompSrc.ledger (by rfl) (by k_asm) (by k_asm) (by k_mem) (by exact Nat.le_of_ble_eq_true rfl) ?_; intro g'; (try dsimp only); lcg_lit)))) | ((with_reducible show wpAny _ _ (assign (PySem.Expr.Tuple _ _ _) _ _) _ _ _); first | with_reducible (((with_reducible show wpAny _ _ (assign (Expr.Tuple _ _ _) _ (Value.ref _)) _ _ _); (with_reducible rename Fr _ _ _ _ => lF'); (with_reducible rename News _ _ _ _ => lN'); k_dflt (refine use_assign_set (by rfl) lF' lN' (by k_mem) (by exact rfl) (by exact rfl) ?_); intro h' F' N')) | (((with_reducible show wpAny _ _ (assign (Expr.Tuple _ _ _) _ (Value.ref _)) _ _ _); (with_reducible rename Fr _ _ _ _ => lF'); (with_reducible rename News _ _ _ _ => lN'); k_dflt (refine use_assign_set (by rfl) lF' lN' (by k_mem) (by exact rfl) (by exact rfl) ?_); intro h' F' N'))) | ((with_reducible show TrueEl _ _ _); first | with_reducible (exact TrueEl.intro (by with_unfolding_all rfl) (by first | with_reducible assumption | assumption)) | (exact TrueEl.intro (by with_unfolding_all rfl) (by first | with_reducible assumption | assumption))) | ((with_reducible show SetSrc _ _ _ _ _ _ _ _ _ _ _ _ _ _); first | with_reducible (((with_reducible rename Fr _ _ _ _ => lF'); (with_reducible rename News _ _ _ _ => lN'); k_dflt (refine SetSrc.two (G := fun r => r.length ≤ 1000 ∧ Txt.startswith r (Str.ofString "/") = true) (by rfl) (by exact Nat.le_of_ble_eq_true rfl) lF' lN' (by k_mem) ⟨by assumption, by assumption⟩ ⟨by assumption, by assumption⟩ ?_ ?_); ((intro r' tr' I' oI' C' oC' D' oD' m' h' tk' E' hG' hC' hx' F' N' off' ne'); (obtain ⟨hG1', hG2'⟩ := hG'); (try dsimp only)); rotate_left; ((intro D' h' tk' F' N' o1'); (try dsimp only)); rotate_left)) | (((with_reducible rename Fr _ _ _ _ => lF'); (with_reducible rename News _ _ _ _ => lN'); k_dflt (refine SetSrc.two (G := fun r => r.length ≤ 1000 ∧ Txt.startswith r (Str.ofString "/") = true) (by rfl) (by exact Nat.le_of_ble_eq_true rfl) lF' lN' (by k_mem) ⟨by assumption, by assumption⟩ ⟨by assumption, by assumption⟩ ?_ ?_); ((intro r' tr' I' oI' C' oC' D' oD' m' h' tk' E' hG' hC' hx' F' N' off' ne'); (obtain ⟨hG1', hG2'⟩ := hG'); (try dsimp only)); rotate_left; ((intro D' h' tk' F' N' o1'); (try dsimp only)); rotate_left))) | ((with_reducible show CompSrcT _ _ _ _ _ _ _ _ _ _ _ _ _ _); first | with_reducible (((with_reducible rename News _ _ _ _ => lN'); (try simp only [List.nil_append, List.cons_append] at lN'); k_dflt (refine CompSrcT.ledger (by rfl) (by k_asm) (by k_asm) (by k_mem) (by exact Nat.le_of_ble_eq_true rfl) ?_; intro g'; (try dsimp only); lcg_lit))) | (((with_reducible rename News _ _ _ _ => lN'); (try simp only [List.nil_append, List.cons_append] at lN'); k_dflt (refine CompSrcT.ledger (by rfl) (by k_asm) (by k_asm) (by k_mem) (by exact Nat.le_of_ble_eq_true rfl) ?_; intro g'; (try dsimp only); lcg_lit)))) | walk1) | (leave1; walk_say "STEP leave1"; try dsimp only) | fail "no step")
  all_goals (with_reducible rename Fr _ _ _ _ => eF)
  · ((try dsimp only); exact hQ' _ _ (givesI eF ⟨_, _, PreLen.brk (by first | with_reducible assumption | assumption) (by first | with_reducible assumption | assumption) (by first | with_reducible assumption | assumption), rfl⟩))
  · ((try dsimp only); exact hQ' _ _ (givesI eF ⟨_, _, PreLen.done (by first | with_reducible assumption | assumption), rfl⟩))
end Mine
namespace Mine
open PySem.Spec PySem.Calls PySem.W.X
noncomputable def lcpG : List Str → List Str → Nat
  | [], _ => 0
  | x :: xs, ys => if x = ys.headD (Str.ofString "") then lcpG xs ys.tail + 1 else 0
theorem getD_head (ys : List Str) (d : Str) : ys.getD 0 d = ys.headD d := by cases ys <;> rfl
theorem getD_tail (ys : List Str) (d : Str) (j : Nat) : ys.getD (j + 1) d = ys.tail.getD j d := by cases ys <;> simp
theorem preLen_lcp : ∀ {xs ys : List Str} {k : Nat}, PreLen xs ys k → k = lcpG xs ys
  | [], ys, k, h => by
    have := h.1
    unfold lcpG
    simpa using this
  | x :: xs, ys, k, h => by
    obtain ⟨h1, h2, h3⟩ := h
    unfold lcpG
    cases k with
    | zero =>
      have := h3 (by simp)
      rw [getD_head ys] at this
      rw [if_neg (by simpa using this)]
    | succ k =>
      have e0 := h2 0 (Nat.succ_pos _)
      rw [getD_head ys] at e0
      rw [if_pos (by simpa using e0)]
      congr 1
      refine preLen_lcp ⟨by simpa using h1, fun j hj => ?_, fun hk => ?_⟩
      · have := h2 (j + 1) (by omega)
        rw [getD_tail ys] at this
        simpa using this
      · have := h3 (by simpa using hk)
        rw [getD_tail ys] at this
        simpa using this
noncomputable def cutF (p : Str) : List Str := (Txt.split p (Str.ofString "/")).filter okComp
noncomputable def comF (p q : Str) : Str := Str.ofString "/" ++ Txt.join (Str.ofString "/") ((minL (cutF p) (cutF q)).take (lcpG (minL (cutF p) (cutF q)) (maxL (cutF p) (cutF q))))
structure CpOk (p q : Str) : Prop where
  sp1 : (Txt.split p (Str.ofString "/")).length ≤ 1000
  sq1 : (Txt.split q (Str.ofString "/")).length ≤ 1000
  hp : p.length ≤ 1000
  hq : q.length ≤ 1000
  sp : Txt.startswith p (Str.ofString "/") = true
  sq : Txt.startswith q (Str.ofString "/") = true
  mi : (minL (cutF p) (cutF q)).length ≤ 1000
  ma : (maxL (cutF p) (cutF q)).length ≤ 1000
  lt : ∀ i, i < (minL (cutF p) (cutF q)).length → SamePre (minL (cutF p) (cutF q)) (maxL (cutF p) (cutF q)) i → i < (maxL (cutF p) (cutF q)).length
  j5 : ∀ k : Nat, (Txt.join (Str.ofString "/") ((minL (cutF p) (cutF q)).take k)).length ≤ 1000
  j4 : ∀ k : Nat, ((((minL (cutF p) (cutF q)).take k).map (·.length)).sum + ((minL (cutF p) (cutF q)).take k).length ≤ 1048576)
  cm : (comF p q).length ≤ 1000
section
variable {w : World} {A : Around} {s : Shared} {h₀ : Heap} {L : Addr} {m : Str → Option Value} {news : List (Addr × Obj)} {Q E : Value → Shared → Prop} {p q : Str} {t u : Tok} {l : Addr} {vs : Array Value} {n : Nat} {xs : List Str}
theorem use_cp (ok : CpOk p q) (R : Rdy w h₀) (F : Fr h₀ L s.heap m) (N : News h₀ L s.heap news) (hh : A.handled = none) (hd : A.depth ≤ 850) (hu : A.units ≤ 8500) (hl : (l, W.listOf #[.str p t, .str q u] 0) ∈ news)
    (c : ∀ u h' tk, (comF p q).length ≤ 1000 → Fr h₀ L h' m → News h₀ L h' news → Q (.str (comF p q) u) { s with heap := h', toks := tk }) :
    wpAny (model Challenge.rw_pd0082_01.row.prog w) A (call (.ref 168) [.ref l]) Q E s :=
  use (cp_spec w s l p q t u (R.fr F) ok.sp1 ok.sq1 ok.hp ok.hq ok.sp ok.sq (News.get N hl) ok.mi ok.ma ok.lt ok.j5 ok.j4) F N hh hd hu (fun v h' tk e g F' N' => by
    obtain ⟨k, u, hk, rfl⟩ := e
    have := preLen_lcp hk
    subst this
    exact c u h' tk ok.cm F' N')
theorem use_lenN {prog : Program} (N : News h₀ L s.heap news) (hl : (l, W.listOf vs n) ∈ news) (hS : StrsAre vs.toList xs) (hn : xs.length ≤ 1000) (h : ∀ t, Q (.int (xs.length : Int) t) { s with toks := s.toks + 1 + 1 }) :
    wpAny (model prog w) A (call (.builtin "len") [.ref l]) Q E s := by
  have hlen := strsAre_len' hS
  have e : vs.toList.length = vs.size := by simp
  have e2 : vs.size = xs.length := by omega
  refine len_list ⟨_, News.get N hl, rfl, n, rfl⟩ (by omega) ?_
  rw [e2]
  exact h _
end
end Mine
namespace Mine
open PySem.Spec PySem.Calls PySem.W.X
theorem lc_spec (w : World) (s : Shared) (p q : Str) (t u : Tok) (R : Rdy w s.heap) (ok : CpOk p q) (hk : (keyF (comF p q)).length ≤ 1000) :
    codeAny (model Challenge.rw_pd0082_01.row.prog w) (Ac 800 8000) (.call (.ref 185) ⟨[.str p t, .str q u], []⟩) (Gives s (fun v _ => ∃ u, v = .int ((keyF (comF p q)).length : Nat) u)) s := by
  w_top off
  obtain ⟨X, mean, mg, mb, T⟩ := id R
  (refine' enterG (g := _) (led := []) (fun _ _ e => e) (Nat.le_refl _) (fun _ h => (nomatch h)) ?k1 ?k2 ?k6 ?k7 ?k8 ?k9 ?kB ?_ ?c2 ?c3 ?c4 ?c5; (case k1 => assumption); (case k2 => assumption); (case k6 => k_is); (case k7 => k_is); (case k8 => decide); (case k9 => first | exact BindsTo.of_eq rfl | (refine' kp_binds ?kx ?ke; (case kx => assumption); (case ke => exact fun _ => rfl))); (case kB => exact locs rfl); (case c2 => exact rfl); (case c3 => exact rfl); (case c4 => exact rfl); (case c5 => decide))
  intro L h₁ F N
  refine genQE ?_
  intro Q' hQ'
  dsimp only
  repeat' (first | (k_unfold; (try dsimp only)) | ((with_reducible show wpAny _ _ (call _ _ _) _ _ _); first | ((with_reducible show wpAny _ _ (call (Value.builtin "len") _ _) _ _ _); first | with_reducible (((with_reducible show wpAny _ _ (call (Value.builtin "len") [Value.ref _]) _ _ _); (with_reducible rename News _ _ _ _ => lN'); k_dflt (refine use_lenN lN' (by k_mem) (by first | with_reducible assumption | assumption) (by first | with_reducible assumption | assumption) ?_); intro tl')) | (((with_reducible show wpAny _ _ (call (Value.builtin "len") [Value.ref _]) _ _ _); (with_reducible rename News _ _ _ _ => lN'); k_dflt (refine use_lenN lN' (by k_mem) (by first | with_reducible assumption | assumption) (by first | with_reducible assumption | assumption) ?_); intro tl'))) | ((with_reducible show wpAny _ _ (call (Value.ref _) _ _) _ _ _); first | with_reducible (((with_reducible rename Fr _ _ _ _ => lF'); (with_reducible rename News _ _ _ _ => lN'); (with_reducible rename Rdy _ _ => lR'); first   | (refine use_cp (by first | with_reducible assumption | assumption) lR' lF' lN' (by rfl) (by exact Nat.le_of_ble_eq_true rfl) (by exact Nat.le_of_ble_eq_true rfl) (by k_mem) ?_; intro u' h' tk' le' F' N')   | (refine use_key (by first | with_reducible assumption | assumption) lR' lF' lN' (by rfl) (by exact Nat.le_of_ble_eq_true rfl) (by exact Nat.le_of_ble_eq_true rfl) ?_; intro D' v1' n1' h' tk' hS' F' N' ne'; (replace ne' := allNe_of ne'); (simp only [AllNe, and_true] at ne')))) | (((with_reducible rename Fr _ _ _ _ => lF'); (with_reducible rename News _ _ _ _ => lN'); (with_reducible rename Rdy _ _ => lR'); first   | (refine use_cp (by first | with_reducible assumption | assumption) lR' lF' lN' (by rfl) (by exact Nat.le_of_ble_eq_true rfl) (by exact Nat.le_of_ble_eq_true rfl) (by k_mem) ?_; intro u' h' tk' le' F' N')   | (refine use_key (by first | with_reducible assumption | assumption) lR' lF' lN' (by rfl) (by exact Nat.le_of_ble_eq_true rfl) (by exact Nat.le_of_ble_eq_true rfl) ?_; intro D' v1' n1' h' tk' hS' F' N' ne'; (replace ne' := allNe_of ne'); (simp only [AllNe, and_true] at ne')))))) | walk1 | (dsimp only; first | ((with_reducible show wpAny _ _ (call _ _ _) _ _ _); first | ((with_reducible show wpAny _ _ (call (Value.builtin "len") _ _) _ _ _); first | with_reducible (((with_reducible show wpAny _ _ (call (Value.builtin "len") [Value.ref _]) _ _ _); (with_reducible rename News _ _ _ _ => lN'); k_dflt (refine use_lenN lN' (by k_mem) (by first | with_reducible assumption | assumption) (by first | with_reducible assumption | assumption) ?_); intro tl')) | (((with_reducible show wpAny _ _ (call (Value.builtin "len") [Value.ref _]) _ _ _); (with_reducible rename News _ _ _ _ => lN'); k_dflt (refine use_lenN lN' (by k_mem) (by first | with_reducible assumption | assumption) (by first | with_reducible assumption | assumption) ?_); intro tl'))) | ((with_reducible show wpAny _ _ (call (Value.ref _) _ _) _ _ _); first | with_reducible (((with_reducible rename Fr _ _ _ _ => lF'); (with_reducible rename News _ _ _ _ => lN'); (with_reducible rename Rdy _ _ => lR'); first   | (refine use_cp (by first | with_reducible assumption | assumption) lR' lF' lN' (by rfl) (by exact Nat.le_of_ble_eq_true rfl) (by exact Nat.le_of_ble_eq_true rfl) (by k_mem) ?_; intro u' h' tk' le' F' N')   | (refine use_key (by first | with_reducible assumption | assumption) lR' lF' lN' (by rfl) (by exact Nat.le_of_ble_eq_true rfl) (by exact Nat.le_of_ble_eq_true rfl) ?_; intro D' v1' n1' h' tk' hS' F' N' ne'; (replace ne' := allNe_of ne'); (simp only [AllNe, and_true] at ne')))) | (((with_reducible rename Fr _ _ _ _ => lF'); (with_reducible rename News _ _ _ _ => lN'); (with_reducible rename Rdy _ _ => lR'); first   | (refine use_cp (by first | with_reducible assumption | assumption) lR' lF' lN' (by rfl) (by exact Nat.le_of_ble_eq_true rfl) (by exact Nat.le_of_ble_eq_true rfl) (by k_mem) ?_; intro u' h' tk' le' F' N')   | (refine use_key (by first | with_reducible assumption | assumption) lR' lF' lN' (by rfl) (by exact Nat.le_of_ble_eq_true rfl) (by exact Nat.le_of_ble_eq_true rfl) ?_; intro D' v1' n1' h' tk' hS' F' N' ne'; (replace ne' := allNe_of ne'); (simp only [AllNe, and_true] at ne')))))) | walk1) | (leave1; walk_say "STEP leave1"; try dsimp only) | fail "no step")
  (with_reducible rename Fr _ _ _ _ => eF)
  ((try dsimp only); exact hQ' _ _ (givesI eF ⟨_, rfl⟩))
end Mine
namespace Mine
open PySem.Spec PySem.Calls PySem.W.X
noncomputable def RowsIn (own : List (Addr × Obj)) : List Value → List (List Str) → Prop
  | [], rs => rs = []
  | v :: vs, rs => ∃ a ws n r rs', v = .ref a ∧ rs = r :: rs' ∧ (a, W.listOf ws n) ∈ own ∧ StrsAre ws.toList r ∧ RowsIn own vs rs'
theorem RowsIn.len {own : List (Addr × Obj)} : ∀ {vs : List Value} {rs : List (List Str)}, RowsIn own vs rs → vs.length = rs.length
  | [], rs, h => by rw [show rs = [] from h]; rfl
  | v :: vs, rs, h => by
    obtain ⟨a, ws, n, r, rs', rfl, rfl, _, _, h⟩ := h
    simp [RowsIn.len h]
theorem RowsIn.at' {own : List (Addr × Obj)} : ∀ {vs : List Value} {rs : List (List Str)}, RowsIn own vs rs → ∀ {i : Nat} {v : Value}, vs[i]? = some v → ∃ a ws n r, v = .ref a ∧ rs[i]? = some r ∧ (a, W.listOf ws n) ∈ own ∧ StrsAre ws.toList r
  | [], rs, h, i, v, e => by simp at e
  | v :: vs, rs, h, i, v', e => by
    obtain ⟨a, ws, n, r, rs', rfl, rfl, hm, hS, h⟩ := h
    cases i with
    | zero => cases e; exact ⟨a, ws, n, r, rfl, rfl, hm, hS⟩
    | succ i => exact RowsIn.at' h (i := i) e
theorem RowsIn.mono {own own' : List (Addr × Obj)} (hs : ∀ p ∈ own, p ∈ own') : ∀ {vs : List Value} {rs : List (List Str)}, RowsIn own vs rs → RowsIn own' vs rs
  | [], rs, h => h
  | v :: vs, rs, h => by
    obtain ⟨a, ws, n, r, rs', rfl, rfl, hm, hS, h⟩ := h
    exact ⟨a, ws, n, r, rs', rfl, rfl, hs _ hm, hS, RowsIn.mono hs h⟩
theorem RowsIn.append {own : List (Addr × Obj)} : ∀ {vs vs' : List Value} {rs rs' : List (List Str)}, RowsIn own vs rs → RowsIn own vs' rs' → RowsIn own (vs ++ vs') (rs ++ rs')
  | [], vs', rs, rs', h, h' => by rw [show rs = [] from h]; exact h'
  | v :: vs, vs', rs, rs', h, h' => by
    obtain ⟨a, ws, n, r, rs2, rfl, rfl, hm, hS, h⟩ := h
    exact ⟨a, ws, n, r, rs2 ++ rs', rfl, rfl, hm, hS, RowsIn.append h h'⟩
theorem RowsIn.take {own : List (Addr × Obj)} : ∀ {vs : List Value} {rs : List (List Str)} (k : Nat), RowsIn own vs rs → RowsIn own (vs.take k) (rs.take k)
  | _, _, 0, _ => rfl
  | [], rs, k + 1, h => by rw [show rs = [] from h]; exact rfl
  | v :: vs, rs, k + 1, h => by
    obtain ⟨a, ws, n, r, rs2, rfl, rfl, hm, hS, h⟩ := h
    exact ⟨a, ws, n, r, rs2.take k, rfl, rfl, hm, hS, RowsIn.take k h⟩
theorem RowsIn.drop {own : List (Addr × Obj)} : ∀ {vs : List Value} {rs : List (List Str)} (k : Nat), RowsIn own vs rs → RowsIn own (vs.drop k) (rs.drop k)
  | _, _, 0, h => h
  | [], rs, k + 1, h => by rw [show rs = [] from h]; exact rfl
  | v :: vs, rs, k + 1, h => by
    obtain ⟨a, ws, n, r, rs2, rfl, rfl, hm, hS, h⟩ := h
    exact RowsIn.drop k h
theorem RowsIn.one {own : List (Addr × Obj)} {a : Addr} {ws : Array Value} {n : Nat} {r : List Str} (hm : (a, W.listOf ws n) ∈ own) (hS : StrsAre ws.toList r) : RowsIn own [.ref a] [r] := ⟨a, ws, n, r, [], rfl, rfl, hm, hS, rfl⟩
theorem selG_len {α : Type} {q : α → Bool} {ps : List α} {b : Nat → Bool} {G : Nat → Value → Prop} (hb : ∀ i c, ps[i]? = some c → b i = q c) :
    ∀ i, i ≤ ps.length → ∀ ys, SelG b G i ys → ys.length = ((ps.take i).filter q).length
  | 0, _, ys, h => by rw [show ys = [] from h]; simp
  | i + 1, hi, ys, h => by
    obtain ⟨c, hc⟩ : ∃ c, ps[i]? = some c := ⟨ps[i], by simp [Nat.lt_of_succ_le hi]⟩
    rw [take_succ_filter q ps i c hc, List.length_append]
    unfold SelG at h
    rw [hb i c hc] at h
    by_cases hp : q c = true
    · rw [if_pos hp] at h ⊢
      obtain ⟨zs, y, rfl, h, hy⟩ := h
      rw [List.length_append, selG_len hb i (Nat.le_of_succ_le hi) zs h]
      rfl
    · rw [if_neg hp] at h ⊢
      simpa using selG_len hb i (Nat.le_of_succ_le hi) ys h
noncomputable def RowEl (q : List Str → Bool) (news : List (Addr × Obj)) (r : List Str) (y : Value) (news' : List (Addr × Obj)) : Prop := (∀ p ∈ news, p ∈ news') ∧ q r = true
noncomputable def RowNo (q : List Str → Bool) (news : List (Addr × Obj)) (r : List Str) (y : Value) (news' : List (Addr × Obj)) : Prop := (∀ p ∈ news, p ∈ news') ∧ q r = false
section
variable {prog : Program} {w : World} {A : Around} {E : Value → Shared → Prop} {h₀ : Heap} {L : Addr} {m : Str → Option Value} {env : Env}
theorem FltSrc.rows {elt test : PySem.Expr} {x : Str} {scope : Scope} {cl : List (Str × Addr)} {s₁ : Shared} {Q : Value → Shared → Prop} {news own : List (Addr × Obj)} {ax : Addr} {its : Array Value} {n : Nat} {rs : List (List Str)} (q : List Str → Bool)
    (hh : A.handled = none) (F : Fr h₀ L s₁.heap m) (N : News h₀ L s₁.heap news) (hS : (ax, W.listOf its n) ∈ news) (hits : RowsIn own its.toList rs) (hsub : ∀ p ∈ own, p ∈ news) (hsz : its.size ≤ 1000)
    (turn : ∀ a ws nr r I oI C oC D oD m₂ h tk (E' : Value → Shared → Prop), StrsAre ws.toList r → LCg.NsObj oC m₂ → m₂ x = some (.ref a) → Fr h₀ L h m → News h₀ L h ((a, W.listOf ws nr) :: (I, oI) :: (C, oC) :: (D, oD) :: news) → LCg.Off3 I C D news → ((@Ne Nat I C) ∧ (@Ne Nat I D) ∧ (@Ne Nat C D)) →
      wpAny (model prog w) A (isTrue test (compEnvC scope cl C env) (eval test (compEnvC scope cl C env))) (fun ok s₃ =>
        if ok = true then wpAny (model prog w) A (eval elt (compEnvC scope cl C env)) (LCg.CompEnd h₀ L m { s₁ with heap := h, toks := tk } I oI C oC D oD (fun _ => True) (RowEl q news r)) E' s₃
        else LCg.CompEnd h₀ L m { s₁ with heap := h, toks := tk } I oI C oC D oD (fun _ => True) (RowNo q news r) .none s₃) E' { s₁ with heap := h, toks := tk })
    (fin : ∀ D h tk vs n, Fr h₀ L h m → News h₀ L h ((D, W.listOf vs n) :: news) → LCg.Off1 D news → (∀ b o, h₀.get? b = some o → b ≠ D) → vs.size = (rs.filter q).length → Q (.ref D) { s₁ with heap := h, toks := tk }) :
    FltSrc prog w A h₀ L m env elt x [test] scope cl Q (.ref ax) s₁ := by
  have hlen := hits.len
  have hsz' : its.size = its.toList.length := by simp
  refine ⟨ax, its, news, fun i => q (rs.getD i []), fun i y => True, rfl, hh, F, N, Or.inr ⟨_, hS, rfl, n, rfl⟩, by rw [sizeLine_eq]; omega, fun h => FltTurn.test ?_, ?_⟩
  · intro i v I oI C oC D oD m₂ h' tk E' hi hv hC hx F' N' off ne
    have hv : its[i]? = some v := hv
    obtain ⟨a, ws, nr, r, rfl, hr, hm, hS'⟩ := hits.at' (i := i) (v := v) (by simpa using hv)
    have hget : rs.getD i [] = r := by simp [List.getD, hr]
    refine wpAny_mono (turn a ws nr r I oI C oC D oD m₂ h' tk E' hS' hC hx F' (fun p hp => ?_) off ne) (fun ok s₃ h₃ => ?_) fun _ _ e => e
    · rcases List.mem_cons.mp hp with rfl | hp
      · exact N' _ (.tail _ (.tail _ (.tail _ (hsub _ hm))))
      · exact N' _ hp
    by_cases hok : ok = true
    · rw [if_pos hok] at h₃ ⊢
      refine wpAny_mono h₃ (fun y s₄ h₄ => ?_) fun _ _ e => e
      obtain ⟨h₄, tk₄, news₄, e, F₄, N₄, off₄, hS₄, hsub, hp⟩ := h₄
      exact ⟨h₄, tk₄, news₄, e, F₄, N₄, off₄, hS₄, hsub, by show q _ = true; rw [hget]; exact hp, trivial⟩
    · rw [if_neg hok] at h₃ ⊢
      obtain ⟨h₄, tk₄, news₄, e, F₄, N₄, off₄, hS₄, hsub, hp⟩ := h₃
      exact ⟨h₄, tk₄, news₄, e, F₄, N₄, off₄, hS₄, hsub, by show q _ = false; rw [hget]; exact hp⟩
  · intro D h tk ys F' N' o1 hne hsel
    refine fin D h tk ys.toArray ys.length F' N' o1 hne ?_
    have hi : its.size = rs.length := by omega
    rw [hi] at hsel
    have := selG_len (q := q) (ps := rs) (fun i c hc => by simp [List.getD, hc]) rs.length (Nat.le_refl _) ys hsel
    rw [List.take_length] at this
    simpa using this
end
end Mine
namespace Mine
open PySem.Spec PySem.Calls PySem.W.X
theorem iter_tup {prog : Program} {w : World} {A : Around} {E : Value → Shared → Prop} {s : Shared} {env : Env} {h₀ : Heap} {x : Str} {body : List Stmt} {Q : Flow → Shared → Prop}
    {l : Addr} {vs : List Value} {ol : Obj} {m₀ : Str → Option Value} {news : List (Addr × Obj)} (J : Nat → (Str → Option Value) → List (Addr × Obj) → Prop)
    (hh : A.handled = none) (hc : ol.cls = .type "tuple") (hd : ∃ n, ol.data = .seq vs.toArray n) (hJl : ∀ i m news, J i m news → (l, ol) ∈ news)
    (F : Fr h₀ env.locals s.heap m₀) (N : News h₀ env.locals s.heap news) (hj : J 0 m₀ news)
    (turn : ∀ i v m₁ news₁ h tk It oI, vs[i]? = some v → J i m₁ news₁ → (∀ p ∈ news₁, p.1 ≠ It) → Fr h₀ env.locals h (fun y => if y = x then some v else m₁ y) → News h₀ env.locals h ((It, oI) :: news₁) →
      wpAny (model prog w) A (execs body env) (TurnPost h₀ env.locals (J (i + 1)) It oI s Q) E { s with heap := h, toks := tk })
    (done : ∀ m₁ news₁ h tk, J vs.length m₁ news₁ → Fr h₀ env.locals h m₁ → News h₀ env.locals h news₁ → Q .next { s with heap := h, toks := tk }) :
    wpAny (model prog w) A (pyIter (.ref l)) (fun it s₂ => LoopAtV prog w A h₀ env x body Q E it s₂) E s := by
  have hln := N _ (hJl 0 _ _ hj)
  have hls : s.heap.IsTuple l vs.toArray := ⟨ol, hln.1, hc, hd⟩
  have hlt : l < s.heap.objs.size := Heap.lt_size hln.1
  have hne : l ≠ s.heap.objs.size := Nat.ne_of_lt hlt
  refine wpAny_pyIter_tuple hls ?_
  have W := Walks.tuple (prog := prog) (w := w) hh s.heap.objs.size l hne vs.toArray
  have hlen : vs.toArray.size = vs.length := by simp
  rw [hlen] at W
  refine ⟨_, _, _, vs.length, _, _, m₀, news, J, rfl, W, ?_, ?_, ?_, ⟨⟨_, Heap.get?_push_size _ rfl, rfl, rfl⟩, hls.at fun o e => Heap.get?_push_of_some _ e⟩, F.push _, (fun p hp => ⟨Heap.get?_push_of_some _ (N p hp).1, (N p hp).2⟩), hj, ?_, ?_⟩
  · intro hm
    rcases List.mem_cons.mp hm with e | hm
    · exact absurd F.ns.lt (e ▸ Nat.lt_irrefl _)
    · exact hln.2.1 (List.mem_singleton.mp hm).symm
  · intro b hb
    rw [List.mem_singleton.mp hb]
    exact next_is_new F
  · intro p hp hI
    exact absurd (Heap.lt_size (N p hp).1) ((List.mem_singleton.mp hI) ▸ Nat.lt_irrefl _)
  · rintro i v m₁ news₁ s₁ own ⟨hh', tk', rfl⟩ hin hP hJ hoff hown halive hall hSt F₁ N₁
    have hv : vs[i]? = some v := by simpa using hP
    have hItn : h₀.get? s.heap.objs.size = none := next_is_new F
    obtain ⟨⟨oI, hoI, _⟩, _⟩ := hSt
    have hoI' : hh'.get? s.heap.objs.size = some oI := hoI
    have hmI := hall s.heap.objs.size (.head _) hItn oI hoI'
    have hoff' : ∀ p ∈ news₁, p.1 ≠ s.heap.objs.size := fun p hp e => hoff p hp (List.mem_singleton.mpr e)
    have hml := hJl i m₁ news₁ hJ
    have N₂ : News h₀ env.locals hh' ((s.heap.objs.size, oI) :: news₁) := fun p hp => by
      rcases List.mem_cons.mp hp with rfl | hp
      · exact N₁ _ (List.mem_append_left _ hmI)
      · exact N₁ _ (List.mem_append_right _ hp)
    refine wpAny_mono (turn i v m₁ news₁ hh' tk' s.heap.objs.size oI hv hJ hoff' F₁ N₂) (fun f s₂ p => ?_) fun _ _ e => e
    have fin : TurnEnd h₀ env.locals (J (i + 1)) s.heap.objs.size oI s s₂ → LoopStepU h₀ env.locals [s.heap.objs.size] own (J (i + 1)) { s with heap := hh', toks := tk' } .next s₂ := by
      rintro ⟨h', tk, m', news', e, F', N', hn, hm⟩
      refine ⟨rfl, h', tk, m', news', e, F', fun p hp => ?_, fun p hp hq => hn p hp (List.mem_singleton.mp hq), hm⟩
      rcases List.mem_append.mp hp with hp | hp
      · have halp : hh'.get? p.1 = some p.2 := halive p hp
        rcases List.mem_cons.mp (hown p hp) with e1 | e1
        · have : p = (s.heap.objs.size, oI) := by
            obtain ⟨a, o⟩ := p
            have e1 : a = s.heap.objs.size := e1
            subst e1
            have : some oI = some o := hoI'.symm.trans halp
            cases this; rfl
          rw [this]; exact N' _ (.head _)
        · have : p = (l, ol) := by
            obtain ⟨a, o⟩ := p
            have e1 : a = l := List.mem_singleton.mp e1
            subst e1
            have h1 := (N₁ _ (List.mem_append_right _ hml)).1
            have : some ol = some o := h1.symm.trans halp
            cases this; rfl
          rw [this]; exact N' _ (List.mem_cons_of_mem _ (hJl _ _ _ hm))
      · exact N' _ (List.mem_cons_of_mem _ hp)
    cases f with
    | ret v => exact .ret p
    | brk => exact .brk p
    | next => exact .next (fin p)
    | cont => exact .cont (fin p)
  · rintro h' tk m' news' F' N' _ hJ
    exact done m' news' h' tk hJ F' N'

noncomputable def joinS (p b : Str) : Str := if Txt.endswith p (Str.ofString "/") = true then p ++ b else p ++ (Str.ofString "/" ++ b)
noncomputable def joinF (a : Str) (bs : List Str) : Str := bs.foldl joinS a
theorem joinS_len (p b : Str) : p.length ≤ (joinS p b).length ∧ (joinS p b).length ≤ p.length + 1 + b.length := by
  unfold joinS
  have h : (Str.ofString "/").length = 1 := by decide
  by_cases e : Txt.endswith p (Str.ofString "/") = true
  · rw [if_pos e, Str.length_append]; omega
  · rw [if_neg e, Str.length_append, Str.length_append, h]; omega
noncomputable def JJ (D : Addr) (a : Str) (vs : List Value) (bs : List Str) (i : Nat) (m : Str → Option Value) (news : List (Addr × Obj)) : Prop :=
  ∃ (t1 t2 : Tok) (u : Str → Option Value), news = (D, ({ cls := .type "tuple", data := .seq vs.toArray } : Obj)) :: [] ∧
    m = (fun z => if z = Str.ofString "path" then some (.str (joinF a (bs.take i)) t1) else if z = Str.ofString "sep" then some (.str (Str.ofString "/") t2) else u z) ∧
    a.length ≤ (joinF a (bs.take i)).length ∧ (joinF a (bs.take i)).length ≤ 1000 + 1001 * i
theorem map_eq2 {m : Str → Option Value} {a b : Value} (h1 : m (Str.ofString "path") = some a) (h2 : m (Str.ofString "sep") = some b) :
    m = fun z => if z = Str.ofString "path" then some a else if z = Str.ofString "sep" then some b else m z := by
  funext z
  by_cases z1 : z = Str.ofString "path"
  · rw [if_pos z1, z1, h1]
  · rw [if_neg z1]
    by_cases z2 : z = Str.ofString "sep"
    · rw [if_pos z2, z2, h2]
    · rw [if_neg z2]
theorem jj_end {h₀ h' : Heap} {L D It : Addr} {oI : Obj} {a b : Str} {vs : List Value} {bs : List Str} {i : Nat} {s : Shared} {tk : Nat} {m : Str → Option Value} {p : Str} {t1 t2 : Tok}
    (F : Fr h₀ L h' m) (N : News h₀ L h' ((It, oI) :: (D, ({ cls := .type "tuple", data := .seq vs.toArray } : Obj)) :: [])) (hD : D ≠ It) (hb : bs[i]? = some b) (e : p = joinS (joinF a (bs.take i)) b) (hbl : b.length ≤ 1000)
    (h1 : a.length ≤ (joinF a (bs.take i)).length) (h2 : (joinF a (bs.take i)).length ≤ 1000 + 1001 * i) (z1 : m (Str.ofString "path") = some (.str p t1)) (z2 : m (Str.ofString "sep") = some (.str (Str.ofString "/") t2)) :
    TurnEnd h₀ L (JJ D a vs bs (i + 1)) It oI s { s with heap := h', toks := tk } := by
  have f : joinF a (bs.take (i + 1)) = p := by
    unfold joinF
    rw [List.take_add_one, hb, List.foldl_append]
    exact e.symm
  have hl := joinS_len (joinF a (bs.take i)) b
  refine ⟨h', tk, m, _, rfl, F, N, ?_, t1, t2, m, rfl, ?_, ?_, ?_⟩
  · intro q hq
    rw [List.mem_singleton.mp hq]
    exact hD
  · rw [f]; exact map_eq2 z1 z2
  · rw [f, e]; omega
  · rw [f, e]; omega
theorem join_spec (w : World) (s : Shared) (a : Str) (l : List (Str × Tok)) (bs : List Str) (t : Tok) (R : Rdy w s.heap) (hl : (∃ x1, l = [x1]) ∨ (∃ x1 x2, l = [x1, x2]) ∨ (∃ x1 x2 x3, l = [x1, x2, x3]) ∨ (∃ x1 x2 x3 x4, l = [x1, x2, x3, x4])) (hS : StrsAre (l.map fun p => Value.str p.1 p.2) bs) (hn : bs.length ≤ 4) (ha : a.length ≤ 1000) (hz : 0 < a.length)
    (hb : ∀ b ∈ bs, b.length ≤ 1000 ∧ Txt.startswith b (Str.ofString "/") = false) :
    codeAny (model Challenge.rw_pd0082_01.row.prog w) (Ac 900 9000) (.call (.ref 142) ⟨.str a t :: l.map fun p => Value.str p.1 p.2, []⟩) (Gives s (fun v _ => ∃ u, v = .str (joinF a bs) u)) s := by
  w_top off
  obtain ⟨X, mean, mg, mb, T⟩ := id R
  (refine' enterR (vs := l.map fun p => Value.str p.1 p.2) (g₁ := fun D => some [(Str.ofString "a", Value.str a t), (Str.ofString "p", Value.ref D)]) (binds := fun D => [(Str.ofString "a", Value.str a t), (Str.ofString "p", Value.ref D)]) ?k1 ?k2 ?k6 ?k7 ?k8 ?kP ?kG ?kB ?_ ?c2 ?c3 ?c4 ?c5; (case k1 => assumption); (case k2 => assumption); (case k6 => k_is); (case k7 => k_is); (case k8 => decide); (case kP => (rcases hl with ⟨x1, rfl⟩ | ⟨x1, x2, rfl⟩ | ⟨x1, x2, x3, rfl⟩ | ⟨x1, x2, x3, x4, rfl⟩ <;> exact rfl)); (case kG => exact fun _ => rfl); (case kB => exact fun _ => locs rfl); (case c2 => exact rfl); (case c3 => exact rfl); (case c4 => exact rfl); (case c5 => decide))
  intro D L h₁ lt F N
  refine genQE ?_
  intro Q' hQ'
  replace F : Fr s.heap L h₁ (fun y => List.lookup y [(Str.ofString "p", .ref D), (Str.ofString "a", .str a t)]) := F
  (try dsimp only)
  repeat' (first | (k_unfold; (try dsimp only)) | ((with_reducible show wpAny _ _ (pyIter (Value.ref _)) _ _ _); first | with_reducible (refine Halt.out ?_) | (refine Halt.out ?_)) | ((with_reducible show wpAny _ _ (exec (Stmt.For (PySem.Expr.Name _ _) (PySem.Expr.Name (Str.ofString "p") _) _ _ _) _) _ _ _); first | with_reducible (((with_reducible rename Fr _ _ _ _ => lF'); (with_unfolding_all refine' For_invVF lF' ?k1 ?k2 ?_; (case k1 => exact rfl); (case k2 => exact rfl); k_whole))) | (((with_reducible rename Fr _ _ _ _ => lF'); (with_unfolding_all refine' For_invVF lF' ?k1 ?k2 ?_; (case k1 => exact rfl); (case k2 => exact rfl); k_whole)))) | ((with_reducible show wpAny _ _ (call (Value.ref _) _ _) _ _ _); first | with_reducible (((with_reducible rename Fr _ _ _ _ => lF'); (with_reducible rename News _ _ _ _ => lN'); (with_reducible rename Rdy _ _ => lR'); first | (refine use_fspath lR' lF' lN' (by rfl) (by exact Nat.le_of_ble_eq_true rfl) (by exact Nat.le_of_ble_eq_true rfl) ?_; intro h' tk' F' N') | (refine use_getsep lR' lF' lN' (by rfl) (by exact Nat.le_of_ble_eq_true rfl) (by exact Nat.le_of_ble_eq_true rfl) ?_; intro u' h' tk' F' N'))) | (((with_reducible rename Fr _ _ _ _ => lF'); (with_reducible rename News _ _ _ _ => lN'); (with_reducible rename Rdy _ _ => lR'); first | (refine use_fspath lR' lF' lN' (by rfl) (by exact Nat.le_of_ble_eq_true rfl) (by exact Nat.le_of_ble_eq_true rfl) ?_; intro h' tk' F' N') | (refine use_getsep lR' lF' lN' (by rfl) (by exact Nat.le_of_ble_eq_true rfl) (by exact Nat.le_of_ble_eq_true rfl) ?_; intro u' h' tk' F' N')))) | walk1 | (dsimp only; first | ((with_reducible show wpAny _ _ (pyIter (Value.ref _)) _ _ _); first | with_reducible (refine Halt.out ?_) | (refine Halt.out ?_)) | ((with_reducible show wpAny _ _ (exec (Stmt.For (PySem.Expr.Name _ _) (PySem.Expr.Name (Str.ofString "p") _) _ _ _) _) _ _ _); first | with_reducible (((with_reducible rename Fr _ _ _ _ => lF'); (with_unfolding_all refine' For_invVF lF' ?k1 ?k2 ?_; (case k1 => exact rfl); (case k2 => exact rfl); k_whole))) | (((with_reducible rename Fr _ _ _ _ => lF'); (with_unfolding_all refine' For_invVF lF' ?k1 ?k2 ?_; (case k1 => exact rfl); (case k2 => exact rfl); k_whole)))) | ((with_reducible show wpAny _ _ (call (Value.ref _) _ _) _ _ _); first | with_reducible (((with_reducible rename Fr _ _ _ _ => lF'); (with_reducible rename News _ _ _ _ => lN'); (with_reducible rename Rdy _ _ => lR'); first | (refine use_fspath lR' lF' lN' (by rfl) (by exact Nat.le_of_ble_eq_true rfl) (by exact Nat.le_of_ble_eq_true rfl) ?_; intro h' tk' F' N') | (refine use_getsep lR' lF' lN' (by rfl) (by exact Nat.le_of_ble_eq_true rfl) (by exact Nat.le_of_ble_eq_true rfl) ?_; intro u' h' tk' F' N'))) | (((with_reducible rename Fr _ _ _ _ => lF'); (with_reducible rename News _ _ _ _ => lN'); (with_reducible rename Rdy _ _ => lR'); first | (refine use_fspath lR' lF' lN' (by rfl) (by exact Nat.le_of_ble_eq_true rfl) (by exact Nat.le_of_ble_eq_true rfl) ?_; intro h' tk' F' N') | (refine use_getsep lR' lF' lN' (by rfl) (by exact Nat.le_of_ble_eq_true rfl) (by exact Nat.le_of_ble_eq_true rfl) ?_; intro u' h' tk' F' N')))) | walk1) | (leave1; walk_say "STEP leave1"; try dsimp only) | fail "no step")
  refine Halt.mk ?_
  (with_reducible rename Fr _ _ _ _ => kF)
  (with_reducible rename News _ _ _ _ => kN)
  have hlen : (l.map fun p => Value.str p.1 p.2).length = bs.length := strsAre_len' hS
  refine iter_tup (vs := l.map fun p => Value.str p.1 p.2) (ol := ({ cls := .type "tuple", data := .seq (l.map fun p => Value.str p.1 p.2).toArray } : Obj)) (news := (D, ({ cls := .type "tuple", data := .seq (l.map fun p => Value.str p.1 p.2).toArray } : Obj)) :: []) (JJ D a (l.map fun p => Value.str p.1 p.2) bs) rfl rfl ⟨_, rfl⟩ ?_ kF kN ?_ ?_ ?_
  · rintro i m news ⟨t1, t2, u, rfl, _⟩
    exact .head _
  · exact ⟨_, _, _, rfl, map_eq2 (by rfl) (by rfl), Nat.le_refl _, by show a.length ≤ _; omega⟩
  · rintro i v m news h tk It oI hv ⟨t1, t2, u, rfl, rfl, h1, h2⟩ hIt F₁ N₁
    clear kF kN
    obtain ⟨b, tb, rfl, hbi⟩ := strsAt hS hv
    obtain ⟨hbl, hbw⟩ := hb b (List.mem_of_getElem? hbi)
    have hi : i < bs.length := (List.getElem?_eq_some_iff.mp hbi).1
    have hDI : D ≠ It := hIt _ (.head _)
    obtain ⟨pth, hp⟩ : ∃ pth, joinF a (bs.take i) = pth := ⟨_, rfl⟩
    rw [hp] at F₁ h1 h2
    have hpl : pth.length ≤ 9000 := by omega
    have hpz : ((pth.length : Nat) : Int) ≠ 0 := by omega
    replace F₁ : Fr s.heap L h _ := F₁
    replace N₁ : News s.heap L h _ := N₁
    dsimp only at F₁
    repeat' (first | (k_unfold; (try dsimp only)) | ((with_reducible show wpAny _ _ (call (Value.ref _) _ _) _ _ _); first | with_reducible (((with_reducible rename Fr _ _ _ _ => lF'); (with_reducible rename News _ _ _ _ => lN'); (with_reducible rename Rdy _ _ => lR'); first | (refine use_fspath lR' lF' lN' (by rfl) (by exact Nat.le_of_ble_eq_true rfl) (by exact Nat.le_of_ble_eq_true rfl) ?_; intro h' tk' F' N') | (refine use_getsep lR' lF' lN' (by rfl) (by exact Nat.le_of_ble_eq_true rfl) (by exact Nat.le_of_ble_eq_true rfl) ?_; intro u' h' tk' F' N'))) | (((with_reducible rename Fr _ _ _ _ => lF'); (with_reducible rename News _ _ _ _ => lN'); (with_reducible rename Rdy _ _ => lR'); first | (refine use_fspath lR' lF' lN' (by rfl) (by exact Nat.le_of_ble_eq_true rfl) (by exact Nat.le_of_ble_eq_true rfl) ?_; intro h' tk' F' N') | (refine use_getsep lR' lF' lN' (by rfl) (by exact Nat.le_of_ble_eq_true rfl) (by exact Nat.le_of_ble_eq_true rfl) ?_; intro u' h' tk' F' N')))) | walk1 | (dsimp only; first | ((with_reducible show wpAny _ _ (call (Value.ref _) _ _) _ _ _); first | with_reducible (((with_reducible rename Fr _ _ _ _ => lF'); (with_reducible rename News _ _ _ _ => lN'); (with_reducible rename Rdy _ _ => lR'); first | (refine use_fspath lR' lF' lN' (by rfl) (by exact Nat.le_of_ble_eq_true rfl) (by exact Nat.le_of_ble_eq_true rfl) ?_; intro h' tk' F' N') | (refine use_getsep lR' lF' lN' (by rfl) (by exact Nat.le_of_ble_eq_true rfl) (by exact Nat.le_of_ble_eq_true rfl) ?_; intro u' h' tk' F' N'))) | (((with_reducible rename Fr _ _ _ _ => lF'); (with_reducible rename News _ _ _ _ => lN'); (with_reducible rename Rdy _ _ => lR'); first | (refine use_fspath lR' lF' lN' (by rfl) (by exact Nat.le_of_ble_eq_true rfl) (by exact Nat.le_of_ble_eq_true rfl) ?_; intro h' tk' F' N') | (refine use_getsep lR' lF' lN' (by rfl) (by exact Nat.le_of_ble_eq_true rfl) (by exact Nat.le_of_ble_eq_true rfl) ?_; intro u' h' tk' F' N')))) | walk1) | (leave1; walk_say "STEP leave1"; try dsimp only) | fail "no step")
    all_goals try (exfalso; omega)
    all_goals (with_reducible rename Fr _ _ _ _ => eF)
    all_goals (with_reducible rename News _ _ _ _ => eN)
    all_goals (show TurnEnd s.heap L (JJ D a (l.map fun p => Value.str p.1 p.2) bs (i + 1)) It oI _ _)
    · exact jj_end (p := pth ++ b) eF eN hDI hbi (by rw [hp]; unfold joinS; rw [if_pos (by first | with_reducible assumption | assumption)]) hbl (by rw [hp]; exact h1) (by rw [hp]; exact h2) (by rfl) (by rfl)
    · exact jj_end (p := pth ++ (Str.ofString "/" ++ b)) eF eN hDI hbi (by rw [hp]; unfold joinS; rw [if_neg (by simpa using (by assumption : Txt.endswith pth (Str.ofString "/") = false))]) hbl (by rw [hp]; exact h1) (by rw [hp]; exact h2) (by rfl) (by rfl)
  · rintro m news h tk ⟨t1, t2, u, rfl, rfl, h1, h2⟩ F₁ N₁
    clear kF kN
    have e : bs.take (l.map fun p => Value.str p.1 p.2).length = bs := by rw [hlen, List.take_length]
    rw [e] at F₁ h1 h2
    replace F₁ : Fr s.heap L h _ := F₁
    replace N₁ : News s.heap L h _ := N₁
    dsimp only
    repeat' (first | (k_unfold; (try dsimp only)) | ((with_reducible show wpAny _ _ (call (Value.ref _) _ _) _ _ _); first | with_reducible (((with_reducible rename Fr _ _ _ _ => lF'); (with_reducible rename News _ _ _ _ => lN'); (with_reducible rename Rdy _ _ => lR'); first | (refine use_fspath lR' lF' lN' (by rfl) (by exact Nat.le_of_ble_eq_true rfl) (by exact Nat.le_of_ble_eq_true rfl) ?_; intro h' tk' F' N') | (refine use_getsep lR' lF' lN' (by rfl) (by exact Nat.le_of_ble_eq_true rfl) (by exact Nat.le_of_ble_eq_true rfl) ?_; intro u' h' tk' F' N'))) | (((with_reducible rename Fr _ _ _ _ => lF'); (with_reducible rename News _ _ _ _ => lN'); (with_reducible rename Rdy _ _ => lR'); first | (refine use_fspath lR' lF' lN' (by rfl) (by exact Nat.le_of_ble_eq_true rfl) (by exact Nat.le_of_ble_eq_true rfl) ?_; intro h' tk' F' N') | (refine use_getsep lR' lF' lN' (by rfl) (by exact Nat.le_of_ble_eq_true rfl) (by exact Nat.le_of_ble_eq_true rfl) ?_; intro u' h' tk' F' N')))) | walk1 | (dsimp only; first | ((with_reducible show wpAny _ _ (call (Value.ref _) _ _) _ _ _); first | with_reducible (((with_reducible rename Fr _ _ _ _ => lF'); (with_reducible rename News _ _ _ _ => lN'); (with_reducible rename Rdy _ _ => lR'); first | (refine use_fspath lR' lF' lN' (by rfl) (by exact Nat.le_of_ble_eq_true rfl) (by exact Nat.le_of_ble_eq_true rfl) ?_; intro h' tk' F' N') | (refine use_getsep lR' lF' lN' (by rfl) (by exact Nat.le_of_ble_eq_true rfl) (by exact Nat.le_of_ble_eq_true rfl) ?_; intro u' h' tk' F' N'))) | (((with_reducible rename Fr _ _ _ _ => lF'); (with_reducible rename News _ _ _ _ => lN'); (with_reducible rename Rdy _ _ => lR'); first | (refine use_fspath lR' lF' lN' (by rfl) (by exact Nat.le_of_ble_eq_true rfl) (by exact Nat.le_of_ble_eq_true rfl) ?_; intro h' tk' F' N') | (refine use_getsep lR' lF' lN' (by rfl) (by exact Nat.le_of_ble_eq_true rfl) (by exact Nat.le_of_ble_eq_true rfl) ?_; intro u' h' tk' F' N')))) | walk1) | (leave1; walk_say "STEP leave1"; try dsimp only) | fail "no step")
    (with_reducible rename Fr _ _ _ _ => eF)
    (try dsimp only)
    exact hQ' _ _ (givesI eF ⟨_, rfl⟩)
theorem len_pos {p : Str} (h : ((p.length : Nat) : Int) ≠ 0) : 0 < p.length := by omega
theorem joinS_no {p b : Str} (h : Txt.endswith p (Str.ofString "/") = false) : joinS p b = p ++ (Str.ofString "/" ++ b) := by unfold joinS; rw [h]; rfl
theorem joinS_root (b : Str) : joinS (Str.ofString "/") b = Str.ofString "/" ++ b := by
  unfold joinS
  rw [if_pos (by decide +kernel)]
theorem part_dot : (Str.ofString ".").length ≤ 1000 ∧ Txt.startswith (Str.ofString ".") (Str.ofString "/") = false := ⟨by decide +kernel, by decide +kernel⟩
theorem dot_end : Str.ofString "/" ++ Str.ofString "." = Str.ofString "/." := by decide +kernel
theorem join1_spec (w : World) (s : Shared) (n0 n1 : Str) (t u : Tok) (R : Rdy w s.heap) (l0 : n0.length ≤ 1000) (l1 : n1.length ≤ 1000) (wn1 : Txt.startswith n1 (Str.ofString "/") = false) (e1 : Txt.endswith (n0) (Str.ofString "/") = false) (z1 : (((n0).length : Nat) : Int) ≠ 0) :
    codeAny (model Challenge.rw_pd0082_01.row.prog w) (Ac 900 9000) (.call (.ref 142) ⟨[.str n0 t, .str n1 u], []⟩) (Gives s (fun v _ => ∃ u, v = .str (n0 ++ (Str.ofString "/" ++ n1)) u)) s := by
  have h := join_spec w s n0 [(n1, u)] [n1] t R (.inl ⟨_, rfl⟩) (.cons _ _ .nil) (Nat.le_of_ble_eq_true rfl) l0 (len_pos z1) (by
    intro b hb
    simp only [List.mem_cons, List.not_mem_nil, or_false] at hb
    rcases hb with rfl
    · exact ⟨l1, wn1⟩)
  simp only [joinF, List.foldl_cons, List.foldl_nil, joinS_no e1] at h
  exact h
theorem joinA_spec (w : World) (s : Shared) (n0 : Str) (t u v : Tok) (R : Rdy w s.heap) (l0 : n0.length ≤ 1000) (wn0 : Txt.startswith n0 (Str.ofString "/") = false) (e1 : Txt.endswith (Str.ofString "/" ++ n0) (Str.ofString "/") = false) (z1 : (((Str.ofString "/" ++ n0).length : Nat) : Int) ≠ 0) :
    codeAny (model Challenge.rw_pd0082_01.row.prog w) (Ac 900 9000) (.call (.ref 142) ⟨[.str (Str.ofString "/") t, .str n0 u, .str (Str.ofString ".") v], []⟩) (Gives s (fun v _ => ∃ u, v = .str (Str.ofString "/" ++ n0 ++ Str.ofString "/.") u)) s := by
  have h := join_spec w s (Str.ofString "/") [(n0, u), (Str.ofString ".", v)] [n0, Str.ofString "."] t R (.inr (.inl ⟨_, _, rfl⟩)) (.cons _ _ (.cons _ _ .nil)) (Nat.le_of_ble_eq_true rfl) (by decide +kernel) (by decide +kernel) (by
    intro b hb
    simp only [List.mem_cons, List.not_mem_nil, or_false] at hb
    rcases hb with rfl | rfl
    · exact ⟨l0, wn0⟩
    · exact part_dot)
  simp only [joinF, List.foldl_cons, List.foldl_nil, joinS_root, joinS_no e1, dot_end] at h
  exact h
theorem joinB_spec (w : World) (s : Shared) (n0 n1 : Str) (t u v x : Tok) (R : Rdy w s.heap) (l0 : n0.length ≤ 1000) (l1 : n1.length ≤ 1000) (wn0 : Txt.startswith n0 (Str.ofString "/") = false) (wn1 : Txt.startswith n1 (Str.ofString "/") = false) (e1 : Txt.endswith (Str.ofString "/" ++ n0) (Str.ofString "/") = false) (z1 : (((Str.ofString "/" ++ n0).length : Nat) : Int) ≠ 0) (e2 : Txt.endswith (Str.ofString "/" ++ n0 ++ Str.ofString "/.") (Str.ofString "/") = false) (z2 : (((Str.ofString "/" ++ n0 ++ Str.ofString "/.").length : Nat) : Int) ≠ 0) :
    codeAny (model Challenge.rw_pd0082_01.row.prog w) (Ac 900 9000) (.call (.ref 142) ⟨[.str (Str.ofString "/") t, .str n0 u, .str (Str.ofString ".") v, .str n1 x], []⟩) (Gives s (fun v _ => ∃ u, v = .str (Str.ofString "/" ++ n0 ++ Str.ofString "/." ++ (Str.ofString "/" ++ n1)) u)) s := by
  have h := join_spec w s (Str.ofString "/") [(n0, u), (Str.ofString ".", v), (n1, x)] [n0, Str.ofString ".", n1] t R (.inr (.inr (.inl ⟨_, _, _, rfl⟩))) (.cons _ _ (.cons _ _ (.cons _ _ .nil))) (Nat.le_of_ble_eq_true rfl) (by decide +kernel) (by decide +kernel) (by
    intro b hb
    simp only [List.mem_cons, List.not_mem_nil, or_false] at hb
    rcases hb with rfl | rfl | rfl
    · exact ⟨l0, wn0⟩
    · exact part_dot
    · exact ⟨l1, wn1⟩)
  simp only [joinF, List.foldl_cons, List.foldl_nil, joinS_root, joinS_no e1, dot_end, joinS_no e2] at h
  exact h
theorem joinC_spec (w : World) (s : Shared) (n0 n1 n2 : Str) (t u v x y : Tok) (R : Rdy w s.heap) (l0 : n0.length ≤ 1000) (l1 : n1.length ≤ 1000) (l2 : n2.length ≤ 1000) (wn0 : Txt.startswith n0 (Str.ofString "/") = false) (wn1 : Txt.startswith n1 (Str.ofString "/") = false) (wn2 : Txt.startswith n2 (Str.ofString "/") = false) (e1 : Txt.endswith (Str.ofString "/" ++ n0) (Str.ofString "/") = false) (z1 : (((Str.ofString "/" ++ n0).length : Nat) : Int) ≠ 0) (e2 : Txt.endswith (Str.ofString "/" ++ n0 ++ Str.ofString "/.") (Str.ofString "/") = false) (z2 : (((Str.ofString "/" ++ n0 ++ Str.ofString "/.").length : Nat) : Int) ≠ 0) (e3 : Txt.endswith (Str.ofString "/" ++ n0 ++ Str.ofString "/." ++ (Str.ofString "/" ++ n1)) (Str.ofString "/") = false) (z3 : (((Str.ofString "/" ++ n0 ++ Str.ofString "/." ++ (Str.ofString "/" ++ n1)).length : Nat) : Int) ≠ 0) :
    codeAny (model Challenge.rw_pd0082_01.row.prog w) (Ac 900 9000) (.call (.ref 142) ⟨[.str (Str.ofString "/") t, .str n0 u, .str (Str.ofString ".") v, .str n1 x, .str n2 y], []⟩) (Gives s (fun v _ => ∃ u, v = .str (Str.ofString "/" ++ n0 ++ Str.ofString "/." ++ (Str.ofString "/" ++ n1) ++ (Str.ofString "/" ++ n2)) u)) s := by
  have h := join_spec w s (Str.ofString "/") [(n0, u), (Str.ofString ".", v), (n1, x), (n2, y)] [n0, Str.ofString ".", n1, n2] t R (.inr (.inr (.inr ⟨_, _, _, _, rfl⟩))) (.cons _ _ (.cons _ _ (.cons _ _ (.cons _ _ .nil)))) (Nat.le_of_ble_eq_true rfl) (by decide +kernel) (by decide +kernel) (by
    intro b hb
    simp only [List.mem_cons, List.not_mem_nil, or_false] at hb
    rcases hb with rfl | rfl | rfl | rfl
    · exact ⟨l0, wn0⟩
    · exact part_dot
    · exact ⟨l1, wn1⟩
    · exact ⟨l2, wn2⟩)
  simp only [joinF, List.foldl_cons, List.foldl_nil, joinS_root, joinS_no e1, dot_end, joinS_no e2, joinS_no e3] at h
  exact h
end Mine
namespace Mine
open PySem.Spec PySem.Calls PySem.W.X
noncomputable def IsName (n : Str) : Prop := n = Str.ofString "a" ∨ n = Str.ofString "a-" ∨ n = Str.ofString "b"
noncomputable def pathF (row : List Str) : Str := Str.ofString "/" ++ Txt.join (Str.ofString "/") row
theorem isName_menu (i : Int) : IsName (menuF i) := by
  unfold menuF IsName
  by_cases h0 : i = 0
  · simp [h0]
  · by_cases h1 : i = 1
    · simp [h1]
    · simp [h0, h1]
noncomputable def normB (p r : Str) : Bool := decide (p.length ≤ 1000) && decide ((p.length : Int) ≠ 0) && ((Txt.slice p none (some 1) != Str.ofString "/") == false) && ((Txt.slice p (some 1) (some 2) != Str.ofString "/") == true) && ((compsOf p).all fun c => c != Str.ofString "..") &&
  decide ((Txt.join (Str.ofString "/") (normF p)).length ≤ 1000) && decide ((compsOf p).length ≤ 1000) && decide (((normF p).map (·.length)).sum + (normF p).length ≤ 1048576) && (Str.ofString "/" ++ Txt.join (Str.ofString "/") (normF p) == r) && decide (r.length ≤ 1000)
structure NormOk (p r : Str) : Prop where
  hp : p.length ≤ 1000
  h0 : (p.length : Int) ≠ 0
  h1 : (Txt.slice p none (some 1) != Str.ofString "/") = false
  h2 : (Txt.slice p (some 1) (some 2) != Str.ofString "/") = true
  h3 : ∀ c ∈ compsOf p, (c != Str.ofString "..") = true
  h5 : (Txt.join (Str.ofString "/") (normF p)).length ≤ 1000
  h6 : (compsOf p).length ≤ 1000
  h4 : ((normF p).map (·.length)).sum + (normF p).length ≤ 1048576
  e : Str.ofString "/" ++ Txt.join (Str.ofString "/") (normF p) = r
  hr : r.length ≤ 1000
theorem NormOk.of {p r : Str} (h : normB p r = true) : NormOk p r := by
  simp only [normB, Bool.and_eq_true, decide_eq_true_eq, beq_iff_eq, List.all_eq_true] at h
  obtain ⟨⟨⟨⟨⟨⟨⟨⟨⟨a, b⟩, c⟩, d⟩, e⟩, f⟩, g⟩, i⟩, j⟩, k⟩ := h
  exact ⟨a, b, c, d, e, f, g, i, j, k⟩
noncomputable def jA (n0 : Str) : Str := Str.ofString "/" ++ n0 ++ Str.ofString "/."
noncomputable def jB (n0 n1 : Str) : Str := Str.ofString "/" ++ n0 ++ Str.ofString "/." ++ (Str.ofString "/" ++ n1)
noncomputable def jC (n0 n1 n2 : Str) : Str := Str.ofString "/" ++ n0 ++ Str.ofString "/." ++ (Str.ofString "/" ++ n1) ++ (Str.ofString "/" ++ n2)
theorem normA_ok {n0 : Str} (h : IsName n0) : NormOk (jA n0) (pathF [n0]) := by
  rcases h with rfl | rfl | rfl <;> exact NormOk.of (by decide +kernel)
theorem normB_ok {n0 n1 : Str} (h : IsName n0) (h1 : IsName n1) : NormOk (jB n0 n1) (pathF [n0, n1]) := by
  rcases h with rfl | rfl | rfl <;> rcases h1 with rfl | rfl | rfl <;> exact NormOk.of (by decide +kernel)
theorem normC_ok {n0 n1 n2 : Str} (h : IsName n0) (h1 : IsName n1) (h2 : IsName n2) : NormOk (jC n0 n1 n2) (pathF [n0, n1, n2]) := by
  rcases h with rfl | rfl | rfl <;> rcases h1 with rfl | rfl | rfl <;> rcases h2 with rfl | rfl | rfl <;> exact NormOk.of (by decide +kernel)
structure PartOk (n : Str) : Prop where
  l : n.length ≤ 1000
  w : Txt.startswith n (Str.ofString "/") = false
theorem partOk {n : Str} (h : IsName n) : PartOk n := by
  rcases h with rfl | rfl | rfl <;> exact ⟨by decide +kernel, by decide +kernel⟩
structure PreOk (p : Str) : Prop where
  e : Txt.endswith p (Str.ofString "/") = false
  z : ((p.length : Nat) : Int) ≠ 0
theorem preOk0 {n0 : Str} (h : IsName n0) : PreOk (Str.ofString "/" ++ n0) := by
  rcases h with rfl | rfl | rfl <;> exact ⟨by decide +kernel, by decide +kernel⟩
theorem preOkA {n0 : Str} (h : IsName n0) : PreOk (Str.ofString "/" ++ n0 ++ Str.ofString "/.") := by
  rcases h with rfl | rfl | rfl <;> exact ⟨by decide +kernel, by decide +kernel⟩
theorem preOkB {n0 n1 : Str} (h : IsName n0) (h1 : IsName n1) : PreOk (Str.ofString "/" ++ n0 ++ Str.ofString "/." ++ (Str.ofString "/" ++ n1)) := by
  rcases h with rfl | rfl | rfl <;> rcases h1 with rfl | rfl | rfl <;> exact ⟨by decide +kernel, by decide +kernel⟩
theorem strs1 {vs : Array Value} {a : Str} (h : StrsAre vs.toList [a]) : ∃ t, vs = #[.str a t] := by
  obtain ⟨l⟩ := vs
  cases h with
  | cons y t h => cases h; exact ⟨t, rfl⟩
theorem strs2 {vs : Array Value} {a b : Str} (h : StrsAre vs.toList [a, b]) : ∃ t u, vs = #[.str a t, .str b u] := by
  obtain ⟨l⟩ := vs
  cases h with
  | cons y t h => cases h with
    | cons y u h => cases h; exact ⟨t, u, rfl⟩
theorem strs3 {vs : Array Value} {a b c : Str} (h : StrsAre vs.toList [a, b, c]) : ∃ t u v, vs = #[.str a t, .str b u, .str c v] := by
  obtain ⟨l⟩ := vs
  cases h with
  | cons y t h => cases h with
    | cons y u h => cases h with
      | cons y v h => cases h; exact ⟨t, u, v, rfl⟩
theorem namesF_cases (x : Int) : (∃ a, IsName a ∧ namesF x = [a]) ∨ (∃ a b, IsName a ∧ IsName b ∧ namesF x = [a, b]) ∨ (∃ a b c, IsName a ∧ IsName b ∧ IsName c ∧ namesF x = [a, b, c]) := by
  have h := fmod3 x
  have hk : x.fmod 3 = 0 ∨ x.fmod 3 = 1 ∨ x.fmod 3 = 2 := by omega
  unfold namesF
  rcases hk with e | e | e <;> rw [e]
  · exact .inl ⟨nameAt x 0, isName_menu _, rfl⟩
  · exact .inr (.inl ⟨nameAt x 0, nameAt x 1, isName_menu _, isName_menu _, rfl⟩)
  · exact .inr (.inr ⟨nameAt x 0, nameAt x 1, nameAt x 2, isName_menu _, isName_menu _, isName_menu _, rfl⟩)
section
variable {w : World} {A : Around} {s : Shared} {h₀ : Heap} {L : Addr} {m : Str → Option Value} {news : List (Addr × Obj)} {Q E : Value → Shared → Prop} {n0 n1 n2 p r : Str} {t u v x y : Tok}
theorem use_names {i : Int} (R : Rdy w h₀) (F : Fr h₀ L s.heap m) (N : News h₀ L s.heap news) (hh : A.handled = none) (hd : A.depth ≤ 900) (hu : A.units ≤ 9000)
    (c1 : ∀ a t D n h' tk, IsName a → namesF i = [a] → StrsAre (#[Value.str a t] : Array Value).toList (namesF i) → Fr h₀ L h' m → News h₀ L h' ((D, W.listOf #[.str a t] n) :: news) → (∀ p ∈ news, p.1 ≠ D) → Q (.ref D) { s with heap := h', toks := tk })
    (c2 : ∀ a b t u D n h' tk, IsName a → IsName b → namesF i = [a, b] → StrsAre (#[Value.str a t, .str b u] : Array Value).toList (namesF i) → Fr h₀ L h' m → News h₀ L h' ((D, W.listOf #[.str a t, .str b u] n) :: news) → (∀ p ∈ news, p.1 ≠ D) → Q (.ref D) { s with heap := h', toks := tk })
    (c3 : ∀ a b c t u v D n h' tk, IsName a → IsName b → IsName c → namesF i = [a, b, c] → StrsAre (#[Value.str a t, .str b u, .str c v] : Array Value).toList (namesF i) → Fr h₀ L h' m → News h₀ L h' ((D, W.listOf #[.str a t, .str b u, .str c v] n) :: news) → (∀ p ∈ news, p.1 ≠ D) → Q (.ref D) { s with heap := h', toks := tk }) :
    wpAny (model Challenge.rw_pd0082_01.row.prog w) A (call (.ref 173) [.int i t]) Q E s :=
  use (names_spec w s i t (R.fr F)) F N hh hd hu (fun v h' tk e g F' N' => by
    obtain ⟨D, vs, n, rfl, hD, ho, hS⟩ := e
    obtain ⟨a1, b1⟩ := news_add F N g hD ho
    rcases namesF_cases i with ⟨a, ha, e⟩ | ⟨a, b, ha, hb, e⟩ | ⟨a, b, c, ha, hb, hc, e⟩ <;> rw [e] at hS
    · obtain ⟨t, rfl⟩ := strs1 hS
      exact c1 a t D n h' tk ha e (e ▸ hS) F' a1 b1
    · obtain ⟨t, u, rfl⟩ := strs2 hS
      exact c2 a b t u D n h' tk ha hb e (e ▸ hS) F' a1 b1
    · obtain ⟨t, u, v, rfl⟩ := strs3 hS
      exact c3 a b c t u v D n h' tk ha hb hc e (e ▸ hS) F' a1 b1)
theorem use_joinA (h0 : IsName n0) (R : Rdy w h₀) (F : Fr h₀ L s.heap m) (N : News h₀ L s.heap news) (hh : A.handled = none) (hd : A.depth ≤ 900) (hu : A.units ≤ 9000)
    (k : ∀ u h' tk, Fr h₀ L h' m → News h₀ L h' news → Q (.str (jA n0) u) { s with heap := h', toks := tk }) :
    wpAny (model Challenge.rw_pd0082_01.row.prog w) A (call (.ref 142) [.str (Str.ofString "/") t, .str n0 u, .str (Str.ofString ".") v]) Q E s :=
  use (joinA_spec w s n0 t u v (R.fr F) (partOk h0).l (partOk h0).w (preOk0 h0).e (preOk0 h0).z) F N hh hd hu (fun v h' tk e _ F' N' => by obtain ⟨u, rfl⟩ := e; exact k u h' tk F' N')
theorem use_joinB (h0 : IsName n0) (h1 : IsName n1) (R : Rdy w h₀) (F : Fr h₀ L s.heap m) (N : News h₀ L s.heap news) (hh : A.handled = none) (hd : A.depth ≤ 900) (hu : A.units ≤ 9000)
    (k : ∀ u h' tk, Fr h₀ L h' m → News h₀ L h' news → Q (.str (jB n0 n1) u) { s with heap := h', toks := tk }) :
    wpAny (model Challenge.rw_pd0082_01.row.prog w) A (call (.ref 142) [.str (Str.ofString "/") t, .str n0 u, .str (Str.ofString ".") v, .str n1 x]) Q E s :=
  use (joinB_spec w s n0 n1 t u v x (R.fr F) (partOk h0).l (partOk h1).l (partOk h0).w (partOk h1).w (preOk0 h0).e (preOk0 h0).z (preOkA h0).e (preOkA h0).z) F N hh hd hu (fun v h' tk e _ F' N' => by obtain ⟨u, rfl⟩ := e; exact k u h' tk F' N')
theorem use_joinC (h0 : IsName n0) (h1 : IsName n1) (h2 : IsName n2) (R : Rdy w h₀) (F : Fr h₀ L s.heap m) (N : News h₀ L s.heap news) (hh : A.handled = none) (hd : A.depth ≤ 900) (hu : A.units ≤ 9000)
    (k : ∀ u h' tk, Fr h₀ L h' m → News h₀ L h' news → Q (.str (jC n0 n1 n2) u) { s with heap := h', toks := tk }) :
    wpAny (model Challenge.rw_pd0082_01.row.prog w) A (call (.ref 142) [.str (Str.ofString "/") t, .str n0 u, .str (Str.ofString ".") v, .str n1 x, .str n2 y]) Q E s :=
  use (joinC_spec w s n0 n1 n2 t u v x y (R.fr F) (partOk h0).l (partOk h1).l (partOk h2).l (partOk h0).w (partOk h1).w (partOk h2).w (preOk0 h0).e (preOk0 h0).z (preOkA h0).e (preOkA h0).z (preOkB h0 h1).e (preOkB h0 h1).z) F N hh hd hu (fun v h' tk e _ F' N' => by obtain ⟨u, rfl⟩ := e; exact k u h' tk F' N')
theorem use_norm (ok : NormOk p r) (R : Rdy w h₀) (F : Fr h₀ L s.heap m) (N : News h₀ L s.heap news) (hh : A.handled = none) (hd : A.depth ≤ 850) (hu : A.units ≤ 8500)
    (k : ∀ u h' tk, r.length ≤ 1000 → Fr h₀ L h' m → News h₀ L h' news → Q (.str r u) { s with heap := h', toks := tk }) :
    wpAny (model Challenge.rw_pd0082_01.row.prog w) A (call (.ref 163) [.str p t]) Q E s :=
  use (norm_spec w s p t (R.fr F) ok.hp ok.h0 ok.h1 ok.h2 ok.h3 ok.h5 ok.h6 ok.h4) F N hh hd hu (fun v h' tk e _ F' N' => by obtain ⟨u, rfl⟩ := e; rw [ok.e]; exact k u h' tk ok.hr F' N')
end
end Mine
namespace Mine
open PySem.Spec PySem.Calls PySem.W.X
section
variable {w : World} {A : Around} {s : Shared} {h₀ : Heap} {L S : Addr} {m : Str → Option Value} {news : List (Addr × Obj)} {g : Obj → List (Addr × Obj)} {Q E : Value → Shared → Prop} {p : Str} {t : Tok} {vs : Array Value} {n : Nat} {ps : List Str}
theorem use_ins (R : Rdy w h₀) (F : Fr h₀ L s.heap m) (N : News h₀ L s.heap news) (hh : A.handled = none) (hd : A.depth ≤ 800) (hu : A.units ≤ 8000) (U : UpdF S (W.listOf vs n) news g) (hps : StrsAre vs.toList ps) (hn : vs.size ≤ 1000) (hpl : ∀ p ∈ ps, p.length ≤ 1000) (hp : p.length ≤ 1000)
    (k : ∀ vs' n' h' tk, StrsAre vs'.toList (insAt ps (posR ps (keyF p)) p) → Fr h₀ L h' m → News h₀ L h' (g (W.listOf vs' n')) → Q .none { s with heap := h', toks := tk }) :
    wpAny (model Challenge.rw_pd0082_01.row.prog w) A (call (.ref 30) [.ref S, .str p t] [(Str.ofString "key", .ref 178)]) Q E s := by
  obtain ⟨pre, post, rfl, hg, a, b⟩ := U.split
  have hS := N (S, W.listOf vs n) (List.mem_append.mpr (.inr (.head _)))
  have hS0 : h₀.get? S = none := hS.2.2
  have hSL : S ≠ L := hS.2.1
  have R' : Rdy w (hideAll s.heap [S]) := R.grows fun b o e => hideAll_get _ (F.keep b o e) (fun hm => by rw [List.mem_singleton.mp hm, hS0] at e; cases e)
  refine wpAny_call (codeAny_mono (weaken (ins_spec w s S p t vs n ps R' hS.1 hps hn hpl hp) hh hd hu) ?_)
  rintro r s' ⟨h', tk, o, rfl, rfl, hk, ho, vs', n', rfl, hS'⟩
  refine k vs' n' h' tk hS' ⟨F.ns.at' fun o e => hk L o (Ne.symm hSL) e, fun b o e => hk b o (fun q => by rw [q, hS0] at e; cases e) (F.keep b o e), F.above⟩ ?_
  rw [hg]
  intro q hq
  rcases List.mem_append.mp hq with hq | hq
  · exact ⟨hk _ _ (a q hq) (N q (List.mem_append.mpr (.inl hq))).1, (N q (List.mem_append.mpr (.inl hq))).2⟩
  · rcases List.mem_cons.mp hq with rfl | hq
    · exact ⟨ho, hSL, hS0⟩
    · exact ⟨hk _ _ (b q hq) (N q (List.mem_append.mpr (.inr (.tail _ hq)))).1, (N q (List.mem_append.mpr (.inr (.tail _ hq)))).2⟩
theorem cmp_le_N {prog : Program} {l b : Addr} {items items2 : Array Value} {n2 : Nat} {xs ys : List Str} (hu : A.units < cLine) (N : News h₀ L s.heap news) (hl : (l, W.listOf items n) ∈ news) (hb : (b, W.listOf items2 n2) ∈ news) (hxs : StrsAre items.toList xs) (hys : StrsAre items2.toList ys) (h : Q (.bool (cmpL .LtE xs ys)) s) :
    wpAny (model prog w) A (compareOp .LtE (.ref l) (.ref b)) Q E s := cmp_ofLtE (cmp_le hu (News.get N hl) (News.get N hb) hxs hys h)
theorem use_lenV {prog : Program} {l : Addr} (N : News h₀ L s.heap news) (hl : (l, W.listOf vs n) ∈ news) {k : Nat} (hk : vs.size = k) (hn : k ≤ 1000) (h : ∀ t, Q (.int (k : Int) t) { s with toks := s.toks + 1 + 1 }) :
    wpAny (model prog w) A (call (.builtin "len") [.ref l]) Q E s := by
  refine len_list ⟨_, News.get N hl, rfl, n, rfl⟩ (by omega) ?_
  rw [hk]
  exact h _
end
end Mine
namespace Mine
open PySem.Spec PySem.Calls PySem.W.X
noncomputable def stepS (ps : List Str) (x : Int) : List Str := insAt ps (posR ps (keyF (pathF (namesF x)))) (pathF (namesF x))
noncomputable def leCount (rs : List (List Str)) (ns : List Str) : Nat := (rs.filter fun r => cmpL .LtE r ns).length
noncomputable def stepR (rs : List (List Str)) (x : Int) : List (List Str) := rs.take (leCount rs (namesF x)) ++ [namesF x] ++ rs.drop (leCount rs (namesF x))
noncomputable def shelfF (xs : List Int) : List Str := xs.foldl stepS []
noncomputable def rowsF (xs : List Int) : List (List Str) := xs.foldl stepR []
theorem fold_take {α β : Type} (f : β → α → β) (b : β) (l : List α) (i : Nat) (x : α) (h : l[i]? = some x) : (l.take (i + 1)).foldl f b = f ((l.take i).foldl f b) x := by
  rw [List.take_add_one, h, List.foldl_append]
  rfl
noncomputable def LJ (L S D1 : Addr) (ws : List Value) (nums : List Int) (i : Nat) (m : Str → Option Value) (news : List (Addr × Obj)) : Prop :=
  ∃ (vs : Array Value) (n : Nat) (Rr : Addr) (rvs : Array Value) (nr : Nat) (o1 o2 o3 : Obj) (v1 : Option Value) (own : List (Addr × Obj)) (u : Str → Option Value),
    news = (S, W.listOf vs n) :: (Rr, W.listOf rvs nr) :: (D1, W.listOf ws.toArray 0) :: (L + 1 + 1 + 1, o1) :: (L + 1 + 1, o2) :: (L + 1, o3) :: own ∧
    m = (fun z => if z = Str.ofString "numbers" then some (.ref D1) else if z = Str.ofString "shelf" then some (.ref S) else if z = Str.ofString "rows" then some (.ref Rr) else u z) ∧
    o1.data = .cell none ∧ o2.data = .cell none ∧ o3.data = .cell v1 ∧
    StrsAre vs.toList (shelfF (nums.take i)) ∧ RowsIn own rvs.toList (rowsF (nums.take i)) ∧ OwnOff own [S, L + 1 + 1 + 1, L + 1 + 1, L + 1] ∧ @Ne Nat Rr S ∧ @LT.lt Nat _ (L + 1 + 1 + 1) Rr ∧
    (∀ p ∈ shelfF (nums.take i), p.length ≤ 1000) ∧ (shelfF (nums.take i)).length = i ∧ (rowsF (nums.take i)).length = i
theorem map_eq {m : Str → Option Value} {a b c : Value} (h1 : m (Str.ofString "numbers") = some a) (h2 : m (Str.ofString "shelf") = some b) (h3 : m (Str.ofString "rows") = some c) :
    m = fun z => if z = Str.ofString "numbers" then some a else if z = Str.ofString "shelf" then some b else if z = Str.ofString "rows" then some c else m z := by
  funext z
  by_cases z1 : z = Str.ofString "numbers"
  · rw [if_pos z1, z1, h1]
  · rw [if_neg z1]
    by_cases z2 : z = Str.ofString "shelf"
    · rw [if_pos z2, z2, h2]
    · rw [if_neg z2]
      by_cases z3 : z = Str.ofString "rows"
      · rw [if_pos z3, z3, h3]
      · rw [if_neg z3]
section
variable {prog : Program} {w : World} {A : Around} {E : Value → Shared → Prop} {h₀ : Heap} {L : Addr} {m : Str → Option Value} {env : Env}
theorem FltSrc.rowsLe {elt test : PySem.Expr} {x : Str} {scope : Scope} {cl : List (Str × Addr)} {s₁ : Shared} {Q : Value → Shared → Prop} {news own : List (Addr × Obj)} {ax : Addr} {its nvs : Array Value} {n : Nat} {rs : List (List Str)} {ys : List Str} (hys : StrsAre nvs.toList ys)
    (hh : A.handled = none) (F : Fr h₀ L s₁.heap m) (N : News h₀ L s₁.heap news) (hS : (ax, W.listOf its n) ∈ news) (hits : RowsIn own its.toList rs) (hsub : ∀ p ∈ own, p ∈ news) (hsz : rs.length ≤ 1000)
    (turn : ∀ a ws nr r I oI C oC D oD m₂ h tk (E' : Value → Shared → Prop), StrsAre ws.toList r → LCg.NsObj oC m₂ → m₂ x = some (.ref a) → Fr h₀ L h m → News h₀ L h ((a, W.listOf ws nr) :: (I, oI) :: (C, oC) :: (D, oD) :: news) → LCg.Off3 I C D news → ((@Ne Nat I C) ∧ (@Ne Nat I D) ∧ (@Ne Nat C D)) →
      wpAny (model prog w) A (isTrue test (compEnvC scope cl C env) (eval test (compEnvC scope cl C env))) (fun ok s₃ =>
        if ok = true then wpAny (model prog w) A (eval elt (compEnvC scope cl C env)) (LCg.CompEnd h₀ L m { s₁ with heap := h, toks := tk } I oI C oC D oD (fun _ => True) (RowEl (fun r => cmpL .LtE r ys) news r)) E' s₃
        else LCg.CompEnd h₀ L m { s₁ with heap := h, toks := tk } I oI C oC D oD (fun _ => True) (RowNo (fun r => cmpL .LtE r ys) news r) .none s₃) E' { s₁ with heap := h, toks := tk })
    (fin : ∀ D h tk vs n, Fr h₀ L h m → News h₀ L h ((D, W.listOf vs n) :: news) → LCg.Off1 D news → vs.size = leCount rs ys → leCount rs ys ≤ 1000 → Q (.ref D) { s₁ with heap := h, toks := tk }) :
    FltSrc prog w A h₀ L m env elt x [test] scope cl Q (.ref ax) s₁ :=
  FltSrc.rows (fun r => cmpL .LtE r ys) hh F N hS hits hsub (by have := hits.len; have e : its.toList.length = its.size := (by simp); omega) turn fun D h tk vs n F' N' o1 _ hk => fin D h tk vs n F' N' o1 hk (Nat.le_trans (List.length_filter_le _ _) hsz)
end
end Mine
namespace Mine
open PySem.Spec PySem.Calls PySem.W.X
section
variable {prog : Program} {w : World} {A : Around} {E : Value → Shared → Prop} {s : Shared} {h₀ : Heap} {L l a b : Addr} {m : Str → Option Value} {news : List (Addr × Obj)} {value slice : PySem.Expr} {its its2 : Array Value} {n n2 k : Nat} {u : Tok} {Q : Value → Shared → Prop}
theorem lineOf {k : Nat} (h : k ≤ 1000) : k ≤ sizeLine := by rw [sizeLine_eq]; omega
theorem use_sliceUp (F : Fr h₀ L s.heap m) (N : News h₀ L s.heap news) (hl : (l, W.listOf its n) ∈ news) (hz : its.size ≤ 1000)
    (h : ∀ D h', Fr h₀ L h' m → News h₀ L h' ((D, listOf (its.toList.take k).toArray 0) :: news) → (∀ p ∈ news, p.1 < D) → Q (.ref D) { s with heap := h' })
    (hs : subscripted slice false (.ref l) (.ref s.heap.objs.size) = operate [.ref s.heap.objs.size, .ref l] (getItem (.ref l) (.ref s.heap.objs.size))) (ht : ∀ r, letTemporaryGo value (.ref l) r = pure ()) :
    wpAny (model prog w) A (subscriptTail value slice (.ref l) (.ref s.heap.objs.size)) Q E { s with heap := s.heap.push { cls := .type "slice", data := .fields #[.none, .int (k : Int) u, .none] } } := by
  refine kmk_slice F N ⟨_, News.get N hl, rfl, n, rfl⟩ .none (.int _ _) (fun D h' F' N' l1 => ?_) hs ht (lineOf hz)
  rw [pick_upto _ (by omega)] at N'
  exact h D h' F' N' l1
theorem use_sliceFrom (F : Fr h₀ L s.heap m) (N : News h₀ L s.heap news) (hl : (l, W.listOf its n) ∈ news) (hz : its.size ≤ 1000)
    (h : ∀ D h', Fr h₀ L h' m → News h₀ L h' ((D, listOf (its.toList.drop k).toArray 0) :: news) → (∀ p ∈ news, p.1 < D) → Q (.ref D) { s with heap := h' })
    (hs : subscripted slice false (.ref l) (.ref s.heap.objs.size) = operate [.ref s.heap.objs.size, .ref l] (getItem (.ref l) (.ref s.heap.objs.size))) (ht : ∀ r, letTemporaryGo value (.ref l) r = pure ()) :
    wpAny (model prog w) A (subscriptTail value slice (.ref l) (.ref s.heap.objs.size)) Q E { s with heap := s.heap.push { cls := .type "slice", data := .fields #[.int (k : Int) u, .none, .none] } } := by
  refine kmk_slice F N ⟨_, News.get N hl, rfl, n, rfl⟩ (.int _ _) .none (fun D h' F' N' l1 => ?_) hs ht (lineOf hz)
  rw [pick_from _ (by omega)] at N'
  exact h D h' F' N' l1
theorem use_sliceRun {j : Nat} {u' : Tok} (F : Fr h₀ L s.heap m) (N : News h₀ L s.heap news) (hl : (l, W.listOf its n) ∈ news) (hz : its.size ≤ 1000)
    (h : ∀ D h', Fr h₀ L h' m → News h₀ L h' ((D, listOf ((its.toList.take j).drop k).toArray 0) :: news) → (∀ p ∈ news, p.1 < D) → Q (.ref D) { s with heap := h' })
    (hs : subscripted slice false (.ref l) (.ref s.heap.objs.size) = operate [.ref s.heap.objs.size, .ref l] (getItem (.ref l) (.ref s.heap.objs.size))) (ht : ∀ r, letTemporaryGo value (.ref l) r = pure ()) :
    wpAny (model prog w) A (subscriptTail value slice (.ref l) (.ref s.heap.objs.size)) Q E { s with heap := s.heap.push { cls := .type "slice", data := .fields #[.int (k : Int) u, .int (j : Int) u', .none] } } := by
  refine kmk_slice F N ⟨_, News.get N hl, rfl, n, rfl⟩ (.int _ _) (.int _ _) (fun D h' F' N' l1 => ?_) hs ht (lineOf hz)
  rw [pick_run _ (by omega) (by omega)] at N'
  exact h D h' F' N' l1
theorem use_addL {li li2 : List Value} (F : Fr h₀ L s.heap m) (N : News h₀ L s.heap news) (ha : (a, W.listOf li.toArray n) ∈ news) (hb : (b, W.listOf li2.toArray n2) ∈ news) (hz : li.length + li2.length ≤ 1000)
    (h : ∀ D h', Fr h₀ L h' m → News h₀ L h' ((D, listOf (li ++ li2).toArray 0) :: news) → (∀ p ∈ news, p.1 < D) → Q (.ref D) { s with heap := h' }) :
    wpAny (model prog w) A (binaryOp .Add (.ref a) (.ref b)) Q E s :=
  kmk_add_lit F N ⟨_, News.get N ha, rfl, n, rfl⟩ ⟨_, News.get N hb, rfl, n2, rfl⟩ rfl h (lineOf (by simpa using hz))
end
end Mine
namespace Mine
open PySem.Spec PySem.Calls PySem.W.X
theorem AllNe.mem {d : Nat} : ∀ {l : List (Addr × Obj)}, AllNe d l → ∀ p ∈ l, p.1 ≠ d
  | [], _, _, h => nomatch h
  | _ :: _, x, p, h => by
    rcases List.mem_cons.mp h with rfl | h
    · exact x.1
    · exact AllNe.mem x.2 p h
theorem insAt_len (ps : List Str) (b : Nat) (p : Str) (h : b ≤ ps.length) : (insAt ps b p).length = ps.length + 1 := by
  unfold insAt
  simp only [List.length_append, List.length_take, List.length_cons, List.length_drop]
  omega
theorem insAt_mem {ps : List Str} {b : Nat} {p q : Str} (h : q ∈ insAt ps b p) : q ∈ ps ∨ q = p := by
  unfold insAt at h
  rcases List.mem_append.mp h with h | h
  · exact .inl (List.mem_of_mem_take h)
  · rcases List.mem_cons.mp h with h | h
    · exact .inr h
    · exact .inl (List.mem_of_mem_drop h)
theorem stepR_len (rs : List (List Str)) (x : Int) : (stepR rs x).length = rs.length + 1 := by
  unfold stepR
  have : leCount rs (namesF x) ≤ rs.length := List.length_filter_le _ _
  simp only [List.length_append, List.length_take, List.length_cons, List.length_nil, List.length_drop]
  omega
theorem lj_end {h₀ h' : Heap} {L S D1 It Dn Rr : Addr} {oI o1 o2 o3 : Obj} {s : Shared} {tk : Nat} {m₂ : Str → Option Value} {all own : List (Addr × Obj)} {ws : List Value} {nums : List Int} {i : Nat} {x : Int} {row : List Str} {vs' nvs : Array Value} {n' nn : Nat} {v1 : Option Value} {rvl : List Value}
    (F : Fr h₀ L h' m₂) (N : News h₀ L h' all) (hx : nums[i]? = some x) (e : namesF x = row)
    (mS : (S, W.listOf vs' n') ∈ all) (mR : (Rr, W.listOf (rvl.take (leCount (rowsF (nums.take i)) (namesF x)) ++ [Value.ref Dn] ++ rvl.drop (leCount (rowsF (nums.take i)) (namesF x))).toArray 0) ∈ all)
    (mD : (D1, W.listOf ws.toArray 0) ∈ all) (m1 : (L + 1 + 1 + 1, o1) ∈ all) (m2 : (L + 1 + 1, o2) ∈ all) (m3 : (L + 1, o3) ∈ all) (mI : (It, oI) ∈ all) (mN : (Dn, W.listOf nvs nn) ∈ all) (mO : ∀ p ∈ own, p ∈ all)
    (z1 : m₂ (Str.ofString "numbers") = some (.ref D1)) (z2 : m₂ (Str.ofString "shelf") = some (.ref S)) (z3 : m₂ (Str.ofString "rows") = some (.ref Rr))
    (d1 : o1.data = .cell none) (d2 : o2.data = .cell none) (d3 : o3.data = .cell v1)
    (hS : StrsAre vs'.toList (insAt (shelfF (nums.take i)) (posR (shelfF (nums.take i)) (keyF (pathF row))) (pathF row))) (hR : RowsIn own rvl (rowsF (nums.take i))) (hn : StrsAre nvs.toList (namesF x))
    (hO : OwnOff own [S, L + 1 + 1 + 1, L + 1 + 1, L + 1]) (hI : AllNe It own) (hP : ∀ p ∈ shelfF (nums.take i), p.length ≤ 1000) (hp : (pathF row).length ≤ 1000) (hl1 : (shelfF (nums.take i)).length = i) (hl2 : (rowsF (nums.take i)).length = i)
    (n1 : @Ne Nat Dn S) (n2 : @LT.lt Nat _ (L + 1 + 1 + 1) Rr) (n3 : @Ne Nat Rr S) (n4 : @Ne Nat Dn (L + 1 + 1 + 1)) (n5 : @Ne Nat Dn (L + 1 + 1)) (n6 : @Ne Nat Dn (L + 1))
    (i1 : @Ne Nat S It) (i2 : @Ne Nat Rr It) (i3 : @Ne Nat D1 It) (i4 : @Ne Nat (L + 1 + 1 + 1) It) (i5 : @Ne Nat (L + 1 + 1) It) (i6 : @Ne Nat (L + 1) It) (i7 : @Ne Nat Dn It) :
    TurnEnd h₀ L (LJ L S D1 ws nums (i + 1)) It oI s { s with heap := h', toks := tk } := by
  have f1 : shelfF (nums.take (i + 1)) = insAt (shelfF (nums.take i)) (posR (shelfF (nums.take i)) (keyF (pathF row))) (pathF row) := by
    unfold shelfF
    rw [fold_take _ _ _ _ _ hx]
    show stepS _ x = _
    unfold stepS
    rw [e]
  have f2 : rowsF (nums.take (i + 1)) = stepR (rowsF (nums.take i)) x := by
    unfold rowsF
    rw [fold_take _ _ _ _ _ hx]
  have hlen := hR.len
  refine ⟨h', tk, m₂, (S, W.listOf vs' n') :: (Rr, W.listOf (rvl.take (leCount (rowsF (nums.take i)) (namesF x)) ++ [Value.ref Dn] ++ rvl.drop (leCount (rowsF (nums.take i)) (namesF x))).toArray 0) :: (D1, W.listOf ws.toArray 0) :: (L + 1 + 1 + 1, o1) :: (L + 1 + 1, o2) :: (L + 1, o3) :: (Dn, W.listOf nvs nn) :: own,
    rfl, F, ?_, ?_, vs', n', Rr, _, 0, o1, o2, o3, v1, (Dn, W.listOf nvs nn) :: own, m₂, rfl, map_eq z1 z2 z3, d1, d2, d3, ?_, ?_, ?_, n3, n2, ?_, ?_, ?_⟩
  · intro p hp
    simp only [List.mem_cons] at hp
    rcases hp with rfl | rfl | rfl | rfl | rfl | rfl | rfl | rfl | hp
    · exact N _ mI
    · exact N _ mS
    · exact N _ mR
    · exact N _ mD
    · exact N _ m1
    · exact N _ m2
    · exact N _ m3
    · exact N _ mN
    · exact N _ (mO _ hp)
  · intro p hp
    simp only [List.mem_cons] at hp
    rcases hp with rfl | rfl | rfl | rfl | rfl | rfl | rfl | hp
    · exact i1
    · exact i2
    · exact i3
    · exact i4
    · exact i5
    · exact i6
    · exact i7
    · exact hI.mem p hp
  · rw [f1]; exact hS
  · rw [f2]
    have hR' : RowsIn ((Dn, W.listOf nvs nn) :: own) rvl (rowsF (nums.take i)) := hR.mono fun p hp => .tail _ hp
    exact ((hR'.take _).append (RowsIn.one (.head _) hn)).append (hR'.drop _)
  · intro p hp b hb
    rcases List.mem_cons.mp hp with rfl | hp
    · simp only [List.mem_cons, List.not_mem_nil, or_false] at hb
      rcases hb with rfl | rfl | rfl | rfl
      · exact n1
      · exact n4
      · exact n5
      · exact n6
    · exact hO p hp b hb
  · rw [f1]
    intro p hp'
    rcases insAt_mem hp' with h | rfl
    · exact hP p h
    · exact hp
  · rw [f1, insAt_len _ _ _ (posR_le _ _), hl1]
  · rw [f2, stepR_len, hl2]
end Mine
namespace Mine
open PySem.Spec PySem.Calls PySem.W.X
theorem strs_canLay (xs : List Str) (h : ∀ x ∈ xs, PyData.strOk x = true) : PyData.canLayAll0 (xs.map PyData.str) = true := by
  rw [canLayAll_strs', List.all_eq_true]
  exact h
theorem strs_depth : ∀ xs : List Str, PyData.depthAll (xs.map PyData.str) = 0
  | [] => rfl
  | _ :: r => by simp [PyData.depthAll, PyData.depth, strs_depth r]
theorem strs_shaped (xs : List Str) (h : ∀ x ∈ xs, PyData.strOk x = true) : SeqAt.shaped (.list (xs.map PyData.str)) = true := by
  simp [SeqAt.shaped, PyData.canLay0, PyData.depth, strs_canLay xs h, strs_depth]
theorem strs_same (xs ys : List Str) : PySem.Spec.sameAll (xs.map PyData.str) (ys.map PyData.str) = decide (xs = ys) :=
  sameAll_map (fun a b => by simp only [PySem.Spec.same]; by_cases h : a = b <;> simp [h]) xs ys
theorem strs_carried : ∀ {vs : List Value} {xs : List Str}, StrsAre vs xs → CarriedAll vs (xs.map PyData.str)
  | _, _, .nil => .nil
  | _, _, .cons _ t r => .cons (.str _ t) (strs_carried r)
section
variable {prog : Program} {w : World} {A : Around} {E : Value → Shared → Prop} {s : Shared} {h₀ : Heap} {L a b : Addr} {news : List (Addr × Obj)} {vs ws : Array Value} {n n2 : Nat} {xs ys : List Str} {Q : Value → Shared → Prop}
theorem use_neS (N : News h₀ L s.heap news) (ha : (a, W.listOf vs n) ∈ news) (hb : (b, W.listOf ws n2) ∈ news) (hi : StrsAre vs.toList xs) (hj : StrsAre ws.toList ys) (lx : ∀ x ∈ xs, PyData.strOk x = true) (ly : ∀ x ∈ ys, PyData.strOk x = true) (hu : A.units + 64 < cLine) (h : Q (.bool (!decide (xs = ys))) s) :
    wpAny (model prog w) A (compareOp .NotEq (.ref a) (.ref b)) Q E s := by
  have ha' : s.heap.IsList a vs.toList.toArray := ⟨_, News.get N ha, rfl, n, by simp⟩
  have hb' : s.heap.IsList b ws.toList.toArray := ⟨_, News.get N hb, rfl, n2, by simp⟩
  refine cmp_ofNotEq ?_
  exact ne_dataH_same (reads_newData ha' (strs_carried hi)) (reads_newData hb' (strs_carried hj)) (strs_shaped _ lx) (strs_shaped _ ly) hu (SeqAt.noMix_of_shape (.list .str) rfl _ _ (list_map_has fun _ => rfl) (list_map_has fun _ => rfl)) (by
    have e : PySem.Spec.same (.list (xs.map PyData.str)) (.list (ys.map PyData.str)) = decide (xs = ys) := by simp only [PySem.Spec.same]; exact strs_same xs ys
    rw [e]; exact h)
end
end Mine
namespace Mine
open PySem.Spec PySem.Calls PySem.W.X
theorem sLt_iff {x y : Str} : sLt x y = true ↔ x.cps.toList < y.cps.toList := by unfold sLt; simp
theorem sLt_irrefl (x : Str) : sLt x x = false := by
  unfold sLt
  simp
theorem sLt_trans {x y z : Str} (h : sLt x y = true) (h' : sLt y z = true) : sLt x z = true := by
  rw [sLt_iff] at h h' ⊢
  exact List.lt_trans h h'
theorem sLt_tri {x y : Str} (n : x ≠ y) (h : sLt x y = false) : sLt y x = true := by
  rw [sLt_iff]
  have h : ¬ x.cps.toList < y.cps.toList := fun q => by rw [sLt_iff.mpr q] at h; cases h
  by_cases q : y.cps.toList < x.cps.toList
  · exact q
  · exact absurd (List.le_antisymm q h) fun e => n (by cases x; cases y; congr 1; exact Array.toList_inj.mp e)
theorem sLt_asymm {x y : Str} (h : sLt x y = true) : sLt y x = false := by
  cases q : sLt y x with
  | false => rfl
  | true => have := sLt_trans h q; rw [sLt_irrefl] at this; cases this
noncomputable def ltL (xs ys : List Str) : Bool := cmpL .Lt xs ys
theorem ltL_nil (xs : List Str) : ltL xs [] = false := by
  unfold ltL
  rw [cmpL_nil_right]
  simp [cmpN]
theorem ltL_nil_cons (y : Str) (ys : List Str) : ltL [] (y :: ys) = true := by
  unfold ltL
  rw [cmpL_nil_left]
  simp [cmpN]
theorem ltL_cons (x y : Str) (xs ys : List Str) : ltL (x :: xs) (y :: ys) = if x == y then ltL xs ys else sLt x y := by
  unfold ltL
  rw [cmpL]
  rfl
theorem leL_not : ∀ (xs ys : List Str), cmpL .LtE xs ys = !ltL ys xs
  | [], ys => by rw [cmpL_nil_left, ltL_nil]; simp [cmpN]
  | x :: xs, [] => by rw [cmpL_nil_right, ltL_nil_cons]; simp [cmpN]
  | x :: xs, y :: ys => by
    rw [cmpL, ltL_cons]
    by_cases h : x = y
    · subst h; simp [leL_not xs ys]
    · have h' : ¬ y = x := fun e => h e.symm
      simp [h, h', cmpS]
theorem leL_trans : ∀ {a b c : List Str}, ltL b a = false → ltL c b = false → ltL c a = false
  | [], b, c, _, _ => ltL_nil c
  | x :: a, [], c, h, _ => by rw [ltL_nil_cons] at h; cases h
  | x :: a, y :: b, [], _, h => by rw [ltL_nil_cons] at h; cases h
  | x :: a, y :: b, z :: c, h1, h2 => by
    rw [ltL_cons] at h1 h2 ⊢
    by_cases e1 : y = x
    · subst e1
      by_cases e2 : z = y
      · subst e2
        simp only [beq_self_eq_true, if_true] at h1 h2 ⊢
        exact leL_trans h1 h2
      · have e2' : (z == y) = false := by simpa using e2
        rw [e2'] at h2 ⊢
        exact h2
    · have e1' : (y == x) = false := by simpa using e1
      rw [e1'] at h1
      have h1 : sLt y x = false := h1
      by_cases e2 : z = y
      · subst e2
        rw [e1']
        exact h1
      · have e2' : (z == y) = false := by simpa using e2
        rw [e2'] at h2
        have h2 : sLt z y = false := h2
        have h3 := sLt_trans (sLt_tri e1 h1) (sLt_tri e2 h2)
        have e3 : (z == x) = false := by
          rw [beq_eq_false_iff_ne]
          rintro rfl
          rw [sLt_irrefl] at h3
          cases h3
        rw [e3]
        exact sLt_asymm h3
theorem ltL_asymm : ∀ {a b : List Str}, ltL a b = true → ltL b a = false
  | [], b, _ => ltL_nil b
  | x :: a, [], h => by rw [ltL_nil] at h; cases h
  | x :: a, y :: b, h => by
    rw [ltL_cons] at h ⊢
    by_cases e : x = y
    · subst e
      simp only [beq_self_eq_true, if_true] at h ⊢
      exact ltL_asymm h
    · have e1 : (x == y) = false := by simpa using e
      have e2 : (y == x) = false := by simpa using fun q : y = x => e q.symm
      rw [e1] at h
      rw [e2]
      exact sLt_asymm h
noncomputable def Sorted (rs : List (List Str)) : Prop := rs.Pairwise fun a b => ltL b a = false
-- a predicate that holds of a first part and no further
noncomputable def cnt (P : List Str → Bool) (rs : List (List Str)) : Nat := (rs.filter P).length
theorem cnt_le (P : List Str → Bool) (rs : List (List Str)) : cnt P rs ≤ rs.length := List.length_filter_le _ _
noncomputable def Down (P : List Str → Bool) (rs : List (List Str)) : Prop := rs.Pairwise fun a b => P b = true → P a = true
theorem cnt_none {P : List Str → Bool} {rs : List (List Str)} (h : ∀ r ∈ rs, P r = false) : cnt P rs = 0 := by
  unfold cnt
  rw [List.filter_eq_nil_iff.mpr (fun r hr => by rw [h r hr]; decide)]
  rfl
theorem down_at {P : List Str → Bool} : ∀ {rs : List (List Str)}, Down P rs → ∀ {j : Nat} {r : List Str}, rs[j]? = some r → P r = decide (j < cnt P rs)
  | [], _, j, r, e => by simp at e
  | x :: rs, h, j, r, e => by
    have hx := List.pairwise_cons.mp h
    by_cases hp : P x = true
    · have hc : cnt P (x :: rs) = cnt P rs + 1 := by unfold cnt; rw [List.filter_cons_of_pos hp]; rfl
      rw [hc]
      cases j with
      | zero => cases e; rw [hp]; simp
      | succ j =>
        have := down_at hx.2 (j := j) (r := r) e
        rw [this]
        simp
    · have hp' : P x = false := by simpa using hp
      have hn : ∀ r ∈ x :: rs, P r = false := by
        intro r hr
        rcases List.mem_cons.mp hr with rfl | hr
        · exact hp'
        · cases q : P r with
          | false => rfl
          | true => exact absurd (hx.1 r hr q) hp
      rw [cnt_none hn, hn r (List.mem_of_getElem? e)]
      simp
theorem bsearch_cut {p : Nat → Bool} {k n : Nat} (hp : ∀ j, j < n → p j = decide (k ≤ j)) : ∀ (f lo hi : Nat), hi - lo ≤ f → lo ≤ k → k ≤ hi → hi ≤ n → bsearch p f lo hi = k
  | 0, lo, hi, h, h1, h2, h3 => by show lo = k; omega
  | f + 1, lo, hi, h, h1, h2, h3 => by
    unfold bsearch
    by_cases hlt : lo < hi
    · rw [if_pos hlt, hp _ (by omega)]
      by_cases hm : k ≤ (lo + hi) / 2
      · rw [if_pos (by simpa using hm)]; exact bsearch_cut hp f _ _ (by omega) h1 hm (by omega)
      · rw [if_neg (by simpa using hm)]; exact bsearch_cut hp f _ _ (by omega) (by omega) h2 h3
    · rw [if_neg hlt]; omega
theorem bsearch_cnt {P : List Str → Bool} {rs : List (List Str)} (h : Down P rs) {p : Nat → Bool} (hp : ∀ j r, rs[j]? = some r → p j = !P r) : bsearch p rs.length 0 rs.length = cnt P rs := by
  refine bsearch_cut (n := rs.length) (fun j hj => ?_) _ _ _ (by omega) (Nat.zero_le _) (cnt_le _ _) (Nat.le_refl _)
  have e : rs[j]? = some rs[j] := by simp
  rw [hp j _ e, down_at h e]
  by_cases q : j < cnt P rs
  · simp [q, Nat.not_le.mpr q]
  · simp [q, Nat.not_lt.mp q]
theorem down_lt {rs : List (List Str)} (h : Sorted rs) (t : List Str) : Down (fun r => ltL r t) rs := by
  refine List.Pairwise.imp ?_ h
  intro a b hab hb
  show ltL a t = true
  have hb : ltL b t = true := hb
  cases q : ltL a t with
  | true => rfl
  | false =>
    exfalso
    cases q2 : ltL b t with
    | false => rw [q2] at hb; cases hb
    | true => 
      -- b < t ≤ a ≤ b
      have := leL_trans q hab
      rw [this] at hb
      cases hb
theorem down_le {rs : List (List Str)} (h : Sorted rs) (t : List Str) : Down (fun r => !ltL t r) rs := by
  refine List.Pairwise.imp ?_ h
  intro a b hab hb
  have hb : ltL t b = false := by simpa using hb
  show (!ltL t a) = true
  rw [leL_trans hab hb]
  rfl
theorem down_take {P : List Str → Bool} {rs : List (List Str)} (h : Down P rs) : ∀ r ∈ rs.take (cnt P rs), P r = true := by
  intro r hr
  obtain ⟨j, hj, e⟩ := List.mem_iff_getElem.mp hr
  have hj' : j < cnt P rs := by have := List.length_take (i := cnt P rs) (l := rs); omega
  have e' : rs[j]? = some r := by rw [← e]; simp [List.getElem_take]
  rw [down_at h e']
  simpa using hj'
theorem down_drop {P : List Str → Bool} {rs : List (List Str)} (h : Down P rs) : ∀ r ∈ rs.drop (cnt P rs), P r = false := by
  intro r hr
  obtain ⟨j, hj, e⟩ := List.mem_iff_getElem.mp hr
  have e' : rs[cnt P rs + j]? = some r := by rw [← e]; simp [List.getElem_drop]
  rw [down_at h e']
  simp
theorem slice_filter {P₁ P₂ : List Str → Bool} {rs : List (List Str)} (h₁ : Down P₁ rs) (h₂ : Down P₂ rs) : (rs.take (cnt P₂ rs)).drop (cnt P₁ rs) = rs.filter fun r => !P₁ r && P₂ r := by
  have e1 : rs.filter (fun r => !P₁ r && P₂ r) = (rs.take (cnt P₂ rs)).filter (fun r => !P₁ r && P₂ r) ++ (rs.drop (cnt P₂ rs)).filter (fun r => !P₁ r && P₂ r) := by
    rw [← List.filter_append, List.take_append_drop]
  have e2 : (rs.drop (cnt P₂ rs)).filter (fun r => !P₁ r && P₂ r) = [] := by
    rw [List.filter_eq_nil_iff]
    intro r hr
    rw [down_drop h₂ r hr]
    simp
  have e3 : (rs.take (cnt P₂ rs)).filter (fun r => !P₁ r && P₂ r) = ((rs.take (cnt P₂ rs)).take (cnt P₁ rs)).filter (fun r => !P₁ r && P₂ r) ++ ((rs.take (cnt P₂ rs)).drop (cnt P₁ rs)).filter (fun r => !P₁ r && P₂ r) := by
    rw [← List.filter_append, List.take_append_drop]
  have e4 : ((rs.take (cnt P₂ rs)).take (cnt P₁ rs)).filter (fun r => !P₁ r && P₂ r) = [] := by
    rw [List.filter_eq_nil_iff]
    intro r hr
    rw [List.take_take] at hr
    have : r ∈ rs.take (cnt P₁ rs) := (List.take_subset_take_left rs (Nat.min_le_left _ _)) hr
    rw [down_take h₁ r this]
    simp
  have e5 : ((rs.take (cnt P₂ rs)).drop (cnt P₁ rs)).filter (fun r => !P₁ r && P₂ r) = (rs.take (cnt P₂ rs)).drop (cnt P₁ rs) := by
    rw [List.filter_eq_self]
    intro r hr
    have a : r ∈ rs.take (cnt P₂ rs) := List.mem_of_mem_drop hr
    have b : r ∈ rs.drop (cnt P₁ rs) := by
      rw [List.drop_take] at hr
      exact List.mem_of_mem_take hr
    rw [down_take h₂ r a, down_drop h₁ r b]
    rfl
  rw [e1, e2, e3, e4, e5]
  simp
-- what two rows share
noncomputable def lcpS : List Str → List Str → Nat
  | x :: xs, y :: ys => if x == y then lcpS xs ys + 1 else 0
  | _, _ => 0
theorem lcpS_nil (ys : List Str) : lcpS [] ys = 0 := by cases ys <;> rfl
theorem lcpS_nil' (xs : List Str) : lcpS xs [] = 0 := by cases xs <;> rfl
theorem lcp_up : ∀ {r s t : List Str}, ltL s r = false → ltL t s = false → lcpS r t ≤ lcpS s t
  | [], s, t, _, _ => by rw [lcpS_nil]; exact Nat.zero_le _
  | x :: r, s, [], _, _ => by rw [lcpS_nil']; exact Nat.zero_le _
  | x :: r, [], z :: t, h, _ => by rw [ltL_nil_cons] at h; cases h
  | x :: r, y :: s, z :: t, h1, h2 => by
    rw [ltL_cons] at h1 h2
    unfold lcpS
    by_cases e : x = z
    · subst e
      by_cases e1 : y = x
      · subst e1
        simp only [beq_self_eq_true, if_true] at h1 h2 ⊢
        exact Nat.succ_le_succ (lcp_up h1 h2)
      · have e1' : (y == x) = false := by simpa using e1
        have e2' : (x == y) = false := by simpa using fun q : x = y => e1 q.symm
        rw [e1'] at h1
        rw [e2'] at h2
        have h3 := sLt_tri e1 h1
        have h2 : sLt x y = false := h2
        rw [h2] at h3
        cases h3
    · have e' : (x == z) = false := by simpa using e
      rw [e']
      exact Nat.zero_le _
theorem lcp_down : ∀ {r s t : List Str}, ltL s t = false → ltL r s = false → lcpS r t ≤ lcpS s t
  | [], s, t, _, _ => by rw [lcpS_nil]; exact Nat.zero_le _
  | x :: r, s, [], _, _ => by rw [lcpS_nil']; exact Nat.zero_le _
  | x :: r, [], z :: t, h, _ => by rw [ltL_nil_cons] at h; cases h
  | x :: r, y :: s, z :: t, h1, h2 => by
    rw [ltL_cons] at h1 h2
    unfold lcpS
    by_cases e : x = z
    · subst e
      by_cases e1 : y = x
      · subst e1
        simp only [beq_self_eq_true, if_true] at h1 h2 ⊢
        exact Nat.succ_le_succ (lcp_down h1 h2)
      · have e1' : (y == x) = false := by simpa using e1
        have e2' : (x == y) = false := by simpa using fun q : x = y => e1 q.symm
        rw [e1'] at h1
        rw [e2'] at h2
        have h3 := sLt_tri e1 h1
        have h2 : sLt x y = false := h2
        rw [h2] at h3
        cases h3
    · have e' : (x == z) = false := by simpa using e
      rw [e']
      exact Nat.zero_le _
noncomputable def IsMax (m : Nat) (l : List Nat) : Prop := m ∈ l ∧ ∀ x ∈ l, x ≤ m
theorem sorted_at {rs : List (List Str)} (h : Sorted rs) {i j : Nat} {a b : List Str} (hi : rs[i]? = some a) (hj : rs[j]? = some b) (hij : i ≤ j) : ltL b a = false := by
  by_cases e : i = j
  · subst e
    rw [hi] at hj
    cases hj
    cases q : ltL a a with
    | false => rfl
    | true => have := ltL_asymm q; rw [q] at this; cases this
  · obtain ⟨hi', rfl⟩ := List.getElem?_eq_some_iff.mp hi
    obtain ⟨hj', rfl⟩ := List.getElem?_eq_some_iff.mp hj
    exact List.pairwise_iff_getElem.mp h i j hi' hj' (by omega)
theorem near_most {rs : List (List Str)} (h : Sorted rs) (t : List Str) {k m m' : Nat} (hk : k = cnt (fun r => ltL r t) rs)
    (h1 : IsMax m (rs.map fun r => lcpS r t)) (h2 : IsMax m' (((rs.take (k + 1)).drop (k - 1)).map fun r => lcpS r t)) : m' = m := by
  subst hk
  refine Nat.le_antisymm ?_ ?_
  · obtain ⟨r, hr, rfl⟩ := List.mem_map.mp h2.1
    exact h1.2 _ (List.mem_map.mpr ⟨r, List.mem_of_mem_take (List.mem_of_mem_drop hr), rfl⟩)
  · obtain ⟨r, hr, rfl⟩ := List.mem_map.mp h1.1
    obtain ⟨i, hi, e⟩ := List.mem_iff_getElem.mp hr
    have e : rs[i]? = some r := by rw [← e]; simp
    have hd := down_at (down_lt h t) e
    have hcl := cnt_le (fun r => ltL r t) rs
    have key : ∀ j s, rs[j]? = some s → cnt (fun r => ltL r t) rs - 1 ≤ j → j < cnt (fun r => ltL r t) rs + 1 → lcpS r t ≤ lcpS s t → lcpS r t ≤ m' := by
      intro j s hs a b c
      refine Nat.le_trans c (h2.2 _ (List.mem_map.mpr ⟨s, ?_, rfl⟩))
      refine List.mem_iff_getElem?.mpr ⟨j - (cnt (fun r => ltL r t) rs - 1), ?_⟩
      rw [List.getElem?_drop, List.getElem?_take]
      rw [if_pos (by omega), ← hs]
      congr 1
      omega
    by_cases q : i < cnt (fun r => ltL r t) rs
    · have hlt : cnt (fun r => ltL r t) rs - 1 < rs.length := by omega
      have e2 : rs[cnt (fun r => ltL r t) rs - 1]? = some (rs[cnt (fun r => ltL r t) rs - 1]) := by simp [hlt]
      have hd2 := down_at (down_lt h t) e2
      rw [decide_eq_true (by omega)] at hd2
      exact key _ _ e2 (Nat.le_refl _) (by omega) (lcp_up (sorted_at h e e2 (by omega)) (ltL_asymm hd2))
    · have hlt : cnt (fun r => ltL r t) rs < rs.length := by omega
      have e2 : rs[cnt (fun r => ltL r t) rs]? = some (rs[cnt (fun r => ltL r t) rs]) := by simp [hlt]
      have hd2 := down_at (down_lt h t) e2
      rw [decide_eq_false (Nat.lt_irrefl _)] at hd2
      exact key _ _ e2 (by omega) (by omega) (lcp_down hd2 (sorted_at h e2 e (by omega)))
end Mine
namespace Mine
open PySem.Spec PySem.Calls PySem.W.X
noncomputable def nm3 : List Str := [Str.ofString "a", Str.ofString "a-", Str.ofString "b"]
noncomputable def rows39 : List (List Str) := (nm3.map fun a => [a]) ++ (nm3.flatMap fun a => nm3.map fun b => [a, b]) ++ (nm3.flatMap fun a => nm3.flatMap fun b => nm3.map fun c => [a, b, c])
theorem isName_mem {n : Str} (h : IsName n) : n ∈ nm3 := by
  rcases h with rfl | rfl | rfl <;> simp [nm3]
theorem names_mem (x : Int) : namesF x ∈ rows39 := by
  unfold rows39
  rcases namesF_cases x with ⟨a, ha, e⟩ | ⟨a, b, ha, hb, e⟩ | ⟨a, b, c, ha, hb, hc, e⟩ <;> rw [e]
  · exact List.mem_append.mpr (.inl (List.mem_append.mpr (.inl (List.mem_map.mpr ⟨a, isName_mem ha, rfl⟩))))
  · exact List.mem_append.mpr (.inl (List.mem_append.mpr (.inr (List.mem_flatMap.mpr ⟨a, isName_mem ha, List.mem_map.mpr ⟨b, isName_mem hb, rfl⟩⟩))))
  · exact List.mem_append.mpr (.inr (List.mem_flatMap.mpr ⟨a, isName_mem ha, List.mem_flatMap.mpr ⟨b, isName_mem hb, List.mem_map.mpr ⟨c, isName_mem hc, rfl⟩⟩⟩))
theorem key_path {r : List Str} (h : r ∈ rows39) : keyF (pathF r) = r := by
  have e : (rows39.all fun r => keyF (pathF r) == r) = true := by decide +kernel
  simpa using List.all_eq_true.mp e r h
-- the shelf: the rows' paths, in order
structure Shelf (ps : List Str) (rs : List (List Str)) : Prop where
  e : ps = rs.map pathF
  m : ∀ r ∈ rs, r ∈ rows39
  s : Sorted rs
theorem Shelf.keyAt {ps : List Str} {rs : List (List Str)} (h : Shelf ps rs) {j : Nat} {r : List Str} (e : rs[j]? = some r) : keyF (ps.getD j (Str.ofString "")) = r := by
  have e2 : ps[j]? = some (pathF r) := by rw [h.e, List.getElem?_map, e]; rfl
  have : ps.getD j (Str.ofString "") = pathF r := by simp [List.getD, e2]
  rw [this, key_path (h.m r (List.mem_of_getElem? e))]
theorem Shelf.len {ps : List Str} {rs : List (List Str)} (h : Shelf ps rs) : ps.length = rs.length := by rw [h.e]; simp
theorem Shelf.nil : Shelf [] [] := ⟨rfl, (fun _ h => nomatch h), .nil⟩
theorem Shelf.posL {ps : List Str} {rs : List (List Str)} (h : Shelf ps rs) (t : List Str) : bsearch (fun j => !cmpL .Lt (keyF (ps.getD j (Str.ofString ""))) t) ps.length 0 ps.length = cnt (fun r => ltL r t) rs := by
  rw [h.len]
  exact bsearch_cnt (down_lt h.s t) fun j r e => by rw [h.keyAt e]; rfl
theorem Shelf.posR {ps : List Str} {rs : List (List Str)} (h : Shelf ps rs) (t : List Str) : Mine.posR ps t = leCount rs t := by
  unfold Mine.posR
  rw [h.len]
  have e : leCount rs t = cnt (fun r => !ltL t r) rs := by
    unfold leCount cnt
    congr 1
    refine List.filter_congr fun r _ => ?_
    rw [leL_not]
  rw [e]
  exact bsearch_cnt (down_le h.s t) fun j r e => by rw [h.keyAt e]; show ltL t r = _; simp
theorem Shelf.step {ps : List Str} {rs : List (List Str)} (h : Shelf ps rs) (x : Int) : Shelf (stepS ps x) (stepR rs x) := by
  have hm := names_mem x
  have ec : leCount rs (namesF x) = cnt (fun r => !ltL (namesF x) r) rs := by
    unfold leCount cnt
    congr 1
    refine List.filter_congr fun r _ => ?_
    rw [leL_not]
  refine ⟨?_, ?_, ?_⟩
  · unfold stepS stepR insAt
    rw [key_path hm, h.posR, h.e]
    simp
  · intro r hr
    unfold stepR at hr
    rcases List.mem_append.mp hr with hr | hr
    · rcases List.mem_append.mp hr with hr | hr
      · exact h.m r (List.mem_of_mem_take hr)
      · rw [List.mem_singleton.mp hr]; exact hm
    · exact h.m r (List.mem_of_mem_drop hr)
  · unfold stepR
    rw [ec]
    have d := down_le h.s (namesF x)
    have t1 : ∀ r ∈ rs.take (cnt (fun r => !ltL (namesF x) r) rs), ltL (namesF x) r = false := fun r hr => by simpa using down_take d r hr
    have t2 : ∀ r ∈ rs.drop (cnt (fun r => !ltL (namesF x) r) rs), ltL (namesF x) r = true := fun r hr => by simpa using down_drop d r hr
    have hp := h.s
    have hp : rs.Pairwise fun a b => ltL b a = false := hp
    rw [← List.take_append_drop (cnt (fun r => !ltL (namesF x) r) rs) rs, List.pairwise_append] at hp
    show List.Pairwise _ _
    rw [List.append_assoc, List.pairwise_append]
    refine ⟨hp.1, ?_, ?_⟩
    · rw [List.singleton_append, List.pairwise_cons]
      exact ⟨fun b hb => ltL_asymm (t2 b hb), hp.2.1⟩
    · intro a ha b hb
      rw [List.singleton_append] at hb
      rcases List.mem_cons.mp hb with rfl | hb
      · exact t1 a ha
      · exact hp.2.2 a ha b hb
theorem shelf_rows (xs : List Int) : Shelf (shelfF xs) (rowsF xs) := by
  have key : ∀ (xs : List Int) (ps : List Str) (rs : List (List Str)), Shelf ps rs → Shelf (xs.foldl stepS ps) (xs.foldl stepR rs) := by
    intro xs
    induction xs with
    | nil => intro ps rs h; exact h
    | cons x xs ih => intro ps rs h; exact ih _ _ (h.step x)
  exact key xs [] [] Shelf.nil
end Mine
namespace Mine
open PySem.Spec PySem.Calls PySem.W.X
noncomputable def cpB (p q : Str) : Bool :=
  decide ((Txt.split p (Str.ofString "/")).length ≤ 1000) && decide ((Txt.split q (Str.ofString "/")).length ≤ 1000) && decide (p.length ≤ 1000) && decide (q.length ≤ 1000) && Txt.startswith p (Str.ofString "/") && Txt.startswith q (Str.ofString "/") &&
  decide ((minL (cutF p) (cutF q)).length ≤ 1000) && decide ((maxL (cutF p) (cutF q)).length ≤ 1000) &&
  ((List.range (minL (cutF p) (cutF q)).length).all fun i => !((List.range i).all fun j => (minL (cutF p) (cutF q)).getD j (Str.ofString "") == (maxL (cutF p) (cutF q)).getD j (Str.ofString "")) || decide (i < (maxL (cutF p) (cutF q)).length)) &&
  ((List.range ((minL (cutF p) (cutF q)).length + 1)).all fun k => decide ((Txt.join (Str.ofString "/") ((minL (cutF p) (cutF q)).take k)).length ≤ 1000) && decide ((((minL (cutF p) (cutF q)).take k).map (·.length)).sum + ((minL (cutF p) (cutF q)).take k).length ≤ 1048576)) &&
  decide ((comF p q).length ≤ 1000)
theorem take_min {α : Type} (l : List α) (k : Nat) : l.take k = l.take (min k l.length) := by
  by_cases h : k ≤ l.length
  · rw [Nat.min_eq_left h]
  · rw [Nat.min_eq_right (by omega), List.take_length, List.take_of_length_le (by omega)]
theorem CpOk.of {p q : Str} (h : cpB p q = true) : CpOk p q := by
  simp only [cpB, Bool.and_eq_true, decide_eq_true_eq, List.all_eq_true, List.mem_range, Bool.or_eq_true, Bool.not_eq_true'] at h
  obtain ⟨⟨⟨⟨⟨⟨⟨⟨⟨⟨a, b⟩, c⟩, d⟩, e⟩, f⟩, g⟩, i⟩, j⟩, k⟩, l⟩ := h
  refine ⟨a, b, c, d, e, f, g, i, ?_, ?_, ?_, l⟩
  · intro n hn hs
    rcases j n hn with hq | hq
    · exfalso
      have : ((List.range n).all fun j => (minL (cutF p) (cutF q)).getD j (Str.ofString "") == (maxL (cutF p) (cutF q)).getD j (Str.ofString "")) = true := by
        rw [List.all_eq_true]
        intro x hx
        rw [hs x (List.mem_range.mp hx)]
        exact beq_self_eq_true _
      rw [this] at hq
      cases hq
    · exact hq
  · intro n
    rw [take_min]
    exact (k _ (by omega)).1
  · intro n
    rw [take_min]
    exact (k _ (by omega)).2
noncomputable def bang (x : Int) : Str := pathF (namesF x) ++ (Str.ofString "/" ++ Str.ofString "!")
noncomputable def fold (x : Int) : Str := pathF (namesF x).dropLast
noncomputable def lenC (p q : Str) : Nat := (keyF (comF p q)).length
structure Tgt (x : Int) : Prop where
  l : (pathF (namesF x)).length ≤ 1000
  e : Txt.endswith (pathF (namesF x)) (Str.ofString "/") = false
  z : (((pathF (namesF x)).length : Nat) : Int) ≠ 0
  d : dirF (pathF (namesF x)) = fold x
  dl : (fold x).length ≤ 1000
  ok1 : ∀ r ∈ rows39, CpOk (pathF r) (fold x)
  ok2 : ∀ r ∈ rows39, CpOk (pathF r) (bang x)
  q : ∀ r ∈ rows39, (comF (pathF r) (fold x) == fold x) = (!ltL r (namesF x).dropLast && ltL r ((namesF x).dropLast ++ [Str.ofString "~"]))
  c : ∀ r ∈ rows39, lenC (pathF r) (bang x) = lcpS r (namesF x ++ [Str.ofString "!"])
  cl : ∀ r ∈ rows39, lenC (pathF r) (bang x) ≤ 1000
noncomputable def tgtA (x : Int) : Bool := decide ((pathF (namesF x)).length ≤ 1000) && (Txt.endswith (pathF (namesF x)) (Str.ofString "/") == false) && decide ((((pathF (namesF x)).length : Nat) : Int) ≠ 0) && (dirF (pathF (namesF x)) == fold x) && decide ((fold x).length ≤ 1000)
noncomputable def tgtB (x : Int) : Bool := rows39.all fun r => cpB (pathF r) (fold x)
noncomputable def tgtC (x : Int) : Bool := rows39.all fun r => cpB (pathF r) (bang x)
noncomputable def tgtD (x : Int) : Bool := rows39.all fun r => (comF (pathF r) (fold x) == fold x) == (!ltL r (namesF x).dropLast && ltL r ((namesF x).dropLast ++ [Str.ofString "~"]))
noncomputable def tgtE (x : Int) : Bool := rows39.all fun r => lenC (pathF r) (bang x) == lcpS r (namesF x ++ [Str.ofString "!"]) && decide (lenC (pathF r) (bang x) ≤ 1000)
theorem Tgt.of {x : Int} (a : tgtA x = true) (b : tgtB x = true) (c : tgtC x = true) (d : tgtD x = true) (e : tgtE x = true) : Tgt x := by
  simp only [tgtA, Bool.and_eq_true, decide_eq_true_eq, beq_iff_eq] at a
  obtain ⟨⟨⟨⟨a1, a2⟩, a3⟩, a4⟩, a5⟩ := a
  refine ⟨a1, a2, a3, a4, a5, fun r hr => CpOk.of (List.all_eq_true.mp b r hr), fun r hr => CpOk.of (List.all_eq_true.mp c r hr), fun r hr => by simpa using List.all_eq_true.mp d r hr, fun r hr => ?_, fun r hr => ?_⟩
  · have := List.all_eq_true.mp e r hr
    simp only [Bool.and_eq_true, beq_iff_eq, decide_eq_true_eq] at this
    exact this.1
  · have := List.all_eq_true.mp e r hr
    simp only [Bool.and_eq_true, beq_iff_eq, decide_eq_true_eq] at this
    exact this.2
theorem tgt2 : Tgt 2 := Tgt.of (by decide +kernel) (by decide +kernel) (by decide +kernel) (by decide +kernel) (by decide +kernel)
theorem tgt10 : Tgt 10 := Tgt.of (by decide +kernel) (by decide +kernel) (by decide +kernel) (by decide +kernel) (by decide +kernel)
-- what the second loop asks
theorem Shelf.pathAt {ps : List Str} {rs : List (List Str)} (h : Shelf ps rs) {p : Str} (hp : p ∈ ps) : ∃ r ∈ rows39, p = pathF r := by
  rw [h.e] at hp
  obtain ⟨r, hr, rfl⟩ := List.mem_map.mp hp
  exact ⟨r, h.m r hr, rfl⟩
noncomputable def posB (ps : List Str) (t : List Str) : Nat := bsearch (fun j => !cmpL .Lt (keyF (ps.getD j (Str.ofString ""))) t) ps.length 0 ps.length
theorem Shelf.under {ps : List Str} {rs : List (List Str)} (h : Shelf ps rs) {x : Int} (T : Tgt x) :
    (ps.take (posB ps ((namesF x).dropLast ++ [Str.ofString "~"]))).drop (posB ps (namesF x).dropLast) = ps.filter fun p => comF p (fold x) == fold x := by
  unfold posB
  rw [h.posL, h.posL, h.e, ← List.map_take, ← List.map_drop, slice_filter (down_lt h.s _) (down_lt h.s _), List.filter_map]
  refine congrArg (List.map pathF) ?_
  refine List.filter_congr fun r hr => ?_
  exact (T.q r (h.m r hr)).symm
theorem Shelf.near {ps : List Str} {rs : List (List Str)} (h : Shelf ps rs) {x : Int} (T : Tgt x) {m m' : Nat}
    (h1 : IsMax m (ps.map fun p => lenC p (bang x)))
    (h2 : IsMax m' (((ps.take (posB ps (namesF x ++ [Str.ofString "!"]) + 1)).drop (posB ps (namesF x ++ [Str.ofString "!"]) - 1)).map fun p => lenC p (bang x))) : m' = m := by
  have hk : posB ps (namesF x ++ [Str.ofString "!"]) = cnt (fun r => ltL r (namesF x ++ [Str.ofString "!"])) rs := h.posL _
  rw [hk] at h2
  have hc : ∀ l : List (List Str), (∀ r ∈ l, r ∈ rows39) → (l.map pathF).map (fun p => lenC p (bang x)) = l.map fun r => lcpS r (namesF x ++ [Str.ofString "!"]) := by
    intro l hl
    rw [List.map_map]
    refine List.map_congr_left fun r hr => ?_
    rw [Function.comp_apply, T.c r (hl r hr)]
  have e1 : ps.map (fun p => lenC p (bang x)) = rs.map fun r => lcpS r (namesF x ++ [Str.ofString "!"]) := by rw [h.e, hc _ h.m]
  rw [e1] at h1
  have e2 : ∀ a b : Nat, ((ps.take a).drop b).map (fun p => lenC p (bang x)) = ((rs.take a).drop b).map fun r => lcpS r (namesF x ++ [Str.ofString "!"]) := by
    intro a b
    rw [h.e, ← List.map_take, ← List.map_drop, hc _ fun r hr => h.m r (List.mem_of_mem_take (List.mem_of_mem_drop hr))]
  rw [e2] at h2
  exact near_most (k := cnt (fun r => ltL r (namesF x ++ [Str.ofString "!"])) rs) h.s _ rfl h1 h2
end Mine
namespace Mine
open PySem.Spec PySem.Calls PySem.W.X
section
theorem clip_neg {k n : Nat} (h0 : 0 < k) (h : k ≤ n) : max 0 (min (if (-(k : Int)) < 0 then (-(k : Int)) + n else (-(k : Int))) (n : Int)) = ((n - k : Nat) : Int) := by
  rw [if_pos (Int.neg_neg_of_pos (Int.natCast_pos.mpr h0))]
  omega
theorem pick_from_neg (vs : Array Value) {k : Nat} (h0 : 0 < k) (h : k ≤ vs.size) : slicePick vs (some (-(k : Int))) none none = (vs.toList.drop (vs.size - k)).toArray := by
  have e : sliceBounds (some (-(k : Int))) none none vs.size = (((vs.size - k : Nat) : Int), (vs.size : Int), 1) := by
    show (max 0 (min (if (-(k : Int)) < 0 then (-(k : Int)) + vs.size else (-(k : Int))) (vs.size : Int)), (vs.size : Int), (1 : Int)) = _
    rw [clip_neg h0 h]
  rw [kmk_pick_nat _ e, List.take_of_length_le (by rw [List.length_drop, Array.length_toList]; exact Nat.le_refl _)]
theorem pick_upto_neg (vs : Array Value) {k : Nat} (h0 : 0 < k) (h : k ≤ vs.size) : slicePick vs none (some (-(k : Int))) none = (vs.toList.take (vs.size - k)).toArray := by
  have e : sliceBounds none (some (-(k : Int))) none vs.size = (((0 : Nat) : Int), ((vs.size - k : Nat) : Int), 1) := by
    show (0, max 0 (min (if (-(k : Int)) < 0 then (-(k : Int)) + vs.size else (-(k : Int))) (vs.size : Int)), (1 : Int)) = _
    rw [clip_neg h0 h]
    rfl
  rw [kmk_pick_nat _ e, List.drop_zero, Nat.sub_zero]
theorem intsAre_snoc {vs : List Value} {ys : List Int} {c : Int} {t : Tok} (h : IntsAre vs ys) : IntsAre (vs ++ [.int c t]) (ys ++ [c]) := by
  induction h with
  | nil => exact .cons _ _ .nil
  | cons y t _ ih => exact .cons _ _ ih
theorem intsAre_drop {vs : List Value} {ys : List Int} (h : IntsAre vs ys) : ∀ k, IntsAre (vs.drop k) (ys.drop k) := by
  induction h with
  | nil => intro k; simp; exact .nil
  | cons y t h ih =>
    intro k
    cases k with
    | zero => exact .cons _ _ h
    | succ k => exact ih k
theorem selG_mapS {α : Type} {f : α → Str} {xs : List α} {G : Nat → Value → Prop} (hG : ∀ i c y, xs[i]? = some c → G i y → ∃ t, y = .str (f c) t) :
    ∀ i, i ≤ xs.length → ∀ ys, SelG (fun _ => true) G i ys → StrsAre ys ((xs.take i).map f)
  | 0, _, ys, h => by rw [show ys = [] from h]; exact .nil
  | i + 1, hi, ys, h => by
    obtain ⟨c, hc⟩ : ∃ c, xs[i]? = some c := ⟨xs[i], by simp [Nat.lt_of_succ_le hi]⟩
    unfold SelG at h
    rw [if_pos rfl] at h
    obtain ⟨zs, y, rfl, h, hy⟩ := h
    obtain ⟨t, rfl⟩ := hG i c y hc hy
    rw [List.take_add_one, hc, List.map_append]
    exact strsAre_snoc (selG_mapS hG i (Nat.le_of_succ_le hi) zs h)
theorem selG_mapI {α : Type} {f : α → Int} {xs : List α} {G : Nat → Value → Prop} (hG : ∀ i c y, xs[i]? = some c → G i y → ∃ t, y = .int (f c) t) :
    ∀ i, i ≤ xs.length → ∀ ys, SelG (fun _ => true) G i ys → IntsAre ys ((xs.take i).map f)
  | 0, _, ys, h => by rw [show ys = [] from h]; exact .nil
  | i + 1, hi, ys, h => by
    obtain ⟨c, hc⟩ : ∃ c, xs[i]? = some c := ⟨xs[i], by simp [Nat.lt_of_succ_le hi]⟩
    unfold SelG at h
    rw [if_pos rfl] at h
    obtain ⟨zs, y, rfl, h, hy⟩ := h
    obtain ⟨t, rfl⟩ := hG i c y hc hy
    rw [List.take_add_one, hc, List.map_append]
    exact intsAre_snoc (selG_mapI hG i (Nat.le_of_succ_le hi) zs h)
noncomputable def AnyEl (P : Value → Prop) (news : List (Addr × Obj)) (y : Value) (news' : List (Addr × Obj)) : Prop := (∀ p ∈ news, p ∈ news') ∧ P y
noncomputable def IsStr (c : Str) (y : Value) : Prop := ∃ t, y = .str c t
noncomputable def IsInt (c : Int) (y : Value) : Prop := ∃ t, y = .int c t
end
section
variable {prog : Program} {w : World} {A : Around} {E : Value → Shared → Prop} {h₀ : Heap} {L : Addr} {m : Str → Option Value} {env : Env}
theorem FltSrc.rowsStr {elt : PySem.Expr} {x : Str} {scope : Scope} {cl : List (Str × Addr)} {s₁ : Shared} {Q : Value → Shared → Prop} {news own : List (Addr × Obj)} {ax : Addr} {its : Array Value} {n : Nat} {rs : List (List Str)} (f : List Str → Str)
    (hh : A.handled = none) (F : Fr h₀ L s₁.heap m) (N : News h₀ L s₁.heap news) (hS : (ax, W.listOf its n) ∈ news) (hits : RowsIn own its.toList rs) (hsub : ∀ p ∈ own, p ∈ news) (hsz : rs.length ≤ 1000)
    (turn : ∀ a ws nr r I oI C oC D oD m₂ h tk (E' : Value → Shared → Prop), r ∈ rs → StrsAre ws.toList r → LCg.NsObj oC m₂ → m₂ x = some (.ref a) → Fr h₀ L h m → News h₀ L h ((a, W.listOf ws nr) :: (I, oI) :: (C, oC) :: (D, oD) :: news) → LCg.Off3 I C D news → ((@Ne Nat I C) ∧ (@Ne Nat I D) ∧ (@Ne Nat C D)) →
      wpAny (model prog w) A (eval elt (compEnvC scope cl C env)) (LCg.CompEnd h₀ L m { s₁ with heap := h, toks := tk } I oI C oC D oD (fun _ => True) (AnyEl (IsStr (f r)) news)) E' { s₁ with heap := h, toks := tk })
    (fin : ∀ D h tk vs n, Fr h₀ L h m → News h₀ L h ((D, W.listOf vs n) :: news) → LCg.Off1 D news → (∀ b o, h₀.get? b = some o → b ≠ D) → StrsAre vs.toList (rs.map f) → Q (.ref D) { s₁ with heap := h, toks := tk }) :
    FltSrc prog w A h₀ L m env elt x [] scope cl Q (.ref ax) s₁ := by
  have hlen := hits.len
  have hsz' : its.size = its.toList.length := by simp
  refine ⟨ax, its, news, fun _ => true, fun i y => IsStr (f (rs.getD i [])) y, rfl, hh, F, N, Or.inr ⟨_, hS, rfl, n, rfl⟩, by rw [sizeLine_eq]; omega, fun h => FltTurn.all ?_, ?_⟩
  · intro i v I oI C oC D oD m₂ h' tk E' hi hv hC hx F' N' off ne
    have hv : its[i]? = some v := hv
    obtain ⟨a, ws, nr, r, rfl, hr, hm, hS'⟩ := hits.at' (i := i) (v := v) (by simpa using hv)
    have hget : rs.getD i [] = r := by simp [List.getD, hr]
    refine wpAny_mono (turn a ws nr r I oI C oC D oD m₂ h' tk E' (List.mem_of_getElem? hr) hS' hC hx F' (fun p hp => ?_) off ne) (fun y s₄ h₄ => ?_) fun _ _ e => e
    · rcases List.mem_cons.mp hp with rfl | hp
      · exact N' _ (.tail _ (.tail _ (.tail _ (hsub _ hm))))
      · exact N' _ hp
    obtain ⟨h₄, tk₄, news₄, e, F₄, N₄, off₄, hS₄, hsub, hp⟩ := h₄
    exact ⟨h₄, tk₄, news₄, e, F₄, N₄, off₄, hS₄, hsub, rfl, by show IsStr (f _) y; rw [hget]; exact hp⟩
  · intro D h tk ys F' N' o1 hne hsel
    refine fin D h tk ys.toArray ys.length F' N' o1 hne ?_
    have hi : its.size = rs.length := by omega
    rw [hi] at hsel
    have := selG_mapS (f := f) (xs := rs) (fun i c y hc hy => by have hy : IsStr _ _ := hy; simpa [List.getD, hc, IsStr] using hy) rs.length (Nat.le_refl _) ys hsel
    rw [List.take_length] at this
    exact this
theorem FltSrc.strsInt {elt : PySem.Expr} {x : Str} {scope : Scope} {cl : List (Str × Addr)} {s₁ : Shared} {Q : Value → Shared → Prop} {news : List (Addr × Obj)} {ax : Addr} {its : Array Value} {n : Nat} {ps : List Str} (g : Str → Nat)
    (hh : A.handled = none) (F : Fr h₀ L s₁.heap m) (N : News h₀ L s₁.heap news) (hS : (ax, W.listOf its n) ∈ news) (hits : StrsAre its.toList ps) (hsz : ps.length ≤ 1000)
    (turn : ∀ c t I oI C oC D oD m₂ h tk (E' : Value → Shared → Prop), c ∈ ps → LCg.NsObj oC m₂ → m₂ x = some (.str c t) → Fr h₀ L h m → News h₀ L h ((I, oI) :: (C, oC) :: (D, oD) :: news) → LCg.Off3 I C D news → ((@Ne Nat I C) ∧ (@Ne Nat I D) ∧ (@Ne Nat C D)) →
      wpAny (model prog w) A (eval elt (compEnvC scope cl C env)) (LCg.CompEnd h₀ L m { s₁ with heap := h, toks := tk } I oI C oC D oD (fun _ => True) (AnyEl (IsInt (g c : Nat)) news)) E' { s₁ with heap := h, toks := tk })
    (fin : ∀ D h tk vs n, Fr h₀ L h m → News h₀ L h ((D, W.listOf vs n) :: news) → LCg.Off1 D news → IntsAre vs.toList (ps.map fun p => ((g p : Nat) : Int)) → Q (.ref D) { s₁ with heap := h, toks := tk }) :
    FltSrc prog w A h₀ L m env elt x [] scope cl Q (.ref ax) s₁ := by
  have hlen := strsAre_len' hits
  have hsz' : its.size = its.toList.length := by simp
  refine ⟨ax, its, news, fun _ => true, fun i y => IsInt (g (ps.getD i (Str.ofString "")) : Nat) y, rfl, hh, F, N, Or.inr ⟨_, hS, rfl, n, rfl⟩, by rw [sizeLine_eq]; omega, fun h => FltTurn.all ?_, ?_⟩
  · intro i v I oI C oC D oD m₂ h' tk E' hi hv hC hx F' N' off ne
    have hv : its[i]? = some v := hv
    obtain ⟨c, t, rfl, hc⟩ := strsAt hits (i := i) (v := v) (by simpa using hv)
    have hget : ps.getD i (Str.ofString "") = c := by simp [List.getD, hc]
    refine wpAny_mono (turn c t I oI C oC D oD m₂ h' tk E' (List.mem_of_getElem? hc) hC hx F' N' off ne) (fun y s₄ h₄ => ?_) fun _ _ e => e
    obtain ⟨h₄, tk₄, news₄, e, F₄, N₄, off₄, hS₄, hsub, hp⟩ := h₄
    exact ⟨h₄, tk₄, news₄, e, F₄, N₄, off₄, hS₄, hsub, rfl, by show IsInt (g _ : Nat) y; rw [hget]; exact hp⟩
  · intro D h tk ys F' N' o1 hne hsel
    refine fin D h tk ys.toArray ys.length F' N' o1 ?_
    have hi : its.size = ps.length := by omega
    rw [hi] at hsel
    have := selG_mapI (f := fun p => ((g p : Nat) : Int)) (xs := ps) (fun i c y hc hy => by have hy : IsInt _ _ := hy; simpa [List.getD, hc, IsInt] using hy) ps.length (Nat.le_refl _) ys hsel
    rw [List.take_length] at this
    exact this
end
section
variable {prog : Program} {w : World} {A : Around} {E : Value → Shared → Prop} {s : Shared} {h₀ : Heap} {L l a b : Addr} {m : Str → Option Value} {news : List (Addr × Obj)} {value slice : PySem.Expr} {its its2 : Array Value} {n n2 k : Nat} {u : Tok} {Q : Value → Shared → Prop}
theorem use_sliceFromNeg (F : Fr h₀ L s.heap m) (N : News h₀ L s.heap news) (hl : (l, W.listOf its n) ∈ news) (hz : its.size ≤ 1000) (h0 : 0 < k) (hk : k ≤ its.size)
    (h : ∀ D h', Fr h₀ L h' m → News h₀ L h' ((D, listOf (its.toList.drop (its.size - k)).toArray 0) :: news) → (∀ p ∈ news, p.1 < D) → Q (.ref D) { s with heap := h' })
    (hs : subscripted slice false (.ref l) (.ref s.heap.objs.size) = operate [.ref s.heap.objs.size, .ref l] (getItem (.ref l) (.ref s.heap.objs.size))) (ht : ∀ r, letTemporaryGo value (.ref l) r = pure ()) :
    wpAny (model prog w) A (subscriptTail value slice (.ref l) (.ref s.heap.objs.size)) Q E { s with heap := s.heap.push { cls := .type "slice", data := .fields #[.int (-(k : Int)) u, .none, .none] } } := by
  refine kmk_slice F N ⟨_, News.get N hl, rfl, n, rfl⟩ (.int _ _) .none (fun D h' F' N' l1 => ?_) hs ht (lineOf hz)
  rw [pick_from_neg _ h0 hk] at N'
  exact h D h' F' N' l1
theorem use_sliceUpNeg (F : Fr h₀ L s.heap m) (N : News h₀ L s.heap news) (hl : (l, W.listOf its n) ∈ news) (hz : its.size ≤ 1000) (h0 : 0 < k) (hk : k ≤ its.size)
    (h : ∀ D h', Fr h₀ L h' m → News h₀ L h' ((D, listOf (its.toList.take (its.size - k)).toArray 0) :: news) → (∀ p ∈ news, p.1 < D) → Q (.ref D) { s with heap := h' })
    (hs : subscripted slice false (.ref l) (.ref s.heap.objs.size) = operate [.ref s.heap.objs.size, .ref l] (getItem (.ref l) (.ref s.heap.objs.size))) (ht : ∀ r, letTemporaryGo value (.ref l) r = pure ()) :
    wpAny (model prog w) A (subscriptTail value slice (.ref l) (.ref s.heap.objs.size)) Q E { s with heap := s.heap.push { cls := .type "slice", data := .fields #[.none, .int (-(k : Int)) u, .none] } } := by
  refine kmk_slice F N ⟨_, News.get N hl, rfl, n, rfl⟩ .none (.int _ _) (fun D h' F' N' l1 => ?_) hs ht (lineOf hz)
  rw [pick_upto_neg _ h0 hk] at N'
  exact h D h' F' N' l1
theorem use_maxI {ps : List Str} {g : Str → Nat} (hh : A.handled = none) (F : Fr h₀ L s.heap m) (N : News h₀ L s.heap news) (hl : (l, W.listOf its n) ∈ news) (hI : IntsAre its.toList (ps.map fun p => ((g p : Nat) : Int))) (hne : 0 < ps.length)
    (h : ∀ h' (M : Nat) (t : Tok) tk, Fr h₀ L h' m → News h₀ L h' news → IsMax M (ps.map g) → Q (.int (M : Int) t) { s with heap := h', toks := tk }) :
    wpAny (model prog w) A (call (.builtin "max") [.ref l]) Q E s := by
  refine max_list_N (vs := its.toList) hh F N ⟨_, News.get N hl, rfl, n, by simp⟩ hI (by simpa using hne) fun h' M t tk F' N' hm hM => ?_
  obtain ⟨p, hp, rfl⟩ := List.mem_map.mp hm
  refine h h' (g p) t tk F' N' ⟨List.mem_map.mpr ⟨p, hp, rfl⟩, fun x hx => ?_⟩
  obtain ⟨q, hq, rfl⟩ := List.mem_map.mp hx
  exact Int.ofNat_le.mp (hM _ (List.mem_map.mpr ⟨q, hq, rfl⟩))
end
noncomputable def rowB (r : List Str) : Bool := PyData.strOk (pathF r) && decide ((pathF r).length ≤ 1000) && decide ((Txt.join (Str.ofString "/") r).length ≤ 1000) && decide ((r.map (·.length)).sum + r.length ≤ 1048576) && decide (r.length ≤ 900) && decide (0 < r.length)
structure RowOk (r : List Str) : Prop where
  k : PyData.strOk (pathF r) = true
  l : (pathF r).length ≤ 1000
  j : (Txt.join (Str.ofString "/") r).length ≤ 1000
  z : (r.map (·.length)).sum + r.length ≤ 1048576
  n9 : r.length ≤ 900
  p : 0 < r.length
theorem RowOk.n {r : List Str} (h : RowOk r) : r.length ≤ 1000 := Nat.le_trans h.n9 (by decide)
theorem rowOk {r : List Str} (h : r ∈ rows39) : RowOk r := by
  have e : (rows39.all rowB) = true := by decide +kernel
  have e := List.all_eq_true.mp e r h
  simp only [rowB, Bool.and_eq_true, decide_eq_true_eq] at e
  obtain ⟨⟨⟨⟨⟨a, b⟩, c⟩, d⟩, f⟩, g⟩ := e
  exact ⟨a, b, c, d, f, g⟩
theorem Shelf.ok {ps : List Str} {rs : List (List Str)} (h : Shelf ps rs) : ∀ x ∈ ps, PyData.strOk x = true := fun x hx => by
  obtain ⟨r, hr, rfl⟩ := h.pathAt hx
  exact (rowOk hr).k
section
variable {prog : Program} {w : World} {A : Around} {E : Value → Shared → Prop} {s : Shared} {h₀ : Heap} {L l : Addr} {news : List (Addr × Obj)} {vs : Array Value} {n : Nat} {r : List Str} {t : Tok} {Q : Value → Shared → Prop}
theorem use_joinR (hr : r ∈ rows39) (N : News h₀ L s.heap news) (hl : (l, W.listOf vs n) ∈ news) (hS : StrsAre vs.toList r)
    (c : ∀ t' tk, (Txt.join (Str.ofString "/") r).length ≤ 1000 → Q (.str (Txt.join (Str.ofString "/") r) t') { s with toks := tk }) :
    wpAny (model prog w) A (call (.builtin "str.join") [.str (Str.ofString "/") t, .ref l]) Q E s :=
  join_listW ⟨_, News.get N hl, rfl, n, rfl⟩ hS (by decide) (rowOk hr).z fun t' k => c t' k (rowOk hr).j
end
section
variable {prog : Program} {w : World} {A : Around} {E : Value → Shared → Prop} {s : Shared} {h₀ : Heap} {L l a b : Addr} {m : Str → Option Value} {news : List (Addr × Obj)} {vs ws its : Array Value} {n n2 : Nat} {xs ys : List Str} {value slice : PySem.Expr} {u : Tok} {Q : Value → Shared → Prop}
theorem use_neSame (N : News h₀ L s.heap news) (ha : (a, W.listOf vs n) ∈ news) (hb : (b, W.listOf ws n2) ∈ news) (hi : StrsAre vs.toList xs) (hj : StrsAre ws.toList ys) (e : xs = ys) (lx : ∀ x ∈ xs, PyData.strOk x = true) (hu : A.units + 64 < cLine) (h : Q (.bool false) s) :
    wpAny (model prog w) A (compareOp .NotEq (.ref a) (.ref b)) Q E s := by
  subst e
  exact use_neS N ha hb hi hj lx lx hu (by simpa using h)
theorem use_sliceLast2 (F : Fr h₀ L s.heap m) (N : News h₀ L s.heap news) (hl : (l, W.listOf its n) ∈ news) (hz : its.size ≤ 1000) (hk : 2 ≤ its.size)
    (h : ∀ D h', Fr h₀ L h' m → News h₀ L h' ((D, listOf (its.toList.drop (its.size - 2)).toArray 0) :: news) → (∀ p ∈ news, p.1 < D) → Q (.ref D) { s with heap := h' })
    (hs : subscripted slice false (.ref l) (.ref s.heap.objs.size) = operate [.ref s.heap.objs.size, .ref l] (getItem (.ref l) (.ref s.heap.objs.size))) (ht : ∀ r, letTemporaryGo value (.ref l) r = pure ()) :
    wpAny (model prog w) A (subscriptTail value slice (.ref l) (.ref s.heap.objs.size)) Q E { s with heap := s.heap.push { cls := .type "slice", data := .fields #[.int (-2) u, .none, .none] } } :=
  use_sliceFromNeg (k := 2) F N hl hz (by decide) hk h hs ht
theorem use_sliceInit (F : Fr h₀ L s.heap m) (N : News h₀ L s.heap news) (hl : (l, W.listOf its n) ∈ news) (hS : StrsAre its.toList xs) (hz : xs.length ≤ 1000) (hk : 0 < xs.length)
    (h : ∀ D h' (vs' : Array Value), StrsAre vs'.toList xs.dropLast → Fr h₀ L h' m → News h₀ L h' ((D, listOf vs' 0) :: news) → (∀ p ∈ news, p.1 < D) → Q (.ref D) { s with heap := h' })
    (hs : subscripted slice false (.ref l) (.ref s.heap.objs.size) = operate [.ref s.heap.objs.size, .ref l] (getItem (.ref l) (.ref s.heap.objs.size))) (ht : ∀ r, letTemporaryGo value (.ref l) r = pure ()) :
    wpAny (model prog w) A (subscriptTail value slice (.ref l) (.ref s.heap.objs.size)) Q E { s with heap := s.heap.push { cls := .type "slice", data := .fields #[.none, .int (-1) u, .none] } } := by
  have hlen := strsAre_len' hS
  have e : its.toList.length = its.size := by simp
  have e3 : its.size = xs.length := e.symm.trans hlen
  refine use_sliceUpNeg (k := 1) F N hl (by rw [e3]; exact hz) (by decide) (by rw [e3]; exact hk) (fun D h' F' N' l1 => h D h' _ ?_ F' N' l1) hs ht
  have e2 : its.size - 1 = xs.length - 1 := by rw [e3]
  rw [e2, List.dropLast_eq_take]
  exact strsTake hS _
theorem lastTwo {vs : List Value} {ns : List Int} {k : Nat} {x y : Int} (h : IntsAre vs (ns ++ [x, y])) (hk : k = ns.length) : ∃ t u, vs.drop k = [.int x t, .int y u] := by
  subst hk
  have := intsAre_drop h ns.length
  rw [List.drop_left] at this
  generalize vs.drop ns.length = zs at this
  cases this with
  | cons _ t h => cases h with
    | cons _ u h => cases h; exact ⟨t, u, rfl⟩
end
end Mine
namespace Mine
open PySem.Spec PySem.Calls PySem.W.X
structure TV (x : Int) (row : List Str) (f b : Str) : Prop where
  r : namesF x = row
  f : fold x = f
  b : bang x = b
  t : Tgt x
structure UnderOk (ps : List Str) (f : Str) (a b : List Str) : Prop where
  e : ∀ k1 k2, k1 = posB ps a → k2 = posB ps b → (ps.take k2).drop k1 = ps.filter fun p => comF p f == f
structure NearOk (ps : List Str) (b : Str) (a : List Str) : Prop where
  e : ∀ k m m', k = posB ps a → IsMax m (ps.map fun p => lenC p b) → IsMax m' (((ps.take (k + 1)).drop (k - 1)).map fun p => lenC p b) → m' = m
theorem TV.under {x : Int} {row : List Str} {f b : Str} (V : TV x row f b) {ps : List Str} {rs : List (List Str)} (h : Shelf ps rs) : UnderOk ps f row.dropLast (row.dropLast ++ [Str.ofString "~"]) := by
  obtain ⟨rfl, rfl, rfl, T⟩ := V
  exact ⟨fun k1 k2 e1 e2 => by rw [e1, e2]; exact h.under T⟩
theorem TV.near {x : Int} {row : List Str} {f b : Str} (V : TV x row f b) {ps : List Str} {rs : List (List Str)} (h : Shelf ps rs) : NearOk ps b (row ++ [Str.ofString "!"]) := by
  obtain ⟨rfl, rfl, rfl, T⟩ := V
  exact ⟨fun k m m' e h1 h2 => by rw [e] at h2; exact h.near T h1 h2⟩
section
variable {w : World} {A : Around} {s : Shared} {h₀ : Heap} {L l k a b : Addr} {m : Str → Option Value} {news : List (Addr × Obj)} {Q E : Value → Shared → Prop} {vs ws its : Array Value} {n n2 : Nat} {ps xs : List Str} {t u : Tok} {x : Int} {p f b' : Str} {row : List Str}
theorem use_bl (R : Rdy w h₀) (F : Fr h₀ L s.heap m) (N : News h₀ L s.heap news) (hh : A.handled = none) (hd : A.depth ≤ 850) (hu : A.units ≤ 8500) (hl : (l, W.listOf vs n) ∈ news) (hk : (k, W.listOf ws n2) ∈ news) (hps : StrsAre vs.toList ps) (hxs : StrsAre ws.toList xs) (hn : ps.length ≤ 1000) (hpl : ∀ p ∈ ps, p.length ≤ 1000)
    (c : ∀ (k : Nat) u h' tk, k = posB ps xs → Fr h₀ L h' m → News h₀ L h' news → Q (.int (k : Int) u) { s with heap := h', toks := tk }) :
    wpAny (model Challenge.rw_pd0082_01.row.prog w) A (call (.ref 48) [.ref l, .ref k] [(Str.ofString "key", .ref 178)]) Q E s :=
  use (bl_spec w s l k vs ws n n2 ps xs (R.fr F) (News.get N hl) (News.get N hk) hps hxs (size_of_strs hps hn) hpl) F N hh hd hu (fun v h' tk e _ F' N' => by obtain ⟨u, rfl⟩ := e; exact c _ u h' tk rfl F' N')
theorem use_namesG (V : TV x row f b') (R : Rdy w h₀) (F : Fr h₀ L s.heap m) (N : News h₀ L s.heap news) (hh : A.handled = none) (hd : A.depth ≤ 900) (hu : A.units ≤ 9000)
    (c : ∀ D vs n h' tk, StrsAre vs.toList row → Fr h₀ L h' m → News h₀ L h' ((D, W.listOf vs n) :: news) → (∀ p ∈ news, p.1 ≠ D) → Q (.ref D) { s with heap := h', toks := tk }) :
    wpAny (model Challenge.rw_pd0082_01.row.prog w) A (call (.ref 173) [.int x t]) Q E s :=
  use (names_spec w s x t (R.fr F)) F N hh hd hu (fun v h' tk e g F' N' => by
    obtain ⟨D, vs, n, rfl, hD, ho, hS⟩ := e
    obtain ⟨a1, b1⟩ := news_add F N g hD ho
    exact c D vs n h' tk (V.r ▸ hS) F' a1 b1)
theorem use_dir (V : TV x row f b') (R : Rdy w h₀) (F : Fr h₀ L s.heap m) (N : News h₀ L s.heap news) (hh : A.handled = none) (hd : A.depth ≤ 900) (hu : A.units ≤ 9000)
    (c : ∀ u h' tk, Fr h₀ L h' m → News h₀ L h' news → Q (.str f u) { s with heap := h', toks := tk }) :
    wpAny (model Challenge.rw_pd0082_01.row.prog w) A (call (.ref 156) [.str (Str.ofString "/" ++ Txt.join (Str.ofString "/") row) t]) Q E s := by
  obtain ⟨rfl, rfl, rfl, T⟩ := V
  exact use (dirname_spec w s (pathF (namesF x)) t (R.fr F) T.l) F N hh hd hu (fun v h' tk e _ F' N' => by obtain ⟨u, rfl⟩ := e; rw [T.d]; exact c u h' tk F' N')
theorem use_bang (V : TV x row f b') (R : Rdy w h₀) (F : Fr h₀ L s.heap m) (N : News h₀ L s.heap news) (hh : A.handled = none) (hd : A.depth ≤ 900) (hu : A.units ≤ 9000)
    (c : ∀ u h' tk, Fr h₀ L h' m → News h₀ L h' news → Q (.str b' u) { s with heap := h', toks := tk }) :
    wpAny (model Challenge.rw_pd0082_01.row.prog w) A (call (.ref 142) [.str (Str.ofString "/" ++ Txt.join (Str.ofString "/") row) t, .str (Str.ofString "!") u]) Q E s := by
  obtain ⟨rfl, rfl, rfl, T⟩ := V
  exact use (join1_spec w s (pathF (namesF x)) (Str.ofString "!") t u (R.fr F) T.l (by decide) (by decide +kernel) T.e T.z) F N hh hd hu (fun v h' tk e _ F' N' => by obtain ⟨u, rfl⟩ := e; exact c u h' tk F' N')
structure PairOk (p q : Str) : Prop where
  c : CpOk p q
  k : lenC p q ≤ 1000
theorem use_lc {q : Str} (ok : PairOk p q) (R : Rdy w h₀) (F : Fr h₀ L s.heap m) (N : News h₀ L s.heap news) (hh : A.handled = none) (hd : A.depth ≤ 800) (hu : A.units ≤ 8000)
    (c : ∀ u h' tk, Fr h₀ L h' m → News h₀ L h' news → Q (.int (lenC p q : Nat) u) { s with heap := h', toks := tk }) :
    wpAny (model Challenge.rw_pd0082_01.row.prog w) A (call (.ref 185) [.str p t, .str q u]) Q E s :=
  use (lc_spec w s p q t u (R.fr F) ok.c ok.k) F N hh hd hu (fun v h' tk e _ F' N' => by obtain ⟨u, rfl⟩ := e; exact c u h' tk F' N')
theorem use_cpV {q : Str} (ok : CpOk p q) (R : Rdy w h₀) (F : Fr h₀ L s.heap m) (N : News h₀ L s.heap news) (hh : A.handled = none) (hd : A.depth ≤ 850) (hu : A.units ≤ 8500) (hl : (l, W.listOf #[.str p t, .str q u] 0) ∈ news)
    (c : ∀ r u h' tk, r = comF p q → r.length ≤ 1000 → Fr h₀ L h' m → News h₀ L h' news → Q (.str r u) { s with heap := h', toks := tk }) :
    wpAny (model Challenge.rw_pd0082_01.row.prog w) A (call (.ref 168) [.ref l]) Q E s :=
  use_cp ok R F N hh hd hu hl fun u h' tk le F' N' => c _ u h' tk rfl le F' N'
theorem TV.fold {rs : List (List Str)} (V : TV x row f b') (h : Shelf ps rs) : ∀ p ∈ ps, CpOk p f := fun p hp => by
  obtain ⟨rfl, rfl, rfl, T⟩ := V
  obtain ⟨r, hr, rfl⟩ := h.pathAt hp
  exact T.ok1 r hr
theorem TV.bang {rs : List (List Str)} (V : TV x row f b') (h : Shelf ps rs) : ∀ p ∈ ps, PairOk p b' := fun p hp => by
  obtain ⟨rfl, rfl, rfl, T⟩ := V
  obtain ⟨r, hr, rfl⟩ := h.pathAt hp
  exact ⟨T.ok2 r hr, T.cl r hr⟩
end
section
variable {prog : Program} {w : World} {A : Around} {E : Value → Shared → Prop} {s : Shared} {h₀ : Heap} {L l a b : Addr} {m : Str → Option Value} {news : List (Addr × Obj)} {vs ws its : Array Value} {n n2 k j : Nat} {xs ys ps : List Str} {value slice : PySem.Expr} {t u u' : Tok} {Q : Value → Shared → Prop} {c : Str}
theorem use_addS (F : Fr h₀ L s.heap m) (N : News h₀ L s.heap news) (ha : (a, W.listOf vs n) ∈ news) (hS : StrsAre vs.toList xs) (hb : (b, W.listOf #[.str c t] n2) ∈ news) (hz : xs.length ≤ 900)
    (h : ∀ D h' (vs' : Array Value), StrsAre vs'.toList (xs ++ [c]) → Fr h₀ L h' m → News h₀ L h' ((D, listOf vs' 0) :: news) → (∀ p ∈ news, p.1 < D) → Q (.ref D) { s with heap := h' }) :
    wpAny (model prog w) A (binaryOp .Add (.ref a) (.ref b)) Q E s := by
  have hlen := strsAre_len' hS
  refine use_addL (li := vs.toList) (li2 := [.str c t]) F N (by simpa using ha) hb (by simp; simp at hlen; omega) fun D h' F' N' l1 => h D h' _ ?_ F' N' l1
  exact strsAre_append hS (.cons _ _ .nil)
theorem use_sliceS (F : Fr h₀ L s.heap m) (N : News h₀ L s.heap news) (hl : (l, W.listOf its n) ∈ news) (hS : StrsAre its.toList ps) (hz : ps.length ≤ 1000)
    (h : ∀ D h' (vs' : Array Value), StrsAre vs'.toList ((ps.take j).drop k) → Fr h₀ L h' m → News h₀ L h' ((D, listOf vs' 0) :: news) → (∀ p ∈ news, p.1 < D) → Q (.ref D) { s with heap := h' })
    (hs : subscripted slice false (.ref l) (.ref s.heap.objs.size) = operate [.ref s.heap.objs.size, .ref l] (getItem (.ref l) (.ref s.heap.objs.size))) (ht : ∀ r, letTemporaryGo value (.ref l) r = pure ()) :
    wpAny (model prog w) A (subscriptTail value slice (.ref l) (.ref s.heap.objs.size)) Q E { s with heap := s.heap.push { cls := .type "slice", data := .fields #[.int (k : Int) u, .int (j : Int) u', .none] } } :=
  use_sliceRun F N hl (size_of_strs hS hz) (fun D h' F' N' l1 => h D h' _ (strsAre_drop (strsAre_take hS j) k) F' N' l1) hs ht
theorem use_sliceNear (F : Fr h₀ L s.heap m) (N : News h₀ L s.heap news) (hl : (l, W.listOf its n) ∈ news) (hS : StrsAre its.toList ps) (hz : ps.length ≤ 1000)
    (h : ∀ D h' (vs' : Array Value), StrsAre vs'.toList ((ps.take (k + 1)).drop (k - 1)) → Fr h₀ L h' m → News h₀ L h' ((D, listOf vs' 0) :: news) → (∀ p ∈ news, p.1 < D) → Q (.ref D) { s with heap := h' })
    (hs : subscripted slice false (.ref l) (.ref s.heap.objs.size) = operate [.ref s.heap.objs.size, .ref l] (getItem (.ref l) (.ref s.heap.objs.size))) (ht : ∀ r, letTemporaryGo value (.ref l) r = pure ()) :
    wpAny (model prog w) A (subscriptTail value slice (.ref l) (.ref s.heap.objs.size)) Q E { s with heap := s.heap.push { cls := .type "slice", data := .fields #[.int (if (0 : Int) > (k : Int) - 1 then 0 else (k : Int) - 1) u, .int ((k : Int) + 1) u', .none] } } := by
  have e : (if (0 : Int) > (k : Int) - 1 then 0 else (k : Int) - 1) = ((k - 1 : Nat) : Int) := by
    by_cases h : (0 : Int) > (k : Int) - 1
    · rw [if_pos h]; omega
    · rw [if_neg h]; omega
  have e2 : (k : Int) + 1 = ((k + 1 : Nat) : Int) := by omega
  rw [e, e2]
  exact use_sliceS F N hl hS hz h hs ht
theorem use_neSameI {p q : Nat} (e : p = q) (h : Q (.bool false) s) : wpAny (model prog w) A (compareOp .NotEq (.int (p : Int) t) (.int (q : Int) u)) Q E s := by
  subst e
  refine ne_int ?_
  simpa using h
theorem near_len (h0 : k = posB ps xs) (h1 : 0 < ps.length) : 0 < ((ps.take (k + 1)).drop (k - 1)).length := by
  have h : k ≤ ps.length := by rw [h0]; exact bsearch_le _ _ _ _ (Nat.zero_le _)
  clear h0
  rw [List.length_drop, List.length_take]
  refine Nat.sub_pos_of_lt (Nat.lt_min.mpr ⟨Nat.lt_of_le_of_lt (Nat.sub_le _ _) (Nat.lt_succ_self _), ?_⟩)
  cases k with
  | zero => exact h1
  | succ k => exact h
theorem slice_ok {P : Str → Prop} (h : ∀ x ∈ ps, P x) : ∀ x ∈ (ps.take j).drop k, P x := fun x hx => h x (List.mem_of_mem_take (List.mem_of_mem_drop hx))
theorem slice_le (h : ps.length ≤ 1000) : ((ps.take j).drop k).length ≤ 1000 := by
  rw [List.length_drop]
  exact Nat.le_trans (Nat.sub_le _ _) (Nat.le_trans (List.length_take_le' _ _) h)
end
noncomputable def L2J (L S D2 : Addr) (vs1 : Array Value) (n1 : Nat) (vs2 : List Value) (i : Nat) (m : Str → Option Value) (news : List (Addr × Obj)) : Prop :=
  ∃ (o1 o2 o3 : Obj) (c1 c2 c3 : Option Value) (u : Str → Option Value),
    news = (S, W.listOf vs1 n1) :: (D2, W.listOf vs2.toArray 0) :: (L + 1 + 1 + 1, o1) :: (L + 1 + 1, o2) :: (L + 1, o3) :: [] ∧
    m = (fun z => if z = Str.ofString "shelf" then some (.ref S) else u z) ∧
    o1.data = .cell c1 ∧ o2.data = .cell c2 ∧ o3.data = .cell c3
theorem map_eq1 {m : Str → Option Value} {b : Value} (h2 : m (Str.ofString "shelf") = some b) :
    m = fun z => if z = Str.ofString "shelf" then some b else m z := by
  funext z
  by_cases z2 : z = Str.ofString "shelf"
  · rw [if_pos z2, z2, h2]
  · rw [if_neg z2]
theorem l2_end {h₀ h' : Heap} {L S D2 It : Addr} {oI o1 o2 o3 : Obj} {s : Shared} {tk : Nat} {m₂ : Str → Option Value} {all : List (Addr × Obj)} {vs2 : List Value} {i n1 : Nat} {vs1 : Array Value} {c1 c2 c3 : Option Value}
    (F : Fr h₀ L h' m₂) (N : News h₀ L h' all) (mS : (S, W.listOf vs1 n1) ∈ all) (mD : (D2, W.listOf vs2.toArray 0) ∈ all) (m1 : (L + 1 + 1 + 1, o1) ∈ all) (m2 : (L + 1 + 1, o2) ∈ all) (m3 : (L + 1, o3) ∈ all) (mI : (It, oI) ∈ all)
    (z2 : m₂ (Str.ofString "shelf") = some (.ref S)) (d1 : o1.data = .cell c1) (d2 : o2.data = .cell c2) (d3 : o3.data = .cell c3)
    (i1 : @Ne Nat S It) (i3 : @Ne Nat D2 It) (i4 : @Ne Nat (L + 1 + 1 + 1) It) (i5 : @Ne Nat (L + 1 + 1) It) (i6 : @Ne Nat (L + 1) It) :
    TurnEnd h₀ L (L2J L S D2 vs1 n1 vs2 (i + 1)) It oI s { s with heap := h', toks := tk } := by
  refine ⟨h', tk, m₂, (S, W.listOf vs1 n1) :: (D2, W.listOf vs2.toArray 0) :: (L + 1 + 1 + 1, o1) :: (L + 1 + 1, o2) :: (L + 1, o3) :: [], rfl, F, ?_, ?_, o1, o2, o3, c1, c2, c3, m₂, rfl, map_eq1 z2, d1, d2, d3⟩
  · intro p hp
    simp only [List.mem_cons, List.not_mem_nil, or_false] at hp
    rcases hp with rfl | rfl | rfl | rfl | rfl | rfl
    · exact N _ mI
    · exact N _ mS
    · exact N _ mD
    · exact N _ m1
    · exact N _ m2
    · exact N _ m3
  · intro p hp
    simp only [List.mem_cons, List.not_mem_nil, or_false] at hp
    rcases hp with rfl | rfl | rfl | rfl | rfl
    · exact i1
    · exact i3
    · exact i4
    · exact i5
    · exact i6

section
variable {prog : Program} {w : World} {A : Around} {E : Value → Shared → Prop} {h₀ : Heap} {L : Addr} {m : Str → Option Value} {env : Env}
theorem FltSrc.fold {elt test : PySem.Expr} {x : Str} {scope : Scope} {cl : List (Str × Addr)} {s₁ : Shared} {Q : Value → Shared → Prop} {news : List (Addr × Obj)} {ax : Addr} {its : Array Value} {n : Nat} {ps : List Str} {f : Str} (hok : ∀ p ∈ ps, CpOk p f)
    (hh : A.handled = none) (F : Fr h₀ L s₁.heap m) (N : News h₀ L s₁.heap news) (hS : (ax, W.listOf its n) ∈ news) (hits : StrsAre its.toList ps) (hsz : ps.length ≤ 1000)
    (turn : ∀ c t I oI C oC D oD m₂ h tk (E' : Value → Shared → Prop), CpOk c f → LCg.NsObj oC m₂ → m₂ x = some (.str c t) → Fr h₀ L h m → News h₀ L h ((I, oI) :: (C, oC) :: (D, oD) :: news) → LCg.Off3 I C D news → ((@Ne Nat I C) ∧ (@Ne Nat I D) ∧ (@Ne Nat C D)) →
      wpAny (model prog w) A (isTrue test (compEnvC scope cl C env) (eval test (compEnvC scope cl C env))) (fun ok s₃ =>
        if ok = true then wpAny (model prog w) A (eval elt (compEnvC scope cl C env)) (LCg.CompEnd h₀ L m { s₁ with heap := h, toks := tk } I oI C oC D oD (fun _ => True) (StrEl id (fun p => comF p f == f) news c)) E' s₃
        else LCg.CompEnd h₀ L m { s₁ with heap := h, toks := tk } I oI C oC D oD (fun _ => True) (StrNo (fun p => comF p f == f) news c) .none s₃) E' { s₁ with heap := h, toks := tk })
    (fin : ∀ D h tk vs n, Fr h₀ L h m → News h₀ L h ((D, W.listOf vs n) :: news) → LCg.Off1 D news → StrsAre vs.toList (ps.filter fun p => comF p f == f) → Q (.ref D) { s₁ with heap := h, toks := tk }) :
    FltSrc prog w A h₀ L m env elt x [test] scope cl Q (.ref ax) s₁ :=
  FltSrc.strs (fun p => comF p f == f) id hh F N (Or.inr ⟨_, hS, rfl, n, rfl⟩) hits (size_of_strs hits hsz)
    (fun c t I oI C oC D oD m₂ h tk E' hc => turn c t I oI C oC D oD m₂ h tk E' (hok c hc)) fun D h tk vs n F' N' o1 _ hS' => fin D h tk vs n F' N' o1 (by simpa using hS')
theorem FltSrc.near {elt : PySem.Expr} {x : Str} {scope : Scope} {cl : List (Str × Addr)} {s₁ : Shared} {Q : Value → Shared → Prop} {news : List (Addr × Obj)} {ax : Addr} {its : Array Value} {n : Nat} {ps ps₀ : List Str} {b : Str} (hok : ∀ p ∈ ps₀, PairOk p b)
    (hh : A.handled = none) (F : Fr h₀ L s₁.heap m) (N : News h₀ L s₁.heap news) (hS : (ax, W.listOf its n) ∈ news) (hits : StrsAre its.toList ps) (hsub : ∀ p ∈ ps, p ∈ ps₀) (hsz : ps.length ≤ 1000)
    (turn : ∀ c t I oI C oC D oD m₂ h tk (E' : Value → Shared → Prop), PairOk c b → LCg.NsObj oC m₂ → m₂ x = some (.str c t) → Fr h₀ L h m → News h₀ L h ((I, oI) :: (C, oC) :: (D, oD) :: news) → LCg.Off3 I C D news → ((@Ne Nat I C) ∧ (@Ne Nat I D) ∧ (@Ne Nat C D)) →
      wpAny (model prog w) A (eval elt (compEnvC scope cl C env)) (LCg.CompEnd h₀ L m { s₁ with heap := h, toks := tk } I oI C oC D oD (fun _ => True) (AnyEl (IsInt (lenC c b : Nat)) news)) E' { s₁ with heap := h, toks := tk })
    (fin : ∀ D h tk vs n, Fr h₀ L h m → News h₀ L h ((D, W.listOf vs n) :: news) → LCg.Off1 D news → IntsAre vs.toList (ps.map fun p => ((lenC p b : Nat) : Int)) → Q (.ref D) { s₁ with heap := h, toks := tk }) :
    FltSrc prog w A h₀ L m env elt x [] scope cl Q (.ref ax) s₁ :=
  FltSrc.strsInt (fun p => lenC p b) hh F N hS hits hsz
    (fun c t I oI C oC D oD m₂ h tk E' hc => turn c t I oI C oC D oD m₂ h tk E' (hok c (hsub c hc))) fin
end
theorem neMem {a D : Addr} {o : Obj} {news : List (Addr × Obj)} (h : ∀ p ∈ news, p.1 ≠ D) (m : (a, o) ∈ news) : @Ne Nat a D := h _ m
theorem neMem' {a D : Addr} {o : Obj} {news : List (Addr × Obj)} (h : ∀ p ∈ news, p.1 ≠ D) (m : (a, o) ∈ news) : @Ne Nat D a := fun e => h _ m e.symm
theorem ltMem {a D : Addr} {o : Obj} {news : List (Addr × Obj)} (h : ∀ p ∈ news, p.1 < D) (m : (a, o) ∈ news) : @Ne Nat a D := Nat.ne_of_lt (h _ m)
theorem ltMem' {a D : Addr} {o : Obj} {news : List (Addr × Obj)} (h : ∀ p ∈ news, p.1 < D) (m : (a, o) ∈ news) : @Ne Nat D a := Nat.ne_of_gt (h _ m)
theorem ltIn {a D : Addr} {o : Obj} {news : List (Addr × Obj)} (h : ∀ p ∈ news, p.1 < D) (m : (a, o) ∈ news) : @LT.lt Nat _ a D := h _ m
theorem ne3 {L S : Addr} (h : @LT.lt Nat _ (L + 1 + 1 + 1) S) : (@Ne Nat S (L + 1 + 1 + 1)) ∧ (@Ne Nat S (L + 1 + 1)) ∧ (@Ne Nat S (L + 1)) :=
  ⟨Nat.ne_of_gt h, Nat.ne_of_gt (Nat.lt_of_succ_lt h), Nat.ne_of_gt (Nat.lt_of_succ_lt (Nat.lt_of_succ_lt h))⟩
theorem cells3 {L : Addr} : (@Ne Nat (L + 1 + 1) (L + 1)) ∧ (@Ne Nat (L + 1 + 1 + 1) (L + 1)) ∧ (@Ne Nat (L + 1 + 1 + 1) (L + 1 + 1)) := by
  refine ⟨?_, ?_, ?_⟩ <;> omega
noncomputable def PathPost (h₀ : Heap) (L : Addr) (m : Str → Option Value) (news : List (Addr × Obj)) (s₁ : Shared) (r : Str) (v : Value) (s' : Shared) : Prop :=
  ∃ u h' tk, v = .str r u ∧ s' = { s₁ with heap := h', toks := tk } ∧ r.length ≤ 1000 ∧ Fr h₀ L h' m ∧ News h₀ L h' news
theorem pathMono {M : Model} {A : Around} {t : Sem Value} {Q : Value → Shared → Prop} {E : Value → Shared → Prop} {h₀ : Heap} {L : Addr} {m : Str → Option Value} {news : List (Addr × Obj)} {s₁ : Shared} (r : Str)
    (F : Fr h₀ L s₁.heap m) (N : News h₀ L s₁.heap news) (h : wpAny M A t (PathPost h₀ L m news s₁ r) E s₁)
    (k : ∀ u h' tk, r.length ≤ 1000 → Fr h₀ L h' m → News h₀ L h' news → Q (.str r u) { s₁ with heap := h', toks := tk }) : wpAny M A t Q E s₁ := by
  refine wpAny_mono h ?_ fun _ _ e => e
  rintro v s' ⟨u, h', tk, rfl, rfl, hr, F', N'⟩
  exact k u h' tk hr F' N'
theorem use_namesAny {w : World} {A : Around} {s : Shared} {h₀ : Heap} {L : Addr} {m : Str → Option Value} {news : List (Addr × Obj)} {Q E : Value → Shared → Prop} {t : Tok} {x : Int} (R : Rdy w h₀) (F : Fr h₀ L s.heap m) (N : News h₀ L s.heap news) (hh : A.handled = none) (hd : A.depth ≤ 900) (hu : A.units ≤ 9000)
    (c : ∀ D vs n h' tk, StrsAre vs.toList (namesF x) → Fr h₀ L h' m → News h₀ L h' ((D, W.listOf vs n) :: news) → (∀ p ∈ news, p.1 ≠ D) → Q (.ref D) { s with heap := h', toks := tk }) :
    wpAny (model Challenge.rw_pd0082_01.row.prog w) A (call (.ref 173) [.int x t]) Q E s :=
  use (names_spec w s x t (R.fr F)) F N hh hd hu (fun v h' tk e g F' N' => by
    obtain ⟨D, vs, n, rfl, hD, ho, hS⟩ := e
    obtain ⟨a1, b1⟩ := news_add F N g hD ho
    exact c D vs n h' tk hS F' a1 b1)
end Mine
namespace Mine
open PySem.Spec PySem.Calls PySem.W.X
theorem intsAt {vs : List Value} {ns : List Int} (h : IntsAre vs ns) : ∀ {i : Nat} {v : Value}, vs[i]? = some v → ∃ x t, v = .int x t ∧ ns[i]? = some x := by
  induction h with
  | nil => intro i v e; simp at e
  | cons y t _ ih =>
    intro i v e
    cases i with
    | zero => cases e; exact ⟨_, _, rfl, rfl⟩
    | succ i => exact ih e
structure RowsMem (rs : List (List Str)) : Prop where
  m : ∀ r ∈ rs, r ∈ rows39
theorem RowsMem.elim {rs : List (List Str)} (h : RowsMem rs) {r : List Str} (hr : r ∈ rs) : r ∈ rows39 := h.m r hr
local macro_rules | `(tactic| k_ne) => `(tactic| (refine neN ?_; (try dsimp only); first | (with_reducible assumption) | (refine Ne.symm ?_; with_reducible assumption) | exact neMem (by with_reducible assumption) (by k_mem) | exact neMem' (by with_reducible assumption) (by k_mem) | exact ltMem (by with_reducible assumption) (by k_mem) | exact ltMem' (by with_reducible assumption) (by k_mem) | omega))
theorem law_spec (w : World) (s : Shared) (l : Addr) (vs : List Value) (ns : List Int) (R : Rdy w s.heap) (hL : s.heap.IsList l vs.toArray) (hI : IntsAre vs ns) (hn : ns.length ≤ 63) :
    codeAny (model Challenge.rw_pd0082_01.row.prog w) (Ac 700 7000) (.call (.ref 190) ⟨[.ref l], []⟩) (Gives s (fun v _ => v = .bool true)) s := by
  w_top off
  obtain ⟨X, mean, mg, mb, T⟩ := id R
  (refine' enterC ?k1 ?k2 ?k6 ?k7 ?k8 ?k9 ?kB ?kD ?_ ?c2 ?c3 ?c4; (case k1 => assumption); (case k2 => assumption); (case k6 => k_is); (case k7 => k_is); (case k8 => decide); (case k9 => first | exact BindsTo.of_eq rfl | (refine' kp_binds ?kx ?ke; (case kx => assumption); (case ke => exact fun _ => rfl))); (case kB => exact rfl); (case kD => decide +kernel); (case c2 => exact rfl); (case c3 => exact rfl); (case c4 => exact rfl))
  intro L h₁ tk cells F N Y
  refine genQE ?_
  intro Q' hQ'
  obtain ⟨oc1, oc2, oc3, rfl, d1, d2, d3⟩ := CellsAre.three Y
  clear Y
  replace d1 : oc1.data = .cell none := d1
  replace d2 : oc2.data = .cell none := d2
  replace d3 : oc3.data = .cell none := d3
  replace F : Fr s.heap L h₁ (fun y => if y = Str.ofString "script" then some (.ref l) else none) := F
  repeat' (first | (k_unfold; (try dsimp only)) | ((with_reducible show wpAny _ _ (pyIter (Value.ref _)) _ _ _); first | with_reducible (refine Halt.out ?_) | (refine Halt.out ?_)) | walk1 | (dsimp only; first | ((with_reducible show wpAny _ _ (pyIter (Value.ref _)) _ _ _); first | with_reducible (refine Halt.out ?_) | (refine Halt.out ?_)) | walk1) | (leave1; walk_say "STEP leave1"; try dsimp only) | fail "no step")
  refine Halt.mk ?_
  rename_i D0 ws0 h9 hI0 hC0 hL0 lt5 l2 h8 lt4 D1 ws h7 iL lt3 S h6 lt2 Rr h5 lt1 Dt h4 lt0 h3 h2 h1' h' lF lN
  clear hI0 hC0 hL0
  have hlen : ws.length = (List.take 6 ns ++ [0, 1, 4, 19, 2, 10]).length := iL.length
  have hsm : (List.take 6 ns ++ [0, 1, 4, 19, 2, 10]).length ≤ 12 := by simp; omega
  generalize hnums : List.take 6 ns ++ [0, 1, 4, 19, 2, 10] = nums at iL hlen hsm
  refine iter_led (vs := ws) (ol := W.listOf ws.toArray 0) (news := (S, W.listOf #[] 0) :: (Rr, W.listOf #[] 0) :: (D1, W.listOf ws.toArray 0) :: (L + 1 + 1 + 1, oc1) :: (L + 1 + 1, oc2) :: (L + 1, oc3) :: []) (LJ L S D1 ws nums) rfl rfl ⟨_, rfl⟩ ?_ lF ?_ ?_ ?_ ?_
  · rintro i m news ⟨vs, n, Rr, rvs, nr, o1, o2, o3, v1, own, u, rfl, _⟩
    exact .tail _ (.tail _ (.head _))
  · intro p hp
    simp only [List.mem_cons, List.not_mem_nil, or_false] at hp
    rcases hp with rfl | rfl | rfl | rfl | rfl | rfl <;> exact lN _ (by simp)
  · refine ⟨#[], 0, Rr, #[], 0, oc1, oc2, oc3, none, [], _, rfl, rfl, d1, d2, d3, .nil, rfl, (fun _ h => nomatch h), ?_, ?_, (fun _ h => nomatch h), rfl, rfl⟩
    · exact Nat.ne_of_gt lt1.1
    · exact lt1.2.2.2.2.1
  · rintro i v m news h tk It oI hv ⟨vs1, n1, R1, rvs, nr, o1, o2, o3, v1, own, u, rfl, rfl, e1, e2, e3, hS, hR, hO, hne, hlt, hP, hl1, hl2⟩ hIt F₁ N₁
    clear lF lN
    obtain ⟨x, t, rfl, hx⟩ := intsAt iL hv
    have hi : i < nums.length := (List.getElem?_eq_some_iff.mp hx).1
    have hsz1 : (shelfF (nums.take i)).length ≤ 1000 := by omega
    have hsz2 : (rowsF (nums.take i)).length ≤ 1000 := by omega
    have hrs : rvs.toList.length ≤ 20 := by have := hR.len; omega
    have hrs2 : rvs.size ≤ 1000 := by have e : rvs.toList.length = rvs.size := (by simp); omega
    dsimp only at F₁
    replace F₁ : Fr s.heap L h _ := F₁
    replace N₁ : News s.heap L h _ := N₁
    obtain ⟨a1, a2, a3⟩ := ne3 lt2.2.2.2.1
    obtain ⟨b1, b2, b3⟩ := ne3 lt3.2.2.1
    obtain ⟨r1, r2, r3⟩ := ne3 hlt
    obtain ⟨c1, c2, c3⟩ := @cells3 L
    have sd : @Ne Nat D1 S := Nat.ne_of_lt lt2.1
    have hIo : AllNe It own := allNe_of fun p hp => hIt p (by repeat (first | exact hp | refine List.Mem.tail _ ?_))
    have hl9 := hl2
    clear lt0 lt1 lt2 lt3 lt4 lt5 hlt hl2 hi
    repeat' (first | (k_unfold; (try dsimp only)) | ((with_reducible show wpAny _ _ (eval (PySem.Expr.Call (PySem.Expr.Name (Str.ofString "normpath") _) _ _ _) _) _ _ _); first | with_reducible (refine Halt.out ?_) | (refine Halt.out ?_)) | ((with_reducible show wpAny _ _ (call (Value.ref _) _ _) _ _ _); first | with_reducible (((with_reducible rename Fr _ _ _ _ => lF'); (with_reducible rename News _ _ _ _ => lN'); (with_reducible rename Rdy _ _ => lR'); first | (refine use_namesAny lR' lF' lN' (by rfl) (by exact Nat.le_of_ble_eq_true rfl) (by exact Nat.le_of_ble_eq_true rfl) ?_; intro D' vs' n' h' tk' hS' F' N' ne'))) | (((with_reducible rename Fr _ _ _ _ => lF'); (with_reducible rename News _ _ _ _ => lN'); (with_reducible rename Rdy _ _ => lR'); first | (refine use_namesAny lR' lF' lN' (by rfl) (by exact Nat.le_of_ble_eq_true rfl) (by exact Nat.le_of_ble_eq_true rfl) ?_; intro D' vs' n' h' tk' hS' F' N' ne')))) | walk1 | (dsimp only; first | ((with_reducible show wpAny _ _ (eval (PySem.Expr.Call (PySem.Expr.Name (Str.ofString "normpath") _) _ _ _) _) _ _ _); first | with_reducible (refine Halt.out ?_) | (refine Halt.out ?_)) | ((with_reducible show wpAny _ _ (call (Value.ref _) _ _) _ _ _); first | with_reducible (((with_reducible rename Fr _ _ _ _ => lF'); (with_reducible rename News _ _ _ _ => lN'); (with_reducible rename Rdy _ _ => lR'); first | (refine use_namesAny lR' lF' lN' (by rfl) (by exact Nat.le_of_ble_eq_true rfl) (by exact Nat.le_of_ble_eq_true rfl) ?_; intro D' vs' n' h' tk' hS' F' N' ne'))) | (((with_reducible rename Fr _ _ _ _ => lF'); (with_reducible rename News _ _ _ _ => lN'); (with_reducible rename Rdy _ _ => lR'); first | (refine use_namesAny lR' lF' lN' (by rfl) (by exact Nat.le_of_ble_eq_true rfl) (by exact Nat.le_of_ble_eq_true rfl) ?_; intro D' vs' n' h' tk' hS' F' N' ne')))) | walk1) | (leave1; walk_say "STEP leave1"; try dsimp only) | fail "no step")
    refine Halt.mk ?_
    (with_reducible rename Fr _ _ _ _ => kF)
    (with_reducible rename News _ _ _ _ => kN)
    refine pathMono (pathF (namesF x)) kF kN ?_ ?_
    · clear hS hR hO hIt hIo hP iL hx
      rcases namesF_cases x with ⟨a, ha, e⟩ | ⟨a, b, ha, hb, e⟩ | ⟨a, b, c, ha, hb, hc, e⟩
      all_goals rw [e] at hS'
      all_goals rw [e]
      · obtain ⟨t, rfl⟩ := strs1 hS'
        repeat' (first | (k_unfold; (try dsimp only)) | ((with_reducible show wpAny _ _ (call (Value.ref _) _ _) _ _ _); first | with_reducible (((with_reducible rename Fr _ _ _ _ => lF'); (with_reducible rename News _ _ _ _ => lN'); (with_reducible rename Rdy _ _ => lR'); first | (refine use_joinA (by first | with_reducible assumption | assumption) lR' lF' lN' (by rfl) (by exact Nat.le_of_ble_eq_true rfl) (by exact Nat.le_of_ble_eq_true rfl) ?_; intro u' h' tk' F' N') | (refine use_joinB (by first | with_reducible assumption | assumption) (by first | with_reducible assumption | assumption) lR' lF' lN' (by rfl) (by exact Nat.le_of_ble_eq_true rfl) (by exact Nat.le_of_ble_eq_true rfl) ?_; intro u' h' tk' F' N') | (refine use_joinC (by first | with_reducible assumption | assumption) (by first | with_reducible assumption | assumption) (by first | with_reducible assumption | assumption) lR' lF' lN' (by rfl) (by exact Nat.le_of_ble_eq_true rfl) (by exact Nat.le_of_ble_eq_true rfl) ?_; intro u' h' tk' F' N') | (refine use_norm (by first | with_reducible exact normA_ok (by first | with_reducible assumption | assumption) | with_reducible exact normB_ok (by first | with_reducible assumption | assumption) (by first | with_reducible assumption | assumption) | with_reducible exact normC_ok (by first | with_reducible assumption | assumption) (by first | with_reducible assumption | assumption) (by first | with_reducible assumption | assumption)) lR' lF' lN' (by rfl) (by exact Nat.le_of_ble_eq_true rfl) (by exact Nat.le_of_ble_eq_true rfl) ?_; intro u' h' tk' le' F' N'))) | (((with_reducible rename Fr _ _ _ _ => lF'); (with_reducible rename News _ _ _ _ => lN'); (with_reducible rename Rdy _ _ => lR'); first | (refine use_joinA (by first | with_reducible assumption | assumption) lR' lF' lN' (by rfl) (by exact Nat.le_of_ble_eq_true rfl) (by exact Nat.le_of_ble_eq_true rfl) ?_; intro u' h' tk' F' N') | (refine use_joinB (by first | with_reducible assumption | assumption) (by first | with_reducible assumption | assumption) lR' lF' lN' (by rfl) (by exact Nat.le_of_ble_eq_true rfl) (by exact Nat.le_of_ble_eq_true rfl) ?_; intro u' h' tk' F' N') | (refine use_joinC (by first | with_reducible assumption | assumption) (by first | with_reducible assumption | assumption) (by first | with_reducible assumption | assumption) lR' lF' lN' (by rfl) (by exact Nat.le_of_ble_eq_true rfl) (by exact Nat.le_of_ble_eq_true rfl) ?_; intro u' h' tk' F' N') | (refine use_norm (by first | with_reducible exact normA_ok (by first | with_reducible assumption | assumption) | with_reducible exact normB_ok (by first | with_reducible assumption | assumption) (by first | with_reducible assumption | assumption) | with_reducible exact normC_ok (by first | with_reducible assumption | assumption) (by first | with_reducible assumption | assumption) (by first | with_reducible assumption | assumption)) lR' lF' lN' (by rfl) (by exact Nat.le_of_ble_eq_true rfl) (by exact Nat.le_of_ble_eq_true rfl) ?_; intro u' h' tk' le' F' N')))) | walk1 | (dsimp only; first | ((with_reducible show wpAny _ _ (call (Value.ref _) _ _) _ _ _); first | with_reducible (((with_reducible rename Fr _ _ _ _ => lF'); (with_reducible rename News _ _ _ _ => lN'); (with_reducible rename Rdy _ _ => lR'); first | (refine use_joinA (by first | with_reducible assumption | assumption) lR' lF' lN' (by rfl) (by exact Nat.le_of_ble_eq_true rfl) (by exact Nat.le_of_ble_eq_true rfl) ?_; intro u' h' tk' F' N') | (refine use_joinB (by first | with_reducible assumption | assumption) (by first | with_reducible assumption | assumption) lR' lF' lN' (by rfl) (by exact Nat.le_of_ble_eq_true rfl) (by exact Nat.le_of_ble_eq_true rfl) ?_; intro u' h' tk' F' N') | (refine use_joinC (by first | with_reducible assumption | assumption) (by first | with_reducible assumption | assumption) (by first | with_reducible assumption | assumption) lR' lF' lN' (by rfl) (by exact Nat.le_of_ble_eq_true rfl) (by exact Nat.le_of_ble_eq_true rfl) ?_; intro u' h' tk' F' N') | (refine use_norm (by first | with_reducible exact normA_ok (by first | with_reducible assumption | assumption) | with_reducible exact normB_ok (by first | with_reducible assumption | assumption) (by first | with_reducible assumption | assumption) | with_reducible exact normC_ok (by first | with_reducible assumption | assumption) (by first | with_reducible assumption | assumption) (by first | with_reducible assumption | assumption)) lR' lF' lN' (by rfl) (by exact Nat.le_of_ble_eq_true rfl) (by exact Nat.le_of_ble_eq_true rfl) ?_; intro u' h' tk' le' F' N'))) | (((with_reducible rename Fr _ _ _ _ => lF'); (with_reducible rename News _ _ _ _ => lN'); (with_reducible rename Rdy _ _ => lR'); first | (refine use_joinA (by first | with_reducible assumption | assumption) lR' lF' lN' (by rfl) (by exact Nat.le_of_ble_eq_true rfl) (by exact Nat.le_of_ble_eq_true rfl) ?_; intro u' h' tk' F' N') | (refine use_joinB (by first | with_reducible assumption | assumption) (by first | with_reducible assumption | assumption) lR' lF' lN' (by rfl) (by exact Nat.le_of_ble_eq_true rfl) (by exact Nat.le_of_ble_eq_true rfl) ?_; intro u' h' tk' F' N') | (refine use_joinC (by first | with_reducible assumption | assumption) (by first | with_reducible assumption | assumption) (by first | with_reducible assumption | assumption) lR' lF' lN' (by rfl) (by exact Nat.le_of_ble_eq_true rfl) (by exact Nat.le_of_ble_eq_true rfl) ?_; intro u' h' tk' F' N') | (refine use_norm (by first | with_reducible exact normA_ok (by first | with_reducible assumption | assumption) | with_reducible exact normB_ok (by first | with_reducible assumption | assumption) (by first | with_reducible assumption | assumption) | with_reducible exact normC_ok (by first | with_reducible assumption | assumption) (by first | with_reducible assumption | assumption) (by first | with_reducible assumption | assumption)) lR' lF' lN' (by rfl) (by exact Nat.le_of_ble_eq_true rfl) (by exact Nat.le_of_ble_eq_true rfl) ?_; intro u' h' tk' le' F' N')))) | walk1) | (leave1; walk_say "STEP leave1"; try dsimp only) | fail "no step")
        (with_reducible rename Fr _ _ _ _ => kF)
        (with_reducible rename News _ _ _ _ => kN)
        exact ⟨_, _, _, rfl, rfl, by assumption, kF, fun p hp => kN p (by repeat (first | exact hp | refine List.Mem.tail _ ?_))⟩
      · obtain ⟨t, u, rfl⟩ := strs2 hS'
        repeat' (first | (k_unfold; (try dsimp only)) | ((with_reducible show wpAny _ _ (call (Value.ref _) _ _) _ _ _); first | with_reducible (((with_reducible rename Fr _ _ _ _ => lF'); (with_reducible rename News _ _ _ _ => lN'); (with_reducible rename Rdy _ _ => lR'); first | (refine use_joinA (by first | with_reducible assumption | assumption) lR' lF' lN' (by rfl) (by exact Nat.le_of_ble_eq_true rfl) (by exact Nat.le_of_ble_eq_true rfl) ?_; intro u' h' tk' F' N') | (refine use_joinB (by first | with_reducible assumption | assumption) (by first | with_reducible assumption | assumption) lR' lF' lN' (by rfl) (by exact Nat.le_of_ble_eq_true rfl) (by exact Nat.le_of_ble_eq_true rfl) ?_; intro u' h' tk' F' N') | (refine use_joinC (by first | with_reducible assumption | assumption) (by first | with_reducible assumption | assumption) (by first | with_reducible assumption | assumption) lR' lF' lN' (by rfl) (by exact Nat.le_of_ble_eq_true rfl) (by exact Nat.le_of_ble_eq_true rfl) ?_; intro u' h' tk' F' N') | (refine use_norm (by first | with_reducible exact normA_ok (by first | with_reducible assumption | assumption) | with_reducible exact normB_ok (by first | with_reducible assumption | assumption) (by first | with_reducible assumption | assumption) | with_reducible exact normC_ok (by first | with_reducible assumption | assumption) (by first | with_reducible assumption | assumption) (by first | with_reducible assumption | assumption)) lR' lF' lN' (by rfl) (by exact Nat.le_of_ble_eq_true rfl) (by exact Nat.le_of_ble_eq_true rfl) ?_; intro u' h' tk' le' F' N'))) | (((with_reducible rename Fr _ _ _ _ => lF'); (with_reducible rename News _ _ _ _ => lN'); (with_reducible rename Rdy _ _ => lR'); first | (refine use_joinA (by first | with_reducible assumption | assumption) lR' lF' lN' (by rfl) (by exact Nat.le_of_ble_eq_true rfl) (by exact Nat.le_of_ble_eq_true rfl) ?_; intro u' h' tk' F' N') | (refine use_joinB (by first | with_reducible assumption | assumption) (by first | with_reducible assumption | assumption) lR' lF' lN' (by rfl) (by exact Nat.le_of_ble_eq_true rfl) (by exact Nat.le_of_ble_eq_true rfl) ?_; intro u' h' tk' F' N') | (refine use_joinC (by first | with_reducible assumption | assumption) (by first | with_reducible assumption | assumption) (by first | with_reducible assumption | assumption) lR' lF' lN' (by rfl) (by exact Nat.le_of_ble_eq_true rfl) (by exact Nat.le_of_ble_eq_true rfl) ?_; intro u' h' tk' F' N') | (refine use_norm (by first | with_reducible exact normA_ok (by first | with_reducible assumption | assumption) | with_reducible exact normB_ok (by first | with_reducible assumption | assumption) (by first | with_reducible assumption | assumption) | with_reducible exact normC_ok (by first | with_reducible assumption | assumption) (by first | with_reducible assumption | assumption) (by first | with_reducible assumption | assumption)) lR' lF' lN' (by rfl) (by exact Nat.le_of_ble_eq_true rfl) (by exact Nat.le_of_ble_eq_true rfl) ?_; intro u' h' tk' le' F' N')))) | walk1 | (dsimp only; first | ((with_reducible show wpAny _ _ (call (Value.ref _) _ _) _ _ _); first | with_reducible (((with_reducible rename Fr _ _ _ _ => lF'); (with_reducible rename News _ _ _ _ => lN'); (with_reducible rename Rdy _ _ => lR'); first | (refine use_joinA (by first | with_reducible assumption | assumption) lR' lF' lN' (by rfl) (by exact Nat.le_of_ble_eq_true rfl) (by exact Nat.le_of_ble_eq_true rfl) ?_; intro u' h' tk' F' N') | (refine use_joinB (by first | with_reducible assumption | assumption) (by first | with_reducible assumption | assumption) lR' lF' lN' (by rfl) (by exact Nat.le_of_ble_eq_true rfl) (by exact Nat.le_of_ble_eq_true rfl) ?_; intro u' h' tk' F' N') | (refine use_joinC (by first | with_reducible assumption | assumption) (by first | with_reducible assumption | assumption) (by first | with_reducible assumption | assumption) lR' lF' lN' (by rfl) (by exact Nat.le_of_ble_eq_true rfl) (by exact Nat.le_of_ble_eq_true rfl) ?_; intro u' h' tk' F' N') | (refine use_norm (by first | with_reducible exact normA_ok (by first | with_reducible assumption | assumption) | with_reducible exact normB_ok (by first | with_reducible assumption | assumption) (by first | with_reducible assumption | assumption) | with_reducible exact normC_ok (by first | with_reducible assumption | assumption) (by first | with_reducible assumption | assumption) (by first | with_reducible assumption | assumption)) lR' lF' lN' (by rfl) (by exact Nat.le_of_ble_eq_true rfl) (by exact Nat.le_of_ble_eq_true rfl) ?_; intro u' h' tk' le' F' N'))) | (((with_reducible rename Fr _ _ _ _ => lF'); (with_reducible rename News _ _ _ _ => lN'); (with_reducible rename Rdy _ _ => lR'); first | (refine use_joinA (by first | with_reducible assumption | assumption) lR' lF' lN' (by rfl) (by exact Nat.le_of_ble_eq_true rfl) (by exact Nat.le_of_ble_eq_true rfl) ?_; intro u' h' tk' F' N') | (refine use_joinB (by first | with_reducible assumption | assumption) (by first | with_reducible assumption | assumption) lR' lF' lN' (by rfl) (by exact Nat.le_of_ble_eq_true rfl) (by exact Nat.le_of_ble_eq_true rfl) ?_; intro u' h' tk' F' N') | (refine use_joinC (by first | with_reducible assumption | assumption) (by first | with_reducible assumption | assumption) (by first | with_reducible assumption | assumption) lR' lF' lN' (by rfl) (by exact Nat.le_of_ble_eq_true rfl) (by exact Nat.le_of_ble_eq_true rfl) ?_; intro u' h' tk' F' N') | (refine use_norm (by first | with_reducible exact normA_ok (by first | with_reducible assumption | assumption) | with_reducible exact normB_ok (by first | with_reducible assumption | assumption) (by first | with_reducible assumption | assumption) | with_reducible exact normC_ok (by first | with_reducible assumption | assumption) (by first | with_reducible assumption | assumption) (by first | with_reducible assumption | assumption)) lR' lF' lN' (by rfl) (by exact Nat.le_of_ble_eq_true rfl) (by exact Nat.le_of_ble_eq_true rfl) ?_; intro u' h' tk' le' F' N')))) | walk1) | (leave1; walk_say "STEP leave1"; try dsimp only) | fail "no step")
        (with_reducible rename Fr _ _ _ _ => kF)
        (with_reducible rename News _ _ _ _ => kN)
        exact ⟨_, _, _, rfl, rfl, by assumption, kF, fun p hp => kN p (by repeat (first | exact hp | refine List.Mem.tail _ ?_))⟩
      · obtain ⟨t, u, v, rfl⟩ := strs3 hS'
        repeat' (first | (k_unfold; (try dsimp only)) | ((with_reducible show wpAny _ _ (call (Value.ref _) _ _) _ _ _); first | with_reducible (((with_reducible rename Fr _ _ _ _ => lF'); (with_reducible rename News _ _ _ _ => lN'); (with_reducible rename Rdy _ _ => lR'); first | (refine use_joinA (by first | with_reducible assumption | assumption) lR' lF' lN' (by rfl) (by exact Nat.le_of_ble_eq_true rfl) (by exact Nat.le_of_ble_eq_true rfl) ?_; intro u' h' tk' F' N') | (refine use_joinB (by first | with_reducible assumption | assumption) (by first | with_reducible assumption | assumption) lR' lF' lN' (by rfl) (by exact Nat.le_of_ble_eq_true rfl) (by exact Nat.le_of_ble_eq_true rfl) ?_; intro u' h' tk' F' N') | (refine use_joinC (by first | with_reducible assumption | assumption) (by first | with_reducible assumption | assumption) (by first | with_reducible assumption | assumption) lR' lF' lN' (by rfl) (by exact Nat.le_of_ble_eq_true rfl) (by exact Nat.le_of_ble_eq_true rfl) ?_; intro u' h' tk' F' N') | (refine use_norm (by first | with_reducible exact normA_ok (by first | with_reducible assumption | assumption) | with_reducible exact normB_ok (by first | with_reducible assumption | assumption) (by first | with_reducible assumption | assumption) | with_reducible exact normC_ok (by first | with_reducible assumption | assumption) (by first | with_reducible assumption | assumption) (by first | with_reducible assumption | assumption)) lR' lF' lN' (by rfl) (by exact Nat.le_of_ble_eq_true rfl) (by exact Nat.le_of_ble_eq_true rfl) ?_; intro u' h' tk' le' F' N'))) | (((with_reducible rename Fr _ _ _ _ => lF'); (with_reducible rename News _ _ _ _ => lN'); (with_reducible rename Rdy _ _ => lR'); first | (refine use_joinA (by first | with_reducible assumption | assumption) lR' lF' lN' (by rfl) (by exact Nat.le_of_ble_eq_true rfl) (by exact Nat.le_of_ble_eq_true rfl) ?_; intro u' h' tk' F' N') | (refine use_joinB (by first | with_reducible assumption | assumption) (by first | with_reducible assumption | assumption) lR' lF' lN' (by rfl) (by exact Nat.le_of_ble_eq_true rfl) (by exact Nat.le_of_ble_eq_true rfl) ?_; intro u' h' tk' F' N') | (refine use_joinC (by first | with_reducible assumption | assumption) (by first | with_reducible assumption | assumption) (by first | with_reducible assumption | assumption) lR' lF' lN' (by rfl) (by exact Nat.le_of_ble_eq_true rfl) (by exact Nat.le_of_ble_eq_true rfl) ?_; intro u' h' tk' F' N') | (refine use_norm (by first | with_reducible exact normA_ok (by first | with_reducible assumption | assumption) | with_reducible exact normB_ok (by first | with_reducible assumption | assumption) (by first | with_reducible assumption | assumption) | with_reducible exact normC_ok (by first | with_reducible assumption | assumption) (by first | with_reducible assumption | assumption) (by first | with_reducible assumption | assumption)) lR' lF' lN' (by rfl) (by exact Nat.le_of_ble_eq_true rfl) (by exact Nat.le_of_ble_eq_true rfl) ?_; intro u' h' tk' le' F' N')))) | walk1 | (dsimp only; first | ((with_reducible show wpAny _ _ (call (Value.ref _) _ _) _ _ _); first | with_reducible (((with_reducible rename Fr _ _ _ _ => lF'); (with_reducible rename News _ _ _ _ => lN'); (with_reducible rename Rdy _ _ => lR'); first | (refine use_joinA (by first | with_reducible assumption | assumption) lR' lF' lN' (by rfl) (by exact Nat.le_of_ble_eq_true rfl) (by exact Nat.le_of_ble_eq_true rfl) ?_; intro u' h' tk' F' N') | (refine use_joinB (by first | with_reducible assumption | assumption) (by first | with_reducible assumption | assumption) lR' lF' lN' (by rfl) (by exact Nat.le_of_ble_eq_true rfl) (by exact Nat.le_of_ble_eq_true rfl) ?_; intro u' h' tk' F' N') | (refine use_joinC (by first | with_reducible assumption | assumption) (by first | with_reducible assumption | assumption) (by first | with_reducible assumption | assumption) lR' lF' lN' (by rfl) (by exact Nat.le_of_ble_eq_true rfl) (by exact Nat.le_of_ble_eq_true rfl) ?_; intro u' h' tk' F' N') | (refine use_norm (by first | with_reducible exact normA_ok (by first | with_reducible assumption | assumption) | with_reducible exact normB_ok (by first | with_reducible assumption | assumption) (by first | with_reducible assumption | assumption) | with_reducible exact normC_ok (by first | with_reducible assumption | assumption) (by first | with_reducible assumption | assumption) (by first | with_reducible assumption | assumption)) lR' lF' lN' (by rfl) (by exact Nat.le_of_ble_eq_true rfl) (by exact Nat.le_of_ble_eq_true rfl) ?_; intro u' h' tk' le' F' N'))) | (((with_reducible rename Fr _ _ _ _ => lF'); (with_reducible rename News _ _ _ _ => lN'); (with_reducible rename Rdy _ _ => lR'); first | (refine use_joinA (by first | with_reducible assumption | assumption) lR' lF' lN' (by rfl) (by exact Nat.le_of_ble_eq_true rfl) (by exact Nat.le_of_ble_eq_true rfl) ?_; intro u' h' tk' F' N') | (refine use_joinB (by first | with_reducible assumption | assumption) (by first | with_reducible assumption | assumption) lR' lF' lN' (by rfl) (by exact Nat.le_of_ble_eq_true rfl) (by exact Nat.le_of_ble_eq_true rfl) ?_; intro u' h' tk' F' N') | (refine use_joinC (by first | with_reducible assumption | assumption) (by first | with_reducible assumption | assumption) (by first | with_reducible assumption | assumption) lR' lF' lN' (by rfl) (by exact Nat.le_of_ble_eq_true rfl) (by exact Nat.le_of_ble_eq_true rfl) ?_; intro u' h' tk' F' N') | (refine use_norm (by first | with_reducible exact normA_ok (by first | with_reducible assumption | assumption) | with_reducible exact normB_ok (by first | with_reducible assumption | assumption) (by first | with_reducible assumption | assumption) | with_reducible exact normC_ok (by first | with_reducible assumption | assumption) (by first | with_reducible assumption | assumption) (by first | with_reducible assumption | assumption)) lR' lF' lN' (by rfl) (by exact Nat.le_of_ble_eq_true rfl) (by exact Nat.le_of_ble_eq_true rfl) ?_; intro u' h' tk' le' F' N')))) | walk1) | (leave1; walk_say "STEP leave1"; try dsimp only) | fail "no step")
        (with_reducible rename Fr _ _ _ _ => kF)
        (with_reducible rename News _ _ _ _ => kN)
        exact ⟨_, _, _, rfl, rfl, by assumption, kF, fun p hp => kN p (by repeat (first | exact hp | refine List.Mem.tail _ ?_))⟩
    clear kF kN
    intro u' h' tk' le' F' N'
    repeat' (first | (k_unfold; (try dsimp only)) | ((with_reducible show wpAny _ _ (call _ _ _) _ _ _); first | ((with_reducible show wpAny _ _ (call (Value.ref _) _ _) _ _ _); first | with_reducible (((with_reducible rename Fr _ _ _ _ => lF'); (with_reducible rename News _ _ _ _ => lN'); (with_reducible rename Rdy _ _ => lR'); first | (refine use_ins lR' lF' lN' (by rfl) (by exact Nat.le_of_ble_eq_true rfl) (by exact Nat.le_of_ble_eq_true rfl) (by k_updF) (by first | with_reducible assumption | assumption) (size_of_strs (by first | with_reducible assumption | assumption) (by first | with_reducible assumption | assumption)) (by first | with_reducible assumption | assumption) (by first | with_reducible assumption | assumption) ?_; intro vs' n' h' tk' sa' F' N'; (try dsimp only at N')))) | (((with_reducible rename Fr _ _ _ _ => lF'); (with_reducible rename News _ _ _ _ => lN'); (with_reducible rename Rdy _ _ => lR'); first | (refine use_ins lR' lF' lN' (by rfl) (by exact Nat.le_of_ble_eq_true rfl) (by exact Nat.le_of_ble_eq_true rfl) (by k_updF) (by first | with_reducible assumption | assumption) (size_of_strs (by first | with_reducible assumption | assumption) (by first | with_reducible assumption | assumption)) (by first | with_reducible assumption | assumption) (by first | with_reducible assumption | assumption) ?_; intro vs' n' h' tk' sa' F' N'; (try dsimp only at N'))))) | ((with_reducible show wpAny _ _ (call (Value.builtin "len") _ _) _ _ _); first | with_reducible (((with_reducible show wpAny _ _ (call (Value.builtin "len") [Value.ref _]) _ _ _); (with_reducible rename News _ _ _ _ => lN'); k_dflt (refine use_lenV lN' (by k_mem) (by first | with_reducible assumption | assumption) (by first | with_reducible assumption | assumption) ?_); intro tl')) | (((with_reducible show wpAny _ _ (call (Value.builtin "len") [Value.ref _]) _ _ _); (with_reducible rename News _ _ _ _ => lN'); k_dflt (refine use_lenV lN' (by k_mem) (by first | with_reducible assumption | assumption) (by first | with_reducible assumption | assumption) ?_); intro tl')))) | ((with_reducible show wpAny _ _ (binaryOp Operator.Add (Value.ref _) (Value.ref _)) _ _ _); first | with_reducible (((with_reducible rename Fr _ _ _ _ => lF'); (with_reducible rename News _ _ _ _ => lN'); first | (k_dflt (refine use_addS lF' lN' (by k_mem) (by first | with_reducible assumption | assumption) (by k_mem) (by first | with_reducible assumption | assumption) ?_); intro D' h' vs' sS' F' N' l1) | (k_dflt (refine use_addL lF' lN' (by k_mem) (by k_mem) (by simp only [List.length_append, List.length_take, List.length_drop, List.length_cons, List.length_nil]; omega) ?_); intro D' h' F' N' l1; skip))) | (((with_reducible rename Fr _ _ _ _ => lF'); (with_reducible rename News _ _ _ _ => lN'); first | (k_dflt (refine use_addS lF' lN' (by k_mem) (by first | with_reducible assumption | assumption) (by k_mem) (by first | with_reducible assumption | assumption) ?_); intro D' h' vs' sS' F' N' l1) | (k_dflt (refine use_addL lF' lN' (by k_mem) (by k_mem) (by simp only [List.length_append, List.length_take, List.length_drop, List.length_cons, List.length_nil]; omega) ?_); intro D' h' F' N' l1; skip)))) | ((with_reducible show wpAny _ _ (subscriptTail _ _ _ _) _ _ _); first | ((with_reducible show wpAny _ _ (subscriptTail _ _ (Value.ref _) (Value.ref _)) _ _ _); first | with_reducible (((with_reducible show wpAny _ _ (subscriptTail (PySem.Expr.Name (Str.ofString "shelf") _) (PySem.Expr.Slice (some _) (some _) none _) (Value.ref _) (Value.ref _)) _ _ _); (with_reducible rename Fr _ _ _ _ => lF'); (with_reducible rename News _ _ _ _ => lN'); first | (k_dflt (refine use_sliceS lF' lN' (by k_mem) (by first | with_reducible assumption | assumption) (by first | with_reducible assumption | assumption) ?_ (by with_unfolding_all rfl) (by intro _; with_unfolding_all rfl)); intro D' h' vs' sS' F' N' l1) | (k_dflt (refine use_sliceNear lF' lN' (by k_mem) (by first | with_reducible assumption | assumption) (by first | with_reducible assumption | assumption) ?_ (by with_unfolding_all rfl) (by intro _; with_unfolding_all rfl)); intro D' h' vs' sS' F' N' l1))) | (((with_reducible show wpAny _ _ (subscriptTail (PySem.Expr.Name (Str.ofString "shelf") _) (PySem.Expr.Slice (some _) (some _) none _) (Value.ref _) (Value.ref _)) _ _ _); (with_reducible rename Fr _ _ _ _ => lF'); (with_reducible rename News _ _ _ _ => lN'); first | (k_dflt (refine use_sliceS lF' lN' (by k_mem) (by first | with_reducible assumption | assumption) (by first | with_reducible assumption | assumption) ?_ (by with_unfolding_all rfl) (by intro _; with_unfolding_all rfl)); intro D' h' vs' sS' F' N' l1) | (k_dflt (refine use_sliceNear lF' lN' (by k_mem) (by first | with_reducible assumption | assumption) (by first | with_reducible assumption | assumption) ?_ (by with_unfolding_all rfl) (by intro _; with_unfolding_all rfl)); intro D' h' vs' sS' F' N' l1)))) | ((with_reducible show wpAny _ _ (subscriptTail _ _ (Value.ref _) (Value.ref _)) _ _ _); first | with_reducible (((with_reducible show wpAny _ _ (subscriptTail (PySem.Expr.Name (Str.ofString "names") _) (PySem.Expr.Slice none (some _) none _) (Value.ref _) (Value.ref _)) _ _ _); (with_reducible rename Fr _ _ _ _ => lF'); (with_reducible rename News _ _ _ _ => lN'); k_dflt (refine use_sliceInit lF' lN' (by k_mem) (by first | with_reducible assumption | assumption) (by first | with_reducible assumption | assumption) (by first | with_reducible assumption | assumption) ?_ (by with_unfolding_all rfl) (by intro _; with_unfolding_all rfl)); intro D' h' vs' sS' F' N' l1)) | (((with_reducible show wpAny _ _ (subscriptTail (PySem.Expr.Name (Str.ofString "names") _) (PySem.Expr.Slice none (some _) none _) (Value.ref _) (Value.ref _)) _ _ _); (with_reducible rename Fr _ _ _ _ => lF'); (with_reducible rename News _ _ _ _ => lN'); k_dflt (refine use_sliceInit lF' lN' (by k_mem) (by first | with_reducible assumption | assumption) (by first | with_reducible assumption | assumption) (by first | with_reducible assumption | assumption) ?_ (by with_unfolding_all rfl) (by intro _; with_unfolding_all rfl)); intro D' h' vs' sS' F' N' l1))) | ((with_reducible show wpAny _ _ (subscriptTail _ _ (Value.ref _) (Value.ref _)) _ _ _); first | with_reducible (((with_reducible show wpAny _ _ (subscriptTail (PySem.Expr.Name (Str.ofString "numbers") _) _ (Value.ref _) (Value.ref _)) _ _ _); (with_reducible rename Fr _ _ _ _ => lF'); (with_reducible rename News _ _ _ _ => lN'); k_dflt (refine use_sliceLast2 lF' lN' (by k_mem) (by first | with_reducible assumption | assumption) (by first | with_reducible assumption | assumption) ?_ (by with_unfolding_all rfl) (by intro _; with_unfolding_all rfl)); intro D' h' F' N' l1; skip)) | (((with_reducible show wpAny _ _ (subscriptTail (PySem.Expr.Name (Str.ofString "numbers") _) _ (Value.ref _) (Value.ref _)) _ _ _); (with_reducible rename Fr _ _ _ _ => lF'); (with_reducible rename News _ _ _ _ => lN'); k_dflt (refine use_sliceLast2 lF' lN' (by k_mem) (by first | with_reducible assumption | assumption) (by first | with_reducible assumption | assumption) ?_ (by with_unfolding_all rfl) (by intro _; with_unfolding_all rfl)); intro D' h' F' N' l1; skip))) | ((with_reducible show wpAny _ _ (subscriptTail _ _ (Value.ref _) (Value.ref _)) _ _ _); first | with_reducible (((with_reducible show wpAny _ _ (subscriptTail _ (PySem.Expr.Slice (some _) none none _) (Value.ref _) (Value.ref _)) _ _ _); (with_reducible rename Fr _ _ _ _ => lF'); (with_reducible rename News _ _ _ _ => lN'); k_dflt (refine use_sliceFrom lF' lN' (by k_mem) (by first | with_reducible assumption | assumption) ?_ (by with_unfolding_all rfl) (by intro _; with_unfolding_all rfl)); intro D' h' F' N' l1; skip)) | (((with_reducible show wpAny _ _ (subscriptTail _ (PySem.Expr.Slice (some _) none none _) (Value.ref _) (Value.ref _)) _ _ _); (with_reducible rename Fr _ _ _ _ => lF'); (with_reducible rename News _ _ _ _ => lN'); k_dflt (refine use_sliceFrom lF' lN' (by k_mem) (by first | with_reducible assumption | assumption) ?_ (by with_unfolding_all rfl) (by intro _; with_unfolding_all rfl)); intro D' h' F' N' l1; skip))) | ((with_reducible show wpAny _ _ (subscriptTail _ _ (Value.ref _) (Value.ref _)) _ _ _); first | with_reducible (((with_reducible show wpAny _ _ (subscriptTail _ (PySem.Expr.Slice none (some _) none _) (Value.ref _) (Value.ref _)) _ _ _); (with_reducible rename Fr _ _ _ _ => lF'); (with_reducible rename News _ _ _ _ => lN'); k_dflt (refine use_sliceUp lF' lN' (by k_mem) (by first | with_reducible assumption | assumption) ?_ (by with_unfolding_all rfl) (by intro _; with_unfolding_all rfl)); intro D' h' F' N' l1; skip)) | (((with_reducible show wpAny _ _ (subscriptTail _ (PySem.Expr.Slice none (some _) none _) (Value.ref _) (Value.ref _)) _ _ _); (with_reducible rename Fr _ _ _ _ => lF'); (with_reducible rename News _ _ _ _ => lN'); k_dflt (refine use_sliceUp lF' lN' (by k_mem) (by first | with_reducible assumption | assumption) ?_ (by with_unfolding_all rfl) (by intro _; with_unfolding_all rfl)); intro D' h' F' N' l1; skip)))) | ((with_reducible show LCg.CompEnd _ _ _ _ _ _ _ _ _ _ _ _ _ _); first | with_reducible (((with_reducible show LCg.CompEnd _ _ _ _ _ _ _ _ _ _ _ (AnyEl (IsInt _) _) _ _); (with_reducible rename Fr _ _ _ _ => lF'); (with_reducible rename News _ _ _ _ => lN'); (with_reducible rename LCg.Off3 _ _ _ _ => lO'); exact LCg.CompEnd.intro lF' lN' _ (by intro p hp; repeat (first | exact hp | refine List.Mem.tail _ ?_)) lO' True.intro ⟨fun _ h => h, _, rfl⟩)) | (((with_reducible show LCg.CompEnd _ _ _ _ _ _ _ _ _ _ _ (AnyEl (IsInt _) _) _ _); (with_reducible rename Fr _ _ _ _ => lF'); (with_reducible rename News _ _ _ _ => lN'); (with_reducible rename LCg.Off3 _ _ _ _ => lO'); exact LCg.CompEnd.intro lF' lN' _ (by intro p hp; repeat (first | exact hp | refine List.Mem.tail _ ?_)) lO' True.intro ⟨fun _ h => h, _, rfl⟩))) | ((with_reducible show LCg.CompEnd _ _ _ _ _ _ _ _ _ _ _ _ _ _); first | with_reducible (((with_reducible show LCg.CompEnd _ _ _ _ _ _ _ _ _ _ _ (StrNo _ _ _) _ _); (with_reducible rename Fr _ _ _ _ => lF'); (with_reducible rename News _ _ _ _ => lN'); (with_reducible rename LCg.Off3 _ _ _ _ => lO'); exact LCg.CompEnd.intro lF' lN' _ (by intro p hp; repeat (first | exact hp | refine List.Mem.tail _ ?_)) lO' True.intro ⟨fun _ h => h, by ((rename (_ = comF _ _) => z'); show (comF _ _ == _) = false; rw [← z']; first | assumption | simpa using (by assumption : ¬ (_ == _) = true))⟩)) | (((with_reducible show LCg.CompEnd _ _ _ _ _ _ _ _ _ _ _ (StrNo _ _ _) _ _); (with_reducible rename Fr _ _ _ _ => lF'); (with_reducible rename News _ _ _ _ => lN'); (with_reducible rename LCg.Off3 _ _ _ _ => lO'); exact LCg.CompEnd.intro lF' lN' _ (by intro p hp; repeat (first | exact hp | refine List.Mem.tail _ ?_)) lO' True.intro ⟨fun _ h => h, by ((rename (_ = comF _ _) => z'); show (comF _ _ == _) = false; rw [← z']; first | assumption | simpa using (by assumption : ¬ (_ == _) = true))⟩))) | ((with_reducible show LCg.CompEnd _ _ _ _ _ _ _ _ _ _ _ _ _ _); first | with_reducible (((with_reducible show LCg.CompEnd _ _ _ _ _ _ _ _ _ _ _ (StrEl _ _ _ _) _ _); (with_reducible rename Fr _ _ _ _ => lF'); (with_reducible rename News _ _ _ _ => lN'); (with_reducible rename LCg.Off3 _ _ _ _ => lO'); exact LCg.CompEnd.intro lF' lN' _ (by intro p hp; repeat (first | exact hp | refine List.Mem.tail _ ?_)) lO' True.intro ⟨fun _ h => h, by ((rename (_ = comF _ _) => z'); show (comF _ _ == _) = true; rw [← z']; assumption), _, rfl⟩)) | (((with_reducible show LCg.CompEnd _ _ _ _ _ _ _ _ _ _ _ (StrEl _ _ _ _) _ _); (with_reducible rename Fr _ _ _ _ => lF'); (with_reducible rename News _ _ _ _ => lN'); (with_reducible rename LCg.Off3 _ _ _ _ => lO'); exact LCg.CompEnd.intro lF' lN' _ (by intro p hp; repeat (first | exact hp | refine List.Mem.tail _ ?_)) lO' True.intro ⟨fun _ h => h, by ((rename (_ = comF _ _) => z'); show (comF _ _ == _) = true; rw [← z']; assumption), _, rfl⟩))) | ((with_reducible show LCg.CompEnd _ _ _ _ _ _ _ _ _ _ _ _ _ _); first | with_reducible (((with_reducible show LCg.CompEnd _ _ _ _ _ _ _ _ _ _ _ (AnyEl (IsStr _) _) _ _); (with_reducible rename Fr _ _ _ _ => lF'); (with_reducible rename News _ _ _ _ => lN'); (with_reducible rename LCg.Off3 _ _ _ _ => lO'); exact LCg.CompEnd.intro lF' lN' _ (fun p hp => List.Mem.tail _ hp) lO' True.intro ⟨fun _ h => h, _, rfl⟩)) | (((with_reducible show LCg.CompEnd _ _ _ _ _ _ _ _ _ _ _ (AnyEl (IsStr _) _) _ _); (with_reducible rename Fr _ _ _ _ => lF'); (with_reducible rename News _ _ _ _ => lN'); (with_reducible rename LCg.Off3 _ _ _ _ => lO'); exact LCg.CompEnd.intro lF' lN' _ (fun p hp => List.Mem.tail _ hp) lO' True.intro ⟨fun _ h => h, _, rfl⟩))) | ((with_reducible show LCg.CompEnd _ _ _ _ _ _ _ _ _ _ _ _ _ _); first | with_reducible (((with_reducible show LCg.CompEnd _ _ _ _ _ _ _ _ _ _ _ (RowNo _ _ _) _ _); (with_reducible rename Fr _ _ _ _ => lF'); (with_reducible rename News _ _ _ _ => lN'); (with_reducible rename LCg.Off3 _ _ _ _ => lO'); exact LCg.CompEnd.intro lF' lN' _ (fun p hp => List.Mem.tail _ hp) lO' True.intro ⟨fun _ h => h, by assumption⟩)) | (((with_reducible show LCg.CompEnd _ _ _ _ _ _ _ _ _ _ _ (RowNo _ _ _) _ _); (with_reducible rename Fr _ _ _ _ => lF'); (with_reducible rename News _ _ _ _ => lN'); (with_reducible rename LCg.Off3 _ _ _ _ => lO'); exact LCg.CompEnd.intro lF' lN' _ (fun p hp => List.Mem.tail _ hp) lO' True.intro ⟨fun _ h => h, by assumption⟩))) | ((with_reducible show LCg.CompEnd _ _ _ _ _ _ _ _ _ _ _ _ _ _); first | with_reducible (((with_reducible show LCg.CompEnd _ _ _ _ _ _ _ _ _ _ _ (RowEl _ _ _) _ _); (with_reducible rename Fr _ _ _ _ => lF'); (with_reducible rename News _ _ _ _ => lN'); (with_reducible rename LCg.Off3 _ _ _ _ => lO'); exact LCg.CompEnd.intro lF' lN' _ (fun p hp => List.Mem.tail _ hp) lO' True.intro ⟨fun _ h => h, by assumption⟩)) | (((with_reducible show LCg.CompEnd _ _ _ _ _ _ _ _ _ _ _ (RowEl _ _ _) _ _); (with_reducible rename Fr _ _ _ _ => lF'); (with_reducible rename News _ _ _ _ => lN'); (with_reducible rename LCg.Off3 _ _ _ _ => lO'); exact LCg.CompEnd.intro lF' lN' _ (fun p hp => List.Mem.tail _ hp) lO' True.intro ⟨fun _ h => h, by assumption⟩))) | ((with_reducible show FltSrc _ _ _ _ _ _ _ _ _ _ _ _ _ _ _); first | with_reducible (((with_reducible show FltSrc _ _ _ _ _ _ _ _ (Str.ofString "one") [_] _ _ _ _ _); (with_reducible rename Fr _ _ _ _ => lF'); (with_reducible rename News _ _ _ _ => lN'); k_dflt (refine FltSrc.fold (by first | with_reducible assumption | assumption) (by rfl) lF' lN' (by k_mem) (by first | with_reducible assumption | assumption) (by first | with_reducible assumption | assumption) ?_ ?_); (intro c' t' I' oI' C' oC' D' oD' m' h' tk' E' hk' hC' hx' F' N' off' ne'); (try dsimp only); rotate_left; (intro D' h' tk' vs' n' F' N' o1' vz'); (try dsimp only); rotate_left)) | (((with_reducible show FltSrc _ _ _ _ _ _ _ _ (Str.ofString "one") [_] _ _ _ _ _); (with_reducible rename Fr _ _ _ _ => lF'); (with_reducible rename News _ _ _ _ => lN'); k_dflt (refine FltSrc.fold (by first | with_reducible assumption | assumption) (by rfl) lF' lN' (by k_mem) (by first | with_reducible assumption | assumption) (by first | with_reducible assumption | assumption) ?_ ?_); (intro c' t' I' oI' C' oC' D' oD' m' h' tk' E' hk' hC' hx' F' N' off' ne'); (try dsimp only); rotate_left; (intro D' h' tk' vs' n' F' N' o1' vz'); (try dsimp only); rotate_left))) | ((with_reducible show FltSrc _ _ _ _ _ _ _ _ _ _ _ _ _ _ _); first | with_reducible (((with_reducible show FltSrc _ _ _ _ _ _ _ _ (Str.ofString "one") [] _ _ _ _ _); (with_reducible rename Fr _ _ _ _ => lF'); (with_reducible rename News _ _ _ _ => lN'); k_dflt (refine FltSrc.near (by first | with_reducible assumption | assumption) (by rfl) lF' lN' (by k_mem) (by first | with_reducible assumption | assumption) (by first | exact fun _ h => h | exact fun _ h => List.mem_of_mem_take (List.mem_of_mem_drop h)) (by first | assumption | exact slice_le (by first | with_reducible assumption | assumption)) ?_ ?_); (intro c' t' I' oI' C' oC' D' oD' m' h' tk' E' hk' hC' hx' F' N' off' ne'); (try dsimp only); rotate_left; (intro D' h' tk' vs' n' F' N' o1' vi'); (try dsimp only); rotate_left)) | (((with_reducible show FltSrc _ _ _ _ _ _ _ _ (Str.ofString "one") [] _ _ _ _ _); (with_reducible rename Fr _ _ _ _ => lF'); (with_reducible rename News _ _ _ _ => lN'); k_dflt (refine FltSrc.near (by first | with_reducible assumption | assumption) (by rfl) lF' lN' (by k_mem) (by first | with_reducible assumption | assumption) (by first | exact fun _ h => h | exact fun _ h => List.mem_of_mem_take (List.mem_of_mem_drop h)) (by first | assumption | exact slice_le (by first | with_reducible assumption | assumption)) ?_ ?_); (intro c' t' I' oI' C' oC' D' oD' m' h' tk' E' hk' hC' hx' F' N' off' ne'); (try dsimp only); rotate_left; (intro D' h' tk' vs' n' F' N' o1' vi'); (try dsimp only); rotate_left))) | ((with_reducible show FltSrc _ _ _ _ _ _ _ _ _ _ _ _ _ _ _); first | with_reducible (((with_reducible show FltSrc _ _ _ _ _ _ _ _ (Str.ofString "row") [] _ _ _ _ _); (with_reducible rename Fr _ _ _ _ => lF'); (with_reducible rename News _ _ _ _ => lN'); (with_reducible rename RowsIn _ _ _ => lR9'); k_dflt (refine FltSrc.rowsStr pathF (by rfl) lF' lN' (by k_mem) lR9' (by intro p hp; repeat (first | exact hp | refine List.Mem.tail _ ?_)) (by first | with_reducible assumption | assumption) ?_ ?_); (intro a' ws' nr' r' I' oI' C' oC' D' oD' m' h' tk' E' hr' sr' hC' hx' F' N' off' ne'); (have hr' := RowsMem.elim (by first | with_reducible assumption | assumption) hr'); (try dsimp only); rotate_left; (intro D' h' tk' vs' n' F' N' o1' o2' vz'); (try dsimp only); rotate_left)) | (((with_reducible show FltSrc _ _ _ _ _ _ _ _ (Str.ofString "row") [] _ _ _ _ _); (with_reducible rename Fr _ _ _ _ => lF'); (with_reducible rename News _ _ _ _ => lN'); (with_reducible rename RowsIn _ _ _ => lR9'); k_dflt (refine FltSrc.rowsStr pathF (by rfl) lF' lN' (by k_mem) lR9' (by intro p hp; repeat (first | exact hp | refine List.Mem.tail _ ?_)) (by first | with_reducible assumption | assumption) ?_ ?_); (intro a' ws' nr' r' I' oI' C' oC' D' oD' m' h' tk' E' hr' sr' hC' hx' F' N' off' ne'); (have hr' := RowsMem.elim (by first | with_reducible assumption | assumption) hr'); (try dsimp only); rotate_left; (intro D' h' tk' vs' n' F' N' o1' o2' vz'); (try dsimp only); rotate_left))) | ((with_reducible show FltSrc _ _ _ _ _ _ _ _ _ _ _ _ _ _ _); first | with_reducible (((with_reducible rename Fr _ _ _ _ => lF'); (with_reducible rename News _ _ _ _ => lN'); (with_reducible rename RowsIn _ _ _ => lR9'); (with_reducible rename StrsAre _ (namesF _) => lS9'); k_dflt (refine FltSrc.rowsLe lS9' (by rfl) lF' lN' (by k_mem) lR9' (by intro p hp; repeat (first | exact hp | refine List.Mem.tail _ ?_)) (by first | with_reducible assumption | assumption) ?_ ?_); (intro a' ws' nr' r' I' oI' C' oC' D' oD' m' h' tk' E' sr' hC' hx' F' N' off' ne'); (try dsimp only); rotate_left; (intro D' h' tk' vs' n' F' N' o1' vz' vl'); (try dsimp only); rotate_left)) | (((with_reducible rename Fr _ _ _ _ => lF'); (with_reducible rename News _ _ _ _ => lN'); (with_reducible rename RowsIn _ _ _ => lR9'); (with_reducible rename StrsAre _ (namesF _) => lS9'); k_dflt (refine FltSrc.rowsLe lS9' (by rfl) lF' lN' (by k_mem) lR9' (by intro p hp; repeat (first | exact hp | refine List.Mem.tail _ ?_)) (by first | with_reducible assumption | assumption) ?_ ?_); (intro a' ws' nr' r' I' oI' C' oC' D' oD' m' h' tk' E' sr' hC' hx' F' N' off' ne'); (try dsimp only); rotate_left; (intro D' h' tk' vs' n' F' N' o1' vz' vl'); (try dsimp only); rotate_left))) | ((with_reducible show wpAny _ _ (eval _ _) _ _ _); first | ((with_reducible show wpAny _ _ (eval (PySem.Expr.ListComp _ _ _ _) _) _ _ _); first | with_reducible (((with_reducible show wpAny _ _ (eval (Expr.ListComp _ [⟨Expr.Name (Str.ofString "one") _, _, _, _⟩] _ _) _) _ _ _); k_dflt (refine ListComp_F (F₀ := by k_asm) (by with_unfolding_all rfl) (by decide) (by rfl) (by decide) (by rfl) ?_))) | (((with_reducible show wpAny _ _ (eval (Expr.ListComp _ [⟨Expr.Name (Str.ofString "one") _, _, _, _⟩] _ _) _) _ _ _); k_dflt (refine ListComp_F (F₀ := by k_asm) (by with_unfolding_all rfl) (by decide) (by rfl) (by decide) (by rfl) ?_)))) | ((with_reducible show wpAny _ _ (eval (PySem.Expr.ListComp _ _ _ _) _) _ _ _); first | with_reducible (((with_reducible show wpAny _ _ (eval (Expr.ListComp _ [⟨_, Expr.Name (Str.ofString "rows") _, [], _⟩] _ _) _) _ _ _); k_dflt (refine ListComp_F (F₀ := by k_asm) (by with_unfolding_all rfl) (by decide) (by rfl) (by decide) (by rfl) ?_))) | (((with_reducible show wpAny _ _ (eval (Expr.ListComp _ [⟨_, Expr.Name (Str.ofString "rows") _, [], _⟩] _ _) _) _ _ _); k_dflt (refine ListComp_F (F₀ := by k_asm) (by with_unfolding_all rfl) (by decide) (by rfl) (by decide) (by rfl) ?_)))) | ((with_reducible show wpAny _ _ (eval (PySem.Expr.ListComp _ _ _ _) _) _ _ _); first | with_reducible (((with_reducible show wpAny _ _ (eval (Expr.ListComp _ [⟨_, Expr.Name (Str.ofString "rows") _, [_], _⟩] _ _) _) _ _ _); k_dflt (refine ListComp_F (F₀ := by k_asm) (by with_unfolding_all rfl) (by decide) (by rfl) (by decide) (by rfl) ?_))) | (((with_reducible show wpAny _ _ (eval (Expr.ListComp _ [⟨_, Expr.Name (Str.ofString "rows") _, [_], _⟩] _ _) _) _ _ _); k_dflt (refine ListComp_F (F₀ := by k_asm) (by with_unfolding_all rfl) (by decide) (by rfl) (by decide) (by rfl) ?_))))) | ((with_reducible show wpAny _ _ (compareOp CmpOp.LtE (Value.ref _) (Value.ref _)) _ _ _); first | with_reducible (((with_reducible rename Fr _ _ _ _ => lF'); (with_reducible rename News _ _ _ _ => lN'); k_dflt (refine cmp_le_N (by exact Nat.le_of_ble_eq_true rfl) lN' (by k_mem) (by k_mem) (by first | with_reducible assumption | assumption) (by first | with_reducible assumption | assumption) ?_))) | (((with_reducible rename Fr _ _ _ _ => lF'); (with_reducible rename News _ _ _ _ => lN'); k_dflt (refine cmp_le_N (by exact Nat.le_of_ble_eq_true rfl) lN' (by k_mem) (by k_mem) (by first | with_reducible assumption | assumption) (by first | with_reducible assumption | assumption) ?_)))) | walk1 | (dsimp only; first | ((with_reducible show wpAny _ _ (call _ _ _) _ _ _); first | ((with_reducible show wpAny _ _ (call (Value.ref _) _ _) _ _ _); first | with_reducible (((with_reducible rename Fr _ _ _ _ => lF'); (with_reducible rename News _ _ _ _ => lN'); (with_reducible rename Rdy _ _ => lR'); first | (refine use_ins lR' lF' lN' (by rfl) (by exact Nat.le_of_ble_eq_true rfl) (by exact Nat.le_of_ble_eq_true rfl) (by k_updF) (by first | with_reducible assumption | assumption) (size_of_strs (by first | with_reducible assumption | assumption) (by first | with_reducible assumption | assumption)) (by first | with_reducible assumption | assumption) (by first | with_reducible assumption | assumption) ?_; intro vs' n' h' tk' sa' F' N'; (try dsimp only at N')))) | (((with_reducible rename Fr _ _ _ _ => lF'); (with_reducible rename News _ _ _ _ => lN'); (with_reducible rename Rdy _ _ => lR'); first | (refine use_ins lR' lF' lN' (by rfl) (by exact Nat.le_of_ble_eq_true rfl) (by exact Nat.le_of_ble_eq_true rfl) (by k_updF) (by first | with_reducible assumption | assumption) (size_of_strs (by first | with_reducible assumption | assumption) (by first | with_reducible assumption | assumption)) (by first | with_reducible assumption | assumption) (by first | with_reducible assumption | assumption) ?_; intro vs' n' h' tk' sa' F' N'; (try dsimp only at N'))))) | ((with_reducible show wpAny _ _ (call (Value.builtin "len") _ _) _ _ _); first | with_reducible (((with_reducible show wpAny _ _ (call (Value.builtin "len") [Value.ref _]) _ _ _); (with_reducible rename News _ _ _ _ => lN'); k_dflt (refine use_lenV lN' (by k_mem) (by first | with_reducible assumption | assumption) (by first | with_reducible assumption | assumption) ?_); intro tl')) | (((with_reducible show wpAny _ _ (call (Value.builtin "len") [Value.ref _]) _ _ _); (with_reducible rename News _ _ _ _ => lN'); k_dflt (refine use_lenV lN' (by k_mem) (by first | with_reducible assumption | assumption) (by first | with_reducible assumption | assumption) ?_); intro tl')))) | ((with_reducible show wpAny _ _ (binaryOp Operator.Add (Value.ref _) (Value.ref _)) _ _ _); first | with_reducible (((with_reducible rename Fr _ _ _ _ => lF'); (with_reducible rename News _ _ _ _ => lN'); first | (k_dflt (refine use_addS lF' lN' (by k_mem) (by first | with_reducible assumption | assumption) (by k_mem) (by first | with_reducible assumption | assumption) ?_); intro D' h' vs' sS' F' N' l1) | (k_dflt (refine use_addL lF' lN' (by k_mem) (by k_mem) (by simp only [List.length_append, List.length_take, List.length_drop, List.length_cons, List.length_nil]; omega) ?_); intro D' h' F' N' l1; skip))) | (((with_reducible rename Fr _ _ _ _ => lF'); (with_reducible rename News _ _ _ _ => lN'); first | (k_dflt (refine use_addS lF' lN' (by k_mem) (by first | with_reducible assumption | assumption) (by k_mem) (by first | with_reducible assumption | assumption) ?_); intro D' h' vs' sS' F' N' l1) | (k_dflt (refine use_addL lF' lN' (by k_mem) (by k_mem) (by simp only [List.length_append, List.length_take, List.length_drop, List.length_cons, List.length_nil]; omega) ?_); intro D' h' F' N' l1; skip)))) | ((with_reducible show wpAny _ _ (subscriptTail _ _ _ _) _ _ _); first | ((with_reducible show wpAny _ _ (subscriptTail _ _ (Value.ref _) (Value.ref _)) _ _ _); first | with_reducible (((with_reducible show wpAny _ _ (subscriptTail (PySem.Expr.Name (Str.ofString "shelf") _) (PySem.Expr.Slice (some _) (some _) none _) (Value.ref _) (Value.ref _)) _ _ _); (with_reducible rename Fr _ _ _ _ => lF'); (with_reducible rename News _ _ _ _ => lN'); first | (k_dflt (refine use_sliceS lF' lN' (by k_mem) (by first | with_reducible assumption | assumption) (by first | with_reducible assumption | assumption) ?_ (by with_unfolding_all rfl) (by intro _; with_unfolding_all rfl)); intro D' h' vs' sS' F' N' l1) | (k_dflt (refine use_sliceNear lF' lN' (by k_mem) (by first | with_reducible assumption | assumption) (by first | with_reducible assumption | assumption) ?_ (by with_unfolding_all rfl) (by intro _; with_unfolding_all rfl)); intro D' h' vs' sS' F' N' l1))) | (((with_reducible show wpAny _ _ (subscriptTail (PySem.Expr.Name (Str.ofString "shelf") _) (PySem.Expr.Slice (some _) (some _) none _) (Value.ref _) (Value.ref _)) _ _ _); (with_reducible rename Fr _ _ _ _ => lF'); (with_reducible rename News _ _ _ _ => lN'); first | (k_dflt (refine use_sliceS lF' lN' (by k_mem) (by first | with_reducible assumption | assumption) (by first | with_reducible assumption | assumption) ?_ (by with_unfolding_all rfl) (by intro _; with_unfolding_all rfl)); intro D' h' vs' sS' F' N' l1) | (k_dflt (refine use_sliceNear lF' lN' (by k_mem) (by first | with_reducible assumption | assumption) (by first | with_reducible assumption | assumption) ?_ (by with_unfolding_all rfl) (by intro _; with_unfolding_all rfl)); intro D' h' vs' sS' F' N' l1)))) | ((with_reducible show wpAny _ _ (subscriptTail _ _ (Value.ref _) (Value.ref _)) _ _ _); first | with_reducible (((with_reducible show wpAny _ _ (subscriptTail (PySem.Expr.Name (Str.ofString "names") _) (PySem.Expr.Slice none (some _) none _) (Value.ref _) (Value.ref _)) _ _ _); (with_reducible rename Fr _ _ _ _ => lF'); (with_reducible rename News _ _ _ _ => lN'); k_dflt (refine use_sliceInit lF' lN' (by k_mem) (by first | with_reducible assumption | assumption) (by first | with_reducible assumption | assumption) (by first | with_reducible assumption | assumption) ?_ (by with_unfolding_all rfl) (by intro _; with_unfolding_all rfl)); intro D' h' vs' sS' F' N' l1)) | (((with_reducible show wpAny _ _ (subscriptTail (PySem.Expr.Name (Str.ofString "names") _) (PySem.Expr.Slice none (some _) none _) (Value.ref _) (Value.ref _)) _ _ _); (with_reducible rename Fr _ _ _ _ => lF'); (with_reducible rename News _ _ _ _ => lN'); k_dflt (refine use_sliceInit lF' lN' (by k_mem) (by first | with_reducible assumption | assumption) (by first | with_reducible assumption | assumption) (by first | with_reducible assumption | assumption) ?_ (by with_unfolding_all rfl) (by intro _; with_unfolding_all rfl)); intro D' h' vs' sS' F' N' l1))) | ((with_reducible show wpAny _ _ (subscriptTail _ _ (Value.ref _) (Value.ref _)) _ _ _); first | with_reducible (((with_reducible show wpAny _ _ (subscriptTail (PySem.Expr.Name (Str.ofString "numbers") _) _ (Value.ref _) (Value.ref _)) _ _ _); (with_reducible rename Fr _ _ _ _ => lF'); (with_reducible rename News _ _ _ _ => lN'); k_dflt (refine use_sliceLast2 lF' lN' (by k_mem) (by first | with_reducible assumption | assumption) (by first | with_reducible assumption | assumption) ?_ (by with_unfolding_all rfl) (by intro _; with_unfolding_all rfl)); intro D' h' F' N' l1; skip)) | (((with_reducible show wpAny _ _ (subscriptTail (PySem.Expr.Name (Str.ofString "numbers") _) _ (Value.ref _) (Value.ref _)) _ _ _); (with_reducible rename Fr _ _ _ _ => lF'); (with_reducible rename News _ _ _ _ => lN'); k_dflt (refine use_sliceLast2 lF' lN' (by k_mem) (by first | with_reducible assumption | assumption) (by first | with_reducible assumption | assumption) ?_ (by with_unfolding_all rfl) (by intro _; with_unfolding_all rfl)); intro D' h' F' N' l1; skip))) | ((with_reducible show wpAny _ _ (subscriptTail _ _ (Value.ref _) (Value.ref _)) _ _ _); first | with_reducible (((with_reducible show wpAny _ _ (subscriptTail _ (PySem.Expr.Slice (some _) none none _) (Value.ref _) (Value.ref _)) _ _ _); (with_reducible rename Fr _ _ _ _ => lF'); (with_reducible rename News _ _ _ _ => lN'); k_dflt (refine use_sliceFrom lF' lN' (by k_mem) (by first | with_reducible assumption | assumption) ?_ (by with_unfolding_all rfl) (by intro _; with_unfolding_all rfl)); intro D' h' F' N' l1; skip)) | (((with_reducible show wpAny _ _ (subscriptTail _ (PySem.Expr.Slice (some _) none none _) (Value.ref _) (Value.ref _)) _ _ _); (with_reducible rename Fr _ _ _ _ => lF'); (with_reducible rename News _ _ _ _ => lN'); k_dflt (refine use_sliceFrom lF' lN' (by k_mem) (by first | with_reducible assumption | assumption) ?_ (by with_unfolding_all rfl) (by intro _; with_unfolding_all rfl)); intro D' h' F' N' l1; skip))) | ((with_reducible show wpAny _ _ (subscriptTail _ _ (Value.ref _) (Value.ref _)) _ _ _); first | with_reducible (((with_reducible show wpAny _ _ (subscriptTail _ (PySem.Expr.Slice none (some _) none _) (Value.ref _) (Value.ref _)) _ _ _); (with_reducible rename Fr _ _ _ _ => lF'); (with_reducible rename News _ _ _ _ => lN'); k_dflt (refine use_sliceUp lF' lN' (by k_mem) (by first | with_reducible assumption | assumption) ?_ (by with_unfolding_all rfl) (by intro _; with_unfolding_all rfl)); intro D' h' F' N' l1; skip)) | (((with_reducible show wpAny _ _ (subscriptTail _ (PySem.Expr.Slice none (some _) none _) (Value.ref _) (Value.ref _)) _ _ _); (with_reducible rename Fr _ _ _ _ => lF'); (with_reducible rename News _ _ _ _ => lN'); k_dflt (refine use_sliceUp lF' lN' (by k_mem) (by first | with_reducible assumption | assumption) ?_ (by with_unfolding_all rfl) (by intro _; with_unfolding_all rfl)); intro D' h' F' N' l1; skip)))) | ((with_reducible show LCg.CompEnd _ _ _ _ _ _ _ _ _ _ _ _ _ _); first | with_reducible (((with_reducible show LCg.CompEnd _ _ _ _ _ _ _ _ _ _ _ (AnyEl (IsInt _) _) _ _); (with_reducible rename Fr _ _ _ _ => lF'); (with_reducible rename News _ _ _ _ => lN'); (with_reducible rename LCg.Off3 _ _ _ _ => lO'); exact LCg.CompEnd.intro lF' lN' _ (by intro p hp; repeat (first | exact hp | refine List.Mem.tail _ ?_)) lO' True.intro ⟨fun _ h => h, _, rfl⟩)) | (((with_reducible show LCg.CompEnd _ _ _ _ _ _ _ _ _ _ _ (AnyEl (IsInt _) _) _ _); (with_reducible rename Fr _ _ _ _ => lF'); (with_reducible rename News _ _ _ _ => lN'); (with_reducible rename LCg.Off3 _ _ _ _ => lO'); exact LCg.CompEnd.intro lF' lN' _ (by intro p hp; repeat (first | exact hp | refine List.Mem.tail _ ?_)) lO' True.intro ⟨fun _ h => h, _, rfl⟩))) | ((with_reducible show LCg.CompEnd _ _ _ _ _ _ _ _ _ _ _ _ _ _); first | with_reducible (((with_reducible show LCg.CompEnd _ _ _ _ _ _ _ _ _ _ _ (StrNo _ _ _) _ _); (with_reducible rename Fr _ _ _ _ => lF'); (with_reducible rename News _ _ _ _ => lN'); (with_reducible rename LCg.Off3 _ _ _ _ => lO'); exact LCg.CompEnd.intro lF' lN' _ (by intro p hp; repeat (first | exact hp | refine List.Mem.tail _ ?_)) lO' True.intro ⟨fun _ h => h, by ((rename (_ = comF _ _) => z'); show (comF _ _ == _) = false; rw [← z']; first | assumption | simpa using (by assumption : ¬ (_ == _) = true))⟩)) | (((with_reducible show LCg.CompEnd _ _ _ _ _ _ _ _ _ _ _ (StrNo _ _ _) _ _); (with_reducible rename Fr _ _ _ _ => lF'); (with_reducible rename News _ _ _ _ => lN'); (with_reducible rename LCg.Off3 _ _ _ _ => lO'); exact LCg.CompEnd.intro lF' lN' _ (by intro p hp; repeat (first | exact hp | refine List.Mem.tail _ ?_)) lO' True.intro ⟨fun _ h => h, by ((rename (_ = comF _ _) => z'); show (comF _ _ == _) = false; rw [← z']; first | assumption | simpa using (by assumption : ¬ (_ == _) = true))⟩))) | ((with_reducible show LCg.CompEnd _ _ _ _ _ _ _ _ _ _ _ _ _ _); first | with_reducible (((with_reducible show LCg.CompEnd _ _ _ _ _ _ _ _ _ _ _ (StrEl _ _ _ _) _ _); (with_reducible rename Fr _ _ _ _ => lF'); (with_reducible rename News _ _ _ _ => lN'); (with_reducible rename LCg.Off3 _ _ _ _ => lO'); exact LCg.CompEnd.intro lF' lN' _ (by intro p hp; repeat (first | exact hp | refine List.Mem.tail _ ?_)) lO' True.intro ⟨fun _ h => h, by ((rename (_ = comF _ _) => z'); show (comF _ _ == _) = true; rw [← z']; assumption), _, rfl⟩)) | (((with_reducible show LCg.CompEnd _ _ _ _ _ _ _ _ _ _ _ (StrEl _ _ _ _) _ _); (with_reducible rename Fr _ _ _ _ => lF'); (with_reducible rename News _ _ _ _ => lN'); (with_reducible rename LCg.Off3 _ _ _ _ => lO'); exact LCg.CompEnd.intro lF' lN' _ (by intro p hp; repeat (first | exact hp | refine List.Mem.tail _ ?_)) lO' True.intro ⟨fun _ h => h, by ((rename (_ = comF _ _) => z'); show (comF _ _ == _) = true; rw [← z']; assumption), _, rfl⟩))) | ((with_reducible show LCg.CompEnd _ _ _ _ _ _ _ _ _ _ _ _ _ _); first | with_reducible (((with_reducible show LCg.CompEnd _ _ _ _ _ _ _ _ _ _ _ (AnyEl (IsStr _) _) _ _); (with_reducible rename Fr _ _ _ _ => lF'); (with_reducible rename News _ _ _ _ => lN'); (with_reducible rename LCg.Off3 _ _ _ _ => lO'); exact LCg.CompEnd.intro lF' lN' _ (fun p hp => List.Mem.tail _ hp) lO' True.intro ⟨fun _ h => h, _, rfl⟩)) | (((with_reducible show LCg.CompEnd _ _ _ _ _ _ _ _ _ _ _ (AnyEl (IsStr _) _) _ _); (with_reducible rename Fr _ _ _ _ => lF'); (with_reducible rename News _ _ _ _ => lN'); (with_reducible rename LCg.Off3 _ _ _ _ => lO'); exact LCg.CompEnd.intro lF' lN' _ (fun p hp => List.Mem.tail _ hp) lO' True.intro ⟨fun _ h => h, _, rfl⟩))) | ((with_reducible show LCg.CompEnd _ _ _ _ _ _ _ _ _ _ _ _ _ _); first | with_reducible (((with_reducible show LCg.CompEnd _ _ _ _ _ _ _ _ _ _ _ (RowNo _ _ _) _ _); (with_reducible rename Fr _ _ _ _ => lF'); (with_reducible rename News _ _ _ _ => lN'); (with_reducible rename LCg.Off3 _ _ _ _ => lO'); exact LCg.CompEnd.intro lF' lN' _ (fun p hp => List.Mem.tail _ hp) lO' True.intro ⟨fun _ h => h, by assumption⟩)) | (((with_reducible show LCg.CompEnd _ _ _ _ _ _ _ _ _ _ _ (RowNo _ _ _) _ _); (with_reducible rename Fr _ _ _ _ => lF'); (with_reducible rename News _ _ _ _ => lN'); (with_reducible rename LCg.Off3 _ _ _ _ => lO'); exact LCg.CompEnd.intro lF' lN' _ (fun p hp => List.Mem.tail _ hp) lO' True.intro ⟨fun _ h => h, by assumption⟩))) | ((with_reducible show LCg.CompEnd _ _ _ _ _ _ _ _ _ _ _ _ _ _); first | with_reducible (((with_reducible show LCg.CompEnd _ _ _ _ _ _ _ _ _ _ _ (RowEl _ _ _) _ _); (with_reducible rename Fr _ _ _ _ => lF'); (with_reducible rename News _ _ _ _ => lN'); (with_reducible rename LCg.Off3 _ _ _ _ => lO'); exact LCg.CompEnd.intro lF' lN' _ (fun p hp => List.Mem.tail _ hp) lO' True.intro ⟨fun _ h => h, by assumption⟩)) | (((with_reducible show LCg.CompEnd _ _ _ _ _ _ _ _ _ _ _ (RowEl _ _ _) _ _); (with_reducible rename Fr _ _ _ _ => lF'); (with_reducible rename News _ _ _ _ => lN'); (with_reducible rename LCg.Off3 _ _ _ _ => lO'); exact LCg.CompEnd.intro lF' lN' _ (fun p hp => List.Mem.tail _ hp) lO' True.intro ⟨fun _ h => h, by assumption⟩))) | ((with_reducible show FltSrc _ _ _ _ _ _ _ _ _ _ _ _ _ _ _); first | with_reducible (((with_reducible show FltSrc _ _ _ _ _ _ _ _ (Str.ofString "one") [_] _ _ _ _ _); (with_reducible rename Fr _ _ _ _ => lF'); (with_reducible rename News _ _ _ _ => lN'); k_dflt (refine FltSrc.fold (by first | with_reducible assumption | assumption) (by rfl) lF' lN' (by k_mem) (by first | with_reducible assumption | assumption) (by first | with_reducible assumption | assumption) ?_ ?_); (intro c' t' I' oI' C' oC' D' oD' m' h' tk' E' hk' hC' hx' F' N' off' ne'); (try dsimp only); rotate_left; (intro D' h' tk' vs' n' F' N' o1' vz'); (try dsimp only); rotate_left)) | (((with_reducible show FltSrc _ _ _ _ _ _ _ _ (Str.ofString "one") [_] _ _ _ _ _); (with_reducible rename Fr _ _ _ _ => lF'); (with_reducible rename News _ _ _ _ => lN'); k_dflt (refine FltSrc.fold (by first | with_reducible assumption | assumption) (by rfl) lF' lN' (by k_mem) (by first | with_reducible assumption | assumption) (by first | with_reducible assumption | assumption) ?_ ?_); (intro c' t' I' oI' C' oC' D' oD' m' h' tk' E' hk' hC' hx' F' N' off' ne'); (try dsimp only); rotate_left; (intro D' h' tk' vs' n' F' N' o1' vz'); (try dsimp only); rotate_left))) | ((with_reducible show FltSrc _ _ _ _ _ _ _ _ _ _ _ _ _ _ _); first | with_reducible (((with_reducible show FltSrc _ _ _ _ _ _ _ _ (Str.ofString "one") [] _ _ _ _ _); (with_reducible rename Fr _ _ _ _ => lF'); (with_reducible rename News _ _ _ _ => lN'); k_dflt (refine FltSrc.near (by first | with_reducible assumption | assumption) (by rfl) lF' lN' (by k_mem) (by first | with_reducible assumption | assumption) (by first | exact fun _ h => h | exact fun _ h => List.mem_of_mem_take (List.mem_of_mem_drop h)) (by first | assumption | exact slice_le (by first | with_reducible assumption | assumption)) ?_ ?_); (intro c' t' I' oI' C' oC' D' oD' m' h' tk' E' hk' hC' hx' F' N' off' ne'); (try dsimp only); rotate_left; (intro D' h' tk' vs' n' F' N' o1' vi'); (try dsimp only); rotate_left)) | (((with_reducible show FltSrc _ _ _ _ _ _ _ _ (Str.ofString "one") [] _ _ _ _ _); (with_reducible rename Fr _ _ _ _ => lF'); (with_reducible rename News _ _ _ _ => lN'); k_dflt (refine FltSrc.near (by first | with_reducible assumption | assumption) (by rfl) lF' lN' (by k_mem) (by first | with_reducible assumption | assumption) (by first | exact fun _ h => h | exact fun _ h => List.mem_of_mem_take (List.mem_of_mem_drop h)) (by first | assumption | exact slice_le (by first | with_reducible assumption | assumption)) ?_ ?_); (intro c' t' I' oI' C' oC' D' oD' m' h' tk' E' hk' hC' hx' F' N' off' ne'); (try dsimp only); rotate_left; (intro D' h' tk' vs' n' F' N' o1' vi'); (try dsimp only); rotate_left))) | ((with_reducible show FltSrc _ _ _ _ _ _ _ _ _ _ _ _ _ _ _); first | with_reducible (((with_reducible show FltSrc _ _ _ _ _ _ _ _ (Str.ofString "row") [] _ _ _ _ _); (with_reducible rename Fr _ _ _ _ => lF'); (with_reducible rename News _ _ _ _ => lN'); (with_reducible rename RowsIn _ _ _ => lR9'); k_dflt (refine FltSrc.rowsStr pathF (by rfl) lF' lN' (by k_mem) lR9' (by intro p hp; repeat (first | exact hp | refine List.Mem.tail _ ?_)) (by first | with_reducible assumption | assumption) ?_ ?_); (intro a' ws' nr' r' I' oI' C' oC' D' oD' m' h' tk' E' hr' sr' hC' hx' F' N' off' ne'); (have hr' := RowsMem.elim (by first | with_reducible assumption | assumption) hr'); (try dsimp only); rotate_left; (intro D' h' tk' vs' n' F' N' o1' o2' vz'); (try dsimp only); rotate_left)) | (((with_reducible show FltSrc _ _ _ _ _ _ _ _ (Str.ofString "row") [] _ _ _ _ _); (with_reducible rename Fr _ _ _ _ => lF'); (with_reducible rename News _ _ _ _ => lN'); (with_reducible rename RowsIn _ _ _ => lR9'); k_dflt (refine FltSrc.rowsStr pathF (by rfl) lF' lN' (by k_mem) lR9' (by intro p hp; repeat (first | exact hp | refine List.Mem.tail _ ?_)) (by first | with_reducible assumption | assumption) ?_ ?_); (intro a' ws' nr' r' I' oI' C' oC' D' oD' m' h' tk' E' hr' sr' hC' hx' F' N' off' ne'); (have hr' := RowsMem.elim (by first | with_reducible assumption | assumption) hr'); (try dsimp only); rotate_left; (intro D' h' tk' vs' n' F' N' o1' o2' vz'); (try dsimp only); rotate_left))) | ((with_reducible show FltSrc _ _ _ _ _ _ _ _ _ _ _ _ _ _ _); first | with_reducible (((with_reducible rename Fr _ _ _ _ => lF'); (with_reducible rename News _ _ _ _ => lN'); (with_reducible rename RowsIn _ _ _ => lR9'); (with_reducible rename StrsAre _ (namesF _) => lS9'); k_dflt (refine FltSrc.rowsLe lS9' (by rfl) lF' lN' (by k_mem) lR9' (by intro p hp; repeat (first | exact hp | refine List.Mem.tail _ ?_)) (by first | with_reducible assumption | assumption) ?_ ?_); (intro a' ws' nr' r' I' oI' C' oC' D' oD' m' h' tk' E' sr' hC' hx' F' N' off' ne'); (try dsimp only); rotate_left; (intro D' h' tk' vs' n' F' N' o1' vz' vl'); (try dsimp only); rotate_left)) | (((with_reducible rename Fr _ _ _ _ => lF'); (with_reducible rename News _ _ _ _ => lN'); (with_reducible rename RowsIn _ _ _ => lR9'); (with_reducible rename StrsAre _ (namesF _) => lS9'); k_dflt (refine FltSrc.rowsLe lS9' (by rfl) lF' lN' (by k_mem) lR9' (by intro p hp; repeat (first | exact hp | refine List.Mem.tail _ ?_)) (by first | with_reducible assumption | assumption) ?_ ?_); (intro a' ws' nr' r' I' oI' C' oC' D' oD' m' h' tk' E' sr' hC' hx' F' N' off' ne'); (try dsimp only); rotate_left; (intro D' h' tk' vs' n' F' N' o1' vz' vl'); (try dsimp only); rotate_left))) | ((with_reducible show wpAny _ _ (eval _ _) _ _ _); first | ((with_reducible show wpAny _ _ (eval (PySem.Expr.ListComp _ _ _ _) _) _ _ _); first | with_reducible (((with_reducible show wpAny _ _ (eval (Expr.ListComp _ [⟨Expr.Name (Str.ofString "one") _, _, _, _⟩] _ _) _) _ _ _); k_dflt (refine ListComp_F (F₀ := by k_asm) (by with_unfolding_all rfl) (by decide) (by rfl) (by decide) (by rfl) ?_))) | (((with_reducible show wpAny _ _ (eval (Expr.ListComp _ [⟨Expr.Name (Str.ofString "one") _, _, _, _⟩] _ _) _) _ _ _); k_dflt (refine ListComp_F (F₀ := by k_asm) (by with_unfolding_all rfl) (by decide) (by rfl) (by decide) (by rfl) ?_)))) | ((with_reducible show wpAny _ _ (eval (PySem.Expr.ListComp _ _ _ _) _) _ _ _); first | with_reducible (((with_reducible show wpAny _ _ (eval (Expr.ListComp _ [⟨_, Expr.Name (Str.ofString "rows") _, [], _⟩] _ _) _) _ _ _); k_dflt (refine ListComp_F (F₀ := by k_asm) (by with_unfolding_all rfl) (by decide) (by rfl) (by decide) (by rfl) ?_))) | (((with_reducible show wpAny _ _ (eval (Expr.ListComp _ [⟨_, Expr.Name (Str.ofString "rows") _, [], _⟩] _ _) _) _ _ _); k_dflt (refine ListComp_F (F₀ := by k_asm) (by with_unfolding_all rfl) (by decide) (by rfl) (by decide) (by rfl) ?_)))) | ((with_reducible show wpAny _ _ (eval (PySem.Expr.ListComp _ _ _ _) _) _ _ _); first | with_reducible (((with_reducible show wpAny _ _ (eval (Expr.ListComp _ [⟨_, Expr.Name (Str.ofString "rows") _, [_], _⟩] _ _) _) _ _ _); k_dflt (refine ListComp_F (F₀ := by k_asm) (by with_unfolding_all rfl) (by decide) (by rfl) (by decide) (by rfl) ?_))) | (((with_reducible show wpAny _ _ (eval (Expr.ListComp _ [⟨_, Expr.Name (Str.ofString "rows") _, [_], _⟩] _ _) _) _ _ _); k_dflt (refine ListComp_F (F₀ := by k_asm) (by with_unfolding_all rfl) (by decide) (by rfl) (by decide) (by rfl) ?_))))) | ((with_reducible show wpAny _ _ (compareOp CmpOp.LtE (Value.ref _) (Value.ref _)) _ _ _); first | with_reducible (((with_reducible rename Fr _ _ _ _ => lF'); (with_reducible rename News _ _ _ _ => lN'); k_dflt (refine cmp_le_N (by exact Nat.le_of_ble_eq_true rfl) lN' (by k_mem) (by k_mem) (by first | with_reducible assumption | assumption) (by first | with_reducible assumption | assumption) ?_))) | (((with_reducible rename Fr _ _ _ _ => lF'); (with_reducible rename News _ _ _ _ => lN'); k_dflt (refine cmp_le_N (by exact Nat.le_of_ble_eq_true rfl) lN' (by k_mem) (by k_mem) (by first | with_reducible assumption | assumption) (by first | with_reducible assumption | assumption) ?_)))) | walk1) | (leave1; walk_say "STEP leave1"; try dsimp only) | fail "no step")
    (with_reducible rename Fr _ _ _ _ => eF)
    (with_reducible rename News _ _ _ _ => eN)
    (rename StrsAre _ (insAt _ _ _) => eS)
    (rename StrsAre _ (namesF x) => eW)
    (show TurnEnd s.heap L (LJ L S D1 ws nums (i + 1)) It oI _ _)
    exact lj_end eF eN hx rfl (by k_mem) (by k_mem) (by k_mem) (by k_mem) (by k_mem) (by k_mem) (by k_mem) (by k_mem) (by intro p hp; repeat (first | exact hp | refine List.Mem.tail _ ?_)) (by rfl) (by rfl) (by rfl) e1 e2 (by first | with_reducible assumption | assumption) eS (by first | with_reducible assumption | assumption) eW hO hIo hP le' hl1 hl9 (by first | (with_reducible assumption) | (refine Ne.symm ?_; with_reducible assumption) | exact neMem (by with_reducible assumption) (by k_mem) | exact neMem' (by with_reducible assumption) (by k_mem) | exact ltMem (by with_reducible assumption) (by k_mem) | exact ltMem' (by with_reducible assumption) (by k_mem)) (by exact ltIn (by with_reducible assumption) (by k_mem)) (by first | (with_reducible assumption) | (refine Ne.symm ?_; with_reducible assumption) | exact neMem (by with_reducible assumption) (by k_mem) | exact neMem' (by with_reducible assumption) (by k_mem) | exact ltMem (by with_reducible assumption) (by k_mem) | exact ltMem' (by with_reducible assumption) (by k_mem)) (by first | (with_reducible assumption) | (refine Ne.symm ?_; with_reducible assumption) | exact neMem (by with_reducible assumption) (by k_mem) | exact neMem' (by with_reducible assumption) (by k_mem) | exact ltMem (by with_reducible assumption) (by k_mem) | exact ltMem' (by with_reducible assumption) (by k_mem)) (by first | (with_reducible assumption) | (refine Ne.symm ?_; with_reducible assumption) | exact neMem (by with_reducible assumption) (by k_mem) | exact neMem' (by with_reducible assumption) (by k_mem) | exact ltMem (by with_reducible assumption) (by k_mem) | exact ltMem' (by with_reducible assumption) (by k_mem)) (by first | (with_reducible assumption) | (refine Ne.symm ?_; with_reducible assumption) | exact neMem (by with_reducible assumption) (by k_mem) | exact neMem' (by with_reducible assumption) (by k_mem) | exact ltMem (by with_reducible assumption) (by k_mem) | exact ltMem' (by with_reducible assumption) (by k_mem)) (by first | (with_reducible assumption) | (refine Ne.symm ?_; with_reducible assumption) | exact neMem (by with_reducible assumption) (by k_mem) | exact neMem' (by with_reducible assumption) (by k_mem) | exact ltMem (by with_reducible assumption) (by k_mem) | exact ltMem' (by with_reducible assumption) (by k_mem)) (by first | (with_reducible assumption) | (refine Ne.symm ?_; with_reducible assumption) | exact neMem (by with_reducible assumption) (by k_mem) | exact neMem' (by with_reducible assumption) (by k_mem) | exact ltMem (by with_reducible assumption) (by k_mem) | exact ltMem' (by with_reducible assumption) (by k_mem)) (by first | (with_reducible assumption) | (refine Ne.symm ?_; with_reducible assumption) | exact neMem (by with_reducible assumption) (by k_mem) | exact neMem' (by with_reducible assumption) (by k_mem) | exact ltMem (by with_reducible assumption) (by k_mem) | exact ltMem' (by with_reducible assumption) (by k_mem)) (by first | (with_reducible assumption) | (refine Ne.symm ?_; with_reducible assumption) | exact neMem (by with_reducible assumption) (by k_mem) | exact neMem' (by with_reducible assumption) (by k_mem) | exact ltMem (by with_reducible assumption) (by k_mem) | exact ltMem' (by with_reducible assumption) (by k_mem)) (by first | (with_reducible assumption) | (refine Ne.symm ?_; with_reducible assumption) | exact neMem (by with_reducible assumption) (by k_mem) | exact neMem' (by with_reducible assumption) (by k_mem) | exact ltMem (by with_reducible assumption) (by k_mem) | exact ltMem' (by with_reducible assumption) (by k_mem)) (by first | (with_reducible assumption) | (refine Ne.symm ?_; with_reducible assumption) | exact neMem (by with_reducible assumption) (by k_mem) | exact neMem' (by with_reducible assumption) (by k_mem) | exact ltMem (by with_reducible assumption) (by k_mem) | exact ltMem' (by with_reducible assumption) (by k_mem)) (by first | (with_reducible assumption) | (refine Ne.symm ?_; with_reducible assumption) | exact neMem (by with_reducible assumption) (by k_mem) | exact neMem' (by with_reducible assumption) (by k_mem) | exact ltMem (by with_reducible assumption) (by k_mem) | exact ltMem' (by with_reducible assumption) (by k_mem))
  · rintro m news h tk ⟨vs1, n1, R1, rvs, nr, o1, o2, o3, v1, own, u, rfl, rfl, e1, e2, e3, hS, hR, hO, hne, hlt, hP, hl1, hl2⟩ F₁ N₁
    clear lF lN
    have htake : nums.take ws.length = nums := by rw [hlen, List.take_length]
    rw [htake] at hS hR hP hl1 hl2
    have SH : Shelf (shelfF nums) (rowsF nums) := shelf_rows nums
    generalize shelfF nums = ps at hS hP hl1 SH
    generalize rowsF nums = rs at hR hl2 SH
    have hRM : RowsMem rs := ⟨SH.m⟩
    have hpe : ps = rs.map pathF := SH.e
    have hpo : ∀ x ∈ ps, PyData.strOk x = true := SH.ok
    have hz1 : ws.toArray.size ≤ 1000 := by rw [List.size_toArray]; omega
    have hz2 : 2 ≤ ws.toArray.size := by rw [List.size_toArray, hlen, ← hnums]; simp
    have hps : ps.length ≤ 1000 := by omega
    have hrs : rs.length ≤ 1000 := by omega
    replace F₁ : Fr s.heap L h _ := F₁
    replace N₁ : News s.heap L h _ := N₁
    dsimp only
    repeat' (first | (k_unfold; (try dsimp only)) | ((with_reducible show wpAny _ _ (pyIter (Value.ref _)) _ _ _); first | with_reducible (refine Halt.out ?_) | (refine Halt.out ?_)) | ((with_reducible show wpAny _ _ (subscriptTail _ _ _ _) _ _ _); first | ((with_reducible show wpAny _ _ (subscriptTail _ _ (Value.ref _) (Value.ref _)) _ _ _); first | with_reducible (((with_reducible show wpAny _ _ (subscriptTail (PySem.Expr.Name (Str.ofString "shelf") _) (PySem.Expr.Slice (some _) (some _) none _) (Value.ref _) (Value.ref _)) _ _ _); (with_reducible rename Fr _ _ _ _ => lF'); (with_reducible rename News _ _ _ _ => lN'); first | (k_dflt (refine use_sliceS lF' lN' (by k_mem) (by first | with_reducible assumption | assumption) (by first | with_reducible assumption | assumption) ?_ (by with_unfolding_all rfl) (by intro _; with_unfolding_all rfl)); intro D' h' vs' sS' F' N' l1) | (k_dflt (refine use_sliceNear lF' lN' (by k_mem) (by first | with_reducible assumption | assumption) (by first | with_reducible assumption | assumption) ?_ (by with_unfolding_all rfl) (by intro _; with_unfolding_all rfl)); intro D' h' vs' sS' F' N' l1))) | (((with_reducible show wpAny _ _ (subscriptTail (PySem.Expr.Name (Str.ofString "shelf") _) (PySem.Expr.Slice (some _) (some _) none _) (Value.ref _) (Value.ref _)) _ _ _); (with_reducible rename Fr _ _ _ _ => lF'); (with_reducible rename News _ _ _ _ => lN'); first | (k_dflt (refine use_sliceS lF' lN' (by k_mem) (by first | with_reducible assumption | assumption) (by first | with_reducible assumption | assumption) ?_ (by with_unfolding_all rfl) (by intro _; with_unfolding_all rfl)); intro D' h' vs' sS' F' N' l1) | (k_dflt (refine use_sliceNear lF' lN' (by k_mem) (by first | with_reducible assumption | assumption) (by first | with_reducible assumption | assumption) ?_ (by with_unfolding_all rfl) (by intro _; with_unfolding_all rfl)); intro D' h' vs' sS' F' N' l1)))) | ((with_reducible show wpAny _ _ (subscriptTail _ _ (Value.ref _) (Value.ref _)) _ _ _); first | with_reducible (((with_reducible show wpAny _ _ (subscriptTail (PySem.Expr.Name (Str.ofString "names") _) (PySem.Expr.Slice none (some _) none _) (Value.ref _) (Value.ref _)) _ _ _); (with_reducible rename Fr _ _ _ _ => lF'); (with_reducible rename News _ _ _ _ => lN'); k_dflt (refine use_sliceInit lF' lN' (by k_mem) (by first | with_reducible assumption | assumption) (by first | with_reducible assumption | assumption) (by first | with_reducible assumption | assumption) ?_ (by with_unfolding_all rfl) (by intro _; with_unfolding_all rfl)); intro D' h' vs' sS' F' N' l1)) | (((with_reducible show wpAny _ _ (subscriptTail (PySem.Expr.Name (Str.ofString "names") _) (PySem.Expr.Slice none (some _) none _) (Value.ref _) (Value.ref _)) _ _ _); (with_reducible rename Fr _ _ _ _ => lF'); (with_reducible rename News _ _ _ _ => lN'); k_dflt (refine use_sliceInit lF' lN' (by k_mem) (by first | with_reducible assumption | assumption) (by first | with_reducible assumption | assumption) (by first | with_reducible assumption | assumption) ?_ (by with_unfolding_all rfl) (by intro _; with_unfolding_all rfl)); intro D' h' vs' sS' F' N' l1))) | ((with_reducible show wpAny _ _ (subscriptTail _ _ (Value.ref _) (Value.ref _)) _ _ _); first | with_reducible (((with_reducible show wpAny _ _ (subscriptTail (PySem.Expr.Name (Str.ofString "numbers") _) _ (Value.ref _) (Value.ref _)) _ _ _); (with_reducible rename Fr _ _ _ _ => lF'); (with_reducible rename News _ _ _ _ => lN'); k_dflt (refine use_sliceLast2 lF' lN' (by k_mem) (by first | with_reducible assumption | assumption) (by first | with_reducible assumption | assumption) ?_ (by with_unfolding_all rfl) (by intro _; with_unfolding_all rfl)); intro D' h' F' N' l1; skip)) | (((with_reducible show wpAny _ _ (subscriptTail (PySem.Expr.Name (Str.ofString "numbers") _) _ (Value.ref _) (Value.ref _)) _ _ _); (with_reducible rename Fr _ _ _ _ => lF'); (with_reducible rename News _ _ _ _ => lN'); k_dflt (refine use_sliceLast2 lF' lN' (by k_mem) (by first | with_reducible assumption | assumption) (by first | with_reducible assumption | assumption) ?_ (by with_unfolding_all rfl) (by intro _; with_unfolding_all rfl)); intro D' h' F' N' l1; skip))) | ((with_reducible show wpAny _ _ (subscriptTail _ _ (Value.ref _) (Value.ref _)) _ _ _); first | with_reducible (((with_reducible show wpAny _ _ (subscriptTail _ (PySem.Expr.Slice (some _) none none _) (Value.ref _) (Value.ref _)) _ _ _); (with_reducible rename Fr _ _ _ _ => lF'); (with_reducible rename News _ _ _ _ => lN'); k_dflt (refine use_sliceFrom lF' lN' (by k_mem) (by first | with_reducible assumption | assumption) ?_ (by with_unfolding_all rfl) (by intro _; with_unfolding_all rfl)); intro D' h' F' N' l1; skip)) | (((with_reducible show wpAny _ _ (subscriptTail _ (PySem.Expr.Slice (some _) none none _) (Value.ref _) (Value.ref _)) _ _ _); (with_reducible rename Fr _ _ _ _ => lF'); (with_reducible rename News _ _ _ _ => lN'); k_dflt (refine use_sliceFrom lF' lN' (by k_mem) (by first | with_reducible assumption | assumption) ?_ (by with_unfolding_all rfl) (by intro _; with_unfolding_all rfl)); intro D' h' F' N' l1; skip))) | ((with_reducible show wpAny _ _ (subscriptTail _ _ (Value.ref _) (Value.ref _)) _ _ _); first | with_reducible (((with_reducible show wpAny _ _ (subscriptTail _ (PySem.Expr.Slice none (some _) none _) (Value.ref _) (Value.ref _)) _ _ _); (with_reducible rename Fr _ _ _ _ => lF'); (with_reducible rename News _ _ _ _ => lN'); k_dflt (refine use_sliceUp lF' lN' (by k_mem) (by first | with_reducible assumption | assumption) ?_ (by with_unfolding_all rfl) (by intro _; with_unfolding_all rfl)); intro D' h' F' N' l1; skip)) | (((with_reducible show wpAny _ _ (subscriptTail _ (PySem.Expr.Slice none (some _) none _) (Value.ref _) (Value.ref _)) _ _ _); (with_reducible rename Fr _ _ _ _ => lF'); (with_reducible rename News _ _ _ _ => lN'); k_dflt (refine use_sliceUp lF' lN' (by k_mem) (by first | with_reducible assumption | assumption) ?_ (by with_unfolding_all rfl) (by intro _; with_unfolding_all rfl)); intro D' h' F' N' l1; skip)))) | ((with_reducible show LCg.CompEnd _ _ _ _ _ _ _ _ _ _ _ _ _ _); first | with_reducible (((with_reducible show LCg.CompEnd _ _ _ _ _ _ _ _ _ _ _ (AnyEl (IsInt _) _) _ _); (with_reducible rename Fr _ _ _ _ => lF'); (with_reducible rename News _ _ _ _ => lN'); (with_reducible rename LCg.Off3 _ _ _ _ => lO'); exact LCg.CompEnd.intro lF' lN' _ (by intro p hp; repeat (first | exact hp | refine List.Mem.tail _ ?_)) lO' True.intro ⟨fun _ h => h, _, rfl⟩)) | (((with_reducible show LCg.CompEnd _ _ _ _ _ _ _ _ _ _ _ (AnyEl (IsInt _) _) _ _); (with_reducible rename Fr _ _ _ _ => lF'); (with_reducible rename News _ _ _ _ => lN'); (with_reducible rename LCg.Off3 _ _ _ _ => lO'); exact LCg.CompEnd.intro lF' lN' _ (by intro p hp; repeat (first | exact hp | refine List.Mem.tail _ ?_)) lO' True.intro ⟨fun _ h => h, _, rfl⟩))) | ((with_reducible show LCg.CompEnd _ _ _ _ _ _ _ _ _ _ _ _ _ _); first | with_reducible (((with_reducible show LCg.CompEnd _ _ _ _ _ _ _ _ _ _ _ (StrNo _ _ _) _ _); (with_reducible rename Fr _ _ _ _ => lF'); (with_reducible rename News _ _ _ _ => lN'); (with_reducible rename LCg.Off3 _ _ _ _ => lO'); exact LCg.CompEnd.intro lF' lN' _ (by intro p hp; repeat (first | exact hp | refine List.Mem.tail _ ?_)) lO' True.intro ⟨fun _ h => h, by ((rename (_ = comF _ _) => z'); show (comF _ _ == _) = false; rw [← z']; first | assumption | simpa using (by assumption : ¬ (_ == _) = true))⟩)) | (((with_reducible show LCg.CompEnd _ _ _ _ _ _ _ _ _ _ _ (StrNo _ _ _) _ _); (with_reducible rename Fr _ _ _ _ => lF'); (with_reducible rename News _ _ _ _ => lN'); (with_reducible rename LCg.Off3 _ _ _ _ => lO'); exact LCg.CompEnd.intro lF' lN' _ (by intro p hp; repeat (first | exact hp | refine List.Mem.tail _ ?_)) lO' True.intro ⟨fun _ h => h, by ((rename (_ = comF _ _) => z'); show (comF _ _ == _) = false; rw [← z']; first | assumption | simpa using (by assumption : ¬ (_ == _) = true))⟩))) | ((with_reducible show LCg.CompEnd _ _ _ _ _ _ _ _ _ _ _ _ _ _); first | with_reducible (((with_reducible show LCg.CompEnd _ _ _ _ _ _ _ _ _ _ _ (StrEl _ _ _ _) _ _); (with_reducible rename Fr _ _ _ _ => lF'); (with_reducible rename News _ _ _ _ => lN'); (with_reducible rename LCg.Off3 _ _ _ _ => lO'); exact LCg.CompEnd.intro lF' lN' _ (by intro p hp; repeat (first | exact hp | refine List.Mem.tail _ ?_)) lO' True.intro ⟨fun _ h => h, by ((rename (_ = comF _ _) => z'); show (comF _ _ == _) = true; rw [← z']; assumption), _, rfl⟩)) | (((with_reducible show LCg.CompEnd _ _ _ _ _ _ _ _ _ _ _ (StrEl _ _ _ _) _ _); (with_reducible rename Fr _ _ _ _ => lF'); (with_reducible rename News _ _ _ _ => lN'); (with_reducible rename LCg.Off3 _ _ _ _ => lO'); exact LCg.CompEnd.intro lF' lN' _ (by intro p hp; repeat (first | exact hp | refine List.Mem.tail _ ?_)) lO' True.intro ⟨fun _ h => h, by ((rename (_ = comF _ _) => z'); show (comF _ _ == _) = true; rw [← z']; assumption), _, rfl⟩))) | ((with_reducible show LCg.CompEnd _ _ _ _ _ _ _ _ _ _ _ _ _ _); first | with_reducible (((with_reducible show LCg.CompEnd _ _ _ _ _ _ _ _ _ _ _ (AnyEl (IsStr _) _) _ _); (with_reducible rename Fr _ _ _ _ => lF'); (with_reducible rename News _ _ _ _ => lN'); (with_reducible rename LCg.Off3 _ _ _ _ => lO'); exact LCg.CompEnd.intro lF' lN' _ (fun p hp => List.Mem.tail _ hp) lO' True.intro ⟨fun _ h => h, _, rfl⟩)) | (((with_reducible show LCg.CompEnd _ _ _ _ _ _ _ _ _ _ _ (AnyEl (IsStr _) _) _ _); (with_reducible rename Fr _ _ _ _ => lF'); (with_reducible rename News _ _ _ _ => lN'); (with_reducible rename LCg.Off3 _ _ _ _ => lO'); exact LCg.CompEnd.intro lF' lN' _ (fun p hp => List.Mem.tail _ hp) lO' True.intro ⟨fun _ h => h, _, rfl⟩))) | ((with_reducible show LCg.CompEnd _ _ _ _ _ _ _ _ _ _ _ _ _ _); first | with_reducible (((with_reducible show LCg.CompEnd _ _ _ _ _ _ _ _ _ _ _ (RowNo _ _ _) _ _); (with_reducible rename Fr _ _ _ _ => lF'); (with_reducible rename News _ _ _ _ => lN'); (with_reducible rename LCg.Off3 _ _ _ _ => lO'); exact LCg.CompEnd.intro lF' lN' _ (fun p hp => List.Mem.tail _ hp) lO' True.intro ⟨fun _ h => h, by assumption⟩)) | (((with_reducible show LCg.CompEnd _ _ _ _ _ _ _ _ _ _ _ (RowNo _ _ _) _ _); (with_reducible rename Fr _ _ _ _ => lF'); (with_reducible rename News _ _ _ _ => lN'); (with_reducible rename LCg.Off3 _ _ _ _ => lO'); exact LCg.CompEnd.intro lF' lN' _ (fun p hp => List.Mem.tail _ hp) lO' True.intro ⟨fun _ h => h, by assumption⟩))) | ((with_reducible show LCg.CompEnd _ _ _ _ _ _ _ _ _ _ _ _ _ _); first | with_reducible (((with_reducible show LCg.CompEnd _ _ _ _ _ _ _ _ _ _ _ (RowEl _ _ _) _ _); (with_reducible rename Fr _ _ _ _ => lF'); (with_reducible rename News _ _ _ _ => lN'); (with_reducible rename LCg.Off3 _ _ _ _ => lO'); exact LCg.CompEnd.intro lF' lN' _ (fun p hp => List.Mem.tail _ hp) lO' True.intro ⟨fun _ h => h, by assumption⟩)) | (((with_reducible show LCg.CompEnd _ _ _ _ _ _ _ _ _ _ _ (RowEl _ _ _) _ _); (with_reducible rename Fr _ _ _ _ => lF'); (with_reducible rename News _ _ _ _ => lN'); (with_reducible rename LCg.Off3 _ _ _ _ => lO'); exact LCg.CompEnd.intro lF' lN' _ (fun p hp => List.Mem.tail _ hp) lO' True.intro ⟨fun _ h => h, by assumption⟩))) | ((with_reducible show FltSrc _ _ _ _ _ _ _ _ _ _ _ _ _ _ _); first | with_reducible (((with_reducible show FltSrc _ _ _ _ _ _ _ _ (Str.ofString "one") [_] _ _ _ _ _); (with_reducible rename Fr _ _ _ _ => lF'); (with_reducible rename News _ _ _ _ => lN'); k_dflt (refine FltSrc.fold (by first | with_reducible assumption | assumption) (by rfl) lF' lN' (by k_mem) (by first | with_reducible assumption | assumption) (by first | with_reducible assumption | assumption) ?_ ?_); (intro c' t' I' oI' C' oC' D' oD' m' h' tk' E' hk' hC' hx' F' N' off' ne'); (try dsimp only); rotate_left; (intro D' h' tk' vs' n' F' N' o1' vz'); (try dsimp only); rotate_left)) | (((with_reducible show FltSrc _ _ _ _ _ _ _ _ (Str.ofString "one") [_] _ _ _ _ _); (with_reducible rename Fr _ _ _ _ => lF'); (with_reducible rename News _ _ _ _ => lN'); k_dflt (refine FltSrc.fold (by first | with_reducible assumption | assumption) (by rfl) lF' lN' (by k_mem) (by first | with_reducible assumption | assumption) (by first | with_reducible assumption | assumption) ?_ ?_); (intro c' t' I' oI' C' oC' D' oD' m' h' tk' E' hk' hC' hx' F' N' off' ne'); (try dsimp only); rotate_left; (intro D' h' tk' vs' n' F' N' o1' vz'); (try dsimp only); rotate_left))) | ((with_reducible show FltSrc _ _ _ _ _ _ _ _ _ _ _ _ _ _ _); first | with_reducible (((with_reducible show FltSrc _ _ _ _ _ _ _ _ (Str.ofString "one") [] _ _ _ _ _); (with_reducible rename Fr _ _ _ _ => lF'); (with_reducible rename News _ _ _ _ => lN'); k_dflt (refine FltSrc.near (by first | with_reducible assumption | assumption) (by rfl) lF' lN' (by k_mem) (by first | with_reducible assumption | assumption) (by first | exact fun _ h => h | exact fun _ h => List.mem_of_mem_take (List.mem_of_mem_drop h)) (by first | assumption | exact slice_le (by first | with_reducible assumption | assumption)) ?_ ?_); (intro c' t' I' oI' C' oC' D' oD' m' h' tk' E' hk' hC' hx' F' N' off' ne'); (try dsimp only); rotate_left; (intro D' h' tk' vs' n' F' N' o1' vi'); (try dsimp only); rotate_left)) | (((with_reducible show FltSrc _ _ _ _ _ _ _ _ (Str.ofString "one") [] _ _ _ _ _); (with_reducible rename Fr _ _ _ _ => lF'); (with_reducible rename News _ _ _ _ => lN'); k_dflt (refine FltSrc.near (by first | with_reducible assumption | assumption) (by rfl) lF' lN' (by k_mem) (by first | with_reducible assumption | assumption) (by first | exact fun _ h => h | exact fun _ h => List.mem_of_mem_take (List.mem_of_mem_drop h)) (by first | assumption | exact slice_le (by first | with_reducible assumption | assumption)) ?_ ?_); (intro c' t' I' oI' C' oC' D' oD' m' h' tk' E' hk' hC' hx' F' N' off' ne'); (try dsimp only); rotate_left; (intro D' h' tk' vs' n' F' N' o1' vi'); (try dsimp only); rotate_left))) | ((with_reducible show FltSrc _ _ _ _ _ _ _ _ _ _ _ _ _ _ _); first | with_reducible (((with_reducible show FltSrc _ _ _ _ _ _ _ _ (Str.ofString "row") [] _ _ _ _ _); (with_reducible rename Fr _ _ _ _ => lF'); (with_reducible rename News _ _ _ _ => lN'); (with_reducible rename RowsIn _ _ _ => lR9'); k_dflt (refine FltSrc.rowsStr pathF (by rfl) lF' lN' (by k_mem) lR9' (by intro p hp; repeat (first | exact hp | refine List.Mem.tail _ ?_)) (by first | with_reducible assumption | assumption) ?_ ?_); (intro a' ws' nr' r' I' oI' C' oC' D' oD' m' h' tk' E' hr' sr' hC' hx' F' N' off' ne'); (have hr' := RowsMem.elim (by first | with_reducible assumption | assumption) hr'); (try dsimp only); rotate_left; (intro D' h' tk' vs' n' F' N' o1' o2' vz'); (try dsimp only); rotate_left)) | (((with_reducible show FltSrc _ _ _ _ _ _ _ _ (Str.ofString "row") [] _ _ _ _ _); (with_reducible rename Fr _ _ _ _ => lF'); (with_reducible rename News _ _ _ _ => lN'); (with_reducible rename RowsIn _ _ _ => lR9'); k_dflt (refine FltSrc.rowsStr pathF (by rfl) lF' lN' (by k_mem) lR9' (by intro p hp; repeat (first | exact hp | refine List.Mem.tail _ ?_)) (by first | with_reducible assumption | assumption) ?_ ?_); (intro a' ws' nr' r' I' oI' C' oC' D' oD' m' h' tk' E' hr' sr' hC' hx' F' N' off' ne'); (have hr' := RowsMem.elim (by first | with_reducible assumption | assumption) hr'); (try dsimp only); rotate_left; (intro D' h' tk' vs' n' F' N' o1' o2' vz'); (try dsimp only); rotate_left))) | ((with_reducible show FltSrc _ _ _ _ _ _ _ _ _ _ _ _ _ _ _); first | with_reducible (((with_reducible rename Fr _ _ _ _ => lF'); (with_reducible rename News _ _ _ _ => lN'); (with_reducible rename RowsIn _ _ _ => lR9'); (with_reducible rename StrsAre _ (namesF _) => lS9'); k_dflt (refine FltSrc.rowsLe lS9' (by rfl) lF' lN' (by k_mem) lR9' (by intro p hp; repeat (first | exact hp | refine List.Mem.tail _ ?_)) (by first | with_reducible assumption | assumption) ?_ ?_); (intro a' ws' nr' r' I' oI' C' oC' D' oD' m' h' tk' E' sr' hC' hx' F' N' off' ne'); (try dsimp only); rotate_left; (intro D' h' tk' vs' n' F' N' o1' vz' vl'); (try dsimp only); rotate_left)) | (((with_reducible rename Fr _ _ _ _ => lF'); (with_reducible rename News _ _ _ _ => lN'); (with_reducible rename RowsIn _ _ _ => lR9'); (with_reducible rename StrsAre _ (namesF _) => lS9'); k_dflt (refine FltSrc.rowsLe lS9' (by rfl) lF' lN' (by k_mem) lR9' (by intro p hp; repeat (first | exact hp | refine List.Mem.tail _ ?_)) (by first | with_reducible assumption | assumption) ?_ ?_); (intro a' ws' nr' r' I' oI' C' oC' D' oD' m' h' tk' E' sr' hC' hx' F' N' off' ne'); (try dsimp only); rotate_left; (intro D' h' tk' vs' n' F' N' o1' vz' vl'); (try dsimp only); rotate_left))) | ((with_reducible show wpAny _ _ (eval _ _) _ _ _); first | ((with_reducible show wpAny _ _ (eval (PySem.Expr.ListComp _ _ _ _) _) _ _ _); first | with_reducible (((with_reducible show wpAny _ _ (eval (Expr.ListComp _ [⟨Expr.Name (Str.ofString "one") _, _, _, _⟩] _ _) _) _ _ _); k_dflt (refine ListComp_F (F₀ := by k_asm) (by with_unfolding_all rfl) (by decide) (by rfl) (by decide) (by rfl) ?_))) | (((with_reducible show wpAny _ _ (eval (Expr.ListComp _ [⟨Expr.Name (Str.ofString "one") _, _, _, _⟩] _ _) _) _ _ _); k_dflt (refine ListComp_F (F₀ := by k_asm) (by with_unfolding_all rfl) (by decide) (by rfl) (by decide) (by rfl) ?_)))) | ((with_reducible show wpAny _ _ (eval (PySem.Expr.ListComp _ _ _ _) _) _ _ _); first | with_reducible (((with_reducible show wpAny _ _ (eval (Expr.ListComp _ [⟨_, Expr.Name (Str.ofString "rows") _, [], _⟩] _ _) _) _ _ _); k_dflt (refine ListComp_F (F₀ := by k_asm) (by with_unfolding_all rfl) (by decide) (by rfl) (by decide) (by rfl) ?_))) | (((with_reducible show wpAny _ _ (eval (Expr.ListComp _ [⟨_, Expr.Name (Str.ofString "rows") _, [], _⟩] _ _) _) _ _ _); k_dflt (refine ListComp_F (F₀ := by k_asm) (by with_unfolding_all rfl) (by decide) (by rfl) (by decide) (by rfl) ?_)))) | ((with_reducible show wpAny _ _ (eval (PySem.Expr.ListComp _ _ _ _) _) _ _ _); first | with_reducible (((with_reducible show wpAny _ _ (eval (Expr.ListComp _ [⟨_, Expr.Name (Str.ofString "rows") _, [_], _⟩] _ _) _) _ _ _); k_dflt (refine ListComp_F (F₀ := by k_asm) (by with_unfolding_all rfl) (by decide) (by rfl) (by decide) (by rfl) ?_))) | (((with_reducible show wpAny _ _ (eval (Expr.ListComp _ [⟨_, Expr.Name (Str.ofString "rows") _, [_], _⟩] _ _) _) _ _ _); k_dflt (refine ListComp_F (F₀ := by k_asm) (by with_unfolding_all rfl) (by decide) (by rfl) (by decide) (by rfl) ?_))))) | ((with_reducible show wpAny _ _ (exec (Stmt.For (PySem.Expr.Name _ _) (PySem.Expr.Subscript _ _ _) _ _ _) _) _ _ _); first | with_reducible (((with_reducible rename Fr _ _ _ _ => lF'); (with_unfolding_all refine' For_invVF lF' ?k1 ?k2 ?_; (case k1 => exact rfl); (case k2 => exact rfl); k_whole))) | (((with_reducible rename Fr _ _ _ _ => lF'); (with_unfolding_all refine' For_invVF lF' ?k1 ?k2 ?_; (case k1 => exact rfl); (case k2 => exact rfl); k_whole)))) | ((with_reducible show wpAny _ _ (compareOp CmpOp.NotEq (Value.ref _) (Value.ref _)) _ _ _); first | with_reducible (((with_reducible rename Fr _ _ _ _ => lF'); (with_reducible rename News _ _ _ _ => lN'); k_dflt (refine use_neSame lN' (by k_mem) (by k_mem) (by first | with_reducible assumption | assumption) (by first | with_reducible assumption | assumption) (by first | assumption | exact UnderOk.e (by first | with_reducible assumption | assumption) _ _ (by first | with_reducible assumption | assumption) (by first | with_reducible assumption | assumption)) (by first | assumption | exact slice_ok (by first | with_reducible assumption | assumption)) (by exact Nat.le_of_ble_eq_true rfl) ?_))) | (((with_reducible rename Fr _ _ _ _ => lF'); (with_reducible rename News _ _ _ _ => lN'); k_dflt (refine use_neSame lN' (by k_mem) (by k_mem) (by first | with_reducible assumption | assumption) (by first | with_reducible assumption | assumption) (by first | assumption | exact UnderOk.e (by first | with_reducible assumption | assumption) _ _ (by first | with_reducible assumption | assumption) (by first | with_reducible assumption | assumption)) (by first | assumption | exact slice_ok (by first | with_reducible assumption | assumption)) (by exact Nat.le_of_ble_eq_true rfl) ?_)))) | ((with_reducible show wpAny _ _ (call (Value.builtin "str.join") _ _) _ _ _); first | with_reducible (((with_reducible rename News _ _ _ _ => lN'); refine use_joinR (by first | with_reducible assumption | assumption) lN' (by k_mem) (by first | with_reducible assumption | assumption) ?_; intro t' tk' le')) | (((with_reducible rename News _ _ _ _ => lN'); refine use_joinR (by first | with_reducible assumption | assumption) lN' (by k_mem) (by first | with_reducible assumption | assumption) ?_; intro t' tk' le'))) | walk1 | (dsimp only; first | ((with_reducible show wpAny _ _ (pyIter (Value.ref _)) _ _ _); first | with_reducible (refine Halt.out ?_) | (refine Halt.out ?_)) | ((with_reducible show wpAny _ _ (subscriptTail _ _ _ _) _ _ _); first | ((with_reducible show wpAny _ _ (subscriptTail _ _ (Value.ref _) (Value.ref _)) _ _ _); first | with_reducible (((with_reducible show wpAny _ _ (subscriptTail (PySem.Expr.Name (Str.ofString "shelf") _) (PySem.Expr.Slice (some _) (some _) none _) (Value.ref _) (Value.ref _)) _ _ _); (with_reducible rename Fr _ _ _ _ => lF'); (with_reducible rename News _ _ _ _ => lN'); first | (k_dflt (refine use_sliceS lF' lN' (by k_mem) (by first | with_reducible assumption | assumption) (by first | with_reducible assumption | assumption) ?_ (by with_unfolding_all rfl) (by intro _; with_unfolding_all rfl)); intro D' h' vs' sS' F' N' l1) | (k_dflt (refine use_sliceNear lF' lN' (by k_mem) (by first | with_reducible assumption | assumption) (by first | with_reducible assumption | assumption) ?_ (by with_unfolding_all rfl) (by intro _; with_unfolding_all rfl)); intro D' h' vs' sS' F' N' l1))) | (((with_reducible show wpAny _ _ (subscriptTail (PySem.Expr.Name (Str.ofString "shelf") _) (PySem.Expr.Slice (some _) (some _) none _) (Value.ref _) (Value.ref _)) _ _ _); (with_reducible rename Fr _ _ _ _ => lF'); (with_reducible rename News _ _ _ _ => lN'); first | (k_dflt (refine use_sliceS lF' lN' (by k_mem) (by first | with_reducible assumption | assumption) (by first | with_reducible assumption | assumption) ?_ (by with_unfolding_all rfl) (by intro _; with_unfolding_all rfl)); intro D' h' vs' sS' F' N' l1) | (k_dflt (refine use_sliceNear lF' lN' (by k_mem) (by first | with_reducible assumption | assumption) (by first | with_reducible assumption | assumption) ?_ (by with_unfolding_all rfl) (by intro _; with_unfolding_all rfl)); intro D' h' vs' sS' F' N' l1)))) | ((with_reducible show wpAny _ _ (subscriptTail _ _ (Value.ref _) (Value.ref _)) _ _ _); first | with_reducible (((with_reducible show wpAny _ _ (subscriptTail (PySem.Expr.Name (Str.ofString "names") _) (PySem.Expr.Slice none (some _) none _) (Value.ref _) (Value.ref _)) _ _ _); (with_reducible rename Fr _ _ _ _ => lF'); (with_reducible rename News _ _ _ _ => lN'); k_dflt (refine use_sliceInit lF' lN' (by k_mem) (by first | with_reducible assumption | assumption) (by first | with_reducible assumption | assumption) (by first | with_reducible assumption | assumption) ?_ (by with_unfolding_all rfl) (by intro _; with_unfolding_all rfl)); intro D' h' vs' sS' F' N' l1)) | (((with_reducible show wpAny _ _ (subscriptTail (PySem.Expr.Name (Str.ofString "names") _) (PySem.Expr.Slice none (some _) none _) (Value.ref _) (Value.ref _)) _ _ _); (with_reducible rename Fr _ _ _ _ => lF'); (with_reducible rename News _ _ _ _ => lN'); k_dflt (refine use_sliceInit lF' lN' (by k_mem) (by first | with_reducible assumption | assumption) (by first | with_reducible assumption | assumption) (by first | with_reducible assumption | assumption) ?_ (by with_unfolding_all rfl) (by intro _; with_unfolding_all rfl)); intro D' h' vs' sS' F' N' l1))) | ((with_reducible show wpAny _ _ (subscriptTail _ _ (Value.ref _) (Value.ref _)) _ _ _); first | with_reducible (((with_reducible show wpAny _ _ (subscriptTail (PySem.Expr.Name (Str.ofString "numbers") _) _ (Value.ref _) (Value.ref _)) _ _ _); (with_reducible rename Fr _ _ _ _ => lF'); (with_reducible rename News _ _ _ _ => lN'); k_dflt (refine use_sliceLast2 lF' lN' (by k_mem) (by first | with_reducible assumption | assumption) (by first | with_reducible assumption | assumption) ?_ (by with_unfolding_all rfl) (by intro _; with_unfolding_all rfl)); intro D' h' F' N' l1; skip)) | (((with_reducible show wpAny _ _ (subscriptTail (PySem.Expr.Name (Str.ofString "numbers") _) _ (Value.ref _) (Value.ref _)) _ _ _); (with_reducible rename Fr _ _ _ _ => lF'); (with_reducible rename News _ _ _ _ => lN'); k_dflt (refine use_sliceLast2 lF' lN' (by k_mem) (by first | with_reducible assumption | assumption) (by first | with_reducible assumption | assumption) ?_ (by with_unfolding_all rfl) (by intro _; with_unfolding_all rfl)); intro D' h' F' N' l1; skip))) | ((with_reducible show wpAny _ _ (subscriptTail _ _ (Value.ref _) (Value.ref _)) _ _ _); first | with_reducible (((with_reducible show wpAny _ _ (subscriptTail _ (PySem.Expr.Slice (some _) none none _) (Value.ref _) (Value.ref _)) _ _ _); (with_reducible rename Fr _ _ _ _ => lF'); (with_reducible rename News _ _ _ _ => lN'); k_dflt (refine use_sliceFrom lF' lN' (by k_mem) (by first | with_reducible assumption | assumption) ?_ (by with_unfolding_all rfl) (by intro _; with_unfolding_all rfl)); intro D' h' F' N' l1; skip)) | (((with_reducible show wpAny _ _ (subscriptTail _ (PySem.Expr.Slice (some _) none none _) (Value.ref _) (Value.ref _)) _ _ _); (with_reducible rename Fr _ _ _ _ => lF'); (with_reducible rename News _ _ _ _ => lN'); k_dflt (refine use_sliceFrom lF' lN' (by k_mem) (by first | with_reducible assumption | assumption) ?_ (by with_unfolding_all rfl) (by intro _; with_unfolding_all rfl)); intro D' h' F' N' l1; skip))) | ((with_reducible show wpAny _ _ (subscriptTail _ _ (Value.ref _) (Value.ref _)) _ _ _); first | with_reducible (((with_reducible show wpAny _ _ (subscriptTail _ (PySem.Expr.Slice none (some _) none _) (Value.ref _) (Value.ref _)) _ _ _); (with_reducible rename Fr _ _ _ _ => lF'); (with_reducible rename News _ _ _ _ => lN'); k_dflt (refine use_sliceUp lF' lN' (by k_mem) (by first | with_reducible assumption | assumption) ?_ (by with_unfolding_all rfl) (by intro _; with_unfolding_all rfl)); intro D' h' F' N' l1; skip)) | (((with_reducible show wpAny _ _ (subscriptTail _ (PySem.Expr.Slice none (some _) none _) (Value.ref _) (Value.ref _)) _ _ _); (with_reducible rename Fr _ _ _ _ => lF'); (with_reducible rename News _ _ _ _ => lN'); k_dflt (refine use_sliceUp lF' lN' (by k_mem) (by first | with_reducible assumption | assumption) ?_ (by with_unfolding_all rfl) (by intro _; with_unfolding_all rfl)); intro D' h' F' N' l1; skip)))) | ((with_reducible show LCg.CompEnd _ _ _ _ _ _ _ _ _ _ _ _ _ _); first | with_reducible (((with_reducible show LCg.CompEnd _ _ _ _ _ _ _ _ _ _ _ (AnyEl (IsInt _) _) _ _); (with_reducible rename Fr _ _ _ _ => lF'); (with_reducible rename News _ _ _ _ => lN'); (with_reducible rename LCg.Off3 _ _ _ _ => lO'); exact LCg.CompEnd.intro lF' lN' _ (by intro p hp; repeat (first | exact hp | refine List.Mem.tail _ ?_)) lO' True.intro ⟨fun _ h => h, _, rfl⟩)) | (((with_reducible show LCg.CompEnd _ _ _ _ _ _ _ _ _ _ _ (AnyEl (IsInt _) _) _ _); (with_reducible rename Fr _ _ _ _ => lF'); (with_reducible rename News _ _ _ _ => lN'); (with_reducible rename LCg.Off3 _ _ _ _ => lO'); exact LCg.CompEnd.intro lF' lN' _ (by intro p hp; repeat (first | exact hp | refine List.Mem.tail _ ?_)) lO' True.intro ⟨fun _ h => h, _, rfl⟩))) | ((with_reducible show LCg.CompEnd _ _ _ _ _ _ _ _ _ _ _ _ _ _); first | with_reducible (((with_reducible show LCg.CompEnd _ _ _ _ _ _ _ _ _ _ _ (StrNo _ _ _) _ _); (with_reducible rename Fr _ _ _ _ => lF'); (with_reducible rename News _ _ _ _ => lN'); (with_reducible rename LCg.Off3 _ _ _ _ => lO'); exact LCg.CompEnd.intro lF' lN' _ (by intro p hp; repeat (first | exact hp | refine List.Mem.tail _ ?_)) lO' True.intro ⟨fun _ h => h, by ((rename (_ = comF _ _) => z'); show (comF _ _ == _) = false; rw [← z']; first | assumption | simpa using (by assumption : ¬ (_ == _) = true))⟩)) | (((with_reducible show LCg.CompEnd _ _ _ _ _ _ _ _ _ _ _ (StrNo _ _ _) _ _); (with_reducible rename Fr _ _ _ _ => lF'); (with_reducible rename News _ _ _ _ => lN'); (with_reducible rename LCg.Off3 _ _ _ _ => lO'); exact LCg.CompEnd.intro lF' lN' _ (by intro p hp; repeat (first | exact hp | refine List.Mem.tail _ ?_)) lO' True.intro ⟨fun _ h => h, by ((rename (_ = comF _ _) => z'); show (comF _ _ == _) = false; rw [← z']; first | assumption | simpa using (by assumption : ¬ (_ == _) = true))⟩))) | ((with_reducible show LCg.CompEnd _ _ _ _ _ _ _ _ _ _ _ _ _ _); first | with_reducible (((with_reducible show LCg.CompEnd _ _ _ _ _ _ _ _ _ _ _ (StrEl _ _ _ _) _ _); (with_reducible rename Fr _ _ _ _ => lF'); (with_reducible rename News _ _ _ _ => lN'); (with_reducible rename LCg.Off3 _ _ _ _ => lO'); exact LCg.CompEnd.intro lF' lN' _ (by intro p hp; repeat (first | exact hp | refine List.Mem.tail _ ?_)) lO' True.intro ⟨fun _ h => h, by ((rename (_ = comF _ _) => z'); show (comF _ _ == _) = true; rw [← z']; assumption), _, rfl⟩)) | (((with_reducible show LCg.CompEnd _ _ _ _ _ _ _ _ _ _ _ (StrEl _ _ _ _) _ _); (with_reducible rename Fr _ _ _ _ => lF'); (with_reducible rename News _ _ _ _ => lN'); (with_reducible rename LCg.Off3 _ _ _ _ => lO'); exact LCg.CompEnd.intro lF' lN' _ (by intro p hp; repeat (first | exact hp | refine List.Mem.tail _ ?_)) lO' True.intro ⟨fun _ h => h, by ((rename (_ = comF _ _) => z'); show (comF _ _ == _) = true; rw [← z']; assumption), _, rfl⟩))) | ((with_reducible show LCg.CompEnd _ _ _ _ _ _ _ _ _ _ _ _ _ _); first | with_reducible (((with_reducible show LCg.CompEnd _ _ _ _ _ _ _ _ _ _ _ (AnyEl (IsStr _) _) _ _); (with_reducible rename Fr _ _ _ _ => lF'); (with_reducible rename News _ _ _ _ => lN'); (with_reducible rename LCg.Off3 _ _ _ _ => lO'); exact LCg.CompEnd.intro lF' lN' _ (fun p hp => List.Mem.tail _ hp) lO' True.intro ⟨fun _ h => h, _, rfl⟩)) | (((with_reducible show LCg.CompEnd _ _ _ _ _ _ _ _ _ _ _ (AnyEl (IsStr _) _) _ _); (with_reducible rename Fr _ _ _ _ => lF'); (with_reducible rename News _ _ _ _ => lN'); (with_reducible rename LCg.Off3 _ _ _ _ => lO'); exact LCg.CompEnd.intro lF' lN' _ (fun p hp => List.Mem.tail _ hp) lO' True.intro ⟨fun _ h => h, _, rfl⟩))) | ((with_reducible show LCg.CompEnd _ _ _ _ _ _ _ _ _ _ _ _ _ _); first | with_reducible (((with_reducible show LCg.CompEnd _ _ _ _ _ _ _ _ _ _ _ (RowNo _ _ _) _ _); (with_reducible rename Fr _ _ _ _ => lF'); (with_reducible rename News _ _ _ _ => lN'); (with_reducible rename LCg.Off3 _ _ _ _ => lO'); exact LCg.CompEnd.intro lF' lN' _ (fun p hp => List.Mem.tail _ hp) lO' True.intro ⟨fun _ h => h, by assumption⟩)) | (((with_reducible show LCg.CompEnd _ _ _ _ _ _ _ _ _ _ _ (RowNo _ _ _) _ _); (with_reducible rename Fr _ _ _ _ => lF'); (with_reducible rename News _ _ _ _ => lN'); (with_reducible rename LCg.Off3 _ _ _ _ => lO'); exact LCg.CompEnd.intro lF' lN' _ (fun p hp => List.Mem.tail _ hp) lO' True.intro ⟨fun _ h => h, by assumption⟩))) | ((with_reducible show LCg.CompEnd _ _ _ _ _ _ _ _ _ _ _ _ _ _); first | with_reducible (((with_reducible show LCg.CompEnd _ _ _ _ _ _ _ _ _ _ _ (RowEl _ _ _) _ _); (with_reducible rename Fr _ _ _ _ => lF'); (with_reducible rename News _ _ _ _ => lN'); (with_reducible rename LCg.Off3 _ _ _ _ => lO'); exact LCg.CompEnd.intro lF' lN' _ (fun p hp => List.Mem.tail _ hp) lO' True.intro ⟨fun _ h => h, by assumption⟩)) | (((with_reducible show LCg.CompEnd _ _ _ _ _ _ _ _ _ _ _ (RowEl _ _ _) _ _); (with_reducible rename Fr _ _ _ _ => lF'); (with_reducible rename News _ _ _ _ => lN'); (with_reducible rename LCg.Off3 _ _ _ _ => lO'); exact LCg.CompEnd.intro lF' lN' _ (fun p hp => List.Mem.tail _ hp) lO' True.intro ⟨fun _ h => h, by assumption⟩))) | ((with_reducible show FltSrc _ _ _ _ _ _ _ _ _ _ _ _ _ _ _); first | with_reducible (((with_reducible show FltSrc _ _ _ _ _ _ _ _ (Str.ofString "one") [_] _ _ _ _ _); (with_reducible rename Fr _ _ _ _ => lF'); (with_reducible rename News _ _ _ _ => lN'); k_dflt (refine FltSrc.fold (by first | with_reducible assumption | assumption) (by rfl) lF' lN' (by k_mem) (by first | with_reducible assumption | assumption) (by first | with_reducible assumption | assumption) ?_ ?_); (intro c' t' I' oI' C' oC' D' oD' m' h' tk' E' hk' hC' hx' F' N' off' ne'); (try dsimp only); rotate_left; (intro D' h' tk' vs' n' F' N' o1' vz'); (try dsimp only); rotate_left)) | (((with_reducible show FltSrc _ _ _ _ _ _ _ _ (Str.ofString "one") [_] _ _ _ _ _); (with_reducible rename Fr _ _ _ _ => lF'); (with_reducible rename News _ _ _ _ => lN'); k_dflt (refine FltSrc.fold (by first | with_reducible assumption | assumption) (by rfl) lF' lN' (by k_mem) (by first | with_reducible assumption | assumption) (by first | with_reducible assumption | assumption) ?_ ?_); (intro c' t' I' oI' C' oC' D' oD' m' h' tk' E' hk' hC' hx' F' N' off' ne'); (try dsimp only); rotate_left; (intro D' h' tk' vs' n' F' N' o1' vz'); (try dsimp only); rotate_left))) | ((with_reducible show FltSrc _ _ _ _ _ _ _ _ _ _ _ _ _ _ _); first | with_reducible (((with_reducible show FltSrc _ _ _ _ _ _ _ _ (Str.ofString "one") [] _ _ _ _ _); (with_reducible rename Fr _ _ _ _ => lF'); (with_reducible rename News _ _ _ _ => lN'); k_dflt (refine FltSrc.near (by first | with_reducible assumption | assumption) (by rfl) lF' lN' (by k_mem) (by first | with_reducible assumption | assumption) (by first | exact fun _ h => h | exact fun _ h => List.mem_of_mem_take (List.mem_of_mem_drop h)) (by first | assumption | exact slice_le (by first | with_reducible assumption | assumption)) ?_ ?_); (intro c' t' I' oI' C' oC' D' oD' m' h' tk' E' hk' hC' hx' F' N' off' ne'); (try dsimp only); rotate_left; (intro D' h' tk' vs' n' F' N' o1' vi'); (try dsimp only); rotate_left)) | (((with_reducible show FltSrc _ _ _ _ _ _ _ _ (Str.ofString "one") [] _ _ _ _ _); (with_reducible rename Fr _ _ _ _ => lF'); (with_reducible rename News _ _ _ _ => lN'); k_dflt (refine FltSrc.near (by first | with_reducible assumption | assumption) (by rfl) lF' lN' (by k_mem) (by first | with_reducible assumption | assumption) (by first | exact fun _ h => h | exact fun _ h => List.mem_of_mem_take (List.mem_of_mem_drop h)) (by first | assumption | exact slice_le (by first | with_reducible assumption | assumption)) ?_ ?_); (intro c' t' I' oI' C' oC' D' oD' m' h' tk' E' hk' hC' hx' F' N' off' ne'); (try dsimp only); rotate_left; (intro D' h' tk' vs' n' F' N' o1' vi'); (try dsimp only); rotate_left))) | ((with_reducible show FltSrc _ _ _ _ _ _ _ _ _ _ _ _ _ _ _); first | with_reducible (((with_reducible show FltSrc _ _ _ _ _ _ _ _ (Str.ofString "row") [] _ _ _ _ _); (with_reducible rename Fr _ _ _ _ => lF'); (with_reducible rename News _ _ _ _ => lN'); (with_reducible rename RowsIn _ _ _ => lR9'); k_dflt (refine FltSrc.rowsStr pathF (by rfl) lF' lN' (by k_mem) lR9' (by intro p hp; repeat (first | exact hp | refine List.Mem.tail _ ?_)) (by first | with_reducible assumption | assumption) ?_ ?_); (intro a' ws' nr' r' I' oI' C' oC' D' oD' m' h' tk' E' hr' sr' hC' hx' F' N' off' ne'); (have hr' := RowsMem.elim (by first | with_reducible assumption | assumption) hr'); (try dsimp only); rotate_left; (intro D' h' tk' vs' n' F' N' o1' o2' vz'); (try dsimp only); rotate_left)) | (((with_reducible show FltSrc _ _ _ _ _ _ _ _ (Str.ofString "row") [] _ _ _ _ _); (with_reducible rename Fr _ _ _ _ => lF'); (with_reducible rename News _ _ _ _ => lN'); (with_reducible rename RowsIn _ _ _ => lR9'); k_dflt (refine FltSrc.rowsStr pathF (by rfl) lF' lN' (by k_mem) lR9' (by intro p hp; repeat (first | exact hp | refine List.Mem.tail _ ?_)) (by first | with_reducible assumption | assumption) ?_ ?_); (intro a' ws' nr' r' I' oI' C' oC' D' oD' m' h' tk' E' hr' sr' hC' hx' F' N' off' ne'); (have hr' := RowsMem.elim (by first | with_reducible assumption | assumption) hr'); (try dsimp only); rotate_left; (intro D' h' tk' vs' n' F' N' o1' o2' vz'); (try dsimp only); rotate_left))) | ((with_reducible show FltSrc _ _ _ _ _ _ _ _ _ _ _ _ _ _ _); first | with_reducible (((with_reducible rename Fr _ _ _ _ => lF'); (with_reducible rename News _ _ _ _ => lN'); (with_reducible rename RowsIn _ _ _ => lR9'); (with_reducible rename StrsAre _ (namesF _) => lS9'); k_dflt (refine FltSrc.rowsLe lS9' (by rfl) lF' lN' (by k_mem) lR9' (by intro p hp; repeat (first | exact hp | refine List.Mem.tail _ ?_)) (by first | with_reducible assumption | assumption) ?_ ?_); (intro a' ws' nr' r' I' oI' C' oC' D' oD' m' h' tk' E' sr' hC' hx' F' N' off' ne'); (try dsimp only); rotate_left; (intro D' h' tk' vs' n' F' N' o1' vz' vl'); (try dsimp only); rotate_left)) | (((with_reducible rename Fr _ _ _ _ => lF'); (with_reducible rename News _ _ _ _ => lN'); (with_reducible rename RowsIn _ _ _ => lR9'); (with_reducible rename StrsAre _ (namesF _) => lS9'); k_dflt (refine FltSrc.rowsLe lS9' (by rfl) lF' lN' (by k_mem) lR9' (by intro p hp; repeat (first | exact hp | refine List.Mem.tail _ ?_)) (by first | with_reducible assumption | assumption) ?_ ?_); (intro a' ws' nr' r' I' oI' C' oC' D' oD' m' h' tk' E' sr' hC' hx' F' N' off' ne'); (try dsimp only); rotate_left; (intro D' h' tk' vs' n' F' N' o1' vz' vl'); (try dsimp only); rotate_left))) | ((with_reducible show wpAny _ _ (eval _ _) _ _ _); first | ((with_reducible show wpAny _ _ (eval (PySem.Expr.ListComp _ _ _ _) _) _ _ _); first | with_reducible (((with_reducible show wpAny _ _ (eval (Expr.ListComp _ [⟨Expr.Name (Str.ofString "one") _, _, _, _⟩] _ _) _) _ _ _); k_dflt (refine ListComp_F (F₀ := by k_asm) (by with_unfolding_all rfl) (by decide) (by rfl) (by decide) (by rfl) ?_))) | (((with_reducible show wpAny _ _ (eval (Expr.ListComp _ [⟨Expr.Name (Str.ofString "one") _, _, _, _⟩] _ _) _) _ _ _); k_dflt (refine ListComp_F (F₀ := by k_asm) (by with_unfolding_all rfl) (by decide) (by rfl) (by decide) (by rfl) ?_)))) | ((with_reducible show wpAny _ _ (eval (PySem.Expr.ListComp _ _ _ _) _) _ _ _); first | with_reducible (((with_reducible show wpAny _ _ (eval (Expr.ListComp _ [⟨_, Expr.Name (Str.ofString "rows") _, [], _⟩] _ _) _) _ _ _); k_dflt (refine ListComp_F (F₀ := by k_asm) (by with_unfolding_all rfl) (by decide) (by rfl) (by decide) (by rfl) ?_))) | (((with_reducible show wpAny _ _ (eval (Expr.ListComp _ [⟨_, Expr.Name (Str.ofString "rows") _, [], _⟩] _ _) _) _ _ _); k_dflt (refine ListComp_F (F₀ := by k_asm) (by with_unfolding_all rfl) (by decide) (by rfl) (by decide) (by rfl) ?_)))) | ((with_reducible show wpAny _ _ (eval (PySem.Expr.ListComp _ _ _ _) _) _ _ _); first | with_reducible (((with_reducible show wpAny _ _ (eval (Expr.ListComp _ [⟨_, Expr.Name (Str.ofString "rows") _, [_], _⟩] _ _) _) _ _ _); k_dflt (refine ListComp_F (F₀ := by k_asm) (by with_unfolding_all rfl) (by decide) (by rfl) (by decide) (by rfl) ?_))) | (((with_reducible show wpAny _ _ (eval (Expr.ListComp _ [⟨_, Expr.Name (Str.ofString "rows") _, [_], _⟩] _ _) _) _ _ _); k_dflt (refine ListComp_F (F₀ := by k_asm) (by with_unfolding_all rfl) (by decide) (by rfl) (by decide) (by rfl) ?_))))) | ((with_reducible show wpAny _ _ (exec (Stmt.For (PySem.Expr.Name _ _) (PySem.Expr.Subscript _ _ _) _ _ _) _) _ _ _); first | with_reducible (((with_reducible rename Fr _ _ _ _ => lF'); (with_unfolding_all refine' For_invVF lF' ?k1 ?k2 ?_; (case k1 => exact rfl); (case k2 => exact rfl); k_whole))) | (((with_reducible rename Fr _ _ _ _ => lF'); (with_unfolding_all refine' For_invVF lF' ?k1 ?k2 ?_; (case k1 => exact rfl); (case k2 => exact rfl); k_whole)))) | ((with_reducible show wpAny _ _ (compareOp CmpOp.NotEq (Value.ref _) (Value.ref _)) _ _ _); first | with_reducible (((with_reducible rename Fr _ _ _ _ => lF'); (with_reducible rename News _ _ _ _ => lN'); k_dflt (refine use_neSame lN' (by k_mem) (by k_mem) (by first | with_reducible assumption | assumption) (by first | with_reducible assumption | assumption) (by first | assumption | exact UnderOk.e (by first | with_reducible assumption | assumption) _ _ (by first | with_reducible assumption | assumption) (by first | with_reducible assumption | assumption)) (by first | assumption | exact slice_ok (by first | with_reducible assumption | assumption)) (by exact Nat.le_of_ble_eq_true rfl) ?_))) | (((with_reducible rename Fr _ _ _ _ => lF'); (with_reducible rename News _ _ _ _ => lN'); k_dflt (refine use_neSame lN' (by k_mem) (by k_mem) (by first | with_reducible assumption | assumption) (by first | with_reducible assumption | assumption) (by first | assumption | exact UnderOk.e (by first | with_reducible assumption | assumption) _ _ (by first | with_reducible assumption | assumption) (by first | with_reducible assumption | assumption)) (by first | assumption | exact slice_ok (by first | with_reducible assumption | assumption)) (by exact Nat.le_of_ble_eq_true rfl) ?_)))) | ((with_reducible show wpAny _ _ (call (Value.builtin "str.join") _ _) _ _ _); first | with_reducible (((with_reducible rename News _ _ _ _ => lN'); refine use_joinR (by first | with_reducible assumption | assumption) lN' (by k_mem) (by first | with_reducible assumption | assumption) ?_; intro t' tk' le')) | (((with_reducible rename News _ _ _ _ => lN'); refine use_joinR (by first | with_reducible assumption | assumption) lN' (by k_mem) (by first | with_reducible assumption | assumption) ?_; intro t' tk' le'))) | walk1) | (leave1; walk_say "STEP leave1"; try dsimp only) | fail "no step")
    refine Halt.mk ?_
    obtain ⟨D2, eD2⟩ : ∃ D2, D2 = D' := ⟨_, rfl⟩
    subst eD2
    have F2 := F'
    have N2 := N'
    have lt6 := l1
    clear F' N' l1
    obtain ⟨tA, tB, hv2⟩ : ∃ t u, List.drop (ws.toArray.size - 2) ws.toArray.toList = [.int 2 t, .int 10 u] := by
      have iL' : IntsAre ws ((List.take 6 ns ++ [0, 1, 4, 19]) ++ [2, 10]) := by rw [List.append_assoc]; rw [← hnums] at iL; exact iL
      have hk : ws.toArray.size - 2 = (List.take 6 ns ++ [0, 1, 4, 19]).length := by
        have := iL'.length
        rw [List.size_toArray]
        rw [List.length_append] at this
        simp only [List.length_cons, List.length_nil] at this
        omega
      have e : ws.toArray.toList = ws := rfl
      rw [e]
      exact lastTwo iL' hk
    rw [hv2] at N2
    obtain ⟨b1, b2, b3⟩ := ne3 (ltIn (D := D2) (a := L + 1 + 1 + 1) lt6 (by k_mem))
    have sd : @Ne Nat S D2 := ltMem lt6 (by k_mem)
    obtain ⟨a1, a2, a3⟩ := ne3 lt2.2.2.2.1
    obtain ⟨z1, z2, z3⟩ := @cells3 L
    clear lt0 lt1 lt2 lt3 lt4 lt5 lt6
    refine iter_led (vs := [.int 2 tA, .int 10 tB]) (ol := W.listOf [.int 2 tA, .int 10 tB].toArray 0) (news := (S, W.listOf vs1 n1) :: (D2, W.listOf [.int 2 tA, .int 10 tB].toArray 0) :: (L + 1 + 1 + 1, o1) :: (L + 1 + 1, o2) :: (L + 1, o3) :: []) (L2J L S D2 vs1 n1 [.int 2 tA, .int 10 tB]) rfl rfl ⟨_, rfl⟩ ?_ F2 ?_ ?_ ?_ ?_
    · rintro i m news ⟨o1, o2, o3, c1, c2, c3, u, rfl, _⟩
      exact .tail _ (.head _)
    · intro p hp
      simp only [List.mem_cons, List.not_mem_nil, or_false] at hp
      rcases hp with rfl | rfl | rfl | rfl | rfl <;> exact N2 _ (by simp)
    · exact ⟨o1, o2, o3, _, _, _, _, rfl, map_eq1 (by rfl), e1, e2, e3⟩
    · rintro i v m news h tk It oI hv ⟨p1, p2, p3, c1, c2, c3, u, rfl, rfl, g1, g2, g3⟩ hIt F₁ N₁
      clear F2 N2
      obtain ⟨x, t, rfl, hT⟩ : ∃ x t, v = .int x t ∧ Tgt x := by
        match i, hv with
        | 0, hv => cases hv; exact ⟨2, _, rfl, tgt2⟩
        | 1, hv => cases hv; exact ⟨10, _, rfl, tgt10⟩
        | (i + 2), hv => cases hv
      clear hv
      have hps0 : 0 < ps.length := by rw [hl1, hlen, ← hnums]; simp
      obtain ⟨row, f, b, hV⟩ : ∃ row f b, TV x row f b := ⟨_, _, _, rfl, rfl, rfl, hT⟩
      have hrow : row ∈ rows39 := hV.r ▸ names_mem x
      have hn1 : row.length ≤ 1000 := (rowOk hrow).n
      have hn2 : 0 < row.length := (rowOk hrow).p
      have hn3 : row.length ≤ 900 := (rowOk hrow).n9
      have hn4 : row.dropLast.length ≤ 900 := by rw [List.length_dropLast]; omega
      have hfold := hV.fold SH
      have hbang := hV.bang SH
      have hunder := hV.under SH
      have hnear := hV.near SH
      clear hT SH
      dsimp only at F₁
      replace F₁ : Fr s.heap L h _ := F₁
      replace N₁ : News s.heap L h _ := N₁
      repeat' (first | (k_unfold; (try dsimp only)) | ((with_reducible show wpAny _ _ (call _ _ _) _ _ _); first | ((with_reducible show wpAny _ _ (call (Value.ref _) _ _) _ _ _); first | with_reducible (((with_reducible rename Fr _ _ _ _ => lF'); (with_reducible rename News _ _ _ _ => lN'); (with_reducible rename Rdy _ _ => lR'); first | (refine use_namesG (by first | with_reducible assumption | assumption) lR' lF' lN' (by rfl) (by exact Nat.le_of_ble_eq_true rfl) (by exact Nat.le_of_ble_eq_true rfl) ?_; intro D' vs' n' h' tk' hS' F' N' ne') | (refine use_dir (by first | with_reducible assumption | assumption) lR' lF' lN' (by rfl) (by exact Nat.le_of_ble_eq_true rfl) (by exact Nat.le_of_ble_eq_true rfl) ?_; intro u' h' tk' F' N') | (refine use_bang (by first | with_reducible assumption | assumption) lR' lF' lN' (by rfl) (by exact Nat.le_of_ble_eq_true rfl) (by exact Nat.le_of_ble_eq_true rfl) ?_; intro u' h' tk' F' N') | (refine use_bl lR' lF' lN' (by rfl) (by exact Nat.le_of_ble_eq_true rfl) (by exact Nat.le_of_ble_eq_true rfl) (by k_mem) (by k_mem) (by first | with_reducible assumption | assumption) (by first | with_reducible assumption | assumption) (by first | with_reducible assumption | assumption) (by first | with_reducible assumption | assumption) ?_; intro k' u' h' tk' ek' F' N') | (refine use_cpV (by first | with_reducible assumption | assumption) lR' lF' lN' (by rfl) (by exact Nat.le_of_ble_eq_true rfl) (by exact Nat.le_of_ble_eq_true rfl) (by k_mem) ?_; intro r' u' h' tk' er' le' F' N') | (refine use_lc (by first | with_reducible assumption | assumption) lR' lF' lN' (by rfl) (by exact Nat.le_of_ble_eq_true rfl) (by exact Nat.le_of_ble_eq_true rfl) ?_; intro u' h' tk' F' N'))) | (((with_reducible rename Fr _ _ _ _ => lF'); (with_reducible rename News _ _ _ _ => lN'); (with_reducible rename Rdy _ _ => lR'); first | (refine use_namesG (by first | with_reducible assumption | assumption) lR' lF' lN' (by rfl) (by exact Nat.le_of_ble_eq_true rfl) (by exact Nat.le_of_ble_eq_true rfl) ?_; intro D' vs' n' h' tk' hS' F' N' ne') | (refine use_dir (by first | with_reducible assumption | assumption) lR' lF' lN' (by rfl) (by exact Nat.le_of_ble_eq_true rfl) (by exact Nat.le_of_ble_eq_true rfl) ?_; intro u' h' tk' F' N') | (refine use_bang (by first | with_reducible assumption | assumption) lR' lF' lN' (by rfl) (by exact Nat.le_of_ble_eq_true rfl) (by exact Nat.le_of_ble_eq_true rfl) ?_; intro u' h' tk' F' N') | (refine use_bl lR' lF' lN' (by rfl) (by exact Nat.le_of_ble_eq_true rfl) (by exact Nat.le_of_ble_eq_true rfl) (by k_mem) (by k_mem) (by first | with_reducible assumption | assumption) (by first | with_reducible assumption | assumption) (by first | with_reducible assumption | assumption) (by first | with_reducible assumption | assumption) ?_; intro k' u' h' tk' ek' F' N') | (refine use_cpV (by first | with_reducible assumption | assumption) lR' lF' lN' (by rfl) (by exact Nat.le_of_ble_eq_true rfl) (by exact Nat.le_of_ble_eq_true rfl) (by k_mem) ?_; intro r' u' h' tk' er' le' F' N') | (refine use_lc (by first | with_reducible assumption | assumption) lR' lF' lN' (by rfl) (by exact Nat.le_of_ble_eq_true rfl) (by exact Nat.le_of_ble_eq_true rfl) ?_; intro u' h' tk' F' N')))) | ((with_reducible show wpAny _ _ (call (Value.builtin "max") _ _) _ _ _); first | with_reducible (((with_reducible show wpAny _ _ (call (Value.builtin _) [Value.ref _]) _ _ _); (with_reducible rename Fr _ _ _ _ => lF'); (with_reducible rename News _ _ _ _ => lN'); k_dflt (refine use_maxI (by rfl) lF' lN' (by k_mem) (by first | with_reducible assumption | assumption) (by first | assumption | exact near_len (by first | with_reducible assumption | assumption) (by first | with_reducible assumption | assumption)) ?_); intro h' M' t' tk' F' N' hM')) | (((with_reducible show wpAny _ _ (call (Value.builtin _) [Value.ref _]) _ _ _); (with_reducible rename Fr _ _ _ _ => lF'); (with_reducible rename News _ _ _ _ => lN'); k_dflt (refine use_maxI (by rfl) lF' lN' (by k_mem) (by first | with_reducible assumption | assumption) (by first | assumption | exact near_len (by first | with_reducible assumption | assumption) (by first | with_reducible assumption | assumption)) ?_); intro h' M' t' tk' F' N' hM'))) | ((with_reducible show wpAny _ _ (call (Value.builtin "str.join") _ _) _ _ _); first | with_reducible (((with_reducible rename News _ _ _ _ => lN'); refine use_joinR (by first | with_reducible assumption | assumption) lN' (by k_mem) (by first | with_reducible assumption | assumption) ?_; intro t' tk' le')) | (((with_reducible rename News _ _ _ _ => lN'); refine use_joinR (by first | with_reducible assumption | assumption) lN' (by k_mem) (by first | with_reducible assumption | assumption) ?_; intro t' tk' le')))) | ((with_reducible show wpAny _ _ (compareOp _ _ _) _ _ _); first | ((with_reducible show wpAny _ _ (compareOp CmpOp.NotEq (Value.int _ _) (Value.int _ _)) _ _ _); first | with_reducible ((k_dflt (refine use_neSameI (NearOk.e (by first | with_reducible assumption | assumption) _ _ _ (by first | with_reducible assumption | assumption) (by first | with_reducible assumption | assumption) (by first | with_reducible assumption | assumption)) ?_))) | ((k_dflt (refine use_neSameI (NearOk.e (by first | with_reducible assumption | assumption) _ _ _ (by first | with_reducible assumption | assumption) (by first | with_reducible assumption | assumption) (by first | with_reducible assumption | assumption)) ?_)))) | ((with_reducible show wpAny _ _ (compareOp CmpOp.NotEq (Value.ref _) (Value.ref _)) _ _ _); first | with_reducible (((with_reducible rename Fr _ _ _ _ => lF'); (with_reducible rename News _ _ _ _ => lN'); k_dflt (refine use_neSame lN' (by k_mem) (by k_mem) (by first | with_reducible assumption | assumption) (by first | with_reducible assumption | assumption) (by first | assumption | exact UnderOk.e (by first | with_reducible assumption | assumption) _ _ (by first | with_reducible assumption | assumption) (by first | with_reducible assumption | assumption)) (by first | assumption | exact slice_ok (by first | with_reducible assumption | assumption)) (by exact Nat.le_of_ble_eq_true rfl) ?_))) | (((with_reducible rename Fr _ _ _ _ => lF'); (with_reducible rename News _ _ _ _ => lN'); k_dflt (refine use_neSame lN' (by k_mem) (by k_mem) (by first | with_reducible assumption | assumption) (by first | with_reducible assumption | assumption) (by first | assumption | exact UnderOk.e (by first | with_reducible assumption | assumption) _ _ (by first | with_reducible assumption | assumption) (by first | with_reducible assumption | assumption)) (by first | assumption | exact slice_ok (by first | with_reducible assumption | assumption)) (by exact Nat.le_of_ble_eq_true rfl) ?_))))) | ((with_reducible show wpAny _ _ (binaryOp Operator.Add (Value.ref _) (Value.ref _)) _ _ _); first | with_reducible (((with_reducible rename Fr _ _ _ _ => lF'); (with_reducible rename News _ _ _ _ => lN'); first | (k_dflt (refine use_addS lF' lN' (by k_mem) (by first | with_reducible assumption | assumption) (by k_mem) (by first | with_reducible assumption | assumption) ?_); intro D' h' vs' sS' F' N' l1) | (k_dflt (refine use_addL lF' lN' (by k_mem) (by k_mem) (by simp only [List.length_append, List.length_take, List.length_drop, List.length_cons, List.length_nil]; omega) ?_); intro D' h' F' N' l1; skip))) | (((with_reducible rename Fr _ _ _ _ => lF'); (with_reducible rename News _ _ _ _ => lN'); first | (k_dflt (refine use_addS lF' lN' (by k_mem) (by first | with_reducible assumption | assumption) (by k_mem) (by first | with_reducible assumption | assumption) ?_); intro D' h' vs' sS' F' N' l1) | (k_dflt (refine use_addL lF' lN' (by k_mem) (by k_mem) (by simp only [List.length_append, List.length_take, List.length_drop, List.length_cons, List.length_nil]; omega) ?_); intro D' h' F' N' l1; skip)))) | ((with_reducible show wpAny _ _ (subscriptTail _ _ _ _) _ _ _); first | ((with_reducible show wpAny _ _ (subscriptTail _ _ (Value.ref _) (Value.ref _)) _ _ _); first | with_reducible (((with_reducible show wpAny _ _ (subscriptTail (PySem.Expr.Name (Str.ofString "shelf") _) (PySem.Expr.Slice (some _) (some _) none _) (Value.ref _) (Value.ref _)) _ _ _); (with_reducible rename Fr _ _ _ _ => lF'); (with_reducible rename News _ _ _ _ => lN'); first | (k_dflt (refine use_sliceS lF' lN' (by k_mem) (by first | with_reducible assumption | assumption) (by first | with_reducible assumption | assumption) ?_ (by with_unfolding_all rfl) (by intro _; with_unfolding_all rfl)); intro D' h' vs' sS' F' N' l1) | (k_dflt (refine use_sliceNear lF' lN' (by k_mem) (by first | with_reducible assumption | assumption) (by first | with_reducible assumption | assumption) ?_ (by with_unfolding_all rfl) (by intro _; with_unfolding_all rfl)); intro D' h' vs' sS' F' N' l1))) | (((with_reducible show wpAny _ _ (subscriptTail (PySem.Expr.Name (Str.ofString "shelf") _) (PySem.Expr.Slice (some _) (some _) none _) (Value.ref _) (Value.ref _)) _ _ _); (with_reducible rename Fr _ _ _ _ => lF'); (with_reducible rename News _ _ _ _ => lN'); first | (k_dflt (refine use_sliceS lF' lN' (by k_mem) (by first | with_reducible assumption | assumption) (by first | with_reducible assumption | assumption) ?_ (by with_unfolding_all rfl) (by intro _; with_unfolding_all rfl)); intro D' h' vs' sS' F' N' l1) | (k_dflt (refine use_sliceNear lF' lN' (by k_mem) (by first | with_reducible assumption | assumption) (by first | with_reducible assumption | assumption) ?_ (by with_unfolding_all rfl) (by intro _; with_unfolding_all rfl)); intro D' h' vs' sS' F' N' l1)))) | ((with_reducible show wpAny _ _ (subscriptTail _ _ (Value.ref _) (Value.ref _)) _ _ _); first | with_reducible (((with_reducible show wpAny _ _ (subscriptTail (PySem.Expr.Name (Str.ofString "names") _) (PySem.Expr.Slice none (some _) none _) (Value.ref _) (Value.ref _)) _ _ _); (with_reducible rename Fr _ _ _ _ => lF'); (with_reducible rename News _ _ _ _ => lN'); k_dflt (refine use_sliceInit lF' lN' (by k_mem) (by first | with_reducible assumption | assumption) (by first | with_reducible assumption | assumption) (by first | with_reducible assumption | assumption) ?_ (by with_unfolding_all rfl) (by intro _; with_unfolding_all rfl)); intro D' h' vs' sS' F' N' l1)) | (((with_reducible show wpAny _ _ (subscriptTail (PySem.Expr.Name (Str.ofString "names") _) (PySem.Expr.Slice none (some _) none _) (Value.ref _) (Value.ref _)) _ _ _); (with_reducible rename Fr _ _ _ _ => lF'); (with_reducible rename News _ _ _ _ => lN'); k_dflt (refine use_sliceInit lF' lN' (by k_mem) (by first | with_reducible assumption | assumption) (by first | with_reducible assumption | assumption) (by first | with_reducible assumption | assumption) ?_ (by with_unfolding_all rfl) (by intro _; with_unfolding_all rfl)); intro D' h' vs' sS' F' N' l1))) | ((with_reducible show wpAny _ _ (subscriptTail _ _ (Value.ref _) (Value.ref _)) _ _ _); first | with_reducible (((with_reducible show wpAny _ _ (subscriptTail (PySem.Expr.Name (Str.ofString "numbers") _) _ (Value.ref _) (Value.ref _)) _ _ _); (with_reducible rename Fr _ _ _ _ => lF'); (with_reducible rename News _ _ _ _ => lN'); k_dflt (refine use_sliceLast2 lF' lN' (by k_mem) (by first | with_reducible assumption | assumption) (by first | with_reducible assumption | assumption) ?_ (by with_unfolding_all rfl) (by intro _; with_unfolding_all rfl)); intro D' h' F' N' l1; skip)) | (((with_reducible show wpAny _ _ (subscriptTail (PySem.Expr.Name (Str.ofString "numbers") _) _ (Value.ref _) (Value.ref _)) _ _ _); (with_reducible rename Fr _ _ _ _ => lF'); (with_reducible rename News _ _ _ _ => lN'); k_dflt (refine use_sliceLast2 lF' lN' (by k_mem) (by first | with_reducible assumption | assumption) (by first | with_reducible assumption | assumption) ?_ (by with_unfolding_all rfl) (by intro _; with_unfolding_all rfl)); intro D' h' F' N' l1; skip))) | ((with_reducible show wpAny _ _ (subscriptTail _ _ (Value.ref _) (Value.ref _)) _ _ _); first | with_reducible (((with_reducible show wpAny _ _ (subscriptTail _ (PySem.Expr.Slice (some _) none none _) (Value.ref _) (Value.ref _)) _ _ _); (with_reducible rename Fr _ _ _ _ => lF'); (with_reducible rename News _ _ _ _ => lN'); k_dflt (refine use_sliceFrom lF' lN' (by k_mem) (by first | with_reducible assumption | assumption) ?_ (by with_unfolding_all rfl) (by intro _; with_unfolding_all rfl)); intro D' h' F' N' l1; skip)) | (((with_reducible show wpAny _ _ (subscriptTail _ (PySem.Expr.Slice (some _) none none _) (Value.ref _) (Value.ref _)) _ _ _); (with_reducible rename Fr _ _ _ _ => lF'); (with_reducible rename News _ _ _ _ => lN'); k_dflt (refine use_sliceFrom lF' lN' (by k_mem) (by first | with_reducible assumption | assumption) ?_ (by with_unfolding_all rfl) (by intro _; with_unfolding_all rfl)); intro D' h' F' N' l1; skip))) | ((with_reducible show wpAny _ _ (subscriptTail _ _ (Value.ref _) (Value.ref _)) _ _ _); first | with_reducible (((with_reducible show wpAny _ _ (subscriptTail _ (PySem.Expr.Slice none (some _) none _) (Value.ref _) (Value.ref _)) _ _ _); (with_reducible rename Fr _ _ _ _ => lF'); (with_reducible rename News _ _ _ _ => lN'); k_dflt (refine use_sliceUp lF' lN' (by k_mem) (by first | with_reducible assumption | assumption) ?_ (by with_unfolding_all rfl) (by intro _; with_unfolding_all rfl)); intro D' h' F' N' l1; skip)) | (((with_reducible show wpAny _ _ (subscriptTail _ (PySem.Expr.Slice none (some _) none _) (Value.ref _) (Value.ref _)) _ _ _); (with_reducible rename Fr _ _ _ _ => lF'); (with_reducible rename News _ _ _ _ => lN'); k_dflt (refine use_sliceUp lF' lN' (by k_mem) (by first | with_reducible assumption | assumption) ?_ (by with_unfolding_all rfl) (by intro _; with_unfolding_all rfl)); intro D' h' F' N' l1; skip)))) | ((with_reducible show LCg.CompEnd _ _ _ _ _ _ _ _ _ _ _ _ _ _); first | with_reducible (((with_reducible show LCg.CompEnd _ _ _ _ _ _ _ _ _ _ _ (AnyEl (IsInt _) _) _ _); (with_reducible rename Fr _ _ _ _ => lF'); (with_reducible rename News _ _ _ _ => lN'); (with_reducible rename LCg.Off3 _ _ _ _ => lO'); exact LCg.CompEnd.intro lF' lN' _ (by intro p hp; repeat (first | exact hp | refine List.Mem.tail _ ?_)) lO' True.intro ⟨fun _ h => h, _, rfl⟩)) | (((with_reducible show LCg.CompEnd _ _ _ _ _ _ _ _ _ _ _ (AnyEl (IsInt _) _) _ _); (with_reducible rename Fr _ _ _ _ => lF'); (with_reducible rename News _ _ _ _ => lN'); (with_reducible rename LCg.Off3 _ _ _ _ => lO'); exact LCg.CompEnd.intro lF' lN' _ (by intro p hp; repeat (first | exact hp | refine List.Mem.tail _ ?_)) lO' True.intro ⟨fun _ h => h, _, rfl⟩))) | ((with_reducible show LCg.CompEnd _ _ _ _ _ _ _ _ _ _ _ _ _ _); first | with_reducible (((with_reducible show LCg.CompEnd _ _ _ _ _ _ _ _ _ _ _ (StrNo _ _ _) _ _); (with_reducible rename Fr _ _ _ _ => lF'); (with_reducible rename News _ _ _ _ => lN'); (with_reducible rename LCg.Off3 _ _ _ _ => lO'); exact LCg.CompEnd.intro lF' lN' _ (by intro p hp; repeat (first | exact hp | refine List.Mem.tail _ ?_)) lO' True.intro ⟨fun _ h => h, by ((rename (_ = comF _ _) => z'); show (comF _ _ == _) = false; rw [← z']; first | assumption | simpa using (by assumption : ¬ (_ == _) = true))⟩)) | (((with_reducible show LCg.CompEnd _ _ _ _ _ _ _ _ _ _ _ (StrNo _ _ _) _ _); (with_reducible rename Fr _ _ _ _ => lF'); (with_reducible rename News _ _ _ _ => lN'); (with_reducible rename LCg.Off3 _ _ _ _ => lO'); exact LCg.CompEnd.intro lF' lN' _ (by intro p hp; repeat (first | exact hp | refine List.Mem.tail _ ?_)) lO' True.intro ⟨fun _ h => h, by ((rename (_ = comF _ _) => z'); show (comF _ _ == _) = false; rw [← z']; first | assumption | simpa using (by assumption : ¬ (_ == _) = true))⟩))) | ((with_reducible show LCg.CompEnd _ _ _ _ _ _ _ _ _ _ _ _ _ _); first | with_reducible (((with_reducible show LCg.CompEnd _ _ _ _ _ _ _ _ _ _ _ (StrEl _ _ _ _) _ _); (with_reducible rename Fr _ _ _ _ => lF'); (with_reducible rename News _ _ _ _ => lN'); (with_reducible rename LCg.Off3 _ _ _ _ => lO'); exact LCg.CompEnd.intro lF' lN' _ (by intro p hp; repeat (first | exact hp | refine List.Mem.tail _ ?_)) lO' True.intro ⟨fun _ h => h, by ((rename (_ = comF _ _) => z'); show (comF _ _ == _) = true; rw [← z']; assumption), _, rfl⟩)) | (((with_reducible show LCg.CompEnd _ _ _ _ _ _ _ _ _ _ _ (StrEl _ _ _ _) _ _); (with_reducible rename Fr _ _ _ _ => lF'); (with_reducible rename News _ _ _ _ => lN'); (with_reducible rename LCg.Off3 _ _ _ _ => lO'); exact LCg.CompEnd.intro lF' lN' _ (by intro p hp; repeat (first | exact hp | refine List.Mem.tail _ ?_)) lO' True.intro ⟨fun _ h => h, by ((rename (_ = comF _ _) => z'); show (comF _ _ == _) = true; rw [← z']; assumption), _, rfl⟩))) | ((with_reducible show LCg.CompEnd _ _ _ _ _ _ _ _ _ _ _ _ _ _); first | with_reducible (((with_reducible show LCg.CompEnd _ _ _ _ _ _ _ _ _ _ _ (AnyEl (IsStr _) _) _ _); (with_reducible rename Fr _ _ _ _ => lF'); (with_reducible rename News _ _ _ _ => lN'); (with_reducible rename LCg.Off3 _ _ _ _ => lO'); exact LCg.CompEnd.intro lF' lN' _ (fun p hp => List.Mem.tail _ hp) lO' True.intro ⟨fun _ h => h, _, rfl⟩)) | (((with_reducible show LCg.CompEnd _ _ _ _ _ _ _ _ _ _ _ (AnyEl (IsStr _) _) _ _); (with_reducible rename Fr _ _ _ _ => lF'); (with_reducible rename News _ _ _ _ => lN'); (with_reducible rename LCg.Off3 _ _ _ _ => lO'); exact LCg.CompEnd.intro lF' lN' _ (fun p hp => List.Mem.tail _ hp) lO' True.intro ⟨fun _ h => h, _, rfl⟩))) | ((with_reducible show LCg.CompEnd _ _ _ _ _ _ _ _ _ _ _ _ _ _); first | with_reducible (((with_reducible show LCg.CompEnd _ _ _ _ _ _ _ _ _ _ _ (RowNo _ _ _) _ _); (with_reducible rename Fr _ _ _ _ => lF'); (with_reducible rename News _ _ _ _ => lN'); (with_reducible rename LCg.Off3 _ _ _ _ => lO'); exact LCg.CompEnd.intro lF' lN' _ (fun p hp => List.Mem.tail _ hp) lO' True.intro ⟨fun _ h => h, by assumption⟩)) | (((with_reducible show LCg.CompEnd _ _ _ _ _ _ _ _ _ _ _ (RowNo _ _ _) _ _); (with_reducible rename Fr _ _ _ _ => lF'); (with_reducible rename News _ _ _ _ => lN'); (with_reducible rename LCg.Off3 _ _ _ _ => lO'); exact LCg.CompEnd.intro lF' lN' _ (fun p hp => List.Mem.tail _ hp) lO' True.intro ⟨fun _ h => h, by assumption⟩))) | ((with_reducible show LCg.CompEnd _ _ _ _ _ _ _ _ _ _ _ _ _ _); first | with_reducible (((with_reducible show LCg.CompEnd _ _ _ _ _ _ _ _ _ _ _ (RowEl _ _ _) _ _); (with_reducible rename Fr _ _ _ _ => lF'); (with_reducible rename News _ _ _ _ => lN'); (with_reducible rename LCg.Off3 _ _ _ _ => lO'); exact LCg.CompEnd.intro lF' lN' _ (fun p hp => List.Mem.tail _ hp) lO' True.intro ⟨fun _ h => h, by assumption⟩)) | (((with_reducible show LCg.CompEnd _ _ _ _ _ _ _ _ _ _ _ (RowEl _ _ _) _ _); (with_reducible rename Fr _ _ _ _ => lF'); (with_reducible rename News _ _ _ _ => lN'); (with_reducible rename LCg.Off3 _ _ _ _ => lO'); exact LCg.CompEnd.intro lF' lN' _ (fun p hp => List.Mem.tail _ hp) lO' True.intro ⟨fun _ h => h, by assumption⟩))) | ((with_reducible show FltSrc _ _ _ _ _ _ _ _ _ _ _ _ _ _ _); first | with_reducible (((with_reducible show FltSrc _ _ _ _ _ _ _ _ (Str.ofString "one") [_] _ _ _ _ _); (with_reducible rename Fr _ _ _ _ => lF'); (with_reducible rename News _ _ _ _ => lN'); k_dflt (refine FltSrc.fold (by first | with_reducible assumption | assumption) (by rfl) lF' lN' (by k_mem) (by first | with_reducible assumption | assumption) (by first | with_reducible assumption | assumption) ?_ ?_); (intro c' t' I' oI' C' oC' D' oD' m' h' tk' E' hk' hC' hx' F' N' off' ne'); (try dsimp only); rotate_left; (intro D' h' tk' vs' n' F' N' o1' vz'); (try dsimp only); rotate_left)) | (((with_reducible show FltSrc _ _ _ _ _ _ _ _ (Str.ofString "one") [_] _ _ _ _ _); (with_reducible rename Fr _ _ _ _ => lF'); (with_reducible rename News _ _ _ _ => lN'); k_dflt (refine FltSrc.fold (by first | with_reducible assumption | assumption) (by rfl) lF' lN' (by k_mem) (by first | with_reducible assumption | assumption) (by first | with_reducible assumption | assumption) ?_ ?_); (intro c' t' I' oI' C' oC' D' oD' m' h' tk' E' hk' hC' hx' F' N' off' ne'); (try dsimp only); rotate_left; (intro D' h' tk' vs' n' F' N' o1' vz'); (try dsimp only); rotate_left))) | ((with_reducible show FltSrc _ _ _ _ _ _ _ _ _ _ _ _ _ _ _); first | with_reducible (((with_reducible show FltSrc _ _ _ _ _ _ _ _ (Str.ofString "one") [] _ _ _ _ _); (with_reducible rename Fr _ _ _ _ => lF'); (with_reducible rename News _ _ _ _ => lN'); k_dflt (refine FltSrc.near (by first | with_reducible assumption | assumption) (by rfl) lF' lN' (by k_mem) (by first | with_reducible assumption | assumption) (by first | exact fun _ h => h | exact fun _ h => List.mem_of_mem_take (List.mem_of_mem_drop h)) (by first | assumption | exact slice_le (by first | with_reducible assumption | assumption)) ?_ ?_); (intro c' t' I' oI' C' oC' D' oD' m' h' tk' E' hk' hC' hx' F' N' off' ne'); (try dsimp only); rotate_left; (intro D' h' tk' vs' n' F' N' o1' vi'); (try dsimp only); rotate_left)) | (((with_reducible show FltSrc _ _ _ _ _ _ _ _ (Str.ofString "one") [] _ _ _ _ _); (with_reducible rename Fr _ _ _ _ => lF'); (with_reducible rename News _ _ _ _ => lN'); k_dflt (refine FltSrc.near (by first | with_reducible assumption | assumption) (by rfl) lF' lN' (by k_mem) (by first | with_reducible assumption | assumption) (by first | exact fun _ h => h | exact fun _ h => List.mem_of_mem_take (List.mem_of_mem_drop h)) (by first | assumption | exact slice_le (by first | with_reducible assumption | assumption)) ?_ ?_); (intro c' t' I' oI' C' oC' D' oD' m' h' tk' E' hk' hC' hx' F' N' off' ne'); (try dsimp only); rotate_left; (intro D' h' tk' vs' n' F' N' o1' vi'); (try dsimp only); rotate_left))) | ((with_reducible show FltSrc _ _ _ _ _ _ _ _ _ _ _ _ _ _ _); first | with_reducible (((with_reducible show FltSrc _ _ _ _ _ _ _ _ (Str.ofString "row") [] _ _ _ _ _); (with_reducible rename Fr _ _ _ _ => lF'); (with_reducible rename News _ _ _ _ => lN'); (with_reducible rename RowsIn _ _ _ => lR9'); k_dflt (refine FltSrc.rowsStr pathF (by rfl) lF' lN' (by k_mem) lR9' (by intro p hp; repeat (first | exact hp | refine List.Mem.tail _ ?_)) (by first | with_reducible assumption | assumption) ?_ ?_); (intro a' ws' nr' r' I' oI' C' oC' D' oD' m' h' tk' E' hr' sr' hC' hx' F' N' off' ne'); (have hr' := RowsMem.elim (by first | with_reducible assumption | assumption) hr'); (try dsimp only); rotate_left; (intro D' h' tk' vs' n' F' N' o1' o2' vz'); (try dsimp only); rotate_left)) | (((with_reducible show FltSrc _ _ _ _ _ _ _ _ (Str.ofString "row") [] _ _ _ _ _); (with_reducible rename Fr _ _ _ _ => lF'); (with_reducible rename News _ _ _ _ => lN'); (with_reducible rename RowsIn _ _ _ => lR9'); k_dflt (refine FltSrc.rowsStr pathF (by rfl) lF' lN' (by k_mem) lR9' (by intro p hp; repeat (first | exact hp | refine List.Mem.tail _ ?_)) (by first | with_reducible assumption | assumption) ?_ ?_); (intro a' ws' nr' r' I' oI' C' oC' D' oD' m' h' tk' E' hr' sr' hC' hx' F' N' off' ne'); (have hr' := RowsMem.elim (by first | with_reducible assumption | assumption) hr'); (try dsimp only); rotate_left; (intro D' h' tk' vs' n' F' N' o1' o2' vz'); (try dsimp only); rotate_left))) | ((with_reducible show FltSrc _ _ _ _ _ _ _ _ _ _ _ _ _ _ _); first | with_reducible (((with_reducible rename Fr _ _ _ _ => lF'); (with_reducible rename News _ _ _ _ => lN'); (with_reducible rename RowsIn _ _ _ => lR9'); (with_reducible rename StrsAre _ (namesF _) => lS9'); k_dflt (refine FltSrc.rowsLe lS9' (by rfl) lF' lN' (by k_mem) lR9' (by intro p hp; repeat (first | exact hp | refine List.Mem.tail _ ?_)) (by first | with_reducible assumption | assumption) ?_ ?_); (intro a' ws' nr' r' I' oI' C' oC' D' oD' m' h' tk' E' sr' hC' hx' F' N' off' ne'); (try dsimp only); rotate_left; (intro D' h' tk' vs' n' F' N' o1' vz' vl'); (try dsimp only); rotate_left)) | (((with_reducible rename Fr _ _ _ _ => lF'); (with_reducible rename News _ _ _ _ => lN'); (with_reducible rename RowsIn _ _ _ => lR9'); (with_reducible rename StrsAre _ (namesF _) => lS9'); k_dflt (refine FltSrc.rowsLe lS9' (by rfl) lF' lN' (by k_mem) lR9' (by intro p hp; repeat (first | exact hp | refine List.Mem.tail _ ?_)) (by first | with_reducible assumption | assumption) ?_ ?_); (intro a' ws' nr' r' I' oI' C' oC' D' oD' m' h' tk' E' sr' hC' hx' F' N' off' ne'); (try dsimp only); rotate_left; (intro D' h' tk' vs' n' F' N' o1' vz' vl'); (try dsimp only); rotate_left))) | ((with_reducible show wpAny _ _ (eval _ _) _ _ _); first | ((with_reducible show wpAny _ _ (eval (PySem.Expr.ListComp _ _ _ _) _) _ _ _); first | with_reducible (((with_reducible show wpAny _ _ (eval (Expr.ListComp _ [⟨Expr.Name (Str.ofString "one") _, _, _, _⟩] _ _) _) _ _ _); k_dflt (refine ListComp_F (F₀ := by k_asm) (by with_unfolding_all rfl) (by decide) (by rfl) (by decide) (by rfl) ?_))) | (((with_reducible show wpAny _ _ (eval (Expr.ListComp _ [⟨Expr.Name (Str.ofString "one") _, _, _, _⟩] _ _) _) _ _ _); k_dflt (refine ListComp_F (F₀ := by k_asm) (by with_unfolding_all rfl) (by decide) (by rfl) (by decide) (by rfl) ?_)))) | ((with_reducible show wpAny _ _ (eval (PySem.Expr.ListComp _ _ _ _) _) _ _ _); first | with_reducible (((with_reducible show wpAny _ _ (eval (Expr.ListComp _ [⟨_, Expr.Name (Str.ofString "rows") _, [], _⟩] _ _) _) _ _ _); k_dflt (refine ListComp_F (F₀ := by k_asm) (by with_unfolding_all rfl) (by decide) (by rfl) (by decide) (by rfl) ?_))) | (((with_reducible show wpAny _ _ (eval (Expr.ListComp _ [⟨_, Expr.Name (Str.ofString "rows") _, [], _⟩] _ _) _) _ _ _); k_dflt (refine ListComp_F (F₀ := by k_asm) (by with_unfolding_all rfl) (by decide) (by rfl) (by decide) (by rfl) ?_)))) | ((with_reducible show wpAny _ _ (eval (PySem.Expr.ListComp _ _ _ _) _) _ _ _); first | with_reducible (((with_reducible show wpAny _ _ (eval (Expr.ListComp _ [⟨_, Expr.Name (Str.ofString "rows") _, [_], _⟩] _ _) _) _ _ _); k_dflt (refine ListComp_F (F₀ := by k_asm) (by with_unfolding_all rfl) (by decide) (by rfl) (by decide) (by rfl) ?_))) | (((with_reducible show wpAny _ _ (eval (Expr.ListComp _ [⟨_, Expr.Name (Str.ofString "rows") _, [_], _⟩] _ _) _) _ _ _); k_dflt (refine ListComp_F (F₀ := by k_asm) (by with_unfolding_all rfl) (by decide) (by rfl) (by decide) (by rfl) ?_))))) | walk1 | (dsimp only; first | ((with_reducible show wpAny _ _ (call _ _ _) _ _ _); first | ((with_reducible show wpAny _ _ (call (Value.ref _) _ _) _ _ _); first | with_reducible (((with_reducible rename Fr _ _ _ _ => lF'); (with_reducible rename News _ _ _ _ => lN'); (with_reducible rename Rdy _ _ => lR'); first | (refine use_namesG (by first | with_reducible assumption | assumption) lR' lF' lN' (by rfl) (by exact Nat.le_of_ble_eq_true rfl) (by exact Nat.le_of_ble_eq_true rfl) ?_; intro D' vs' n' h' tk' hS' F' N' ne') | (refine use_dir (by first | with_reducible assumption | assumption) lR' lF' lN' (by rfl) (by exact Nat.le_of_ble_eq_true rfl) (by exact Nat.le_of_ble_eq_true rfl) ?_; intro u' h' tk' F' N') | (refine use_bang (by first | with_reducible assumption | assumption) lR' lF' lN' (by rfl) (by exact Nat.le_of_ble_eq_true rfl) (by exact Nat.le_of_ble_eq_true rfl) ?_; intro u' h' tk' F' N') | (refine use_bl lR' lF' lN' (by rfl) (by exact Nat.le_of_ble_eq_true rfl) (by exact Nat.le_of_ble_eq_true rfl) (by k_mem) (by k_mem) (by first | with_reducible assumption | assumption) (by first | with_reducible assumption | assumption) (by first | with_reducible assumption | assumption) (by first | with_reducible assumption | assumption) ?_; intro k' u' h' tk' ek' F' N') | (refine use_cpV (by first | with_reducible assumption | assumption) lR' lF' lN' (by rfl) (by exact Nat.le_of_ble_eq_true rfl) (by exact Nat.le_of_ble_eq_true rfl) (by k_mem) ?_; intro r' u' h' tk' er' le' F' N') | (refine use_lc (by first | with_reducible assumption | assumption) lR' lF' lN' (by rfl) (by exact Nat.le_of_ble_eq_true rfl) (by exact Nat.le_of_ble_eq_true rfl) ?_; intro u' h' tk' F' N'))) | (((with_reducible rename Fr _ _ _ _ => lF'); (with_reducible rename News _ _ _ _ => lN'); (with_reducible rename Rdy _ _ => lR'); first | (refine use_namesG (by first | with_reducible assumption | assumption) lR' lF' lN' (by rfl) (by exact Nat.le_of_ble_eq_true rfl) (by exact Nat.le_of_ble_eq_true rfl) ?_; intro D' vs' n' h' tk' hS' F' N' ne') | (refine use_dir (by first | with_reducible assumption | assumption) lR' lF' lN' (by rfl) (by exact Nat.le_of_ble_eq_true rfl) (by exact Nat.le_of_ble_eq_true rfl) ?_; intro u' h' tk' F' N') | (refine use_bang (by first | with_reducible assumption | assumption) lR' lF' lN' (by rfl) (by exact Nat.le_of_ble_eq_true rfl) (by exact Nat.le_of_ble_eq_true rfl) ?_; intro u' h' tk' F' N') | (refine use_bl lR' lF' lN' (by rfl) (by exact Nat.le_of_ble_eq_true rfl) (by exact Nat.le_of_ble_eq_true rfl) (by k_mem) (by k_mem) (by first | with_reducible assumption | assumption) (by first | with_reducible assumption | assumption) (by first | with_reducible assumption | assumption) (by first | with_reducible assumption | assumption) ?_; intro k' u' h' tk' ek' F' N') | (refine use_cpV (by first | with_reducible assumption | assumption) lR' lF' lN' (by rfl) (by exact Nat.le_of_ble_eq_true rfl) (by exact Nat.le_of_ble_eq_true rfl) (by k_mem) ?_; intro r' u' h' tk' er' le' F' N') | (refine use_lc (by first | with_reducible assumption | assumption) lR' lF' lN' (by rfl) (by exact Nat.le_of_ble_eq_true rfl) (by exact Nat.le_of_ble_eq_true rfl) ?_; intro u' h' tk' F' N')))) | ((with_reducible show wpAny _ _ (call (Value.builtin "max") _ _) _ _ _); first | with_reducible (((with_reducible show wpAny _ _ (call (Value.builtin _) [Value.ref _]) _ _ _); (with_reducible rename Fr _ _ _ _ => lF'); (with_reducible rename News _ _ _ _ => lN'); k_dflt (refine use_maxI (by rfl) lF' lN' (by k_mem) (by first | with_reducible assumption | assumption) (by first | assumption | exact near_len (by first | with_reducible assumption | assumption) (by first | with_reducible assumption | assumption)) ?_); intro h' M' t' tk' F' N' hM')) | (((with_reducible show wpAny _ _ (call (Value.builtin _) [Value.ref _]) _ _ _); (with_reducible rename Fr _ _ _ _ => lF'); (with_reducible rename News _ _ _ _ => lN'); k_dflt (refine use_maxI (by rfl) lF' lN' (by k_mem) (by first | with_reducible assumption | assumption) (by first | assumption | exact near_len (by first | with_reducible assumption | assumption) (by first | with_reducible assumption | assumption)) ?_); intro h' M' t' tk' F' N' hM'))) | ((with_reducible show wpAny _ _ (call (Value.builtin "str.join") _ _) _ _ _); first | with_reducible (((with_reducible rename News _ _ _ _ => lN'); refine use_joinR (by first | with_reducible assumption | assumption) lN' (by k_mem) (by first | with_reducible assumption | assumption) ?_; intro t' tk' le')) | (((with_reducible rename News _ _ _ _ => lN'); refine use_joinR (by first | with_reducible assumption | assumption) lN' (by k_mem) (by first | with_reducible assumption | assumption) ?_; intro t' tk' le')))) | ((with_reducible show wpAny _ _ (compareOp _ _ _) _ _ _); first | ((with_reducible show wpAny _ _ (compareOp CmpOp.NotEq (Value.int _ _) (Value.int _ _)) _ _ _); first | with_reducible ((k_dflt (refine use_neSameI (NearOk.e (by first | with_reducible assumption | assumption) _ _ _ (by first | with_reducible assumption | assumption) (by first | with_reducible assumption | assumption) (by first | with_reducible assumption | assumption)) ?_))) | ((k_dflt (refine use_neSameI (NearOk.e (by first | with_reducible assumption | assumption) _ _ _ (by first | with_reducible assumption | assumption) (by first | with_reducible assumption | assumption) (by first | with_reducible assumption | assumption)) ?_)))) | ((with_reducible show wpAny _ _ (compareOp CmpOp.NotEq (Value.ref _) (Value.ref _)) _ _ _); first | with_reducible (((with_reducible rename Fr _ _ _ _ => lF'); (with_reducible rename News _ _ _ _ => lN'); k_dflt (refine use_neSame lN' (by k_mem) (by k_mem) (by first | with_reducible assumption | assumption) (by first | with_reducible assumption | assumption) (by first | assumption | exact UnderOk.e (by first | with_reducible assumption | assumption) _ _ (by first | with_reducible assumption | assumption) (by first | with_reducible assumption | assumption)) (by first | assumption | exact slice_ok (by first | with_reducible assumption | assumption)) (by exact Nat.le_of_ble_eq_true rfl) ?_))) | (((with_reducible rename Fr _ _ _ _ => lF'); (with_reducible rename News _ _ _ _ => lN'); k_dflt (refine use_neSame lN' (by k_mem) (by k_mem) (by first | with_reducible assumption | assumption) (by first | with_reducible assumption | assumption) (by first | assumption | exact UnderOk.e (by first | with_reducible assumption | assumption) _ _ (by first | with_reducible assumption | assumption) (by first | with_reducible assumption | assumption)) (by first | assumption | exact slice_ok (by first | with_reducible assumption | assumption)) (by exact Nat.le_of_ble_eq_true rfl) ?_))))) | ((with_reducible show wpAny _ _ (binaryOp Operator.Add (Value.ref _) (Value.ref _)) _ _ _); first | with_reducible (((with_reducible rename Fr _ _ _ _ => lF'); (with_reducible rename News _ _ _ _ => lN'); first | (k_dflt (refine use_addS lF' lN' (by k_mem) (by first | with_reducible assumption | assumption) (by k_mem) (by first | with_reducible assumption | assumption) ?_); intro D' h' vs' sS' F' N' l1) | (k_dflt (refine use_addL lF' lN' (by k_mem) (by k_mem) (by simp only [List.length_append, List.length_take, List.length_drop, List.length_cons, List.length_nil]; omega) ?_); intro D' h' F' N' l1; skip))) | (((with_reducible rename Fr _ _ _ _ => lF'); (with_reducible rename News _ _ _ _ => lN'); first | (k_dflt (refine use_addS lF' lN' (by k_mem) (by first | with_reducible assumption | assumption) (by k_mem) (by first | with_reducible assumption | assumption) ?_); intro D' h' vs' sS' F' N' l1) | (k_dflt (refine use_addL lF' lN' (by k_mem) (by k_mem) (by simp only [List.length_append, List.length_take, List.length_drop, List.length_cons, List.length_nil]; omega) ?_); intro D' h' F' N' l1; skip)))) | ((with_reducible show wpAny _ _ (subscriptTail _ _ _ _) _ _ _); first | ((with_reducible show wpAny _ _ (subscriptTail _ _ (Value.ref _) (Value.ref _)) _ _ _); first | with_reducible (((with_reducible show wpAny _ _ (subscriptTail (PySem.Expr.Name (Str.ofString "shelf") _) (PySem.Expr.Slice (some _) (some _) none _) (Value.ref _) (Value.ref _)) _ _ _); (with_reducible rename Fr _ _ _ _ => lF'); (with_reducible rename News _ _ _ _ => lN'); first | (k_dflt (refine use_sliceS lF' lN' (by k_mem) (by first | with_reducible assumption | assumption) (by first | with_reducible assumption | assumption) ?_ (by with_unfolding_all rfl) (by intro _; with_unfolding_all rfl)); intro D' h' vs' sS' F' N' l1) | (k_dflt (refine use_sliceNear lF' lN' (by k_mem) (by first | with_reducible assumption | assumption) (by first | with_reducible assumption | assumption) ?_ (by with_unfolding_all rfl) (by intro _; with_unfolding_all rfl)); intro D' h' vs' sS' F' N' l1))) | (((with_reducible show wpAny _ _ (subscriptTail (PySem.Expr.Name (Str.ofString "shelf") _) (PySem.Expr.Slice (some _) (some _) none _) (Value.ref _) (Value.ref _)) _ _ _); (with_reducible rename Fr _ _ _ _ => lF'); (with_reducible rename News _ _ _ _ => lN'); first | (k_dflt (refine use_sliceS lF' lN' (by k_mem) (by first | with_reducible assumption | assumption) (by first | with_reducible assumption | assumption) ?_ (by with_unfolding_all rfl) (by intro _; with_unfolding_all rfl)); intro D' h' vs' sS' F' N' l1) | (k_dflt (refine use_sliceNear lF' lN' (by k_mem) (by first | with_reducible assumption | assumption) (by first | with_reducible assumption | assumption) ?_ (by with_unfolding_all rfl) (by intro _; with_unfolding_all rfl)); intro D' h' vs' sS' F' N' l1)))) | ((with_reducible show wpAny _ _ (subscriptTail _ _ (Value.ref _) (Value.ref _)) _ _ _); first | with_reducible (((with_reducible show wpAny _ _ (subscriptTail (PySem.Expr.Name (Str.ofString "names") _) (PySem.Expr.Slice none (some _) none _) (Value.ref _) (Value.ref _)) _ _ _); (with_reducible rename Fr _ _ _ _ => lF'); (with_reducible rename News _ _ _ _ => lN'); k_dflt (refine use_sliceInit lF' lN' (by k_mem) (by first | with_reducible assumption | assumption) (by first | with_reducible assumption | assumption) (by first | with_reducible assumption | assumption) ?_ (by with_unfolding_all rfl) (by intro _; with_unfolding_all rfl)); intro D' h' vs' sS' F' N' l1)) | (((with_reducible show wpAny _ _ (subscriptTail (PySem.Expr.Name (Str.ofString "names") _) (PySem.Expr.Slice none (some _) none _) (Value.ref _) (Value.ref _)) _ _ _); (with_reducible rename Fr _ _ _ _ => lF'); (with_reducible rename News _ _ _ _ => lN'); k_dflt (refine use_sliceInit lF' lN' (by k_mem) (by first | with_reducible assumption | assumption) (by first | with_reducible assumption | assumption) (by first | with_reducible assumption | assumption) ?_ (by with_unfolding_all rfl) (by intro _; with_unfolding_all rfl)); intro D' h' vs' sS' F' N' l1))) | ((with_reducible show wpAny _ _ (subscriptTail _ _ (Value.ref _) (Value.ref _)) _ _ _); first | with_reducible (((with_reducible show wpAny _ _ (subscriptTail (PySem.Expr.Name (Str.ofString "numbers") _) _ (Value.ref _) (Value.ref _)) _ _ _); (with_reducible rename Fr _ _ _ _ => lF'); (with_reducible rename News _ _ _ _ => lN'); k_dflt (refine use_sliceLast2 lF' lN' (by k_mem) (by first | with_reducible assumption | assumption) (by first | with_reducible assumption | assumption) ?_ (by with_unfolding_all rfl) (by intro _; with_unfolding_all rfl)); intro D' h' F' N' l1; skip)) | (((with_reducible show wpAny _ _ (subscriptTail (PySem.Expr.Name (Str.ofString "numbers") _) _ (Value.ref _) (Value.ref _)) _ _ _); (with_reducible rename Fr _ _ _ _ => lF'); (with_reducible rename News _ _ _ _ => lN'); k_dflt (refine use_sliceLast2 lF' lN' (by k_mem) (by first | with_reducible assumption | assumption) (by first | with_reducible assumption | assumption) ?_ (by with_unfolding_all rfl) (by intro _; with_unfolding_all rfl)); intro D' h' F' N' l1; skip))) | ((with_reducible show wpAny _ _ (subscriptTail _ _ (Value.ref _) (Value.ref _)) _ _ _); first | with_reducible (((with_reducible show wpAny _ _ (subscriptTail _ (PySem.Expr.Slice (some _) none none _) (Value.ref _) (Value.ref _)) _ _ _); (with_reducible rename Fr _ _ _ _ => lF'); (with_reducible rename News _ _ _ _ => lN'); k_dflt (refine use_sliceFrom lF' lN' (by k_mem) (by first | with_reducible assumption | assumption) ?_ (by with_unfolding_all rfl) (by intro _; with_unfolding_all rfl)); intro D' h' F' N' l1; skip)) | (((with_reducible show wpAny _ _ (subscriptTail _ (PySem.Expr.Slice (some _) none none _) (Value.ref _) (Value.ref _)) _ _ _); (with_reducible rename Fr _ _ _ _ => lF'); (with_reducible rename News _ _ _ _ => lN'); k_dflt (refine use_sliceFrom lF' lN' (by k_mem) (by first | with_reducible assumption | assumption) ?_ (by with_unfolding_all rfl) (by intro _; with_unfolding_all rfl)); intro D' h' F' N' l1; skip))) | ((with_reducible show wpAny _ _ (subscriptTail _ _ (Value.ref _) (Value.ref _)) _ _ _); first | with_reducible (((with_reducible show wpAny _ _ (subscriptTail _ (PySem.Expr.Slice none (some _) none _) (Value.ref _) (Value.ref _)) _ _ _); (with_reducible rename Fr _ _ _ _ => lF'); (with_reducible rename News _ _ _ _ => lN'); k_dflt (refine use_sliceUp lF' lN' (by k_mem) (by first | with_reducible assumption | assumption) ?_ (by with_unfolding_all rfl) (by intro _; with_unfolding_all rfl)); intro D' h' F' N' l1; skip)) | (((with_reducible show wpAny _ _ (subscriptTail _ (PySem.Expr.Slice none (some _) none _) (Value.ref _) (Value.ref _)) _ _ _); (with_reducible rename Fr _ _ _ _ => lF'); (with_reducible rename News _ _ _ _ => lN'); k_dflt (refine use_sliceUp lF' lN' (by k_mem) (by first | with_reducible assumption | assumption) ?_ (by with_unfolding_all rfl) (by intro _; with_unfolding_all rfl)); intro D' h' F' N' l1; skip)))) | ((with_reducible show LCg.CompEnd _ _ _ _ _ _ _ _ _ _ _ _ _ _); first | with_reducible (((with_reducible show LCg.CompEnd _ _ _ _ _ _ _ _ _ _ _ (AnyEl (IsInt _) _) _ _); (with_reducible rename Fr _ _ _ _ => lF'); (with_reducible rename News _ _ _ _ => lN'); (with_reducible rename LCg.Off3 _ _ _ _ => lO'); exact LCg.CompEnd.intro lF' lN' _ (by intro p hp; repeat (first | exact hp | refine List.Mem.tail _ ?_)) lO' True.intro ⟨fun _ h => h, _, rfl⟩)) | (((with_reducible show LCg.CompEnd _ _ _ _ _ _ _ _ _ _ _ (AnyEl (IsInt _) _) _ _); (with_reducible rename Fr _ _ _ _ => lF'); (with_reducible rename News _ _ _ _ => lN'); (with_reducible rename LCg.Off3 _ _ _ _ => lO'); exact LCg.CompEnd.intro lF' lN' _ (by intro p hp; repeat (first | exact hp | refine List.Mem.tail _ ?_)) lO' True.intro ⟨fun _ h => h, _, rfl⟩))) | ((with_reducible show LCg.CompEnd _ _ _ _ _ _ _ _ _ _ _ _ _ _); first | with_reducible (((with_reducible show LCg.CompEnd _ _ _ _ _ _ _ _ _ _ _ (StrNo _ _ _) _ _); (with_reducible rename Fr _ _ _ _ => lF'); (with_reducible rename News _ _ _ _ => lN'); (with_reducible rename LCg.Off3 _ _ _ _ => lO'); exact LCg.CompEnd.intro lF' lN' _ (by intro p hp; repeat (first | exact hp | refine List.Mem.tail _ ?_)) lO' True.intro ⟨fun _ h => h, by ((rename (_ = comF _ _) => z'); show (comF _ _ == _) = false; rw [← z']; first | assumption | simpa using (by assumption : ¬ (_ == _) = true))⟩)) | (((with_reducible show LCg.CompEnd _ _ _ _ _ _ _ _ _ _ _ (StrNo _ _ _) _ _); (with_reducible rename Fr _ _ _ _ => lF'); (with_reducible rename News _ _ _ _ => lN'); (with_reducible rename LCg.Off3 _ _ _ _ => lO'); exact LCg.CompEnd.intro lF' lN' _ (by intro p hp; repeat (first | exact hp | refine List.Mem.tail _ ?_)) lO' True.intro ⟨fun _ h => h, by ((rename (_ = comF _ _) => z'); show (comF _ _ == _) = false; rw [← z']; first | assumption | simpa using (by assumption : ¬ (_ == _) = true))⟩))) | ((with_reducible show LCg.CompEnd _ _ _ _ _ _ _ _ _ _ _ _ _ _); first | with_reducible (((with_reducible show LCg.CompEnd _ _ _ _ _ _ _ _ _ _ _ (StrEl _ _ _ _) _ _); (with_reducible rename Fr _ _ _ _ => lF'); (with_reducible rename News _ _ _ _ => lN'); (with_reducible rename LCg.Off3 _ _ _ _ => lO'); exact LCg.CompEnd.intro lF' lN' _ (by intro p hp; repeat (first | exact hp | refine List.Mem.tail _ ?_)) lO' True.intro ⟨fun _ h => h, by ((rename (_ = comF _ _) => z'); show (comF _ _ == _) = true; rw [← z']; assumption), _, rfl⟩)) | (((with_reducible show LCg.CompEnd _ _ _ _ _ _ _ _ _ _ _ (StrEl _ _ _ _) _ _); (with_reducible rename Fr _ _ _ _ => lF'); (with_reducible rename News _ _ _ _ => lN'); (with_reducible rename LCg.Off3 _ _ _ _ => lO'); exact LCg.CompEnd.intro lF' lN' _ (by intro p hp; repeat (first | exact hp | refine List.Mem.tail _ ?_)) lO' True.intro ⟨fun _ h => h, by ((rename (_ = comF _ _) => z'); show (comF _ _ == _) = true; rw [← z']; assumption), _, rfl⟩))) | ((with_reducible show LCg.CompEnd _ _ _ _ _ _ _ _ _ _ _ _ _ _); first | with_reducible (((with_reducible show LCg.CompEnd _ _ _ _ _ _ _ _ _ _ _ (AnyEl (IsStr _) _) _ _); (with_reducible rename Fr _ _ _ _ => lF'); (with_reducible rename News _ _ _ _ => lN'); (with_reducible rename LCg.Off3 _ _ _ _ => lO'); exact LCg.CompEnd.intro lF' lN' _ (fun p hp => List.Mem.tail _ hp) lO' True.intro ⟨fun _ h => h, _, rfl⟩)) | (((with_reducible show LCg.CompEnd _ _ _ _ _ _ _ _ _ _ _ (AnyEl (IsStr _) _) _ _); (with_reducible rename Fr _ _ _ _ => lF'); (with_reducible rename News _ _ _ _ => lN'); (with_reducible rename LCg.Off3 _ _ _ _ => lO'); exact LCg.CompEnd.intro lF' lN' _ (fun p hp => List.Mem.tail _ hp) lO' True.intro ⟨fun _ h => h, _, rfl⟩))) | ((with_reducible show LCg.CompEnd _ _ _ _ _ _ _ _ _ _ _ _ _ _); first | with_reducible (((with_reducible show LCg.CompEnd _ _ _ _ _ _ _ _ _ _ _ (RowNo _ _ _) _ _); (with_reducible rename Fr _ _ _ _ => lF'); (with_reducible rename News _ _ _ _ => lN'); (with_reducible rename LCg.Off3 _ _ _ _ => lO'); exact LCg.CompEnd.intro lF' lN' _ (fun p hp => List.Mem.tail _ hp) lO' True.intro ⟨fun _ h => h, by assumption⟩)) | (((with_reducible show LCg.CompEnd _ _ _ _ _ _ _ _ _ _ _ (RowNo _ _ _) _ _); (with_reducible rename Fr _ _ _ _ => lF'); (with_reducible rename News _ _ _ _ => lN'); (with_reducible rename LCg.Off3 _ _ _ _ => lO'); exact LCg.CompEnd.intro lF' lN' _ (fun p hp => List.Mem.tail _ hp) lO' True.intro ⟨fun _ h => h, by assumption⟩))) | ((with_reducible show LCg.CompEnd _ _ _ _ _ _ _ _ _ _ _ _ _ _); first | with_reducible (((with_reducible show LCg.CompEnd _ _ _ _ _ _ _ _ _ _ _ (RowEl _ _ _) _ _); (with_reducible rename Fr _ _ _ _ => lF'); (with_reducible rename News _ _ _ _ => lN'); (with_reducible rename LCg.Off3 _ _ _ _ => lO'); exact LCg.CompEnd.intro lF' lN' _ (fun p hp => List.Mem.tail _ hp) lO' True.intro ⟨fun _ h => h, by assumption⟩)) | (((with_reducible show LCg.CompEnd _ _ _ _ _ _ _ _ _ _ _ (RowEl _ _ _) _ _); (with_reducible rename Fr _ _ _ _ => lF'); (with_reducible rename News _ _ _ _ => lN'); (with_reducible rename LCg.Off3 _ _ _ _ => lO'); exact LCg.CompEnd.intro lF' lN' _ (fun p hp => List.Mem.tail _ hp) lO' True.intro ⟨fun _ h => h, by assumption⟩))) | ((with_reducible show FltSrc _ _ _ _ _ _ _ _ _ _ _ _ _ _ _); first | with_reducible (((with_reducible show FltSrc _ _ _ _ _ _ _ _ (Str.ofString "one") [_] _ _ _ _ _); (with_reducible rename Fr _ _ _ _ => lF'); (with_reducible rename News _ _ _ _ => lN'); k_dflt (refine FltSrc.fold (by first | with_reducible assumption | assumption) (by rfl) lF' lN' (by k_mem) (by first | with_reducible assumption | assumption) (by first | with_reducible assumption | assumption) ?_ ?_); (intro c' t' I' oI' C' oC' D' oD' m' h' tk' E' hk' hC' hx' F' N' off' ne'); (try dsimp only); rotate_left; (intro D' h' tk' vs' n' F' N' o1' vz'); (try dsimp only); rotate_left)) | (((with_reducible show FltSrc _ _ _ _ _ _ _ _ (Str.ofString "one") [_] _ _ _ _ _); (with_reducible rename Fr _ _ _ _ => lF'); (with_reducible rename News _ _ _ _ => lN'); k_dflt (refine FltSrc.fold (by first | with_reducible assumption | assumption) (by rfl) lF' lN' (by k_mem) (by first | with_reducible assumption | assumption) (by first | with_reducible assumption | assumption) ?_ ?_); (intro c' t' I' oI' C' oC' D' oD' m' h' tk' E' hk' hC' hx' F' N' off' ne'); (try dsimp only); rotate_left; (intro D' h' tk' vs' n' F' N' o1' vz'); (try dsimp only); rotate_left))) | ((with_reducible show FltSrc _ _ _ _ _ _ _ _ _ _ _ _ _ _ _); first | with_reducible (((with_reducible show FltSrc _ _ _ _ _ _ _ _ (Str.ofString "one") [] _ _ _ _ _); (with_reducible rename Fr _ _ _ _ => lF'); (with_reducible rename News _ _ _ _ => lN'); k_dflt (refine FltSrc.near (by first | with_reducible assumption | assumption) (by rfl) lF' lN' (by k_mem) (by first | with_reducible assumption | assumption) (by first | exact fun _ h => h | exact fun _ h => List.mem_of_mem_take (List.mem_of_mem_drop h)) (by first | assumption | exact slice_le (by first | with_reducible assumption | assumption)) ?_ ?_); (intro c' t' I' oI' C' oC' D' oD' m' h' tk' E' hk' hC' hx' F' N' off' ne'); (try dsimp only); rotate_left; (intro D' h' tk' vs' n' F' N' o1' vi'); (try dsimp only); rotate_left)) | (((with_reducible show FltSrc _ _ _ _ _ _ _ _ (Str.ofString "one") [] _ _ _ _ _); (with_reducible rename Fr _ _ _ _ => lF'); (with_reducible rename News _ _ _ _ => lN'); k_dflt (refine FltSrc.near (by first | with_reducible assumption | assumption) (by rfl) lF' lN' (by k_mem) (by first | with_reducible assumption | assumption) (by first | exact fun _ h => h | exact fun _ h => List.mem_of_mem_take (List.mem_of_mem_drop h)) (by first | assumption | exact slice_le (by first | with_reducible assumption | assumption)) ?_ ?_); (intro c' t' I' oI' C' oC' D' oD' m' h' tk' E' hk' hC' hx' F' N' off' ne'); (try dsimp only); rotate_left; (intro D' h' tk' vs' n' F' N' o1' vi'); (try dsimp only); rotate_left))) | ((with_reducible show FltSrc _ _ _ _ _ _ _ _ _ _ _ _ _ _ _); first | with_reducible (((with_reducible show FltSrc _ _ _ _ _ _ _ _ (Str.ofString "row") [] _ _ _ _ _); (with_reducible rename Fr _ _ _ _ => lF'); (with_reducible rename News _ _ _ _ => lN'); (with_reducible rename RowsIn _ _ _ => lR9'); k_dflt (refine FltSrc.rowsStr pathF (by rfl) lF' lN' (by k_mem) lR9' (by intro p hp; repeat (first | exact hp | refine List.Mem.tail _ ?_)) (by first | with_reducible assumption | assumption) ?_ ?_); (intro a' ws' nr' r' I' oI' C' oC' D' oD' m' h' tk' E' hr' sr' hC' hx' F' N' off' ne'); (have hr' := RowsMem.elim (by first | with_reducible assumption | assumption) hr'); (try dsimp only); rotate_left; (intro D' h' tk' vs' n' F' N' o1' o2' vz'); (try dsimp only); rotate_left)) | (((with_reducible show FltSrc _ _ _ _ _ _ _ _ (Str.ofString "row") [] _ _ _ _ _); (with_reducible rename Fr _ _ _ _ => lF'); (with_reducible rename News _ _ _ _ => lN'); (with_reducible rename RowsIn _ _ _ => lR9'); k_dflt (refine FltSrc.rowsStr pathF (by rfl) lF' lN' (by k_mem) lR9' (by intro p hp; repeat (first | exact hp | refine List.Mem.tail _ ?_)) (by first | with_reducible assumption | assumption) ?_ ?_); (intro a' ws' nr' r' I' oI' C' oC' D' oD' m' h' tk' E' hr' sr' hC' hx' F' N' off' ne'); (have hr' := RowsMem.elim (by first | with_reducible assumption | assumption) hr'); (try dsimp only); rotate_left; (intro D' h' tk' vs' n' F' N' o1' o2' vz'); (try dsimp only); rotate_left))) | ((with_reducible show FltSrc _ _ _ _ _ _ _ _ _ _ _ _ _ _ _); first | with_reducible (((with_reducible rename Fr _ _ _ _ => lF'); (with_reducible rename News _ _ _ _ => lN'); (with_reducible rename RowsIn _ _ _ => lR9'); (with_reducible rename StrsAre _ (namesF _) => lS9'); k_dflt (refine FltSrc.rowsLe lS9' (by rfl) lF' lN' (by k_mem) lR9' (by intro p hp; repeat (first | exact hp | refine List.Mem.tail _ ?_)) (by first | with_reducible assumption | assumption) ?_ ?_); (intro a' ws' nr' r' I' oI' C' oC' D' oD' m' h' tk' E' sr' hC' hx' F' N' off' ne'); (try dsimp only); rotate_left; (intro D' h' tk' vs' n' F' N' o1' vz' vl'); (try dsimp only); rotate_left)) | (((with_reducible rename Fr _ _ _ _ => lF'); (with_reducible rename News _ _ _ _ => lN'); (with_reducible rename RowsIn _ _ _ => lR9'); (with_reducible rename StrsAre _ (namesF _) => lS9'); k_dflt (refine FltSrc.rowsLe lS9' (by rfl) lF' lN' (by k_mem) lR9' (by intro p hp; repeat (first | exact hp | refine List.Mem.tail _ ?_)) (by first | with_reducible assumption | assumption) ?_ ?_); (intro a' ws' nr' r' I' oI' C' oC' D' oD' m' h' tk' E' sr' hC' hx' F' N' off' ne'); (try dsimp only); rotate_left; (intro D' h' tk' vs' n' F' N' o1' vz' vl'); (try dsimp only); rotate_left))) | ((with_reducible show wpAny _ _ (eval _ _) _ _ _); first | ((with_reducible show wpAny _ _ (eval (PySem.Expr.ListComp _ _ _ _) _) _ _ _); first | with_reducible (((with_reducible show wpAny _ _ (eval (Expr.ListComp _ [⟨Expr.Name (Str.ofString "one") _, _, _, _⟩] _ _) _) _ _ _); k_dflt (refine ListComp_F (F₀ := by k_asm) (by with_unfolding_all rfl) (by decide) (by rfl) (by decide) (by rfl) ?_))) | (((with_reducible show wpAny _ _ (eval (Expr.ListComp _ [⟨Expr.Name (Str.ofString "one") _, _, _, _⟩] _ _) _) _ _ _); k_dflt (refine ListComp_F (F₀ := by k_asm) (by with_unfolding_all rfl) (by decide) (by rfl) (by decide) (by rfl) ?_)))) | ((with_reducible show wpAny _ _ (eval (PySem.Expr.ListComp _ _ _ _) _) _ _ _); first | with_reducible (((with_reducible show wpAny _ _ (eval (Expr.ListComp _ [⟨_, Expr.Name (Str.ofString "rows") _, [], _⟩] _ _) _) _ _ _); k_dflt (refine ListComp_F (F₀ := by k_asm) (by with_unfolding_all rfl) (by decide) (by rfl) (by decide) (by rfl) ?_))) | (((with_reducible show wpAny _ _ (eval (Expr.ListComp _ [⟨_, Expr.Name (Str.ofString "rows") _, [], _⟩] _ _) _) _ _ _); k_dflt (refine ListComp_F (F₀ := by k_asm) (by with_unfolding_all rfl) (by decide) (by rfl) (by decide) (by rfl) ?_)))) | ((with_reducible show wpAny _ _ (eval (PySem.Expr.ListComp _ _ _ _) _) _ _ _); first | with_reducible (((with_reducible show wpAny _ _ (eval (Expr.ListComp _ [⟨_, Expr.Name (Str.ofString "rows") _, [_], _⟩] _ _) _) _ _ _); k_dflt (refine ListComp_F (F₀ := by k_asm) (by with_unfolding_all rfl) (by decide) (by rfl) (by decide) (by rfl) ?_))) | (((with_reducible show wpAny _ _ (eval (Expr.ListComp _ [⟨_, Expr.Name (Str.ofString "rows") _, [_], _⟩] _ _) _) _ _ _); k_dflt (refine ListComp_F (F₀ := by k_asm) (by with_unfolding_all rfl) (by decide) (by rfl) (by decide) (by rfl) ?_))))) | walk1) | (leave1; walk_say "STEP leave1"; try dsimp only) | fail "no step")
      all_goals (with_reducible rename Fr _ _ _ _ => eF)
      all_goals (with_reducible rename News _ _ _ _ => eN)
      all_goals (show TurnEnd s.heap L (L2J L S D2 vs1 n1 [.int 2 tA, .int 10 tB] (i + 1)) It oI _ _)
      all_goals exact l2_end eF eN (by k_mem) (by k_mem) (by k_mem) (by k_mem) (by k_mem) (by k_mem) (by rfl) (by first | with_reducible assumption | assumption) (by first | with_reducible assumption | assumption) (by first | with_reducible assumption | assumption) (by first | (with_reducible assumption) | (refine Ne.symm ?_; with_reducible assumption) | exact neMem (by with_reducible assumption) (by k_mem) | exact neMem' (by with_reducible assumption) (by k_mem) | exact ltMem (by with_reducible assumption) (by k_mem) | exact ltMem' (by with_reducible assumption) (by k_mem)) (by first | (with_reducible assumption) | (refine Ne.symm ?_; with_reducible assumption) | exact neMem (by with_reducible assumption) (by k_mem) | exact neMem' (by with_reducible assumption) (by k_mem) | exact ltMem (by with_reducible assumption) (by k_mem) | exact ltMem' (by with_reducible assumption) (by k_mem)) (by first | (with_reducible assumption) | (refine Ne.symm ?_; with_reducible assumption) | exact neMem (by with_reducible assumption) (by k_mem) | exact neMem' (by with_reducible assumption) (by k_mem) | exact ltMem (by with_reducible assumption) (by k_mem) | exact ltMem' (by with_reducible assumption) (by k_mem)) (by first | (with_reducible assumption) | (refine Ne.symm ?_; with_reducible assumption) | exact neMem (by with_reducible assumption) (by k_mem) | exact neMem' (by with_reducible assumption) (by k_mem) | exact ltMem (by with_reducible assumption) (by k_mem) | exact ltMem' (by with_reducible assumption) (by k_mem)) (by first | (with_reducible assumption) | (refine Ne.symm ?_; with_reducible assumption) | exact neMem (by with_reducible assumption) (by k_mem) | exact neMem' (by with_reducible assumption) (by k_mem) | exact ltMem (by with_reducible assumption) (by k_mem) | exact ltMem' (by with_reducible assumption) (by k_mem))
    · rintro m news h tk ⟨p1, p2, p3, c1, c2, c3, u, rfl, rfl, g1, g2, g3⟩ F₁ N₁
      clear F2 N2
      replace F₁ : Fr s.heap L h _ := F₁
      replace N₁ : News s.heap L h _ := N₁
      dsimp only
      repeat' (first | (k_unfold; (try dsimp only)) | walk1 | (dsimp only; walk1) | (leave1; walk_say "STEP leave1"; try dsimp only) | fail "no step")
      (with_reducible rename Fr _ _ _ _ => eF)
      (try dsimp only)
      exact hQ' _ _ (givesI eF rfl)
end Mine
open PySem.Spec PySem.Calls PySem.W.X
theorem PySem.Challenge.cw_pd0082_01_holds : PySem.Challenge.rw_pd0082_01.Holds :=
 Mine.hd (by
  w_top off
  k_fill
  intro w s₀ s₁ mg mb G Y fa o pm cd doc dV kV ho hd hcd hD hmg hg args vals as hpre hlay hrd hwl hlo
  have KX := kIn_of Y
  have X := (Ground.X G).1
  have V := (Ground.X G).2
  try w_nolog (first | (have GL := glob_more (Ground.glob G (by first | k_qdec | decide +kernel) (by first | k_qdec | decide +kernel)) V) | (have GL := glob_more (Ground.glob G (by decide +kernel)) V))
  refine Ground.open G ?_
  intro T B D TE TW
  try (refine guard_noD D (by decide +kernel) ?_; clear D)
  obtain ⟨_, _, M⟩ := bmod_of_top T
  have TA := at_of_top T
  try (obtain ⟨_, _, he, B0⟩ := based_of_top T rfl hmg ho hd; have he' : cd = _ := he; subst he'; clear he)
  have hfa : mg (Str.ofString "law") = some (.ref 190) := mg_of KX T.g (by k_is)
  have e190 : fa = 190 := by
    have h2 := hmg.symm.trans hfa
    cases h2
    rfl
  subst e190
  clear hmg hfa hD hd hcd
  refine enter_call ?_
  wrow_args hpre hlay hrd hwl hlo
  refine codeAny_mono (Mine.weaken (Mine.law_spec w s₁ _ _ _ ⟨KX, _, _, _, T⟩ (by assumption) (by assumption) (by omega)) rfl (by exact Nat.le_of_ble_eq_true rfl) (by exact Nat.le_of_ble_eq_true rfl)) ?_
  rintro r s' ⟨v, h', tk, rfl, rfl, g, rfl⟩
  refine GoodW.toG ⟨.inl ⟨.bool true, .bool true, [], rfl, fun _ => rfl, .bool true, ?_, unshared_nil⟩, g, rfl, hg⟩
  wrow_post)
