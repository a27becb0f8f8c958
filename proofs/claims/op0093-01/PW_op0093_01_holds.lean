import PyProof.Rows.All
import Wide.All
import OpenK.AllK
import Wide.FinOn
import PySem.Challenge.RW_op0093_01
set_option maxHeartbeats 1000000

open PySem PySem.W PyProof.Rows
set_option Elab.async false
namespace Mine
set_option maxRecDepth 100000 in
set_option maxHeartbeats 8000000 in
open_top hd for PySem.Challenge.rw_op0093_01
end Mine

open PySem PySem.W PySem.Calls PyProof.Rows
set_option maxRecDepth 100000
namespace Mine
theorem walk_plain : True := by
  w_top off
  trivial
section
variable {M : Model} {A : Around} {E : Value → Shared → Prop} {s : Shared}
theorem gW {a b c d e} {Q} (h : wpAny M A (exec (Stmt.While a b c d) e) Q E s) : wpAny M A (exec (Stmt.While a b c d) e) Q E s := h
theorem gC {a b c} {Q} (h : wpAny M A (call (Value.ref a) b c) Q E s) : wpAny M A (call (Value.ref a) b c) Q E s := h
theorem gF {a b c d e f} {Q} (h : wpAny M A (exec (Stmt.For a b c d f) e) Q E s) : wpAny M A (exec (Stmt.For a b c d f) e) Q E s := h
theorem gT {a} {Q} (h : wpAny M A (truthy (Value.ref a)) Q E s) : wpAny M A (truthy (Value.ref a)) Q E s := h
theorem gI {a} {Q} (h : wpAny M A (pyIter a) Q E s) : wpAny M A (pyIter a) Q E s := h
theorem gL {a b c d e} {Q} (h : wpAny M A (eval (Expr.ListComp a b c d) e) Q E s) : wpAny M A (eval (Expr.ListComp a b c d) e) Q E s := h
end
noncomputable def Has (p q : Prop) : Prop := q → p
theorem has_l {p r : Prop} : Has p (p ∧ r) := fun h => h.1
theorem has_i {p : Prop} : Has p p := fun h => h
theorem has_r {p q r : Prop} (h : Has p r) : Has p (q ∧ r) := fun k => h k.2
theorem neL {x a D : Nat} {r : Prop} (h : a < D ∧ r) (k : Has (x < D) (a < D ∧ r)) : x ≠ D := Nat.ne_of_lt (k h)
theorem neR {x a D : Nat} {r : Prop} (h : a < D ∧ r) (k : Has (x < D) (a < D ∧ r)) : D ≠ x := Nat.ne_of_gt (k h)
end Mine
local macro_rules | `(tactic| walk_at "my has") => `(tactic| first | exact Mine.has_l | exact Mine.has_i | (refine Mine.has_r ?_; walk_at "my has"))
local macro_rules | `(tactic| k_ne) => `(tactic| (refine neN ?_; (try dsimp only); first | assumption | (refine Mine.neL (by assumption) ?_; walk_at "my has") | (refine Mine.neR (by assumption) ?_; walk_at "my has")))
local macro_rules | `(tactic| walk_at "my go") => `(tactic| repeat' ((fail_if_success with_reducible first | refine Mine.gW ?_ | refine Mine.gC ?_); walk1))
local macro_rules | `(tactic| walk_at "my cases") => `(tactic| ((case ho | hcd => k_is); (case hbind => exact BindsTo.of_eq rfl); (case hloc => exact locs rfl); (case c1 | c2 | c3 => exact rfl); (case c4 => decide)))
local macro_rules | `(tactic| walk_at "my casesC") => `(tactic| ((case ho | hcd => k_is); (case hbind => exact BindsTo.of_eq rfl); (case hkind | c1 | c2 | c3 => exact rfl); (case hnd => decide +kernel)))
local macro_rules | `(tactic| walk_at "my go'") => `(tactic| repeat' ((fail_if_success with_reducible first | refine Mine.gW ?_ | refine Mine.gF ?_ | refine Mine.gC ?_ | refine Mine.gT ?_ | refine Mine.gI ?_); walk1))
local macro_rules | `(tactic| walk_at "my go2") => `(tactic| repeat' ((fail_if_success with_reducible first | refine Mine.gW ?_ | refine Mine.gF ?_ | refine Mine.gL ?_ | refine Mine.gC ?_ | refine Mine.gT ?_ | refine Mine.gI ?_); walk1))

open PySem PySem.W PySem.Calls PyProof.Rows
set_option Elab.async false
set_option maxRecDepth 100000
namespace Mine

/-- everything that `h` holds, off `as`, stands in `h'` -/
noncomputable def Kept (as : List Addr) (h h' : Heap) : Prop := ∀ b o, h.get? b = some o → b ∉ as → h'.get? b = some o
theorem Kept.refl (as : List Addr) (h : Heap) : Kept as h h := fun _ _ e _ => e
theorem Kept.trans {as : List Addr} {h h' h'' : Heap} (x : Kept as h h') (y : Kept as h' h'') : Kept as h h'' := fun b o e n => y b o (x b o e n) n
theorem Kept.mono {as bs : List Addr} {h h' : Heap} (x : Kept as h h') (s : ∀ a ∈ as, a ∈ bs) : Kept bs h h' := fun b o e n => x b o e fun q => n (s b q)
theorem Kept.nil {as : List Addr} {h h' : Heap} (x : ∀ b o, h.get? b = some o → h'.get? b = some o) : Kept as h h' := fun b o e _ => x b o e

theorem fr_kept {as : List Addr} {h₀ h h' : Heap} {L : Addr} {m : Str → Option Value} (F : Fr h₀ L h m) (k : Kept as h h') (hL : L ∉ as) (hf : ∀ a ∈ as, h₀.get? a = none) : Fr h₀ L h' m := by
  obtain ⟨oL, es, ep, hL', r⟩ := F.ns
  exact ⟨⟨oL, es, ep, k _ _ hL' hL, r⟩, fun b o e => k b o (F.keep b o e) (fun q => by rw [hf b q] at e; cases e), F.above⟩
theorem news_kept {as : List Addr} {h₀ h h' : Heap} {L : Addr} {news : List (Addr × Obj)} (N : News h₀ L h news) (k : Kept as h h') (hn : ∀ p ∈ news, p.1 ∉ as) : News h₀ L h' news :=
  fun p hp => ⟨k _ _ (N p hp).1 (hn p hp), (N p hp).2⟩
theorem fr_keptN {as : List Addr} {h₀ h h' : Heap} {L : Addr} {m : Str → Option Value} {news : List (Addr × Obj)} (F : Fr h₀ L h m) (N : News h₀ L h news) (k : Kept as h h') (hs : ∀ a ∈ as, ∃ o, (a, o) ∈ news) : Fr h₀ L h' m :=
  fr_kept F k (fun q => by obtain ⟨o, ho⟩ := hs _ q; exact (N _ ho).2.1 rfl) fun a ha => by obtain ⟨o, ho⟩ := hs _ ha; exact (N _ ho).2.2

theorem kept_upd {h₀ h h' : Heap} {L a : Addr} {m : Str → Option Value} {o o' : Obj} {news news' : List (Addr × Obj)} (F : Fr h₀ L h m) (N : News h₀ L h news) (U : Upd a o o' news news') (k : Kept [a] h h') (e : h'.get? a = some o') :
    Fr h₀ L h' m ∧ News h₀ L h' news' := by
  obtain ⟨pre, post, rfl, rfl, h1, h2⟩ := U.split
  have z := N (a, o) (List.mem_append.mpr (.inr (.head _)))
  refine ⟨fr_kept F k (fun q => z.2.1 (List.mem_singleton.mp q).symm) (fun b hb => by rw [List.mem_singleton.mp hb]; exact z.2.2), fun q hq => ?_⟩
  rcases List.mem_append.mp hq with hq | hq
  · have y := N q (List.mem_append.mpr (.inl hq))
    exact ⟨k _ _ y.1 (fun x => h1 q hq (List.mem_singleton.mp x)), y.2⟩
  · rcases List.mem_cons.mp hq with rfl | hq
    · exact ⟨e, z.2⟩
    · have y := N q (List.mem_append.mpr (.inr (.tail _ hq)))
      exact ⟨k _ _ y.1 (fun x => h2 q hq (List.mem_singleton.mp x)), y.2⟩

section
variable {prog : Program} {w : World} {A : Around} {s : Shared} {b₀ : Heap} {news : List (Addr × Obj)} {K : Frag} {p : Program} {loose : List Str} {mean : ExcName → Option Value} {mg mb : Str → Option Value}
  {R : Result → Shared → Prop} {name qual : Str} {params : Arguments} {body : List Stmt} {scope : Scope} {dV kV doc pm cdv ct oc : Value} {an od : Option Addr} {osl : Array (Option Value)} {f : Addr} {args : Args} {binds : List (Str × Value)}
  {Q : Value → Shared → Prop} {E : Value → Shared → Prop} {pos : List Value} {kw : List (Str × Value)}
/-- entering a def of the text: what may change is `news`; all else is the new ground -/
theorem enter_def (X₀ : K.In b₀) (T : Top p loose mean mg mb b₀) (st : b₀.StaysIn s.heap) (hn : ∀ q ∈ news, s.heap.get? q.1 = some q.2 ∧ b₀.get? q.1 = none)
    (ho : K.lookup f = some ⟨oc, od, .func (fnOf name qual params body scope dV kV doc pm an cdv ct), osl⟩) (hcd : codeIn K cdv qual = true) (hroom : A.depth < recursionLimit)
    (hbind : BindsTo s (fnOf name qual params body scope dV kV doc pm an cdv ct) ⟨pos, []⟩ binds) (hloc : ∀ y ∈ binds, scope.names.lookup y.1 = some .local)
    (h : ∀ g L' h₁, Fr g L' h₁ (fun y => binds.reverse.lookup y) → News g L' h₁ news → K.In g → Top p loose mean mg mb g → b₀.StaysIn g → Kept (news.map (·.1)) s.heap g → s.heap.objs.size ≤ L' →
      wpAny (model prog w) (A.deeper (envOf qual scope L' f cdv)) (execs body (envOf qual scope L' f cdv))
        (fun fl s' => Q (match fl with | .ret v => v | _ => .none) s')
        (fun e s' => wpAny (model prog w) (A.deeper (envOf qual scope L' f cdv)) (leaving (envOf qual scope L' f cdv) e) (fun _ s'' => E e s'') (fun e' s'' => E e' s'') s')
        { s with heap := h₁, toks := s.toks + binds.length })
    (hco : scope.isCoroutine = false) (hgen : scope.isGenerator = false) (hk : scope.kind = .function)
    (hcell : ∀ x ∈ scope.names, x.2 ≠ .cell) : wpAny (model prog w) A (call (.ref f) pos) Q E s := by
  have X : K.In s.heap := X₀.keeps st
  have Ts := T.keeps st
  refine wpAny_call (codeAny_call_def (fd := fnOf name qual params body scope dV kV doc pm an cdv ct) (body := body) (binds := binds) hroom (X _ _ ho) rfl Ts.nolimit (codeRec_of X hcd) rfl hbind hcell hloc (fun h₁ hns hk₁ => ?_) hco hgen hk)
  have nm : ∀ b o, b₀.get? b = some o → b ∉ news.map (·.1) := fun b o e q => by
    obtain ⟨p, hp, rfl⟩ := List.mem_map.mp q
    rw [(hn p hp).2] at e; cases e
  have stg : b₀.StaysIn (hideAll s.heap (news.map (·.1))) := fun b o e => hideAll_get _ (st b o e) (nm b o e)
  exact h (hideAll s.heap (news.map fun q : Addr × Obj => q.1)) s.heap.objs.size h₁ ⟨hns, fun b o e => hk₁ b o (of_hideAll _ e), Nat.le_of_eq (hideAll_size _ _)⟩
    (fun p hp => ⟨hk₁ _ _ (hn p hp).1, Nat.ne_of_lt (Heap.lt_size (hn p hp).1), hideAll_none _ (List.mem_map_of_mem hp)⟩)
    (X₀.keeps stg) (T.keeps stg) stg (fun b o e n => hideAll_get _ e n) (Nat.le_refl _)

/-- the same for a def whose names are captured -/
theorem enter_defC (X₀ : K.In b₀) (T : Top p loose mean mg mb b₀) (st : b₀.StaysIn s.heap) (hn : ∀ q ∈ news, s.heap.get? q.1 = some q.2 ∧ b₀.get? q.1 = none)
    (ho : K.lookup f = some ⟨oc, od, .func (fnOf name qual params body scope dV kV doc pm an cdv ct), osl⟩) (hcd : codeIn K cdv qual = true) (hroom : A.depth < recursionLimit)
    (hbind : BindsTo s (fnOf name qual params body scope dV kV doc pm an cdv ct) ⟨pos, []⟩ binds)
    (hkind : (binds.all fun y => scope.names.lookup y.1 == some .local || scope.names.lookup y.1 == some .cell) = true)
    (hnd : ((cellsFrom 0 scope.names []).map (·.1)).Nodup)
    (h : ∀ g L' h₁ tk cells, Fr g L' h₁ (bindL (envOfC qual scope L' f cdv).kindOf binds fun _ => none) → News g L' h₁ (cells ++ news) →
      CellsAre (bindC (envOfC qual scope L' f cdv).kindOf binds fun _ => none) (cellsFrom (L' + 1) scope.names []) cells → K.In g → Top p loose mean mg mb g → b₀.StaysIn g → Kept (news.map (·.1)) s.heap g → s.heap.objs.size ≤ L' → (∀ q ∈ news, q.1 < L') →
      wpAny (model prog w) (A.deeper (envOfC qual scope L' f cdv)) (execs body (envOfC qual scope L' f cdv))
        (fun fl s' => Q (match fl with | .ret v => v | _ => .none) s')
        (fun e s' => wpAny (model prog w) (A.deeper (envOfC qual scope L' f cdv)) (leaving (envOfC qual scope L' f cdv) e) (fun _ s'' => E e s'') (fun e' s'' => E e' s'') s')
        { s with heap := h₁, toks := tk })
    (hco : scope.isCoroutine = false) (hgen : scope.isGenerator = false) (hk : scope.kind = .function) : wpAny (model prog w) A (call (.ref f) pos) Q E s := by
  have X : K.In s.heap := X₀.keeps st
  have Ts := T.keeps st
  have nm : ∀ b o, b₀.get? b = some o → b ∉ news.map (·.1) := fun b o e q => by
    obtain ⟨p, hp, rfl⟩ := List.mem_map.mp q
    rw [(hn p hp).2] at e; cases e
  have stg : b₀.StaysIn (hideAll s.heap (news.map fun q : Addr × Obj => q.1)) := fun b o e => hideAll_get _ (st b o e) (nm b o e)
  refine wpAny_call (codeAny_call_function hroom (X _ _ ho) rfl hco hgen rfl (codeRec_of X hcd) (hbind _ _ _ _ ?_))
  refine wpAny_newFunctionEnv_cells hk (kindsX hkind _) fun env' he s' x => ?_
  subst he
  refine ⟨Ts.nolimit.keeps x.toInCall.keep, codeAny_func ?_⟩
  obtain ⟨h₁, tk, rfl, _⟩ := x.done
  have hk₁ := x.toInCall.keep
  obtain ⟨cells, NC, Y⟩ := Cl.news (h₀ := s.heap) (Nat.le_refl _) fun n c hm => ⟨x.cell n c (lookup_of_mem_nodup (cellsFrom_names scope.names 0 (s.heap.objs.size + 1) [] [] rfl ▸ hnd) hm), x.above n c hm⟩
  refine h (hideAll s.heap (news.map fun q : Addr × Obj => q.1)) s.heap.objs.size h₁ tk cells ⟨x.toInCall.ns, fun b o e => hk₁ b o (of_hideAll _ e), Nat.le_of_eq (hideAll_size _ _)⟩ (fun p hp => ?_) Y
    (X₀.keeps stg) (T.keeps stg) stg (fun b o e n => hideAll_get _ e n) (Nat.le_refl _) (fun q hq => Heap.lt_size (hn q hq).1)
  rcases List.mem_append.mp hp with hp | hp
  · refine ⟨(NC p hp).1, (NC p hp).2.1, ?_⟩
    cases q : (hideAll s.heap (news.map fun q : Addr × Obj => q.1)).get? p.1 with
    | none => rfl
    | some o => have := of_hideAll _ q; rw [(NC p hp).2.2] at this; cases this
  · exact ⟨hk₁ _ _ (hn p hp).1, Nat.ne_of_lt (Heap.lt_size (hn p hp).1), hideAll_none _ (List.mem_map_of_mem hp)⟩

/-- a def that the call itself has made -/
theorem enter_made {cl : List (Str × Addr)} {fo : Obj} (X₀ : K.In b₀) (T : Top p loose mean mg mb b₀) (st : b₀.StaysIn s.heap) (hn : ∀ q ∈ news, s.heap.get? q.1 = some q.2 ∧ b₀.get? q.1 = none)
    (ho : s.heap.get? f = some fo) (hd : fo.data = .func (fnX name qual params body scope cl dV kV doc pm an cdv ct)) (hcd : s.heap.CodeRec cdv qual) (hroom : A.depth < recursionLimit)
    (hbind : BindsTo s (fnX name qual params body scope cl dV kV doc pm an cdv ct) ⟨pos, []⟩ binds) (hloc : ∀ y ∈ binds, scope.names.lookup y.1 = some .local)
    (h : ∀ g L' h₁, Fr g L' h₁ (fun y => binds.reverse.lookup y) → News g L' h₁ news → K.In g → Top p loose mean mg mb g → b₀.StaysIn g → Kept (news.map (·.1)) s.heap g → s.heap.objs.size ≤ L' → (∀ q ∈ news, q.1 < L') →
      wpAny (model prog w) (A.deeper (envX qual scope L' f cdv cl)) (execs body (envX qual scope L' f cdv cl))
        (fun fl s' => Q (match fl with | .ret v => v | _ => .none) s')
        (fun e s' => wpAny (model prog w) (A.deeper (envX qual scope L' f cdv cl)) (leaving (envX qual scope L' f cdv cl) e) (fun _ s'' => E e s'') (fun e' s'' => E e' s'') s')
        { s with heap := h₁, toks := s.toks + binds.length })
    (hco : scope.isCoroutine = false) (hgen : scope.isGenerator = false) (hk : scope.kind = .function)
    (hcell : ∀ x ∈ scope.names, x.2 ≠ .cell) : wpAny (model prog w) A (call (.ref f) pos) Q E s := by
  have X : K.In s.heap := X₀.keeps st
  have Ts := T.keeps st
  refine wpAny_call (codeAny_call_def (fd := fnX name qual params body scope cl dV kV doc pm an cdv ct) (body := body) (binds := binds) hroom ho hd Ts.nolimit hcd rfl hbind hcell hloc (fun h₁ hns hk₁ => ?_) hco hgen hk)
  have nm : ∀ b o, b₀.get? b = some o → b ∉ news.map (·.1) := fun b o e q => by
    obtain ⟨p, hp, rfl⟩ := List.mem_map.mp q
    rw [(hn p hp).2] at e; cases e
  have stg : b₀.StaysIn (hideAll s.heap (news.map (·.1))) := fun b o e => hideAll_get _ (st b o e) (nm b o e)
  exact h (hideAll s.heap (news.map fun q : Addr × Obj => q.1)) s.heap.objs.size h₁ ⟨hns, fun b o e => hk₁ b o (of_hideAll _ e), Nat.le_of_eq (hideAll_size _ _)⟩
    (fun p hp => ⟨hk₁ _ _ (hn p hp).1, Nat.ne_of_lt (Heap.lt_size (hn p hp).1), hideAll_none _ (List.mem_map_of_mem hp)⟩)
    (X₀.keeps stg) (T.keeps stg) stg (fun b o e n => hideAll_get _ e n) (Nat.le_refl _) (fun q hq => Heap.lt_size (hn q hq).1)
end

end Mine

open PySem PySem.W PySem.Calls PyProof.Rows
set_option Elab.async false
set_option maxRecDepth 100000
namespace Mine

noncomputable def sd (v : Int) (xs : List Int) (p : Nat) : List Int :=
  if h : 0 < p then
    if v < xs.getD ((p - 1) / 2) 0 then sd v (xs.set p (xs.getD ((p - 1) / 2) 0)) ((p - 1) / 2) else xs.set p v
  else xs.set p v
termination_by p
decreasing_by omega

structure SdSt where
  vs : List Value
  n : Nat
  xs : List Int
  pos : Nat
  tp : Tok


section
variable {w : World} {A : Around} {s : Shared} {b₀ : Heap} {loose : List Str} {mean : ExcName → Option Value} {mg mb : Str → Option Value} {Q : Value → Shared → Prop} {E : Value → Shared → Prop}

set_option maxHeartbeats 2000000 in
theorem sd_call {a : Addr} {vs : List Value} {xs : List Int} {n : Nat} {p : Nat} {t0 t1 : Tok}
    (X₀ : (hd.heap_39 w.params).In b₀) (T : Top topProg loose mean mg mb b₀) (st : b₀.StaysIn s.heap) (hroom : A.depth < recursionLimit)
    (ha : s.heap.get? a = some (listOf vs.toArray n)) (hb : b₀.get? a = none) (hi : IntsAre vs xs) (hp1 : p < xs.length) (hsz : xs.length < 1000)
    (h : ∀ h' tk vs' n', Kept [a] s.heap h' → h'.get? a = some (listOf vs'.toArray n') → IntsAre vs' (sd (xs.getD p 0) xs p) → Q .none { s with heap := h', toks := tk }) :
    wpAny (model Challenge.rw_op0093_01.row.prog w) A (call (.ref 35) [.ref a, .int 0 t0, .int (p : Int) t1]) Q E s := by
  revert X₀; k_fill; intro X₀
  refine' enter_def (news := [(a, listOf vs.toArray n)]) (binds := [("heap", .ref a), ("startpos", .int 0 t0), ("pos", .int (p : Int) t1)]) X₀ T st ?hn ?ho ?hcd hroom ?hbind ?hloc ?h ?c1 ?c2 ?c3 ?c4
  case ho => k_is
  case hcd => k_is
  case hbind => exact BindsTo.of_eq rfl
  case hloc => exact locs rfl
  case c1 => exact rfl
  case c2 => exact rfl
  case c3 => exact rfl
  case c4 => decide
  case hn => intro q hq; cases hq with | head => exact ⟨ha, hb⟩ | tail _ h => cases h
  case h =>
    intro g L h₁ F N X T stg kg hL; clear hL
    clear X₀
    try dsimp only
    k_fold
    walk_at "my go"
    rename Fr _ _ _ _ => F
    rename News _ _ _ _ => N
    refine' ksw_while (σ := SdSt) (fun c => [(a, listOf c.vs.toArray c.n)]) (fun c => [("pos", .int c.pos c.tp)]) (fun c => IntsAre c.vs c.xs ∧ c.pos < c.xs.length ∧ c.xs.length = xs.length) ["parentpos", "parent"]
      (fun c => sd (xs.getD p 0) c.xs c.pos = sd (xs.getD p 0) xs p) (fun c => c.pos) ⟨vs, n, xs, p, t1⟩ F N ?zf ?zk ?zp ?_ ?ze
    case zf => exact ⟨hi, hp1, rfl⟩
    case zk => kst_all
    case zp => rfl
    case ze => with_unfolding_all passes_own
    rintro ⟨vs1, n1, xs1, p1, tp1⟩ u hh tk ⟨hi1, hp1, hl1⟩ hP F N
    dsimp only [kstB] at hi1 hp1 hl1 hP F N ⊢
    k_fold
    walk_at "my go"
    · have e : ((p1 : Int) - 1).fdiv (2 ^ Int.toNat 1) = (((p1 - 1) / 2 : Nat) : Int) := by
        rw [show (2 ^ Int.toNat 1 : Int) = 2 from rfl, Int.fdiv_eq_ediv_of_nonneg _ (by omega)]; omega
      simp only [e] at *
      have hb : (p1 - 1) / 2 < xs1.length := by omega
      walk_at "my go"
      · refine ksw_end ⟨_, _, xs1.set p1 (xs1.getD ((p1 - 1) / 2) 0), (p1 - 1) / 2, _⟩ (by assumption) (by assumption) (by kst_in) ⟨by assumption, by simpa using hb, by simpa using hl1⟩ (by kst_all) (by ksw_same) ?_ ?_
        · show sd _ _ _ = _
          rw [← hP]
          conv => rhs; rw [sd]
          rw [dif_pos (by omega), if_pos (by assumption)]
        · show (p1 - 1) / 2 < p1
          omega
      · dsimp only
        refine h _ _ _ _ ?_ (News.get (by assumption) (.head _)) ?_
        · rename Fr _ _ _ _ => F
          exact fun b o e n => F.keep b o (kg b o e n)
        · rw [← hP, sd, dif_pos (by omega), if_neg (by assumption)]; assumption
    · dsimp only
      refine h _ _ _ _ ?_ (News.get (by assumption) (.head _)) ?_
      · rename Fr _ _ _ _ => F
        exact fun b o e n => F.keep b o (kg b o e n)
      · rw [← hP, sd, dif_neg (by omega)]; assumption
end
end Mine

open PySem PySem.W PySem.Calls PyProof.Rows
set_option Elab.async false
set_option maxRecDepth 100000
namespace Mine

noncomputable def kid (xs : List Int) (p : Nat) : Nat := if 2 * p + 2 < xs.length ∧ ¬ xs.getD (2 * p + 1) 0 < xs.getD (2 * p + 2) 0 then 2 * p + 2 else 2 * p + 1
theorem p_1 (p : Nat) : p < 2 * p + 1 := by omega
theorem p_2 (p : Nat) : p < 2 * p + 2 := by omega
theorem kid_gt (xs : List Int) (p : Nat) : p < kid xs p := by unfold kid; split <;> omega
theorem kid_lt {xs : List Int} {p : Nat} (h : 2 * p + 1 < xs.length) : kid xs p < xs.length := by unfold kid; split <;> omega
noncomputable def su (v : Int) (xs : List Int) (p : Nat) : List Int :=
  if h : 2 * p + 1 < xs.length then su v (xs.set p (xs.getD (kid xs p) 0)) (kid xs p) else sd v (xs.set p v) p
termination_by xs.length - p
decreasing_by
  have := kid_gt xs p
  simp only [List.length_set]
  omega

structure SuSt where
  vs : List Value
  n : Nat
  xs : List Int
  pos : Nat
  tp : Tok
  tc : Tok


section
variable {w : World} {A : Around} {s : Shared} {b₀ : Heap} {loose : List Str} {mean : ExcName → Option Value} {mg mb : Str → Option Value} {Q : Value → Shared → Prop} {E : Value → Shared → Prop}

set_option maxHeartbeats 2000000 in
theorem su_call {a : Addr} {vs : List Value} {xs : List Int} {n : Nat} {t0 : Tok}
    (X₀ : (hd.heap_39 w.params).In b₀) (T : Top topProg loose mean mg mb b₀) (st : b₀.StaysIn s.heap) (hroom : A.depth + 1 < recursionLimit)
    (ha : s.heap.get? a = some (listOf vs.toArray n)) (hb : b₀.get? a = none) (hi : IntsAre vs xs) (hp1 : 0 < xs.length) (hsz : xs.length < 1000)
    (h : ∀ h' tk vs' n', Kept [a] s.heap h' → h'.get? a = some (listOf vs'.toArray n') → IntsAre vs' (su (xs.getD 0 0) xs 0) → Q .none { s with heap := h', toks := tk }) :
    wpAny (model Challenge.rw_op0093_01.row.prog w) A (call (.ref 42) [.ref a, .int 0 t0]) Q E s := by
  revert X₀; k_fill; intro X₀
  refine' enter_def (news := [(a, listOf vs.toArray n)]) (binds := [("heap", .ref a), ("pos", .int 0 t0)]) X₀ T st ?hn ?ho ?hcd (by omega) ?hbind ?hloc ?h ?c1 ?c2 ?c3 ?c4
  case ho => k_is
  case hcd => k_is
  case hbind => exact BindsTo.of_eq rfl
  case hloc => exact locs rfl
  case c1 => exact rfl
  case c2 => exact rfl
  case c3 => exact rfl
  case c4 => decide
  case hn => intro q hq; cases hq with | head => exact ⟨ha, hb⟩ | tail _ h => cases h
  case h =>
    intro g L h₁ F N X T stg kg hL; clear hL
    clear X₀
    k_fold
    walk_at "my go"
    rename Fr _ _ _ _ => F
    rename News _ _ _ _ => N
    refine' ksw_while (σ := SuSt) (fun c => [(a, listOf c.vs.toArray c.n)]) (fun c => [("pos", .int c.pos c.tp), ("childpos", .int (2 * (c.pos : Int) + 1) c.tc)]) (fun c => IntsAre c.vs c.xs ∧ c.pos < c.xs.length ∧ c.xs.length = xs.length) ["rightpos"]
      (fun c => su (xs.getD 0 0) c.xs c.pos = su (xs.getD 0 0) xs 0) (fun c => xs.length - c.pos) ⟨vs, n, xs, 0, t0, _⟩ F N ?zf ?zk ?zp ?_ ?ze
    case zf => exact ⟨hi, hp1, rfl⟩
    case zk => kst_all
    case zp => rfl
    case ze => with_unfolding_all passes_own
    rintro ⟨vs1, n1, xs1, p1, tp1, tc1⟩ u hh tk ⟨hi1, hp1, hl1⟩ hP F N
    dsimp only [kstB] at hi1 hp1 hl1 hP F N ⊢
    k_fold
    have c1 : (2 * (p1 : Int) + 1) = ((2 * p1 + 1 : Nat) : Int) := by omega
    have c2 : (((2 * p1 + 1 : Nat) : Int) + 1) = ((2 * p1 + 2 : Nat) : Int) := by omega
    walk_at "my go"
    · simp only [c1, c2, Int.toNat_natCast] at *
      have hk : kid xs1 p1 = 2 * p1 + 1 := by unfold kid; rw [if_neg]; rintro ⟨_, q⟩; exact q (by assumption)
      refine ksw_end ⟨_, _, xs1.set p1 (xs1.getD (2 * p1 + 1) 0), 2 * p1 + 1, _, _⟩ (by assumption) (by assumption) (by kst_in) ⟨by assumption, by simp; omega, by simpa using hl1⟩ (by kst_all) (by ksw_same) ?_ ?_
      · show su _ _ _ = _
        rw [← hP]; conv => rhs; rw [su]
        rw [dif_pos (by omega), hk]
      · show xs.length - (2 * p1 + 1) < xs.length - p1
        first | exact Nat.sub_lt_sub_left (by rw [← hl1]; exact hp1) (p_1 p1) | omega
    · simp only [c1, c2, Int.toNat_natCast] at *
      have hk : kid xs1 p1 = 2 * p1 + 2 := by unfold kid; rw [if_pos]; exact ⟨by omega, by assumption⟩
      refine ksw_end ⟨_, _, xs1.set p1 (xs1.getD (2 * p1 + 2) 0), 2 * p1 + 2, _, _⟩ (by assumption) (by assumption) (by kst_in) ⟨by assumption, by simp; omega, by simpa using hl1⟩ (by kst_all) (by ksw_same) ?_ ?_
      · show su _ _ _ = _
        rw [← hP]; conv => rhs; rw [su]
        rw [dif_pos (by omega), hk]
      · show xs.length - (2 * p1 + 2) < xs.length - p1
        first | exact Nat.sub_lt_sub_left (by rw [← hl1]; exact hp1) (p_2 p1) | omega
    · simp only [c1, c2, Int.toNat_natCast] at *
      have hk : kid xs1 p1 = 2 * p1 + 1 := by unfold kid; rw [if_neg]; rintro ⟨q, _⟩; omega
      refine ksw_end ⟨_, _, xs1.set p1 (xs1.getD (2 * p1 + 1) 0), 2 * p1 + 1, _, _⟩ (by assumption) (by assumption) (by kst_in) ⟨by assumption, by simp; omega, by simpa using hl1⟩ (by kst_all) (by ksw_same) ?_ ?_
      · show su _ _ _ = _
        rw [← hP]; conv => rhs; rw [su]
        rw [dif_pos (by omega), hk]
      · show xs.length - (2 * p1 + 1) < xs.length - p1
        first | exact Nat.sub_lt_sub_left (by rw [← hl1]; exact hp1) (p_1 p1) | omega
    · rename Fr _ _ _ _ => F
      rename News _ _ _ _ => N
      refine sd_call (xs := xs1.set p1 (xs.getD 0 0)) X T F.keep (by simp only [depth_deeper]; exact hroom) (N.get (.head _)) (N.fresh (.head _)) (by assumption) (by simpa using hp1) (by simp; omega) ?_
      intro h' tk vs' n' k' ha' hi'
      obtain ⟨F', N'⟩ := kept_upd F N (.head (List.forall_mem_nil _)) k' ha'
      clear F N
      walk_at "my go"
      dsimp only
      refine h _ _ _ _ ?_ (News.get (by assumption) (.head _)) ?_
      · exact fun b o e n => F'.keep b o (kg b o e n)
      · rw [← hP, su, dif_neg (by omega)]
        rw [show (xs1.set p1 (xs.getD 0 0)).getD p1 0 = xs.getD 0 0 from by simp [List.getD_eq_getElem?_getD, hp1]] at hi'
        exact hi'
end
end Mine

open PySem PySem.W PySem.Calls PyProof.Rows
set_option Elab.async false
set_option maxRecDepth 100000
namespace Mine


section
variable {w : World} {A : Around} {s : Shared} {b₀ : Heap} {loose : List Str} {mean : ExcName → Option Value} {mg mb : Str → Option Value} {Q : Value → Shared → Prop} {E : Value → Shared → Prop}

noncomputable def hpush (xs : List Int) (x : Int) : List Int := sd x (xs ++ [x]) xs.length

set_option maxHeartbeats 2000000 in
theorem push_call {a : Addr} {vs : List Value} {xs : List Int} {n : Nat} {x : Int} {t0 : Tok}
    (X₀ : (hd.heap_39 w.params).In b₀) (T : Top topProg loose mean mg mb b₀) (st : b₀.StaysIn s.heap) (hroom : A.depth + 1 < recursionLimit)
    (ha : s.heap.get? a = some (listOf vs.toArray n)) (hb : b₀.get? a = none) (hi : IntsAre vs xs) (hsz : xs.length < 900)
    (h : ∀ h' tk vs' n', Kept [a] s.heap h' → h'.get? a = some (listOf vs'.toArray n') → IntsAre vs' (hpush xs x) → Q .none { s with heap := h', toks := tk }) :
    wpAny (model Challenge.rw_op0093_01.row.prog w) A (call (.ref 21) [.ref a, .int x t0]) Q E s := by
  revert X₀; k_fill; intro X₀
  refine' enter_def (news := [(a, listOf vs.toArray n)]) (binds := [("heap", .ref a), ("item", .int x t0)]) X₀ T st ?hn ?ho ?hcd (by omega) ?hbind ?hloc ?h ?c1 ?c2 ?c3 ?c4
  walk_at "my cases"
  case hn => intro q hq; cases hq with | head => exact ⟨ha, hb⟩ | tail _ h => cases h
  case h =>
    intro g L h₁ F N X T stg kg hL; clear hL
    clear X₀
    k_fold
    walk_at "my go"
    rename Fr _ _ _ _ => F
    rename News _ _ _ _ => N
    rw [show ((xs.length + 1 : Nat) : Int) - 1 = (xs.length : Int) from by omega]
    refine sd_call (xs := xs ++ [x]) X T F.keep (by simp only [depth_deeper]; omega) (N.get (.head _)) (N.fresh (.head _)) (hi.append (.cons _ _ .nil)) (by simp) (by simp; omega) ?_
    intro h' tk vs' n' k' ha' hi'
    obtain ⟨F', N'⟩ := kept_upd F N (.head (List.forall_mem_nil _)) k' ha'
    clear F N
    walk_at "my go"
    dsimp only
    refine h _ _ _ _ (fun b o e n => F'.keep b o (kg b o e n)) ha' ?_
    rw [show (xs ++ [x]).getD xs.length 0 = x from by simp] at hi'
    exact hi'

noncomputable def hpopR (xs : List Int) : List Int := if xs.length = 1 then [] else su (xs.getLastD 0) (xs.dropLast.set 0 (xs.getLastD 0)) 0

set_option maxHeartbeats 2000000 in
theorem pop_call {a : Addr} {vs : List Value} {xs : List Int} {n : Nat}
    (X₀ : (hd.heap_39 w.params).In b₀) (T : Top topProg loose mean mg mb b₀) (st : b₀.StaysIn s.heap) (hroom : A.depth + 2 < recursionLimit)
    (ha : s.heap.get? a = some (listOf vs.toArray n)) (hb : b₀.get? a = none) (hi : IntsAre vs xs) (h0 : 0 < xs.length) (hsz : xs.length < 900)
    (h : ∀ h' tk vs' n' t, Kept [a] s.heap h' → h'.get? a = some (listOf vs'.toArray n') → IntsAre vs' (hpopR xs) → Q (.int (xs.getD 0 0) t) { s with heap := h', toks := tk }) :
    wpAny (model Challenge.rw_op0093_01.row.prog w) A (call (.ref 28) [.ref a]) Q E s := by
  have hlen := hi.length
  revert X₀; k_fill; intro X₀
  refine' enter_def (news := [(a, listOf vs.toArray n)]) (binds := [("heap", .ref a)]) X₀ T st ?hn ?ho ?hcd (by omega) ?hbind ?hloc ?h ?c1 ?c2 ?c3 ?c4
  walk_at "my cases"
  case hn => intro q hq; cases hq with | head => exact ⟨ha, hb⟩ | tail _ h => cases h
  case h =>
    intro g L h₁ F N X T stg kg hL; clear hL
    clear X₀
    k_fold
    walk_at "my go"
    refine truthy_ints_fit (PySem.IsL.isList (n := n + 1) (News.get (by assumption) (.head _))) (by assumption) (by simp; omega) ?_
    have hd : xs.dropLast.length = xs.length - 1 := by simp
    by_cases h1 : xs.length = 1
    · rw [if_neg (by simp [h1])]
      walk_at "my go"
      dsimp only
      obtain ⟨y, rfl⟩ := List.length_eq_one_iff.mp h1
      rename Fr _ _ _ _ => F
      refine h _ _ _ _ _ (fun b o e n => F.keep b o (kg b o e n)) (News.get (by assumption) (.head _)) ?_
      rw [hpopR, if_pos h1]; assumption
    · rw [if_pos (by simp; omega)]
      walk_at "my go"
      rename Fr _ _ _ _ => F
      rename News _ _ _ _ => N
      refine su_call (xs := xs.dropLast.set 0 (xs.getLastD 0)) X T F.keep (by simp only [depth_deeper]; omega) (N.get (.head _)) (N.fresh (.head _)) (by assumption) (by simp; omega) (by simp; omega) ?_
      intro h' tk vs' n' k' ha' hi'
      obtain ⟨F', N'⟩ := kept_upd F N (.head (List.forall_mem_nil _)) k' ha'
      clear F N
      walk_at "my go"
      dsimp only
      have e0 : xs.dropLast.getD (Int.toNat 0) 0 = xs.getD 0 0 := by
        match xs, h0, h1 with
        | [], h0, _ => simp at h0
        | [_], _, h1 => simp at h1
        | _ :: _ :: _, _, _ => rfl
      rw [e0]
      refine h _ _ _ _ _ (fun b o e n => F'.keep b o (kg b o e n)) ha' ?_
      rw [hpopR, if_neg h1]
      rw [show (xs.dropLast.set 0 (xs.getLastD 0)).getD 0 0 = xs.getLastD 0 from by
        match xs, h0, h1 with
        | [], h0, _ => simp at h0
        | [_], _, h1 => simp at h1
        | _ :: _ :: _, _, _ => rfl] at hi'
      exact hi'
end
end Mine

open PySem PySem.W PySem.Calls PyProof.Rows
namespace Mine
theorem nat_and_ifmt (a : Nat) : a &&& 61440 = a / 4096 % 16 * 4096 := by
  have h : (61440 : Nat) = 15 <<< 12 := rfl
  have h2 : a / 4096 % 16 * 4096 = ((a >>> 12) &&& 15) <<< 12 := by
    rw [Nat.shiftRight_eq_div_pow, Nat.shiftLeft_eq, show (15 : Nat) = 2 ^ 4 - 1 from rfl, Nat.and_two_pow_sub_one_eq_mod]
  rw [h2, h]
  apply Nat.eq_of_testBit_eq
  intro i
  simp only [Nat.testBit_and, Nat.testBit_shiftLeft, Nat.testBit_shiftRight]
  by_cases hi : i ≥ 12
  · simp [hi, show 12 + (i - 12) = i from by omega]
  · simp [hi]
theorem nat_and_imode (a : Nat) : a &&& 4095 = a % 4096 := by
  rw [show (4095 : Nat) = 2 ^ 12 - 1 from rfl, Nat.and_two_pow_sub_one_eq_mod]
theorem and_imode (x : Int) : Builtin.bitAnd x 4095 = x % 4096 := by
  unfold Builtin.bitAnd Builtin.bitNot
  by_cases h : 0 ≤ x
  · simp only [h, decide_true, show (0 : Int) ≤ 4095 from by decide]
    rw [show (Int.toNat 4095) = 4095 from rfl, nat_and_imode]; omega
  · simp only [h, decide_false, show (0 : Int) ≤ 4095 from by decide, decide_true]
    rw [show (Int.toNat 4095) = 4095 from rfl, Nat.and_comm, nat_and_imode]; omega
theorem and_ifmt (x : Int) : Builtin.bitAnd x 61440 = x / 4096 % 16 * 4096 := by
  unfold Builtin.bitAnd Builtin.bitNot
  by_cases h : 0 ≤ x
  · simp only [h, decide_true, show (0 : Int) ≤ 61440 from by decide]
    rw [show (Int.toNat 61440) = 61440 from rfl, nat_and_ifmt]; omega
  · simp only [h, decide_false, show (0 : Int) ≤ 61440 from by decide, decide_true]
    rw [show (Int.toNat 61440) = 61440 from rfl, Nat.and_comm, nat_and_ifmt]; omega
theorem xor_low (x s : Nat) : Builtin.bitXor (x : Int) (((x / 2 ^ s : Nat) : Int) * 2 ^ s) = ((x % 2 ^ s : Nat) : Int) := by
  have h1 : (((x / 2 ^ s : Nat) : Int) * 2 ^ s) = ((x / 2 ^ s * 2 ^ s : Nat) : Int) := by push_cast; rfl
  rw [h1, bitXor_and]
  have h2 : x &&& (x / 2 ^ s * 2 ^ s) = x / 2 ^ s * 2 ^ s := by
    apply Nat.eq_of_testBit_eq
    intro i
    rw [← Nat.shiftRight_eq_div_pow, ← Nat.shiftLeft_eq]
    simp only [Nat.testBit_and, Nat.testBit_shiftLeft, Nat.testBit_shiftRight]
    by_cases hi : i ≥ s
    · simp [hi, show s + (i - s) = i from by omega]
    · simp [hi]
  have h3 : Builtin.bitAnd (x : Int) ((x / 2 ^ s * 2 ^ s : Nat) : Int) = ((x / 2 ^ s * 2 ^ s : Nat) : Int) := by
    unfold Builtin.bitAnd
    have a1 : (0 : Int) ≤ (x : Int) := by omega
    have a2 : (0 : Int) ≤ ((x / 2 ^ s * 2 ^ s : Nat) : Int) := by omega
    simp only [a1, a2, decide_true, Int.toNat_natCast, h2]
  rw [h3]
  have := Nat.div_add_mod x (2 ^ s)
  rw [Nat.mul_comm] at this
  omega
theorem pow_8192 (k : Nat) : 2 ^ (13 * k) = 8192 ^ k := by rw [Nat.pow_mul]
theorem dig_low (x m j : Nat) (h : j < m) : x % 8192 ^ m / 8192 ^ j % 8192 = x / 8192 ^ j % 8192 := by
  have e : 8192 ^ m = 8192 ^ j * 8192 ^ (m - j) := by rw [← Nat.pow_add]; congr 1; omega
  rw [e, Nat.mod_mul_right_div_self, Nat.mod_mod_of_dvd]
  exact Nat.dvd_of_pow_dvd (k := 1) (by omega) (by exact Nat.pow_dvd_pow _ (by omega))
theorem dig_high (x m j : Nat) (h : m ≤ j) : x / 8192 ^ m / 8192 ^ (j - m) = x / 8192 ^ j := by
  rw [Nat.div_div_eq_div_mul, ← Nat.pow_add]; congr 2; omega
end Mine

open PySem PySem.W PySem.Calls PyProof.Rows
set_option Elab.async false
set_option maxRecDepth 100000
namespace Mine


section
variable {w : World} {A : Around} {s : Shared} {b₀ : Heap} {loose : List Str} {mean : ExcName → Option Value} {mg mb : Str → Option Value} {Q : Value → Shared → Prop} {E : Value → Shared → Prop}

set_option maxHeartbeats 2000000 in
theorem imode_call {x : Int} {t0 : Tok}
    (X₀ : (hd.heap_39 w.params).In b₀) (T : Top topProg loose mean mg mb b₀) (st : b₀.StaysIn s.heap) (hroom : A.depth < recursionLimit)
    (h : ∀ h' tk t, Kept [] s.heap h' → Q (.int (x % 4096) t) { s with heap := h', toks := tk }) :
    wpAny (model Challenge.rw_op0093_01.row.prog w) A (call (.ref 91) [.int x t0]) Q E s := by
  revert X₀; k_fill; intro X₀
  refine' enter_def (news := []) (binds := [("mode", .int x t0)]) X₀ T st ?hn ?ho ?hcd (by omega) ?hbind ?hloc ?h ?c1 ?c2 ?c3 ?c4
  walk_at "my cases"
  case hn => intro q hq; cases hq
  case h =>
    intro g L h₁ F N X T stg kg hL; clear hL
    clear X₀
    k_fold
    walk_at "my go"
    dsimp only
    rw [and_imode]
    exact h _ _ _ (fun b o e n => F.keep b o (kg b o e n))

set_option maxHeartbeats 2000000 in
theorem ifmt_call {x : Int} {t0 : Tok}
    (X₀ : (hd.heap_39 w.params).In b₀) (T : Top topProg loose mean mg mb b₀) (st : b₀.StaysIn s.heap) (hroom : A.depth < recursionLimit)
    (h : ∀ h' tk t, Kept [] s.heap h' → Q (.int (x / 4096 % 16 * 4096) t) { s with heap := h', toks := tk }) :
    wpAny (model Challenge.rw_op0093_01.row.prog w) A (call (.ref 98) [.int x t0]) Q E s := by
  revert X₀; k_fill; intro X₀
  refine' enter_def (news := []) (binds := [("mode", .int x t0)]) X₀ T st ?hn ?ho ?hcd (by omega) ?hbind ?hloc ?h ?c1 ?c2 ?c3 ?c4
  walk_at "my cases"
  case hn => intro q hq; cases hq
  case h =>
    intro g L h₁ F N X T stg kg hL; clear hL
    clear X₀
    k_fold
    walk_at "my go"
    dsimp only
    rw [and_ifmt]
    exact h _ _ _ (fun b o e n => F.keep b o (kg b o e n))

set_option maxHeartbeats 2000000 in
theorem div2_call {x : Int} {t0 t1 t2 : Tok}
    (X₀ : (hd.heap_39 w.params).In b₀) (T : Top topProg loose mean mg mb b₀) (st : b₀.StaysIn s.heap) (hroom : A.depth < recursionLimit) (hx0 : 0 ≤ x) (hx1 : x < 67108864)
    (h : ∀ h' tk a t t', Kept [] s.heap h' → h'.get? a = some { cls := .type "tuple", data := .seq #[.int (x / 4096) t, .int (x % 4096) t'] } → s.heap.get? a = none → Q (.ref a) { s with heap := h', toks := tk }) :
    wpAny (model Challenge.rw_op0093_01.row.prog w) A (call (.ref 49) [.int x t0, .int 4096 t1, .int 13 t2]) Q E s := by
  have hbits : (Builtin.Int.intBits x : Int) - 13 ≤ 4000 := by
    have := (intBits_le_iff (m := 100) (x := x)).mpr (by omega)
    omega
  revert X₀; k_fill; intro X₀
  refine' enter_def (news := []) (binds := [("a", .int x t0), ("b", .int 4096 t1), ("n", .int 13 t2)]) X₀ T st ?hn ?ho ?hcd (by omega) ?hbind ?hloc ?h ?c1 ?c2 ?c3 ?c4
  walk_at "my cases"
  case hn => intro q hq; cases hq
  case h =>
    intro g L h₁ F N X T stg kg hL; clear hL
    clear X₀
    k_fold
    walk_at "my go"
    · dsimp only
      rename Fr _ _ _ _ => F'
      rename News _ _ _ _ => N'
      have z := N' _ (.head _)
      rw [Int.fdiv_eq_ediv_of_nonneg _ (by decide), Int.fmod_eq_emod_of_nonneg _ (by decide)] at z
      refine h _ _ _ _ _ (fun b o e n => F'.keep b o (kg b o e n)) z.1 ?_
      cases q : s.heap.get? h₁.objs.size with
      | none => rfl
      | some o => exact absurd (Heap.lt_size (F.keep _ _ (kg _ _ q (by simp)))) (Nat.lt_irrefl _)
end
end Mine

open PySem PySem.W PySem.Calls PyProof.Rows
set_option Elab.async false
set_option maxRecDepth 100000
namespace Mine
noncomputable def nthDef : Nat → List Stmt → Stmt
  | 0, x :: _ => x
  | n + 1, _ :: r => nthDef n r
  | _, [] => .Pass default
noncomputable def innerB : Stmt → List Stmt
  | .FunctionDef _ _ (_ :: .FunctionDef _ _ b _ _ _ _ _ _ _ :: _) _ _ _ _ _ _ _ => b
  | .FunctionDef _ _ (.FunctionDef _ _ b _ _ _ _ _ _ _ :: _) _ _ _ _ _ _ _ => b
  | _ => []
noncomputable def innerS : Stmt → Scope
  | .FunctionDef _ _ (_ :: .FunctionDef _ _ _ _ _ _ s _ _ _ :: _) _ _ _ _ _ _ _ => s
  | .FunctionDef _ _ (.FunctionDef _ _ _ _ _ _ s _ _ _ :: _) _ _ _ _ _ _ _ => s
  | _ => default
noncomputable def innerP : Stmt → Arguments
  | .FunctionDef _ _ (_ :: .FunctionDef _ a _ _ _ _ _ _ _ _ :: _) _ _ _ _ _ _ _ => a
  | .FunctionDef _ _ (.FunctionDef _ a _ _ _ _ _ _ _ _ :: _) _ _ _ _ _ _ _ => a
  | _ => default
noncomputable abbrev dI : Stmt := nthDef 9 Challenge.pw_op0093_01.main.body
noncomputable abbrev dJ : Stmt := nthDef 10 Challenge.pw_op0093_01.main.body

section
variable {M : Model} {A : Around} {E : Value → Shared → Prop} {s : Shared} {h₀ : Heap} {L a : Addr} {m : Str → Option Value} {cn : Str} {cs : Scope} {ccd : Value} {cl : List (Str × Addr)} {x : Str} {pos : Pos} {v : Value} {Q : Value → Shared → Prop} {c : Addr} {o : Obj}
theorem nameX_G (F : Fr h₀ L s.heap m) (hc : cl.lookup x = some c) (hg : h₀.get? c = some o) (hd : o.data = .cell (some v)) (h : Q v s)
    (hk : cs.kind = .function := by rfl) (hx : (envX cn cs L a ccd cl).kindOf x = some .free := by rfl) (hb : (x == ("__debug__" : Str)) = false := by decide) (hn : (x == ("__classdict__" : Str)) = false := by decide) :
    wpAny M A (eval (.Name x pos) (envX cn cs L a ccd cl)) Q E s := wpAny_Name (wpAny_loadName_free hk hx hc ⟨o, F.keep _ _ hg, hd⟩ h hn) hb
theorem fnAt_G {h' : Heap} {q : Addr} {oc : Value} {od : Option Addr} {fd : FuncData} {sl : Array (Option Value)} (F : Fr h₀ L h' m) (h : h₀.get? q = some ⟨oc, od, .func fd, sl⟩) : FnAt q h' := ⟨oc, od, fd, sl, F.keep _ _ h⟩
end

local macro_rules | `(tactic| walk_at "eval Name") => `(tactic| (k_here; k_dflt (refine' nameX_G ?N ?c ?m ?d ?_ ?a ?b; (case a => rfl); (case b => rfl); (case N => k_asm); (case c => rfl); (case m => k_asm); (case d => k_asm); k_whole)))
local macro_rules | `(tactic| walk_at "callWith ref") => `(tactic| (k_here; k_dflt (refine' callWith_F ?k1 ?_; (case k1 => exact fnAt_G (by k_asm) (by assumption)); k_whole)))
local macro_rules | `(tactic| walk_at "FnAt") => `(tactic| (k_dflt (exact fnAt_G (by k_asm) (by assumption))))

section
variable {w : World} {b₀ : Heap} {loose : List Str} {mean : ExcName → Option Value} {mg mb : Str → Option Value}

theorem mid_facts {l r q d n : Nat} (hlr : l < r) (hne : (l : Int) + 1 ≠ (r : Int)) (hq : q = (l + r) / 2) (hd : r - l ≤ d + 1) (hr : r ≤ n) (h7 : n ≤ 7) :
    (l < q ∧ q < r ∧ q ≤ n ∧ q - l ≤ d ∧ r - q ≤ d) ∧ (r - q + (q - l) = r - l ∧ q - l ≤ 7 ∧ r - q ≤ 7 ∧ r - l ≤ 7) ∧ (((l : Int) + (r : Int)) / 2 = (q : Int) ∧ ((q : Int) - (l : Int)) * 13 = ((13 * (q - l) : Nat) : Int)) := by omega
theorem fit27 {b k : Nat} (h : b ≤ 91) (h2 : k ≤ 7) : (b : Int) + ((13 * k : Nat) : Int) ≤ 2 ^ 27 := by omega
theorem ar_hi {l q i : Nat} (h : l < q) (h2 : q ≤ i) : i - q = (i - l) - (q - l) := by omega
theorem ar_lo {l q i : Nat} (h : l ≤ i) (h2 : i < q) : i - l < q - l := by omega
theorem ar_no {l q r i : Nat} (h1 : ¬ (q ≤ i ∧ i < r)) (h2 : ¬ (l ≤ i ∧ i < q)) : ¬ (l ≤ i ∧ i < r) := by omega
set_option maxHeartbeats 2000000 in
theorem inn_call {qual : Str} {f c' D cA cN cI : Addr} {doc pm ctv : Value} {oA oN oI : Obj} {tN : Tok}
    (X₀ : (hd.heap_39 w.params).In b₀) (T : Top topProg loose mean mg mb b₀)
    (hf : b₀.get? f = some (fnMade "inner" qual (innerP dI) (innerB dI) (innerS dI) [("n", cN), ("inner", cI), ("a_digits", cA)] doc pm c' ctv))
    (hcd : b₀.CodeRec (.ref c') qual) (hA : b₀.get? cA = some oA) (hA' : oA.data = .cell (some (.ref D))) (hN : b₀.get? cN = some oN) (hN' : oN.data = .cell (some (.int 13 tN)))
    (hI : b₀.get? cI = some oI) (hI' : oI.data = .cell (some (.ref f))) (hb : b₀.get? D = none) (d : Nat) :
    ∀ {A : Around} {s : Shared} {Q E : Value → Shared → Prop} {vs : List Value} {ds : List Int} {n x l r : Nat} {t0 t1 t2 : Tok} (_ : b₀.StaysIn s.heap) (_ : A.depth + d < recursionLimit) (_ : s.heap.get? D = some (listOf vs.toArray n)) (_ : IntsAre vs ds) (_ : l < r) (_ : r ≤ ds.length)
      (_ : ds.length ≤ 7) (_ : r - l ≤ d) (_ : x < 8192 ^ (r - l))
      (_ : ∀ h' tk vs' (ds' : List Int) n', Kept [D] s.heap h' → h'.get? D = some (listOf vs'.toArray n') → IntsAre vs' ds' → ds'.length = ds.length → (∀ i, ds'.getD i 0 = if l ≤ i ∧ i < r then ((x / 8192 ^ (i - l) % 8192 : Nat) : Int) else ds.getD i 0) → Q .none { s with heap := h', toks := tk }),
      wpAny (model Challenge.rw_op0093_01.row.prog w) A (call (.ref f) [.int (x : Int) t0, .int (l : Int) t1, .int (r : Int) t2]) Q E s := by
  revert X₀; k_fill; intro X₀
  induction d with
  | zero => intros; omega
  | succ d ih =>
    intro A s Q E vs ds n x l r t0 t1 t2 st hroom hD hi hlr hr h7 hd hx h
    refine' enter_made (news := [(D, listOf vs.toArray n)]) (binds := [("x", .int x t0), ("L", .int l t1), ("R", .int r t2)]) X₀ T st ?hn (st _ _ hf) rfl (hcd.keeps st) (by omega) ?hbind ?hloc ?h ?c1 ?c2 ?c3 ?c4
    case hbind => exact BindsTo.of_eq rfl
    case hloc => exact locs rfl
    case c1 => exact rfl
    case c2 => exact rfl
    case c3 => exact rfl
    case c4 => decide +kernel
    case hn => intro q hq; cases hq with | head => exact ⟨hD, hb⟩ | tail _ h => cases h
    case h =>
      intro g L h₁ F N X T stg kg hL hlt; clear hL
      have hf := stg _ _ hf
      have hA := stg _ _ hA
      have hN := stg _ _ hN
      have hI := stg _ _ hI
      dsimp only [innerB, innerS, innerP, dI, nthDef, Challenge.pw_op0093_01] at hf ⊢
      (try k_unmd); k_fold
      walk_at "my go"
      · have hr1 : r = l + 1 := by omega
        subst hr1
        rename Fr _ _ _ _ => F
        dsimp only
        refine h _ _ _ _ _ (fun b o e n => F.keep b o (kg b o e n)) (News.get (by assumption) (.head _)) (by assumption) (by simp) (fun i => ?_)
        simp only [Int.toNat_natCast, List.getD_eq_getElem?_getD, List.getElem?_set]
        rw [show l + 1 - l = 1 from by omega, Nat.pow_one] at hx
        by_cases hil : l = i
        · subst hil
          rw [if_pos rfl, if_pos (by omega), if_pos ⟨Nat.le_refl _, by omega⟩, Nat.sub_self, Nat.pow_zero, Nat.div_one, Nat.mod_eq_of_lt hx]; rfl
        · rw [if_neg hil, if_neg (by omega)]
      · obtain ⟨q, hq⟩ : ∃ q, q = (l + r) / 2 := ⟨_, rfl⟩
        have e1 : ((l : Int) + (r : Int)).fdiv (2 ^ Int.toNat 1) = (q : Int) := by
          rw [show (2 ^ Int.toNat 1 : Int) = 2 from rfl, Int.fdiv_eq_ediv_of_nonneg _ (by decide)]; exact (mid_facts hlr (by assumption) hq hd hr h7).2.2.1
        have e2 : ((q : Int) - (l : Int)) * 13 = ((13 * (q - l) : Nat) : Int) := (mid_facts hlr (by assumption) hq hd hr h7).2.2.2
        obtain ⟨⟨m1, m2, m3, m4, m5⟩, ⟨m6, m7, m8, m9⟩, -⟩ := mid_facts hlr (by assumption) hq hd hr h7
        have e3 : (x : Int).fdiv (2 ^ Int.toNat ((13 * (q - l) : Nat) : Int)) = ((x / 8192 ^ (q - l) : Nat) : Int) := by
          rw [Int.toNat_natCast, ← pow_8192, Int.fdiv_eq_ediv_of_nonneg _ (by exact Int.pow_nonneg (by decide))]; push_cast; rfl
        have hup : x / 8192 ^ (q - l) < 8192 ^ (r - q) := by
          rw [Nat.div_lt_iff_lt_mul (Nat.pow_pos (by decide)), ← Nat.pow_add, m6]; exact hx
        simp only [e1, e2] at *
        refine rshift_int (Int.natCast_nonneg _) ?_
        rw [e3]
        dsimp only
        walk_at "my go"
        have hx7 : x < 2 ^ 91 := Nat.lt_of_lt_of_le hx (by rw [show (2 ^ 91 : Nat) = 8192 ^ 7 from by decide]; exact Nat.pow_le_pow_right (by decide) m9)
        have hu7 : x / 8192 ^ (q - l) < 2 ^ 91 := Nat.lt_of_le_of_lt (Nat.div_le_self _ _) hx7
        refine lshift_int (Int.natCast_nonneg _) (fit27 ((intBits_le_iff (m := 91) (x := ((x / 8192 ^ (q - l) : Nat) : Int))).mpr (by rw [Int.natAbs_natCast]; exact hu7)) m7) ?_
        have e4 : Builtin.bitXor (x : Int) (((x / 8192 ^ (q - l) : Nat) : Int) * 2 ^ Int.toNat ((13 * (q - l) : Nat) : Int)) = ((x % 8192 ^ (q - l) : Nat) : Int) := by
          rw [Int.toNat_natCast, ← pow_8192]; exact xor_low _ _
        dsimp only
        walk_at "my go"
        simp only [e4] at *
        rename Fr _ _ _ _ => F
        rename News _ _ _ _ => N
        refine' ih (ds := ds) ?y1 ?y2 ?y3 ?y4 ?y5 ?y6 ?y7 ?y8 ?y9 ?_
        case y1 => exact fun b o e => F.keep b o (stg b o e)
        case y2 => simp only [depth_deeper]; omega
        case y3 => exact N.get (.head _)
        case y4 => exact hi
        case y5 => exact m1
        case y6 => exact m3
        case y7 => exact h7
        case y8 => exact m4
        case y9 => exact Nat.mod_lt _ (Nat.pow_pos (by decide))
        intro h' tk vs' ds' n' k' ha' hi' hl' hv'
        obtain ⟨F', N'⟩ := kept_upd F N (.head (List.forall_mem_nil _)) k' ha'
        clear F N
        walk_at "my go"
        rename Fr _ _ _ _ => F
        rename News _ _ _ _ => N
        refine' ih (ds := ds') ?y1 ?y2 ?y3 ?y4 ?y5 ?y6 ?y7 ?y8 ?y9 ?_
        case y1 => exact fun b o e => F.keep b o (stg b o e)
        case y2 => simp only [depth_deeper]; omega
        case y3 => exact N.get (.head _)
        case y4 => exact hi'
        case y5 => exact m2
        case y6 => rw [hl']; exact hr
        case y7 => rw [hl']; exact h7
        case y8 => exact m5
        case y9 => exact hup
        intro h'' tk vs'' ds'' n'' k'' ha'' hi'' hl'' hv''
        obtain ⟨F', N'⟩ := kept_upd F N (.head (List.forall_mem_nil _)) k'' ha''
        clear F N
        walk_at "my go"
        dsimp only
        refine h _ _ _ _ _ (fun b o e n => F'.keep b o (kg b o e n)) ha'' hi'' (hl''.trans hl') (fun i => ?_)
        rw [hv'', hv']
        by_cases h1 : q ≤ i ∧ i < r
        · rw [if_pos h1, if_pos ⟨Nat.le_trans (Nat.le_of_lt m1) h1.1, h1.2⟩, ar_hi m1 h1.1, dig_high _ _ _ (Nat.sub_le_sub_right h1.1 l)]
        · rw [if_neg h1]
          by_cases h2 : l ≤ i ∧ i < q
          · rw [if_pos h2, if_pos ⟨h2.1, Nat.lt_trans h2.2 m2⟩, dig_low _ _ _ (ar_lo h2.1 h2.2)]
          · rw [if_neg h2, if_neg (ar_no h1 h2)]
end

open PySem PySem.W PySem.Calls PyProof.Rows
set_option Elab.async false
set_option maxRecDepth 100000

noncomputable def val : List Int → Int
  | [] => 0
  | d :: r => d + 8192 * val r
theorem val_append (xs ys : List Int) : val (xs ++ ys) = val xs + 8192 ^ xs.length * val ys := by
  induction xs with
  | nil => simp [val]
  | cons d r ih =>
    simp only [List.cons_append, val, List.length_cons, ih, Int.pow_succ, Int.mul_add]
    rw [Int.mul_comm (8192 ^ r.length) 8192, Int.mul_assoc]; omega
theorem val_range {xs : List Int} (h : ∀ d ∈ xs, 0 ≤ d ∧ d < 8192) : 0 ≤ val xs ∧ val xs < 8192 ^ xs.length := by
  induction xs with
  | nil => simp [val]
  | cons d r ih =>
    have h1 := h d (.head _)
    have h2 := ih fun x hx => h x (.tail _ hx)
    simp only [val, List.length_cons, Int.pow_succ]
    omega
theorem seg_split (ds : List Int) {l q r : Nat} (h1 : l ≤ q) (h2 : q ≤ r) (h3 : r ≤ ds.length) : (ds.drop l).take (r - l) = (ds.drop l).take (q - l) ++ (ds.drop q).take (r - q) := by
  have e : r - l = (q - l) + (r - q) := by omega
  rw [e, List.take_add, List.drop_drop]
  congr 3; omega
theorem seg_one (ds : List Int) {l : Nat} (h : l < ds.length) : (ds.drop l).take (l + 1 - l) = [ds.getD l 0] := by
  rw [show l + 1 - l = 1 from by omega, List.drop_eq_getElem_cons h, List.take_succ_cons, List.take_zero]
  simp only [List.getD_eq_getElem?_getD, List.getElem?_eq_getElem h, Option.getD_some]


section
variable {w : World} {b₀ : Heap} {loose : List Str} {mean : ExcName → Option Value} {mg mb : Str → Option Value}

set_option maxHeartbeats 2000000 in
theorem jnn_call {qual : Str} {f c' D cA cN cI : Addr} {doc pm ctv : Value} {oA oN oI : Obj} {tN : Tok} {vs : List Value} {ds : List Int}
    (X₀ : (hd.heap_39 w.params).In b₀) (T : Top topProg loose mean mg mb b₀)
    (hf : b₀.get? f = some (fnMade "inner" qual (innerP dJ) (innerB dJ) (innerS dJ) [("n", cN), ("inner", cI), ("digits", cA)] doc pm c' ctv))
    (hcd : b₀.CodeRec (.ref c') qual) (hA : b₀.get? cA = some oA) (hA' : oA.data = .cell (some (.ref D))) (hN : b₀.get? cN = some oN) (hN' : oN.data = .cell (some (.int 13 tN)))
    (hI : b₀.get? cI = some oI) (hI' : oI.data = .cell (some (.ref f))) (hl : b₀.IsList D vs.toArray) (hi : IntsAre vs ds) (h7 : ds.length ≤ 7) (hds : ∀ d ∈ ds, 0 ≤ d ∧ d < 8192) (d : Nat) :
    ∀ {A : Around} {s : Shared} {Q E : Value → Shared → Prop} {l r : Nat} {t1 t2 : Tok} (_ : b₀.StaysIn s.heap) (_ : A.depth + d < recursionLimit) (_ : l < r) (_ : r ≤ ds.length) (_ : r - l ≤ d)
      (_ : ∀ h' tk t, Kept [] s.heap h' → Q (.int (val ((ds.drop l).take (r - l))) t) { s with heap := h', toks := tk }),
      wpAny (model Challenge.rw_op0093_01.row.prog w) A (call (.ref f) [.int (l : Int) t1, .int (r : Int) t2]) Q E s := by
  revert X₀; k_fill; intro X₀
  induction d with
  | zero => intros; omega
  | succ d ih =>
    intro A s Q E l r t1 t2 st hroom hlr hr hd h
    refine' enter_made (news := []) (binds := [("L", .int l t1), ("R", .int r t2)]) X₀ T st ?hn (st _ _ hf) rfl (hcd.keeps st) (by omega) ?hbind ?hloc ?h ?c1 ?c2 ?c3 ?c4
    case hbind => exact BindsTo.of_eq rfl
    case hloc => exact locs rfl
    case c1 => exact rfl
    case c2 => exact rfl
    case c3 => exact rfl
    case c4 => decide +kernel
    case hn => intro q hq; cases hq
    case h =>
      intro g L h₁ F N X T stg kg hL hlt; clear hL
      have hf := stg _ _ hf
      have hA := stg _ _ hA
      have hN := stg _ _ hN
      have hI := stg _ _ hI
      have hl := hl.at fun o e => stg _ o e
      dsimp only [innerB, innerS, innerP, dJ, nthDef, Challenge.pw_op0093_01] at hf ⊢
      (try k_unmd); k_fold
      walk_at "my go"
      · have hr1 : r = l + 1 := by omega
        subst hr1
        dsimp only
        rw [Int.toNat_natCast]
        have e0 : val ((ds.drop l).take (l + 1 - l)) = ds.getD l 0 := by rw [seg_one ds (by omega)]; simp [val]
        rw [← e0]
        exact h _ _ _ (fun b o e n => F.keep b o (kg b o e n))
      · obtain ⟨q, hq⟩ : ∃ q, q = (l + r) / 2 := ⟨_, rfl⟩
        have e1 : ((l : Int) + (r : Int)).fdiv (2 ^ Int.toNat 1) = (q : Int) := by
          rw [show (2 ^ Int.toNat 1 : Int) = 2 from rfl, Int.fdiv_eq_ediv_of_nonneg _ (by decide)]; exact (mid_facts hlr (by assumption) hq hd hr h7).2.2.1
        have e2 : ((q : Int) - (l : Int)) * 13 = ((13 * (q - l) : Nat) : Int) := (mid_facts hlr (by assumption) hq hd hr h7).2.2.2
        obtain ⟨⟨m1, m2, m3, m4, m5⟩, ⟨m6, m7, m8, m9⟩, -⟩ := mid_facts hlr (by assumption) hq hd hr h7
        simp only [e1, e2] at *
        rename Fr _ _ _ _ => F
        rename News _ _ _ _ => N
        refine' ih ?y1 ?y2 ?y3 ?y4 ?y5 ?_
        case y1 => exact fun b o e => F.keep b o (stg b o e)
        case y2 => simp only [depth_deeper]; omega
        case y3 => exact m2
        case y4 => exact hr
        case y5 => exact m5
        intro h' tk t' k'
        have F' := fr_kept F k' (by simp) (by simp)
        have N' : News g L h' [] := fun _ hq => nomatch hq
        clear F N
        have hrng := val_range (xs := (ds.drop q).take (r - q)) fun d hd => hds d (List.mem_of_mem_drop (List.mem_of_mem_take hd))
        have hlen1 : ((ds.drop q).take (r - q)).length = r - q := by rw [List.length_take, List.length_drop]; exact Nat.min_eq_left (Nat.sub_le_sub_right hr q)
        have hlen2 : ((ds.drop l).take (q - l)).length = q - l := by rw [List.length_take, List.length_drop]; exact Nat.min_eq_left (Nat.sub_le_sub_right m3 l)
        have h91 : val ((ds.drop q).take (r - q)) < 2 ^ 91 := by
          refine Int.lt_of_lt_of_le hrng.2 ?_
          rw [hlen1, show (2 ^ 91 : Int) = 8192 ^ 7 from by decide]
          exact_mod_cast Nat.pow_le_pow_right (show 0 < 8192 by decide) m8
        have hsp := seg_split ds (l := l) (q := q) (r := r) (Nat.le_of_lt m1) (Nat.le_of_lt m2) hr
        generalize hv : val ((ds.drop q).take (r - q)) = v at *
        walk_at "my go"
        refine lshift_int (Int.natCast_nonneg _) (fit27 ((intBits_le_iff (m := 91) (x := v)).mpr (by omega)) m7) ?_
        walk_at "my go"
        refine' ih ?y1 ?y2 ?y3 ?y4 ?y5 ?_
        case y1 => exact fun b o e => F'.keep b o (stg b o e)
        case y2 => simp only [depth_deeper]; omega
        case y3 => exact m1
        case y4 => exact m3
        case y5 => exact m4
        intro h'' tk t'' k''
        have F'' := fr_kept F' k'' (by simp) (by simp)
        clear F' N'
        walk_at "my go"
        dsimp only
        have e5 : v * 2 ^ Int.toNat ((13 * (q - l) : Nat) : Int) + val ((ds.drop l).take (q - l)) = val ((ds.drop l).take (r - l)) := by
          rw [hsp, val_append, hlen2, hv, Int.toNat_natCast, Int.pow_mul, Int.mul_comm v, Int.add_comm]; rfl
        rw [e5]
        exact h _ _ _ (fun b o e n => F''.keep b o (kg b o e n))
end
end Mine

open PySem PySem.W PySem.Calls PyProof.Rows
set_option Elab.async false
set_option maxRecDepth 100000
namespace Mine

noncomputable def qI : Str := (("_int2digits" : Str) ++ (".<locals>." : Str)) ++ ("inner" : Str)
noncomputable def qJ : Str := (("_digits2int" : Str) ++ (".<locals>." : Str)) ++ ("inner" : Str)
noncomputable def TabOk (h : Heap) (P : Addr) (line col : Nat) (qual : Str) : Prop :=
  ∃ ps, h.get? P = some (tabObj ps) ∧ (ps = #[] ∨ ∃ c' oc vsc tq, ps = #[rawInt line, rawInt col, .ref c'] ∧ h.get? c' = some oc ∧ oc.data = .fields vsc ∧ vsc[1]? = some (.str qual tq))
theorem TabOk.kept {as : List Addr} {h h' : Heap} {P : Addr} {line col : Nat} {qual : Str} (x : TabOk h P line col qual) (k : ∀ b o, h.get? b = some o → h'.get? b = some o) : TabOk h' P line col qual := by
  obtain ⟨ps, e, r⟩ := x
  refine ⟨ps, k _ _ e, r.imp id ?_⟩
  rintro ⟨c', oc, vsc, tq, e1, e2, e3⟩
  exact ⟨c', oc, vsc, tq, e1, k _ _ e2, e3⟩

/-- all but D: a ground -/
theorem ground1 {g h : Heap} {L D : Addr} {m : Str → Option Value} (F : Fr g L h m) (hg : g.get? D = none) :
    g.StaysIn (hideAll h [D]) ∧ (hideAll h [D]).StaysIn h ∧ (hideAll h [D]).get? D = none ∧ ∀ c o, h.get? c = some o → c ≠ D → (hideAll h [D]).get? c = some o :=
  ⟨fun b o e => hideAll_get _ (F.keep b o e) (fun q => by rw [List.mem_singleton.mp q, hg] at e; cases e), fun b o e => of_hideAll _ e, hideAll_none _ (.head _), fun c o e n => hideAll_get _ e (fun q => n (List.mem_singleton.mp q))⟩

theorem ints_replicate (k : Nat) (t : Tok) : IntsAre (List.replicate k (Value.int 0 t)) (List.replicate k 0) := by
  induction k with
  | zero => exact .nil
  | succ k ih => rw [List.replicate_succ, List.replicate_succ]; exact .cons _ _ ih

noncomputable def ndig (x : Nat) : Nat := (Builtin.Int.intBits (x : Int) + 12) / 13
theorem lt_ndig (x : Nat) : x < 8192 ^ ndig x := by
  have h := (intBits_le_iff (m := 13 * ndig x) (x := (x : Int))).mp (by unfold ndig; omega)
  rw [Int.natAbs_natCast, pow_8192] at h
  exact h
theorem ndig_zero : ndig 0 = 0 := by decide


section
variable {w : World} {A : Around} {s : Shared} {b₀ : Heap} {loose : List Str} {mean : ExcName → Option Value} {mg mb : Str → Option Value} {Q : Value → Shared → Prop} {E : Value → Shared → Prop}

set_option maxHeartbeats 4000000 in
theorem i2d_call {x : Nat} {t0 t1 : Tok}
    (X₀ : (hd.heap_39 w.params).In b₀) (T : Top topProg loose mean mg mb b₀) (C : CodeHd b₀ 62 58) (st : b₀.StaysIn s.heap) (hroom : A.depth + 20 < recursionLimit) (hx1 : x < 2 ^ 90)
    (hb : b₀.get? 58 = none) (ht : TabOk s.heap 58 69 4 qI)
    (h : ∀ h' tk D vs (ds : List Int) n, Kept [58] s.heap h' → TabOk h' 58 69 4 qI → h'.get? D = some (listOf vs.toArray n) → s.heap.get? D = none → IntsAre vs ds → ds.length = ndig x → (∀ i, i < ndig x → ds.getD i 0 = ((x / 8192 ^ i % 8192 : Nat) : Int)) → Q (.ref D) { s with heap := h', toks := tk }) :
    wpAny (model Challenge.rw_op0093_01.row.prog w) A (call (.ref 63) [.int (x : Int) t0, .int 13 t1]) Q E s := by
  revert X₀; k_fill; intro X₀
  have hbits : Builtin.Int.intBits (x : Int) ≤ 90 := intBits_le_iff.mpr (by omega)
  obtain ⟨ps, ht1, ht2⟩ := ht
  refine' enter_defC (news := [(58, tabObj ps)]) (binds := [("a", .int x t0), ("n", .int 13 t1)]) X₀ T st ?hn ?ho ?hcd (by omega) ?hbind ?hkind ?hnd ?h ?c1 ?c2 ?c3
  walk_at "my casesC"
  case hn => intro q hq; cases hq with | head => exact ⟨ht1, hb⟩ | tail _ h => cases h
  case h =>
    intro g L h₁ tk cells F N CL X T stg kg hL hlt; clear hL
    clear X₀
    replace C := C.keeps stg
    k_lt hlt
    k_cells CL
    simp only [List.cons_append, List.nil_append] at N
    (try k_unmd); k_fold
    iterate 22 walk1
    dsimp only
    obtain ⟨k, hk⟩ : ∃ k : Nat, k = ndig x := ⟨_, rfl⟩
    have hk7 : k ≤ 7 := by rw [hk]; unfold ndig; omega
    rw [show ((Builtin.Int.intBits (x : Int) : Int) + 13 - 1).fdiv 13 = (k : Int) from by rw [Int.fdiv_eq_ediv_of_nonneg _ (by decide), hk]; unfold ndig; omega]
    rename Fr _ _ _ _ => F
    rename News _ _ _ _ => N
    refine KMa.mul F N (vs := [Value.int 0 tk]) (ws := List.replicate k (Value.int 0 tk)) (PySem.IsL.isList (n := 0) (N.get (.head _))) (by omega) (by omega) (by simp; omega) (by simp) ?_
    intro D h' F' N' hlt'
    replace N' : News g L h' _ := fun q hq => N' q (by rcases List.mem_cons.mp hq with rfl | hq; exact .head _; exact .tail _ (.tail _ hq))
    k_lt hlt'
    clear F N
    have hrep := ints_replicate k tk
    have hD58 : D ≠ 58 := by k_ne
    rcases ht2 with rfl | ⟨c', oc, vsc, tq, rfl, hc1, hc2, hc3⟩
    · walk_at "my go"
      · refine len_ints_fit (PySem.IsL.isList (n := 0) (News.get (by assumption) (.tail _ (.tail _ (.head _))))) hrep (by simp; omega) ?_
        simp only [List.length_replicate]
        walk_at "my go"
        rename Fr _ _ _ _ => F
        rename News _ _ _ _ => N
        obtain ⟨g1, g2, g3, g4⟩ := ground1 F (N.fresh (.tail _ (.tail _ (.head _))))
        refine' inn_call (l := 0) (r := k) (ds := List.replicate k 0) (X.keeps g1) (T.keeps g1) (g4 _ _ (N.get (.head _)) (by k_ne)) ⟨_, _, _, _, rfl, g4 _ _ (N.get (.tail _ (.head _))) (by k_ne), by assumption, by assumption⟩ (g4 _ _ (N.get (.tail _ (.tail _ (.tail _ (.tail _ (.head _)))))) (by k_ne)) (by assumption)
          (g4 _ _ (N.get (.tail _ (.tail _ (.tail _ (.tail _ (.tail _ (.head _))))))) (by k_ne)) (by assumption) (g4 _ _ (N.get (.tail _ (.tail _ (.tail _ (.head _))))) (by k_ne)) (by assumption) g3 k g2 ?y2 (N.get (.tail _ (.tail _ (.head _)))) hrep ?y5 ?y6 ?y7 ?y8 ?y9 ?_
        case y2 => simp only [depth_deeper]; omega
        case y5 =>
          cases k with
          | zero => exfalso; have := lt_ndig x; rw [← hk] at this; omega
          | succ k => omega
        case y6 => simp
        case y7 => simp; exact hk7
        case y8 => omega
        case y9 => rw [hk]; exact lt_ndig x
        intro h' tk vs' ds' n' k' ha' hi' hl' hv'
        obtain ⟨F', N'⟩ := kept_upd F N (by k_upd) k' ha'
        clear F N g1 g2 g3 g4
        walk_at "my go"
        dsimp only
        rename Fr _ _ _ _ => F
        rename News _ _ _ _ => N
        refine h _ _ _ _ _ _ (fun b o e n => F.keep b o (kg b o e n)) ⟨_, N.get (.tail _ (.tail _ (.tail _ (.tail _ (.tail _ (.tail _ (.head _))))))), .inr ⟨_, _, _, _, rfl, N.get (.tail _ (.head _)), by assumption, by assumption⟩⟩ ha' ?_ hi' (by rw [hl', List.length_replicate, hk]) (fun i hi => ?_)
        · cases q : s.heap.get? D with
          | none => rfl
          | some o => have := N.fresh (.tail _ (.tail _ (.head _))); rw [kg _ _ q (by simpa using hD58)] at this; cases this
        · rw [hv', if_pos ⟨Nat.zero_le _, by omega⟩, Nat.sub_zero]
      · have hx0 : x = 0 := by omega
        have hk0 : k = 0 := by rw [hk, hx0, ndig_zero]
        subst hk0
        dsimp only
        rename Fr _ _ _ _ => F
        rename News _ _ _ _ => N
        refine h _ _ _ _ _ _ (fun b o e n => F.keep b o (kg b o e n)) ⟨_, N.get (.tail _ (.tail _ (.tail _ (.tail _ (.tail _ (.tail _ (.head _))))))), .inr ⟨_, _, _, _, rfl, N.get (.tail _ (.head _)), by assumption, by assumption⟩⟩ (N.get (.tail _ (.tail _ (.head _)))) ?_ hrep (by rw [List.length_replicate, hk]) (fun i hi => by omega)
        cases q : s.heap.get? D with
        | none => rfl
        | some o => have := N.fresh (.tail _ (.tail _ (.head _))); rw [kg _ _ q (by simpa using hD58)] at this; cases this
    · have hc58 : c' ≠ 58 := fun q => by rw [q, ht1] at hc1; cases hc1; cases hc2; simp [rawInt] at hc3
      walk_at "my go"
      · refine len_ints_fit (PySem.IsL.isList (n := 0) (News.get (by assumption) (.tail _ (.head _)))) hrep (by simp; omega) ?_
        simp only [List.length_replicate]
        walk_at "my go"
        rename Fr _ _ _ _ => F
        rename News _ _ _ _ => N
        obtain ⟨g1, g2, g3, g4⟩ := ground1 F (N.fresh (.tail _ (.head _)))
        refine' inn_call (l := 0) (r := k) (ds := List.replicate k 0) (X.keeps g1) (T.keeps g1) (g4 _ _ (N.get (.head _)) (by k_ne)) ⟨_, _, _, _, rfl, g1 _ _ (kg _ _ hc1 (by simpa using hc58)), hc2, hc3⟩ (g4 _ _ (N.get (.tail _ (.tail _ (.tail _ (.head _))))) (by k_ne)) (by assumption)
          (g4 _ _ (N.get (.tail _ (.tail _ (.tail _ (.tail _ (.head _)))))) (by k_ne)) (by assumption) (g4 _ _ (N.get (.tail _ (.tail _ (.head _)))) (by k_ne)) (by assumption) g3 k g2 ?y2 (N.get (.tail _ (.head _))) hrep ?y5 ?y6 ?y7 ?y8 ?y9 ?_
        case y2 => simp only [depth_deeper]; omega
        case y5 =>
          cases k with
          | zero => exfalso; have := lt_ndig x; rw [← hk] at this; omega
          | succ k => omega
        case y6 => simp
        case y7 => simp; exact hk7
        case y8 => omega
        case y9 => rw [hk]; exact lt_ndig x
        intro h' tk vs' ds' n' k' ha' hi' hl' hv'
        obtain ⟨F', N'⟩ := kept_upd F N (by k_upd) k' ha'
        clear F N g1 g2 g3 g4
        walk_at "my go"
        dsimp only
        rename Fr _ _ _ _ => F
        rename News _ _ _ _ => N
        refine h _ _ _ _ _ _ (fun b o e n => F.keep b o (kg b o e n)) ⟨_, N.get (.tail _ (.tail _ (.tail _ (.tail _ (.tail _ (.head _)))))), .inr ⟨_, _, _, _, rfl, F.keep _ _ (kg _ _ hc1 (by simpa using hc58)), hc2, hc3⟩⟩ ha' ?_ hi' (by rw [hl', List.length_replicate, hk]) (fun i hi => ?_)
        · cases q : s.heap.get? D with
          | none => rfl
          | some o => have := N.fresh (.tail _ (.head _)); rw [kg _ _ q (by simpa using hD58)] at this; cases this
        · rw [hv', if_pos ⟨Nat.zero_le _, by omega⟩, Nat.sub_zero]
      · have hx0 : x = 0 := by omega
        have hk0 : k = 0 := by rw [hk, hx0, ndig_zero]
        subst hk0
        dsimp only
        rename Fr _ _ _ _ => F
        rename News _ _ _ _ => N
        refine h _ _ _ _ _ _ (fun b o e n => F.keep b o (kg b o e n)) ⟨_, N.get (.tail _ (.tail _ (.tail _ (.tail _ (.tail _ (.head _)))))), .inr ⟨_, _, _, _, rfl, F.keep _ _ (kg _ _ hc1 (by simpa using hc58)), hc2, hc3⟩⟩ (N.get (.tail _ (.head _))) ?_ hrep (by rw [List.length_replicate, hk]) (fun i hi => by omega)
        cases q : s.heap.get? D with
        | none => rfl
        | some o => have := N.fresh (.tail _ (.head _)); rw [kg _ _ q (by simpa using hD58)] at this; cases this
end
end Mine

open PySem PySem.W PySem.Calls PyProof.Rows
set_option Elab.async false
set_option maxRecDepth 100000
namespace Mine

section
variable {w : World} {A : Around} {s : Shared} {b₀ : Heap} {loose : List Str} {mean : ExcName → Option Value} {mg mb : Str → Option Value} {Q : Value → Shared → Prop} {E : Value → Shared → Prop}

set_option maxHeartbeats 4000000 in
theorem d2i_call {D : Addr} {vs : List Value} {ds : List Int} {n : Nat} {t1 : Tok}
    (X₀ : (hd.heap_39 w.params).In b₀) (T : Top topProg loose mean mg mb b₀) (C : CodeHd b₀ 69 65) (st : b₀.StaysIn s.heap) (hroom : A.depth + 20 < recursionLimit)
    (hb : b₀.get? 65 = none) (ht : TabOk s.heap 65 84 4 qJ) (hD : s.heap.get? D = some (listOf vs.toArray n)) (hi : IntsAre vs ds) (h7 : ds.length ≤ 7) (hds : ∀ d ∈ ds, 0 ≤ d ∧ d < 8192)
    (h : ∀ h' tk t, Kept [65] s.heap h' → TabOk h' 65 84 4 qJ → Q (.int (val ds) t) { s with heap := h', toks := tk }) :
    wpAny (model Challenge.rw_op0093_01.row.prog w) A (call (.ref 70) [.ref D, .int 13 t1]) Q E s := by
  revert X₀; k_fill; intro X₀
  obtain ⟨ps, ht1, ht2⟩ := ht
  have hD65 : D ≠ 65 := fun q => by rw [q, ht1] at hD; cases hD
  refine' enter_defC (news := [(65, tabObj ps)]) (binds := [("digits", .ref D), ("n", .int 13 t1)]) X₀ T st ?hn ?ho ?hcd (by omega) ?hbind ?hkind ?hnd ?h ?c1 ?c2 ?c3
  walk_at "my casesC"
  case hn => intro q hq; cases hq with | head => exact ⟨ht1, hb⟩ | tail _ h => cases h
  case h =>
    intro g L h₁ tk cells F N CL X T stg kg hL hlt; clear hL
    clear X₀
    replace C := C.keeps stg
    have hgD : g.IsList D vs.toArray := PySem.IsL.isList (n := n) (kg _ _ hD (by simpa using hD65))
    k_lt hlt
    k_cells CL
    simp only [List.cons_append, List.nil_append] at N
    (try k_unmd); k_fold
    rcases ht2 with rfl | ⟨c', oc, vsc, tq, rfl, hc1, hc2, hc3⟩
    · walk_at "my go'"
      refine truthy_ints_fit (hgD.at fun o e => Fr.keep (by assumption) _ o e) hi (by omega) ?_
      by_cases h0 : 0 < ds.length
      · rw [if_pos (by simpa using h0)]
        walk_at "my go'"
        rename Fr _ _ _ _ => F
        rename News _ _ _ _ => N
        refine' jnn_call (l := 0) (r := ds.length) (X.keeps F.keep) (T.keeps F.keep) (N.get (.head _)) ⟨_, _, _, _, rfl, N.get (.tail _ (.head _)), by assumption, by assumption⟩ (N.get (.tail _ (.tail _ (.tail _ (.tail _ (.head _)))))) (by assumption) (N.get (.tail _ (.tail _ (.tail _ (.head _))))) (by assumption) (N.get (.tail _ (.tail _ (.head _)))) (by assumption)
          (hgD.at fun o e => F.keep _ o e) hi h7 hds ds.length (fun b o e => e) ?y2 h0 (Nat.le_refl _) (by omega) ?_
        case y2 => simp only [depth_deeper]; omega
        intro h' tk t' k'
        have F' := fr_kept F k' (by simp) (by simp)
        have N' := news_kept N k' (by simp)
        clear F N
        walk_at "my go'"
        rename Fr _ _ _ _ => F
        rename News _ _ _ _ => N
        dsimp only
        rw [List.drop_zero, Nat.sub_zero, List.take_length]
        exact h _ _ _ (fun b o e n => F.keep b o (kg b o e n)) ⟨_, N.get (.tail _ (.tail _ (.tail _ (.tail _ (.tail _ (.head _)))))), .inr ⟨_, _, _, _, rfl, N.get (.tail _ (.head _)), by assumption, by assumption⟩⟩
      · rw [if_neg (by simpa using h0)]
        have hn : ds = [] := List.length_eq_zero_iff.mp (by omega)
        walk_at "my go'"
        dsimp only
        rename Fr _ _ _ _ => F
        rename News _ _ _ _ => N
        subst hn
        exact h _ _ _ (fun b o e n => F.keep b o (kg b o e n)) ⟨_, N.get (.tail _ (.tail _ (.tail _ (.tail _ (.tail _ (.head _)))))), .inr ⟨_, _, _, _, rfl, N.get (.tail _ (.head _)), by assumption, by assumption⟩⟩
    · have hc65 : c' ≠ 65 := fun q => by rw [q, ht1] at hc1; cases hc1; cases hc2; simp [rawInt] at hc3
      walk_at "my go'"
      refine truthy_ints_fit (hgD.at fun o e => Fr.keep (by assumption) _ o e) hi (by omega) ?_
      by_cases h0 : 0 < ds.length
      · rw [if_pos (by simpa using h0)]
        walk_at "my go'"
        rename Fr _ _ _ _ => F
        rename News _ _ _ _ => N
        refine' jnn_call (l := 0) (r := ds.length) (X.keeps F.keep) (T.keeps F.keep) (N.get (.head _)) ⟨_, _, _, _, rfl, F.keep _ _ (kg _ _ hc1 (by simpa using hc65)), hc2, hc3⟩ (N.get (.tail _ (.tail _ (.tail _ (.head _))))) (by assumption) (N.get (.tail _ (.tail _ (.head _)))) (by assumption) (N.get (.tail _ (.head _))) (by assumption)
          (hgD.at fun o e => F.keep _ o e) hi h7 hds ds.length (fun b o e => e) ?y2 h0 (Nat.le_refl _) (by omega) ?_
        case y2 => simp only [depth_deeper]; omega
        intro h' tk t' k'
        have F' := fr_kept F k' (by simp) (by simp)
        have N' := news_kept N k' (by simp)
        clear F N
        walk_at "my go'"
        rename Fr _ _ _ _ => F
        rename News _ _ _ _ => N
        dsimp only
        rw [List.drop_zero, Nat.sub_zero, List.take_length]
        exact h _ _ _ (fun b o e n => F.keep b o (kg b o e n)) ⟨_, N.get (.tail _ (.tail _ (.tail _ (.tail _ (.head _))))), .inr ⟨_, _, _, _, rfl, F.keep _ _ (kg _ _ hc1 (by simpa using hc65)), hc2, hc3⟩⟩
      · rw [if_neg (by simpa using h0)]
        have hn : ds = [] := List.length_eq_zero_iff.mp (by omega)
        walk_at "my go'"
        dsimp only
        rename Fr _ _ _ _ => F
        rename News _ _ _ _ => N
        subst hn
        exact h _ _ _ (fun b o e n => F.keep b o (kg b o e n)) ⟨_, N.get (.tail _ (.tail _ (.tail _ (.tail _ (.head _))))), .inr ⟨_, _, _, _, rfl, F.keep _ _ (kg _ _ hc1 (by simpa using hc65)), hc2, hc3⟩⟩
end
end Mine

open PySem PySem.W PySem.Calls PyProof.Rows
set_option Elab.async false
set_option maxRecDepth 100000
namespace Mine

/-- all that `h` holds beside the ground, the frame and `ex`, as a ledger -/
noncomputable def restOf (g : Heap) (L : Addr) (ex : List Addr) (h : Heap) : List (Addr × Obj) :=
  (List.range h.objs.size).filterMap fun b => match h.get? b, g.get? b with
    | some o, none => if b = L ∨ b ∈ ex then none else some (b, o)
    | _, _ => none
theorem mem_restOf {g : Heap} {L : Addr} {ex : List Addr} {h : Heap} {b : Addr} {o : Obj} : (b, o) ∈ restOf g L ex h ↔ h.get? b = some o ∧ g.get? b = none ∧ b ≠ L ∧ b ∉ ex := by
  unfold restOf
  rw [List.mem_filterMap]
  constructor
  · rintro ⟨c, hc, e⟩
    split at e
    · rename_i o' h1 h2
      split at e
      · cases e
      · rename_i hn
        cases e
        exact ⟨h1, h2, fun q => hn (.inl q), fun q => hn (.inr q)⟩
    · cases e
  · rintro ⟨h1, h2, h3, h4⟩
    refine ⟨b, List.mem_range.mpr (Heap.lt_size h1), ?_⟩
    rw [h1, h2]
    simp [h3, h4]
theorem rest_news (g : Heap) (L : Addr) (ex : List Addr) (h : Heap) : News g L h (restOf g L ex h) := fun p hp => by
  have := mem_restOf.mp (show (p.1, p.2) ∈ _ from hp)
  exact ⟨this.1, this.2.2.1, this.2.1⟩
theorem rest_off (g : Heap) (L : Addr) (ex : List Addr) (h : Heap) : OwnOff (restOf g L ex h) ex := fun p hp b hb e => by
  have := mem_restOf.mp (show (p.1, p.2) ∈ _ from hp)
  exact this.2.2.2 (e ▸ hb)
theorem rest_kept {g : Heap} {L : Addr} {ex : List Addr} {h h' : Heap} {m : Str → Option Value} {news : List (Addr × Obj)} (F : Fr g L h' m) (N : News g L h' news) (hs : ∀ p ∈ restOf g L ex h, p ∈ news) (hk : ∀ b o, g.get? b = some o → h.get? b = some o) :
    Kept (L :: ex) h h' := fun b o e n => by
  cases q : g.get? b with
  | some o' => have := hk b o' q; rw [e] at this; rw [Option.some.inj this]; exact F.keep b o' q
  | none => exact N.get (hs _ (mem_restOf.mpr ⟨e, q, fun x => n (x ▸ .head _), fun x => n (.tail _ x)⟩))
theorem off_of_lt {own : List (Addr × Obj)} {d : Addr} (h : AllLt d own) : OwnOff own [d] := by
  intro p hp b hb e
  rw [List.mem_singleton.mp hb] at e
  have key : ∀ l : List (Addr × Obj), AllLt d l → ∀ p ∈ l, (p.1 : Nat) < d := by
    intro l
    induction l with
    | nil => intro _ p hp; cases hp
    | cons x r ih => rintro ⟨h1, h2⟩ p hp; rcases List.mem_cons.mp hp with rfl | hp; exact h1; exact ih h2 p hp
  have := key own h p hp
  rw [e] at this; exact absurd this (Nat.lt_irrefl _)

theorem all_in {g h h₁ : Heap} {L : Addr} {m : Str → Option Value} {news : List (Addr × Obj)} (F : Fr g L h₁ m) (N : News g L h₁ news) (k : Kept (news.map (·.1)) h g) (hn : ∀ q ∈ news, h.get? q.1 = some q.2) : ∀ b o, h.get? b = some o → h₁.get? b = some o := fun b o e => by
  by_cases q : b ∈ news.map (·.1)
  · obtain ⟨p, hp, rfl⟩ := List.mem_map.mp q
    have h1 := hn p hp
    rw [e] at h1
    rw [Option.some.inj h1]; exact (N p hp).1
  · exact F.keep b o (k b o e q)
theorem fr_ps {g h : Heap} {L : Addr} {m : Str → Option Value} {ps : List (Str × Value)} (F : Fr g L h m) (hp : ∀ p ∈ ps, m p.1 = some p.2) : Fr g L h (kstB m ps) := by
  have : kstB m ps = m := funext fun z => kstB_eq hp fun _ => rfl
  rw [this]; exact F
theorem fresh_in {g h : Heap} {L a : Addr} {m : Str → Option Value} (F : Fr g L h m) (e : h.get? a = none) : a ≠ L ∧ g.get? a = none := by
  refine ⟨fun q => ?_, ?_⟩
  · obtain ⟨oL, _, _, hq, _⟩ := F.ns
    rw [← q, e] at hq; cases hq
  · cases q : g.get? a with
    | none => rfl
    | some o => have := F.keep _ _ q; rw [e] at this; cases this
theorem ne_fresh {h : Heap} {a b : Addr} {o : Obj} (e : h.get? a = none) (e' : h.get? b = some o) : (a : Nat) ≠ b := fun q => by
  have q' : a = b := q
  rw [q', e'] at e; cases e
noncomputable def CodeLike (o : Obj) : Prop := ∃ vs q t, o.data = .fields vs ∧ vs[1]? = some (.str q t)
noncomputable def KeepsCode (h h' : Heap) : Prop := ∀ b o, h.get? b = some o → CodeLike o → h'.get? b = some o
theorem KeepsCode.refl (h : Heap) : KeepsCode h h := fun _ _ e _ => e
theorem KeepsCode.trans {h h' h'' : Heap} (x : KeepsCode h h') (y : KeepsCode h' h'') : KeepsCode h h'' := fun b o e c => y b o (x b o e c) c
theorem KeepsCode.of {as : List Addr} {h h' : Heap} (k : Kept as h h') (n : ∀ a ∈ as, ∀ o, h.get? a = some o → ¬ CodeLike o) : KeepsCode h h' := fun b o e c => k b o e fun q => n b q o e c
theorem TabOk.move {h h' : Heap} {P : Addr} {line col : Nat} {qual : Str} (x : TabOk h P line col qual) (h1 : ∀ o, h.get? P = some o → h'.get? P = some o) (h2 : KeepsCode h h') : TabOk h' P line col qual := by
  obtain ⟨ps, e, r⟩ := x
  refine ⟨ps, h1 _ e, r.imp id ?_⟩
  rintro ⟨c', oc, vsc, tq, e1, e2, e3, e4⟩
  exact ⟨c', oc, vsc, tq, e1, h2 _ _ e2 ⟨vsc, _, _, e3, e4⟩, e3, e4⟩
theorem TabOk.notCode {h : Heap} {P : Addr} {line col : Nat} {qual : Str} (x : TabOk h P line col qual) : ∀ o, h.get? P = some o → ¬ CodeLike o := by
  rintro o e ⟨vs, q, t, e1, e2⟩
  obtain ⟨ps, e3, r⟩ := x
  rw [e] at e3
  cases e3
  cases e1
  rcases r with rfl | ⟨c', oc, vsc, tq, rfl, _⟩
  · simp at e2
  · simp [rawInt] at e2
theorem list_notCode {vs : Array Value} {n : Nat} : ¬ CodeLike (listOf vs n) := by rintro ⟨vs, q, t, e1, e2⟩; cases e1
theorem fr_notCode {g h : Heap} {L : Addr} {m : Str → Option Value} (F : Fr g L h m) : ∀ o, h.get? L = some o → ¬ CodeLike o := by
  rintro o e ⟨vs, q, t, e1, e2⟩
  obtain ⟨oL, es, ep, hL, hd, _⟩ := F.ns
  rw [e] at hL
  cases hL
  rw [hd] at e1; cases e1
noncomputable def ForEnd (s₂ : Shared) (Inv St : Nat → Heap → Prop) (i : Nat) (s₄ : Shared) : Prop := ∃ h' tk', s₄ = { s₂ with heap := h', toks := tk' } ∧ Inv (i + 1) h' ∧ St (i + 1) h'
/-- a for loop over whatever walks, its target any, an invariant over the heap -/
noncomputable def ForAt (prog : Program) (w : World) (A : Around) (env : Env) (target : Expr) (body : List Stmt) (Q : Flow → Shared → Prop) (E : Value → Shared → Prop) (it : Value) (s₂ : Shared) : Prop :=
  ∃ (I : Addr) (fp wr : List Addr) (n : Nat) (P : Nat → Value → Prop) (St : Nat → Heap → Prop) (Inv : Nat → Heap → Prop),
    it = .ref I ∧ Walks prog w A I fp wr n P St ∧ St 0 s₂.heap ∧ Inv 0 s₂.heap ∧
    (∀ i h h', Inv i h → (∀ b o, b ∉ wr → h.get? b = some o → h'.get? b = some o) → Inv i h') ∧
    (∀ i (s' : Shared) v (Q' : Unit → Shared → Prop), St i s'.heap → Q' () s' → wpAny (model prog w) A (letOwnedTupleGo target (.ref I) v) Q' E s') ∧
    (∀ i v h tk, i < n → P i v → Inv i h → St (i + 1) h →
      wpAny (model prog w) A (assign target env v) (fun _ s₃ => wpAny (model prog w) A (execs body env) (fun f s₄ => match f with
        | .ret v => Q (.ret v) s₄
        | .brk => Q .next s₄
        | _ => ForEnd s₂ Inv St i s₄) E s₃) E { s₂ with heap := h, toks := tk }) ∧
    ∀ h tk, Inv n h → Q .next { s₂ with heap := h, toks := tk }

theorem for_my {prog : Program} {w : World} {A : Around} {s : Shared} {env : Env} {E : Value → Shared → Prop} {Q : Flow → Shared → Prop} {target iter : Expr} {pos : Pos} {body : List Stmt}
    (h : wpAny (model prog w) A (eval iter env) (fun xv s₁ => wpAny (model prog w) A (pyIter xv) (fun it s₂ => ForAt prog w A env target body Q E it s₂) E s₁) E s)
    (hs : ∀ x, foldedSetIterable iter env x = pure x := by intro _; rfl)
    (hE : PassesOwn (model prog w) A env E := by passes_own) :
    wpAny (model prog w) A (exec (.For target iter body [] pos) env) Q E s := by
  refine wpAny_For (wpAny_mono h (fun xv s₁ h₁ => wpAny_mono h₁ (fun it s₂ h₂ => ?_) fun _ _ e => e) fun _ _ e => e) hs
  obtain ⟨I, fp, wr, n, P, St, Inv, rfl, W, hst, h0, hfr, hgo, step, done⟩ := h₂
  refine codeAny_forLoop_any (fun k s' => ∃ h' tk i, s' = { s₂ with heap := h', toks := tk } ∧ St i h' ∧ Inv i h' ∧ i ≤ n ∧ k = n + 1 - i) ?_ (n + 1) ⟨s₂.heap, s₂.toks, 0, rfl, hst, h0, Nat.zero_le _, rfl⟩
  rintro k s' ⟨h', tk, i, rfl, hst', hI, hi, rfl⟩
  by_cases hlt : i < n
  · refine W.item i _ _ _ hlt hst' fun v h₁ tk₁ hP hst₁ hk₁ => ?_
    refine wpAny_passesOwn hE (hgo (i + 1) _ v _ hst₁ ?_)
    refine wpAny_passesOwn hE (wpAny_mono (step i v h₁ tk₁ hlt hP (hfr i h' h₁ hI hk₁) hst₁) (fun _ s₃ h₃ => ?_) fun _ _ x => x)
    refine wpAny_passesOwn hE (wpAny_mono h₃ (fun f s₄ h₄ => ?_) fun _ _ x => x)
    cases f with
    | ret v => exact h₄
    | brk => exact h₄
    | next => obtain ⟨h'', tk'', e, a, b⟩ := h₄; exact ⟨n + 1 - (i + 1), by omega, h'', tk'', i + 1, e, b, a, hlt, rfl⟩
    | cont => obtain ⟨h'', tk'', e, a, b⟩ := h₄; exact ⟨n + 1 - (i + 1), by omega, h'', tk'', i + 1, e, b, a, hlt, rfl⟩
  · have hin : i = n := by omega
    subst hin
    refine W.done _ _ _ hst' fun h₁ tk₁ hk₁ => wpAny_execs_nil ?_
    exact done h₁ tk₁ (hfr i h' h₁ hI hk₁)
end Mine

open PySem PySem.W PySem.Calls PyProof.Rows
set_option Elab.async false
set_option maxRecDepth 100000
namespace Mine
theorem room_0 {a c n : Nat} (h : a + c < n) : a < n := Nat.lt_of_le_of_lt (Nat.le_add_right a c) h
theorem room_p {a c n : Nat} (h : a + c < n) (hk : 1 ≤ c) : a + 1 < n := Nat.lt_of_le_of_lt (Nat.add_le_add_left hk a) h
theorem room_1 {a c k n : Nat} (h : a + c < n) (hk : 1 + k ≤ c) : a + 1 + k < n := by omega
theorem dm1 {i n : Nat} (h : i < n) : n - i = (n - 1 - i).succ := by omega
theorem dm2 {i n : Nat} : n - (i + 1) = n - 1 - i := by omega
theorem dm3 {r dd y X1 : Nat} {V : Int} (h1 : r * 8192 + dd = y) (h2 : X1 % 8192 = dd) (h3 : V * 4096 + (r : Int) = ((X1 / 8192 : Nat) : Int)) : (((y / 4096 : Nat) : Int) + 8192 * V) * 4096 + ((y % 4096 : Nat) : Int) = (X1 : Int) := by omega
theorem dm4 {r dd y z : Nat} (hr : r < 4096) (hd : z % 8192 = dd) (hy : r * 8192 + dd = y) : 0 ≤ ((y / 4096 : Nat) : Int) ∧ ((y / 4096 : Nat) : Int) < 8192 := by omega
theorem dm5 {r dd z : Nat} (hr : r < 4096) (hd : z % 8192 = dd) : ((r * 8192 + dd : Nat) : Int) < 67108864 := by omega
theorem dm7 {r x : Nat} {V : Int} (hr : r < 4096) (h : V * 4096 + (r : Int) = (x : Int)) : V = ((x / 4096 : Nat) : Int) ∧ (r : Int) = ((x % 4096 : Nat) : Int) := by omega

noncomputable abbrev T58 (h : Heap) : Prop := TabOk h 58 69 4 qI
noncomputable abbrev T65 (h : Heap) : Prop := TabOk h 65 84 4 qJ

theorem tabs_move {g h h' : Heap} {L : Addr} {m : Str → Option Value} {news : List (Addr × Obj)} {ex : List Addr} (hL : ∀ o, h.get? L = some o → ¬ CodeLike o) (ht1 : T58 h) (ht2 : T65 h) (hk : ∀ b o, g.get? b = some o → h.get? b = some o)
    (F : Fr g L h' m) (N : News g L h' news) (hs : ∀ p ∈ restOf g L (58 :: 65 :: ex) h, p ∈ news) (h58 : ∀ o, h.get? 58 = some o → h'.get? 58 = some o) (h65 : ∀ o, h.get? 65 = some o → h'.get? 65 = some o) (hex : ∀ a ∈ ex, ∀ o, h.get? a = some o → ¬ CodeLike o) : T58 h' ∧ T65 h' := by
  have kc : KeepsCode h h' := .of (rest_kept F N hs hk) (by
    intro a ha
    rcases List.mem_cons.mp ha with rfl | ha
    · exact hL
    · rcases List.mem_cons.mp ha with rfl | ha
      · exact ht1.notCode
      · rcases List.mem_cons.mp ha with rfl | ha
        · exact ht2.notCode
        · exact hex a ha)
  exact ⟨ht1.move h58 kc, ht2.move h65 kc⟩
theorem same_obj {h h' : Heap} {a : Addr} {o : Obj} (e : h.get? a = some o) (e' : h'.get? a = some o) : ∀ o', h.get? a = some o' → h'.get? a = some o' := fun o' q => by rw [e] at q; rw [← Option.some.inj q]; exact e'

section
variable {w : World} {A : Around} {s : Shared} {b₀ : Heap} {loose : List Str} {mean : ExcName → Option Value} {mg mb : Str → Option Value} {Q : Value → Shared → Prop} {E : Value → Shared → Prop}

set_option maxHeartbeats 4000000 in
theorem dmp_call {x : Nat} {t0 t1 : Tok}
    (X₀ : (hd.heap_39 w.params).In b₀) (T : Top topProg loose mean mg mb b₀) (C1 : CodeHd b₀ 62 58) (C2 : CodeHd b₀ 69 65) (st : b₀.StaysIn s.heap) (hh : A.handled = none) (hroom : A.depth + 30 < recursionLimit) (hx1 : x < 2 ^ 90)
    (hb1 : b₀.get? 58 = none) (ht1 : T58 s.heap) (hb2 : b₀.get? 65 = none) (ht2 : T65 s.heap)
    (h : ∀ h' tk a t t', Kept [58, 65] s.heap h' → T58 h' → T65 h' → h'.get? a = some { cls := .type "tuple", data := .seq #[.int ((x / 4096 : Nat) : Int) t, .int ((x % 4096 : Nat) : Int) t'] } → s.heap.get? a = none → Q (.ref a) { s with heap := h', toks := tk }) :
    wpAny (model Challenge.rw_op0093_01.row.prog w) A (call (.ref 77) [.int (x : Int) t0, .int 4096 t1]) Q E s := by
  obtain ⟨Ah, Ad, Af, Ag, Au⟩ := A
  cases hh
  dsimp only at hroom
  revert X₀; k_fill; intro X₀
  obtain ⟨p1, e1, r1⟩ := id ht1
  obtain ⟨p2, e2, r2⟩ := id ht2
  refine' enter_def (news := [(58, tabObj p1), (65, tabObj p2)]) (binds := [("a", .int (x : Int) t0), ("b", .int 4096 t1)]) X₀ T st ?hn ?ho ?hcd (by show Ad < _; exact room_0 hroom) ?hbind ?hloc ?h ?c1 ?c2 ?c3 ?c4
  walk_at "my cases"
  case hn =>
    intro q hq
    cases hq with
    | head => exact ⟨e1, hb1⟩
    | tail _ h => cases h with
      | head => exact ⟨e2, hb2⟩
      | tail _ h => cases h
  case h =>
    intro g L h₁ F N X T stg kg hL; clear hL
    clear X₀
    replace C1 := C1.keeps stg
    replace C2 := C2.keeps stg
    have hin := all_in F N kg (by intro q hq; rcases List.mem_cons.mp hq with rfl | hq; exact e1; rcases List.mem_cons.mp hq with rfl | hq; exact e2; cases hq)
    have hg1 := N.fresh (.head _)
    have hg2 := N.fresh (.tail _ (.head _))
    have n1 := (N _ (.head _)).2.1
    have n2 := (N _ (.tail _ (.head _))).2.1
    replace ht1 : T58 h₁ := ht1.kept (as := []) hin
    replace ht2 : T65 h₁ := ht2.kept (as := []) hin
    have hk0 := F.keep
    have hLc := fr_notCode F
    replace N : News g L h₁ ((58, tabObj p1) :: (65, tabObj p2) :: restOf g L [58, 65] h₁) := by
      intro q hq
      rcases List.mem_cons.mp hq with rfl | hq
      · exact N _ (.head _)
      · rcases List.mem_cons.mp hq with rfl | hq
        · exact N _ (.tail _ (.head _))
        · exact rest_news _ _ _ _ q hq
    (try k_unmd); k_fold
    walk_at "my go'"
    rw [show ((Builtin.Int.intBits 4096 : Nat) : Int) = 13 from by decide +kernel] at *
    rename Fr _ _ _ _ => F
    rename News _ _ _ _ => N
    obtain ⟨ht1, ht2⟩ := tabs_move hLc ht1 ht2 hk0 F N (fun q hq => .tail _ (.tail _ hq)) (same_obj (hin _ _ e1) (N.get (.head _))) (same_obj (hin _ _ e2) (N.get (.tail _ (.head _)))) (fun a ha => nomatch ha)
    refine' i2d_call X T C1 F.keep ?y1 hx1 hg1 ht1 ?_
    case y1 => show Ad + 1 + _ < _; exact room_1 hroom (by decide)
    intro h3 tk3 D vs ds nD k3 ht3 hD hDn hi hlen hdig
    have hLn : L ≠ D := fun q => by
      obtain ⟨oL, _, _, hq, _⟩ := F.ns
      rw [q] at hq; dsimp only at hDn; rw [hq] at hDn; cases hDn
    have hgD : g.get? D = none := by
      cases q : g.get? D with
      | none => rfl
      | some o => have := F.keep _ _ q; dsimp only at hDn; rw [this] at hDn; cases hDn
    have e65 := k3 _ _ (N.get (.tail _ (.head _))) (by decide)
    have F3 := fr_kept F k3 (by simpa using Ne.symm n1) (by simpa using hg1)
    have ht4 : T65 h3 := ht2.move (same_obj (N.get (.tail _ (.head _))) e65) (.of k3 (by
      intro a ha; rw [List.mem_singleton.mp ha]; exact ht1.notCode))
    obtain ⟨p1', e1', r1'⟩ := id ht3
    have hD58 : (58 : Addr) ≠ D := fun q => by rw [← q, e1'] at hD; cases hD
    have hD65 : (65 : Addr) ≠ D := fun q => by rw [← q, e65] at hD; cases hD
    have N3 : News g L h3 ((D, listOf vs.toArray nD) :: (58, tabObj p1') :: (65, tabObj p2) :: restOf g L [58, 65, D] h3) := by
      intro q hq
      rcases List.mem_cons.mp hq with rfl | hq
      · exact ⟨hD, hLn.symm, hgD⟩
      · rcases List.mem_cons.mp hq with rfl | hq
        · exact ⟨e1', n1, hg1⟩
        · rcases List.mem_cons.mp hq with rfl | hq
          · exact ⟨e65, n2, hg2⟩
          · exact rest_news _ _ _ _ q hq
    have hLc3 := fr_notCode F3
    have hk3 := F3.keep
    clear F N ht1 ht2
    (try k_unmd)
    walk_at "my go'"
    refine' for_my ?_ ?hs ?hE
    case hs => intro _; rfl
    case hE => with_unfolding_all passes_own
    walk_at "my go'"
    rename Fr _ _ _ _ => F
    rename News _ _ _ _ => N
    rename_i Qd hA lt1 hB It hC lt2
    refine PySem.wpAny_pyIter_revIter ⟨_, N.get (.head _), rfl, rfl⟩ ?_
    have hvl : vs.length = ds.length := hi.length
    have hk7 : ds.length ≤ 7 := by
      rw [hlen]; unfold ndig
      have : Builtin.Int.intBits (x : Int) ≤ 90 := intBits_le_iff.mpr (by omega)
      omega
    refine ⟨It, _, _, _, _, _, fun i h => ∃ (u : Str → Option Value) (vq : List Value) (qs : List Int) (nq r : Nat) (tr tn tb : Tok),
      Fr g L h (kstB u [("r", .int (r : Int) tr), ("n", .int 13 tn), ("b", .int 4096 tb), ("q_digits", .ref Qd)]) ∧
      News g L h ((Qd, listOf vq.toArray nq) :: (D, listOf vs.toArray nD) :: (58, tabObj p1') :: (65, tabObj p2) :: restOf g L [58, 65, D] h3) ∧
      IntsAre vq qs ∧ qs.length = i ∧ (∀ d ∈ qs, 0 ≤ d ∧ d < 8192) ∧ r < 4096 ∧ val qs.reverse * 4096 + r = ((x / 8192 ^ (ds.length - i) : Nat) : Int), rfl, Walks.listRev rfl It D (by k_ne) vs.toArray, ?st, ?i0, ?fr, ?go, ?step, ?done⟩
    case st => exact ⟨Nat.zero_le _, ⟨_, N.get (.head _), rfl, by simp [revObj]⟩, PySem.IsL.isList (n := nD) (N.get (.tail _ (.tail _ (.head _))))⟩
    case i0 =>
      refine ⟨_, [], [], 0, 0, _, _, _, fr_ps F (by kst_all), fun q hq => N q (.tail _ hq), .nil, rfl, (fun d hd => nomatch hd), by decide, ?_⟩
      rw [hlen, Nat.sub_zero, Nat.div_eq_of_lt (lt_ndig x)]; rfl
    case fr =>
      rintro i h h' ⟨u, vq, qs, nq, r, tr, tn, tb, F', N', rest⟩ hk
      refine ⟨u, vq, qs, nq, r, tr, tn, tb, fr_kept (as := [It]) F' (fun b o e n => hk b o n e) ?_ ?_, news_kept (as := [It]) N' (fun b o e n => hk b o n e) ?_, rest⟩
      · intro q; exact (N _ (.head _)).2.1 (List.mem_singleton.mp q).symm
      · intro a ha; rw [List.mem_singleton.mp ha]; exact N.fresh (.head _)
      · intro q hq hq2
        exact off_of_lt (d := It) (own := (Qd, listOf vq.toArray nq) :: (D, listOf vs.toArray nD) :: (58, tabObj p1') :: (65, tabObj p2) :: restOf g L [58, 65, D] h3) lt2 q hq It (.head _) (List.mem_singleton.mp hq2)
    case go => intro i s' v Q' _ hq; exact wpAny_pure hq
    case step =>
      rintro i v hh1 tk hin2 hP ⟨u, vq, qs, nq, r, tr, tn, tb, F', N', hiq, hql, hqd, hr, hval⟩ ⟨hst1, hst2, hst3⟩
      obtain ⟨oI, hoI, hoI2⟩ := id hst2
      have hNI := (N _ (.head _)).2
      have N1 : News g L hh1 ((It, oI) :: (Qd, listOf vq.toArray nq) :: (D, listOf vs.toArray nD) :: (58, tabObj p1') :: (65, tabObj p2) :: restOf g L [58, 65, D] h3) := fun q hq => by
        rcases List.mem_cons.mp hq with rfl | hq
        · exact ⟨hoI, hNI⟩
        · exact N' q hq
      have hoff : OwnOff (restOf g L [58, 65, D] h3) [Qd] := off_of_lt lt1.2.2.2
      obtain ⟨t, rfl⟩ : ∃ t, v = .int (ds.getD (ds.length - 1 - i) 0) t := by
        have : vs[ds.length - 1 - i]? = some v := by simpa [hvl] using hP
        obtain ⟨t, ht⟩ := hi.int_at _ _ this
        exact ⟨t, ht⟩
      have hi1 : i < ds.length := by simpa [hvl] using hin2
      have hdv := hdig (ds.length - 1 - i) (by omega)
      rw [hdv]
      generalize hdd : x / 8192 ^ (ds.length - 1 - i) % 8192 = dd
      have hdd2 : dd < 8192 := by rw [← hdd]; exact Nat.mod_lt _ (by decide)
      clear F N N'
      dsimp only [kstB] at F'
      (try k_unmd); k_fold
      walk_at "my go'"
      rename Fr _ _ _ _ => F
      rename News _ _ _ _ => N
      rw [show (r : Int) * 2 ^ Int.toNat 13 + (dd : Int) = ((r * 8192 + dd : Nat) : Int) from by rw [show (2 ^ Int.toNat 13 : Int) = 8192 from rfl]; omega]
      refine' div2_call X T F.keep ?y1 ?y2 ?y3 ?_
      case y1 => show Ad + 1 < _; exact room_p hroom (by decide)
      case y2 => first | exact Int.natCast_nonneg _ | omega
      case y3 => first | exact dm5 (by assumption) (by assumption) | omega
      intro h4 tk4 a4 t4 t4' k4 hT4 hn4
      generalize hy : r * 8192 + dd = y at *
      rw [show (y : Int) / 4096 = ((y / 4096 : Nat) : Int) from by omega, show (y : Int) % 4096 = ((y % 4096 : Nat) : Int) from by omega] at hT4
      obtain ⟨na1, na2⟩ := fresh_in F hn4
      have haQ := ne_fresh hn4 (N.get (.tail _ (.head _)))
      have F' := fr_kept F k4 (by simp) (by simp)
      have N' : News g L h4 ((a4, _) :: _) := fun q hq => by
        rcases List.mem_cons.mp hq with rfl | hq
        · exact ⟨hT4, na1, na2⟩
        · exact news_kept N k4 (by simp) q hq
      clear F N
      dsimp only
      walk_at "my go'"
      dsimp only
      rename Fr _ _ _ _ => F
      rename News _ _ _ _ => N
      simp only [List.push_toArray] at N
      refine ⟨_, _, rfl, ⟨_, vq ++ [.int ((y / 4096 : Nat) : Int) t4], qs ++ [((y / 4096 : Nat) : Int)], nq + 1, y % 4096, t4', tn, tb, fr_ps F (by kst_all), fun q hq => N q (.tail _ (.tail _ hq)), hiq.append (.cons _ _ .nil), by simp [hql], ?_, Nat.mod_lt _ (by decide), ?_⟩,
        hst1, ⟨oI, N.get (.tail _ (.head _)), hoI2⟩, PySem.IsL.isList (n := nD) (N.get (.tail _ (.tail _ (.tail _ (.head _)))))⟩
      · intro d hd
        rcases List.mem_append.mp hd with hd | hd
        · exact hqd d hd
        · rw [List.mem_singleton.mp hd]; first | exact dm4 (by assumption) (by assumption) hy | omega
      · rw [List.reverse_append, List.reverse_singleton, List.singleton_append, val]
        have hX : x / 8192 ^ (ds.length - i) = x / 8192 ^ (ds.length - 1 - i) / 8192 := by
          rw [Nat.div_div_eq_div_mul, ← Nat.pow_succ]; congr 2; first | exact dm1 (by assumption) | omega
        rw [hX] at hval
        rw [show ds.length - (i + 1) = ds.length - 1 - i from dm2]
        generalize x / 8192 ^ (ds.length - 1 - i) = X1 at *
        generalize val qs.reverse = V at *
        first | exact dm3 (by assumption) (by assumption) (by assumption) | omega
    case done =>
      rintro hh1 tk ⟨u, vq, qs, nq, r, tr, tn, tb, F', N', hiq, hql, hqd, hr, hval⟩
      have hoff : OwnOff (restOf g L [58, 65, D] h3) [Qd] := off_of_lt lt1.2.2.2
      clear F N
      dsimp only [kstB] at F'
      (try k_unmd)
      walk_at "my go'"
      have hvq := hiq.length
      have hql' : qs.length = ds.length := by rw [hql]; simpa using hvl
      refine kl_reverse (its := vq.toArray) (l := vq.reverse) F' N' (by simp) (by k_upd) (by rw [sizeLine_eq]; simp; omega) ?_
      intro h5 F5 N5
      clear F' N'
      dsimp only
      walk_at "my go'"
      rename Fr _ _ _ _ => F
      rename News _ _ _ _ => N
      obtain ⟨ht5, ht6⟩ := tabs_move (ex := [D]) hLc3 ht3 ht4 hk3 F N (fun q hq => .tail _ (.tail _ (.tail _ (.tail _ hq)))) (same_obj e1' (N.get (.tail _ (.tail _ (.head _))))) (same_obj e65 (N.get (.tail _ (.tail _ (.tail _ (.head _)))))) (by
        intro a ha o e; rw [List.mem_singleton.mp ha, hD] at e; cases e; exact list_notCode)
      refine' d2i_call X T C2 F.keep ?y1 hg2 ht6 (N.get (.head _)) hiq.reverse ?y2 ?y3 ?_
      case y1 => show Ad + 1 + _ < _; exact room_1 hroom (by decide)
      case y2 => simp; omega
      case y3 => intro d hd; exact hqd d (List.mem_reverse.mp hd)
      intro h7 tk7 t7 k7 ht7
      have e58 := k7 _ _ (N.get (.tail _ (.tail _ (.head _)))) (by decide)
      have ht8 : T58 h7 := ht5.move (same_obj (N.get (.tail _ (.tail _ (.head _)))) e58) (.of k7 (by intro a ha; rw [List.mem_singleton.mp ha]; exact ht6.notCode))
      have F7 := fr_kept F k7 (by simpa using Ne.symm n2) (by simpa using hg2)
      obtain ⟨p2', e2', r2'⟩ := id ht7
      have N7 : News g L h7 ((58, tabObj p1') :: (65, tabObj p2') :: restOf g L [58, 65] h7) := by
        intro q hq
        rcases List.mem_cons.mp hq with rfl | hq
        · exact ⟨e58, n1, hg1⟩
        · rcases List.mem_cons.mp hq with rfl | hq
          · exact ⟨e2', n2, hg2⟩
          · exact rest_news _ _ _ _ q hq
      have hLc7 := fr_notCode F7
      have hk7' := F7.keep
      clear F N ht5 ht6
      (try k_unmd)
      walk_at "my go'"
      dsimp only
      rename Fr _ _ _ _ => F
      rename News _ _ _ _ => N
      obtain ⟨ht9, ht10⟩ := tabs_move hLc7 ht8 ht7 hk7' F N (fun q hq => .tail _ (.tail _ (.tail _ hq))) (same_obj e58 (N.get (.tail _ (.head _)))) (same_obj e2' (N.get (.tail _ (.tail _ (.head _))))) (fun a ha => nomatch ha)
      have hx0 : ds.length - vs.toArray.size = 0 := by simp [hvl]
      rw [hx0, Nat.pow_zero, Nat.div_one] at hval
      have v1 : val qs.reverse = ((x / 4096 : Nat) : Int) := by first | exact (dm7 (by assumption) hval).1 | omega
      have v2 : (r : Int) = ((x % 4096 : Nat) : Int) := by first | exact (dm7 (by assumption) hval).2 | omega
      have hTup := N.get (.head _)
      rw [v1, v2] at hTup
      refine h _ _ _ _ _ (fun b o e n => F.keep b o (kg b o e n)) ht9 ht10 hTup ?_
      rename_i D' _ l1
      cases q : s.heap.get? D' with
      | none => rfl
      | some o =>
        have h58 : D' ≠ 58 := by k_ne
        have h65 : D' ≠ 65 := by k_ne
        have := N.fresh (.head _)
        rw [kg _ _ q (by simp [h58, h65])] at this; cases this
end
end Mine

open PySem PySem.W PySem.Calls PyProof.Rows
set_option Elab.async false
set_option maxRecDepth 100000
namespace Mine
section
variable {prog : Program} {w : World} {A : Around} {s : Shared} {b₀ : Heap} {K : Frag} {p : Program} {loose : List Str} {mean : ExcName → Option Value} {mg mb : Str → Option Value}
  {name qual : Str} {params : Arguments} {body : List Stmt} {scope : Scope} {dV kV doc pm cdv ct oc : Value} {an od : Option Addr} {osl : Array (Option Value)} {f : Addr} {binds : List (Str × Value)}
  {Q : Value → Shared → Prop} {E : Value → Shared → Prop} {pos : List Value}
theorem enter_tabs (ex : List (Addr × Obj)) (X₀ : K.In b₀) (T : Top p loose mean mg mb b₀) (C1 : CodeHd b₀ 62 58) (C2 : CodeHd b₀ 69 65) (st : b₀.StaysIn s.heap) (hb1 : b₀.get? 58 = none) (ht1 : T58 s.heap) (hb2 : b₀.get? 65 = none) (ht2 : T65 s.heap)
    (hn : ∀ q ∈ ex, s.heap.get? q.1 = some q.2 ∧ b₀.get? q.1 = none)
    (ho : K.lookup f = some ⟨oc, od, .func (fnOf name qual params body scope dV kV doc pm an cdv ct), osl⟩) (hcd : codeIn K cdv qual = true) (hroom : A.depth < recursionLimit)
    (hbind : BindsTo s (fnOf name qual params body scope dV kV doc pm an cdv ct) ⟨pos, []⟩ binds) (hloc : ∀ y ∈ binds, scope.names.lookup y.1 = some .local)
    (h : ∀ g L' h₁ p1 p2, Fr g L' h₁ (fun y => binds.reverse.lookup y) → News g L' h₁ (ex ++ (58, tabObj p1) :: (65, tabObj p2) :: restOf g L' (58 :: 65 :: ex.map (·.1)) h₁) → K.In g → Top p loose mean mg mb g → CodeHd g 62 58 → CodeHd g 69 65 →
      T58 h₁ → T65 h₁ → b₀.StaysIn g → Kept (58 :: 65 :: ex.map (·.1)) s.heap g → (∀ b o, s.heap.get? b = some o → h₁.get? b = some o) → g.get? 58 = none → g.get? 65 = none → (58 : Addr) ≠ L' → (65 : Addr) ≠ L' → h₁.get? 58 = some (tabObj p1) → h₁.get? 65 = some (tabObj p2) → (∀ q ∈ ex, (q.1 : Nat) < L') →
      (∀ o, h₁.get? L' = some o → ¬ CodeLike o) → (∀ b o, g.get? b = some o → h₁.get? b = some o) →
      wpAny (model prog w) (A.deeper (envOf qual scope L' f cdv)) (execs body (envOf qual scope L' f cdv))
        (fun fl s' => Q (match fl with | .ret v => v | _ => .none) s')
        (fun e s' => wpAny (model prog w) (A.deeper (envOf qual scope L' f cdv)) (leaving (envOf qual scope L' f cdv) e) (fun _ s'' => E e s'') (fun e' s'' => E e' s'') s')
        { s with heap := h₁, toks := s.toks + binds.length })
    (hco : scope.isCoroutine = false) (hgen : scope.isGenerator = false) (hk : scope.kind = .function)
    (hcell : ∀ x ∈ scope.names, x.2 ≠ .cell) : wpAny (model prog w) A (call (.ref f) pos) Q E s := by
  obtain ⟨p1, e1, r1⟩ := id ht1
  obtain ⟨p2, e2, r2⟩ := id ht2
  have hn' : ∀ q ∈ ((58, tabObj p1) :: (65, tabObj p2) :: ex : List (Addr × Obj)), s.heap.get? q.1 = some q.2 ∧ b₀.get? q.1 = none := by
    intro q hq
    rcases List.mem_cons.mp hq with rfl | hq
    · exact ⟨e1, hb1⟩
    · rcases List.mem_cons.mp hq with rfl | hq
      · exact ⟨e2, hb2⟩
      · exact hn q hq
  refine enter_def (news := (58, tabObj p1) :: (65, tabObj p2) :: ex) X₀ T st hn' ho hcd hroom hbind hloc (fun g L h₁ F N X T' stg kg hL => ?_) hco hgen hk hcell
  have hin := all_in F N kg fun q hq => (hn' q hq).1
  refine h g L h₁ p1 p2 F ?_ X T' (C1.keeps stg) (C2.keeps stg) (ht1.kept (as := []) hin) (ht2.kept (as := []) hin) stg kg hin (N.fresh (.head _)) (N.fresh (.tail _ (.head _))) (N _ (.head _)).2.1 (N _ (.tail _ (.head _))).2.1 (hin _ _ e1) (hin _ _ e2)
    (fun q hq => Nat.lt_of_lt_of_le (Heap.lt_size (hn q hq).1) hL) (fr_notCode F) F.keep
  intro q hq
  rcases List.mem_append.mp hq with hq | hq
  · exact N q (.tail _ (.tail _ hq))
  · rcases List.mem_cons.mp hq with rfl | hq
    · exact N _ (.head _)
    · rcases List.mem_cons.mp hq with rfl | hq
      · exact N _ (.tail _ (.head _))
      · exact rest_news _ _ _ _ q hq
end
theorem recheck {g h h' : Heap} {L : Addr} {m : Str → Option Value} {as : List Addr} (ex : List (Addr × Obj)) (F : Fr g L h m) (k : Kept (58 :: 65 :: as) h h') (has : ∀ a ∈ as, a ≠ L ∧ g.get? a = none) (hg1 : g.get? 58 = none) (hg2 : g.get? 65 = none) (n1 : (58 : Addr) ≠ L) (n2 : (65 : Addr) ≠ L)
    (ht1 : T58 h') (ht2 : T65 h') (hex : ∀ q ∈ ex, h'.get? q.1 = some q.2 ∧ q.1 ≠ L ∧ g.get? q.1 = none) :
    Fr g L h' m ∧ ∃ p1 p2, News g L h' (ex ++ (58, tabObj p1) :: (65, tabObj p2) :: restOf g L (58 :: 65 :: ex.map (·.1)) h') ∧ h'.get? 58 = some (tabObj p1) ∧ h'.get? 65 = some (tabObj p2) ∧ (∀ o, h'.get? L = some o → ¬ CodeLike o) ∧ ∀ b o, g.get? b = some o → h'.get? b = some o := by
  have F' : Fr g L h' m := fr_kept F k (fun q => by
    rcases List.mem_cons.mp q with q | q
    · exact n1 q.symm
    · rcases List.mem_cons.mp q with q | q
      · exact n2 q.symm
      · exact (has _ q).1 rfl) (fun a q => by
    rcases List.mem_cons.mp q with rfl | q
    · exact hg1
    · rcases List.mem_cons.mp q with rfl | q
      · exact hg2
      · exact (has _ q).2)
  obtain ⟨p1, e1, r1⟩ := id ht1
  obtain ⟨p2, e2, r2⟩ := id ht2
  refine ⟨F', p1, p2, fun q hq => ?_, e1, e2, fr_notCode F', F'.keep⟩
  rcases List.mem_append.mp hq with hq | hq
  · exact hex q hq
  · rcases List.mem_cons.mp hq with rfl | hq
    · exact ⟨e1, n1, hg1⟩
    · rcases List.mem_cons.mp hq with rfl | hq
      · exact ⟨e2, n2, hg2⟩
      · exact rest_news _ _ _ _ q hq
end Mine

open PySem PySem.W PySem.Calls PyProof.Rows
set_option Elab.async false
set_option maxRecDepth 100000
namespace Mine
noncomputable abbrev pairObj (a b : Int) (t t' : Tok) : Obj := { cls := .type "tuple", data := .seq #[.int a t, .int b t'] }

section
variable {w : World} {A : Around} {s : Shared} {b₀ : Heap} {loose : List Str} {mean : ExcName → Option Value} {mg mb : Str → Option Value} {Q : Value → Shared → Prop} {E : Value → Shared → Prop}

set_option maxHeartbeats 4000000 in
theorem idm0_call {x : Nat} {t0 t1 : Tok}
    (X₀ : (hd.heap_39 w.params).In b₀) (T : Top topProg loose mean mg mb b₀) (C1 : CodeHd b₀ 62 58) (C2 : CodeHd b₀ 69 65) (st : b₀.StaysIn s.heap) (hh : A.handled = none) (hroom : A.depth + 31 < recursionLimit) (hx1 : x < 2 ^ 90)
    (hb1 : b₀.get? 58 = none) (ht1 : T58 s.heap) (hb2 : b₀.get? 65 = none) (ht2 : T65 s.heap)
    (h : ∀ h' tk a t t', Kept [58, 65] s.heap h' → T58 h' → T65 h' → h'.get? a = some (pairObj ((x : Int) / 4096) ((x : Int) % 4096) t t') → s.heap.get? a = none → Q (.ref a) { s with heap := h', toks := tk }) :
    wpAny (model Challenge.rw_op0093_01.row.prog w) A (call (.ref 84) [.int (x : Int) t0, .int 4096 t1]) Q E s := by
  obtain ⟨Ah, Ad, Af, Ag, Au⟩ := A
  cases hh
  dsimp only at hroom
  revert X₀; k_fill; intro X₀
  refine' enter_tabs [] (binds := [("a", .int (x : Int) t0), ("b", .int 4096 t1)]) X₀ T C1 C2 st hb1 ht1 hb2 ht2 (fun _ hq => nomatch hq) ?ho ?hcd (by show Ad < _; exact room_0 hroom) ?hbind ?hloc ?h ?c1 ?c2 ?c3 ?c4
  walk_at "my cases"
  case h =>
    intro g L h₁ p1 p2 F N X T C1 C2 ht1 ht2 stg kg hin hg1 hg2 n1 n2 e1 e2 hex hLc hk
    clear X₀
    simp only [List.nil_append, List.map_nil] at N kg
    (try k_unmd); k_fold
    walk_at "my go'"
    obtain ⟨ht1, ht2⟩ := tabs_move hLc ht1 ht2 hk F N (fun q hq => .tail _ (.tail _ hq)) (same_obj e1 (N.get (.head _))) (same_obj e2 (N.get (.tail _ (.head _)))) (fun a ha => nomatch ha)
    refine' dmp_call X T C1 C2 F.keep rfl ?y1 hx1 hg1 ht1 hg2 ht2 ?_
    case y1 => show Ad + 1 + _ < _; exact room_1 hroom (by decide)
    intro h' tk' a t t' k' ht1' ht2' ha hna
    rw [show ((x / 4096 : Nat) : Int) = (x : Int) / 4096 from by omega, show ((x % 4096 : Nat) : Int) = (x : Int) % 4096 from by omega] at ha
    refine h _ _ _ _ _ (fun b o e n => k' b o (hin b o e) n) ht1' ht2' ha ?_
    cases q : s.heap.get? a with
    | none => rfl
    | some o => have := hin _ _ q; dsimp only at hna; rw [this] at hna; cases hna

set_option maxHeartbeats 4000000 in
theorem idm1_call {x : Int} {t0 t1 : Tok}
    (X₀ : (hd.heap_39 w.params).In b₀) (T : Top topProg loose mean mg mb b₀) (C1 : CodeHd b₀ 62 58) (C2 : CodeHd b₀ 69 65) (st : b₀.StaysIn s.heap) (hh : A.handled = none) (hroom : A.depth + 32 < recursionLimit) (hx0 : -(2 ^ 89) < x) (hx1 : x < 2 ^ 89)
    (hb1 : b₀.get? 58 = none) (ht1 : T58 s.heap) (hb2 : b₀.get? 65 = none) (ht2 : T65 s.heap)
    (h : ∀ h' tk a t t', Kept [58, 65] s.heap h' → T58 h' → T65 h' → h'.get? a = some (pairObj (x / 4096) (x % 4096) t t') → s.heap.get? a = none → Q (.ref a) { s with heap := h', toks := tk }) :
    wpAny (model Challenge.rw_op0093_01.row.prog w) A (call (.ref 84) [.int x t0, .int 4096 t1]) Q E s := by
  by_cases hpos : 0 ≤ x
  · obtain ⟨n, rfl⟩ := Int.eq_ofNat_of_zero_le hpos
    exact idm0_call X₀ T C1 C2 st hh (by omega) (by omega) hb1 ht1 hb2 ht2 h
  obtain ⟨Ah, Ad, Af, Ag, Au⟩ := A
  cases hh
  dsimp only at hroom
  revert X₀; k_fill; intro X₀
  refine' enter_tabs [] (binds := [("a", .int x t0), ("b", .int 4096 t1)]) X₀ T C1 C2 st hb1 ht1 hb2 ht2 (fun _ hq => nomatch hq) ?ho ?hcd (by show Ad < _; exact room_0 hroom) ?hbind ?hloc ?h ?c1 ?c2 ?c3 ?c4
  walk_at "my cases"
  case h =>
    intro g L h₁ p1 p2 F N X T C1 C2 ht1 ht2 stg kg hin hg1 hg2 n1 n2 e1 e2 hex hLc hk
    clear X₀
    simp only [List.nil_append, List.map_nil] at N kg
    (try k_unmd); k_fold
    walk_at "my go'"
    rename Fr _ _ _ _ => F
    rename News _ _ _ _ => N
    obtain ⟨ht1, ht2⟩ := tabs_move hLc ht1 ht2 hk F N (fun q hq => .tail _ (.tail _ hq)) (same_obj e1 (N.get (.head _))) (same_obj e2 (N.get (.tail _ (.head _)))) (fun a ha => nomatch ha)
    obtain ⟨y, hy⟩ : ∃ y : Nat, -x - 1 = (y : Int) := ⟨(-x - 1).toNat, by omega⟩
    rw [show Builtin.bitNot x = (y : Int) from by unfold Builtin.bitNot; omega]
    refine' idm0_call X T C1 C2 F.keep rfl ?y1 (by omega) hg1 ht1 hg2 ht2 ?_
    case y1 => show Ad + 1 + _ < _; exact room_1 hroom (by decide)
    intro h' tk' a t t' k' ht1' ht2' ha hna
    obtain ⟨na1, na2⟩ := fresh_in F hna
    obtain ⟨F', p1', p2', N', e1', e2', hLc', hk'⟩ := recheck [(a, _)] F k' (fun _ hq => nomatch hq) hg1 hg2 n1 n2 ht1' ht2' (fun q hq => by rw [List.mem_singleton.mp hq]; exact ⟨ha, na1, na2⟩)
    simp only [List.cons_append, List.nil_append, List.map_cons, List.map_nil] at N'
    clear F N
    (try k_unmd)
    walk_at "my go'"
    dsimp only
    rename Fr _ _ _ _ => F
    rename News _ _ _ _ => N
    obtain ⟨ht3, ht4⟩ := tabs_move (ex := [a]) hLc' ht1' ht2' hk' F N (fun q hq => .tail _ (.tail _ (.tail _ (.tail _ hq)))) (same_obj e1' (N.get (.tail _ (.tail _ (.head _))))) (same_obj e2' (N.get (.tail _ (.tail _ (.tail _ (.head _))))))
      (fun b hb o e => by rw [List.mem_singleton.mp hb, ha] at e; cases e; rintro ⟨vs, q, t, c1, c2⟩; cases c1)
    have hT := N.get (.head _)
    rw [show Builtin.bitNot ((y : Int) / 4096) = x / 4096 from by unfold Builtin.bitNot; omega, show 4096 + Builtin.bitNot ((y : Int) % 4096) = x % 4096 from by unfold Builtin.bitNot; omega] at hT
    rename_i D' _ l1
    refine h _ _ _ _ _ (fun b o e n => F.keep b o (kg b o e n)) ht3 ht4 hT ?_
    cases q : s.heap.get? D' with
    | none => rfl
    | some o =>
      have h58 : D' ≠ 58 := by k_ne
      have h65 : D' ≠ 65 := by k_ne
      have := N.fresh (.head _)
      rw [kg _ _ q (by simp [h58, h65])] at this; cases this

set_option maxHeartbeats 4000000 in
theorem idm2_call {x : Int} {t0 t1 : Tok}
    (X₀ : (hd.heap_39 w.params).In b₀) (T : Top topProg loose mean mg mb b₀) (C1 : CodeHd b₀ 62 58) (C2 : CodeHd b₀ 69 65) (st : b₀.StaysIn s.heap) (hh : A.handled = none) (hroom : A.depth + 33 < recursionLimit) (hx0 : -(2 ^ 89) < x) (hx1 : x < 2 ^ 89)
    (hb1 : b₀.get? 58 = none) (ht1 : T58 s.heap) (hb2 : b₀.get? 65 = none) (ht2 : T65 s.heap)
    (h : ∀ h' tk a t t', Kept [58, 65] s.heap h' → T58 h' → T65 h' → h'.get? a = some (pairObj (-x / 4096) (-(-x % 4096)) t t') → s.heap.get? a = none → Q (.ref a) { s with heap := h', toks := tk }) :
    wpAny (model Challenge.rw_op0093_01.row.prog w) A (call (.ref 84) [.int x t0, .int (-4096) t1]) Q E s := by
  obtain ⟨Ah, Ad, Af, Ag, Au⟩ := A
  cases hh
  dsimp only at hroom
  revert X₀; k_fill; intro X₀
  refine' enter_tabs [] (binds := [("a", .int x t0), ("b", .int (-4096) t1)]) X₀ T C1 C2 st hb1 ht1 hb2 ht2 (fun _ hq => nomatch hq) ?ho ?hcd (by show Ad < _; exact room_0 hroom) ?hbind ?hloc ?h ?c1 ?c2 ?c3 ?c4
  walk_at "my cases"
  case h =>
    intro g L h₁ p1 p2 F N X T C1 C2 ht1 ht2 stg kg hin hg1 hg2 n1 n2 e1 e2 hex hLc hk
    clear X₀
    simp only [List.nil_append, List.map_nil] at N kg
    (try k_unmd); k_fold
    walk_at "my go'"
    rename Fr _ _ _ _ => F
    rename News _ _ _ _ => N
    obtain ⟨ht1, ht2⟩ := tabs_move hLc ht1 ht2 hk F N (fun q hq => .tail _ (.tail _ hq)) (same_obj e1 (N.get (.head _))) (same_obj e2 (N.get (.tail _ (.head _)))) (fun a ha => nomatch ha)
    refine' idm1_call X T C1 C2 F.keep rfl ?y1 (by omega) (by omega) hg1 ht1 hg2 ht2 ?_
    case y1 => show Ad + 1 + _ < _; exact room_1 hroom (by decide)
    intro h' tk' a t t' k' ht1' ht2' ha hna
    obtain ⟨na1, na2⟩ := fresh_in F hna
    obtain ⟨F', p1', p2', N', e1', e2', hLc', hk'⟩ := recheck [(a, _)] F k' (fun _ hq => nomatch hq) hg1 hg2 n1 n2 ht1' ht2' (fun q hq => by rw [List.mem_singleton.mp hq]; exact ⟨ha, na1, na2⟩)
    simp only [List.cons_append, List.nil_append, List.map_cons, List.map_nil] at N'
    clear F N
    (try k_unmd)
    walk_at "my go'"
    dsimp only
    rename Fr _ _ _ _ => F
    rename News _ _ _ _ => N
    obtain ⟨ht3, ht4⟩ := tabs_move (ex := [a]) hLc' ht1' ht2' hk' F N (fun q hq => .tail _ (.tail _ (.tail _ (.tail _ hq)))) (same_obj e1' (N.get (.tail _ (.tail _ (.head _))))) (same_obj e2' (N.get (.tail _ (.tail _ (.tail _ (.head _))))))
      (fun b hb o e => by rw [List.mem_singleton.mp hb, ha] at e; cases e; rintro ⟨vs, q, t, c1, c2⟩; cases c1)
    have hT := N.get (.head _)
    rename_i D' _ l1
    refine h _ _ _ _ _ (fun b o e n => F.keep b o (kg b o e n)) ht3 ht4 hT ?_
    cases q : s.heap.get? D' with
    | none => rfl
    | some o =>
      have h58 : D' ≠ 58 := by k_ne
      have h65 : D' ≠ 65 := by k_ne
      have := N.fresh (.head _)
      rw [kg _ _ q (by simp [h58, h65])] at this; cases this
end
end Mine

open PySem PySem.W PySem.Calls PyProof.Rows
set_option Elab.async false
set_option maxRecDepth 100000
namespace Mine
section
variable {prog : Program} {w : World} {A : Around} {E : Value → Shared → Prop} {s : Shared} {env : Env} {g : Heap} {L : Addr} {m : Str → Option Value} {news : List (Addr × Obj)}

/-- a comprehension with one clause: what its source must give -/
noncomputable def CompAt (prog : Program) (w : World) (A : Around) (env : Env) (scope : Scope) (cl : List (Str × Addr)) (x : Str) (ifs : List Expr) (elt : Expr) (p : Value → Bool) (F : Value → Value → Prop) (Q : Value → Shared → Prop) (it : Value) (s₂ : Shared) : Prop :=
  ∃ I fp wr n P St, it = .ref I ∧ Walks prog w A I fp wr n P St ∧ n ≤ sizeLine ∧ St 0 s₂.heap ∧ (∀ b ∈ fp, b < s₂.heap.objs.size) ∧
      QuietOnC prog w A env scope cl x ifs elt wr P p F s₂ ∧
      (∀ D h' tk ys (vs : List Value), s₂.heap.get? D = none → h'.IsList D ys → h'.PlainList D ys → vs.length = n → (∀ j v, vs[j]? = some v → P j v) → Paired F (vs.filter p) ys.toList →
        (∀ b o, b ∉ wr → s₂.heap.get? b = some o → h'.get? b = some o) → Q (.ref D) { s₂ with heap := h', toks := tk })
theorem comp_my {elt iter : Expr} {x : Str} {px : Pos} {ifs : List Expr} {scope : Scope} {cl : List (Str × Addr)} {pos : Pos} {Q : Value → Shared → Prop} (p : Value → Bool) (F : Value → Value → Prop)
    (hclos : closureFor scope env = pure cl) (hcell : ∀ y ∈ scope.names, y.2 ≠ .cell) (hkind : scope.kind = .function)
    (hnames : ∀ y ∈ scope.names, y.2 = .local → scope.names.lookup y.1 = some .local) (hx : scope.names.lookup x = some .local)
    (h : wpAny (model prog w) A (eval iter env) (fun xv s₁ => wpAny (model prog w) A (pyIter xv) (CompAt prog w A env scope cl x ifs elt p F Q) E s₁) E s)
    (hs : ∀ x, foldedSetIterable iter env x = pure x) :
    wpAny (model prog w) A (eval (.ListComp elt [⟨.Name x px, iter, ifs, 0⟩] scope pos) env) Q E s := wpAny_ListComp_free p F hclos hcell hkind hnames hx h hs

theorem comp_core {elt : Expr} {x : Str} {ifs : List Expr} {scope : Scope} {cl : List (Str × Addr)} {Q : Value → Shared → Prop} {p : Value → Bool} {FF : Value → Value → Prop} {oIt : Obj} {fps : List Addr} {n : Nat} {P : Nat → Value → Prop} {St : Nat → Heap → Prop}
    (F : Fr g L s.heap m) (N : News g L s.heap news) (hf : oIt.isFreed = false) (W : Walks prog w A s.heap.objs.size (s.heap.objs.size :: fps) [s.heap.objs.size] n P St) (hn : n ≤ sizeLine) (hst : St 0 (s.heap.push oIt)) (hfps : ∀ b ∈ fps, b < s.heap.objs.size)
    (tests : ∀ C v s₃ m₃ E', (∃ i, P i v) → Fr s.heap C s₃.heap (kstB m₃ [(x, v)]) →
      wpAny (model prog w) A (forIn ifs true fun c r => if r = true then do let ok ← isTrue c (compEnvC scope cl C env) (eval c (compEnvC scope cl C env)); pure (ForInStep.yield ok) else pure (ForInStep.yield r)) (fun ok s₄ => ok = p v ∧ Keeps s₃ s₄) E' s₃)
    (elts : ∀ C v s₃ m₃ E', (∃ i, P i v) → p v = true → Fr s.heap C s₃.heap (kstB m₃ [(x, v)]) → wpAny (model prog w) A (eval elt (compEnvC scope cl C env)) (fun y s₄ => FF v y ∧ Keeps s₃ s₄) E' s₃)
    (h : ∀ D h' tk ys n' (vs : List Value), vs.length = n → (∀ j v, vs[j]? = some v → P j v) → Paired FF (vs.filter p) ys → Fr g L h' m → News g L h' ((D, listOf ys.toArray n') :: news) → (∀ b o, s.heap.get? b = some o → h'.get? b = some o) → s.heap.get? D = none → Q (.ref D) { s with heap := h', toks := tk }) :
    CompAt prog w A env scope cl x ifs elt p FF Q (.ref s.heap.objs.size) { s with heap := s.heap.push oIt } := by
  have keep : ∀ (h' : Heap), (∀ b o, b ∉ [s.heap.objs.size] → (s.heap.push oIt).get? b = some o → h'.get? b = some o) → ∀ b o, s.heap.get? b = some o → h'.get? b = some o := fun h' hk b o e =>
    hk b o (fun q => absurd (Heap.lt_size e) (by rw [List.mem_singleton.mp q]; exact Nat.lt_irrefl _)) (Heap.get?_push_of_some _ e)
  refine ⟨s.heap.objs.size, _, _, n, P, St, rfl, W, hn, hst, ?_, ⟨?_, ?_⟩, ?_⟩
  · intro b hb
    rcases List.mem_cons.mp hb with rfl | hb
    · show _ < (s.heap.push oIt).objs.size
      rw [Heap.size_push]; exact Nat.lt_succ_self _
    · show _ < (s.heap.push oIt).objs.size
      rw [Heap.size_push]; exact Nat.lt_succ_of_lt (hfps b hb)
  · intro C i v s₃ m₃ E' hC hP hns hm hk _
    have hC' : s.heap.objs.size ≤ C := Nat.le_trans (by show _ ≤ (s.heap.push oIt).objs.size; rw [Heap.size_push]; exact Nat.le_succ _) hC
    exact tests C v s₃ m₃ E' ⟨i, hP⟩ (fr_ps ⟨hns, keep _ hk, hC'⟩ (by intro q hq; rw [List.mem_singleton.mp hq]; exact hm))
  · intro C i v s₃ m₃ E' hC hP hp hns hm hk _
    have hC' : s.heap.objs.size ≤ C := Nat.le_trans (by show _ ≤ (s.heap.push oIt).objs.size; rw [Heap.size_push]; exact Nat.le_succ _) hC
    exact elts C v s₃ m₃ E' ⟨i, hP⟩ hp (fr_ps ⟨hns, keep _ hk, hC'⟩ (by intro q hq; rw [List.mem_singleton.mp hq]; exact hm))
  · intro D h' tk ys vs hD _ hpl hlen hP hF hk
    have hk' := keep h' hk
    obtain ⟨n', e'⟩ := hpl
    have hDs : s.heap.get? D = none := by
      cases q : s.heap.get? D with
      | none => rfl
      | some o => have : (s.heap.push oIt).get? D = none := hD; rw [Heap.get?_push_of_some _ q] at this; cases this
    obtain ⟨n1, n2⟩ := fresh_in F hDs
    refine h D h' tk ys.toList n' vs hlen hP hF ⟨F.ns.keeps hk', fun b o e => hk' b o (F.keep b o e), F.above⟩ (fun q hq => ?_) hk' hDs
    rcases List.mem_cons.mp hq with rfl | hq
    · exact ⟨by simpa using e', n1, n2⟩
    · exact ⟨hk' _ _ (N q hq).1, (N q hq).2⟩

theorem comp_tuple {elt : Expr} {x : Str} {ifs : List Expr} {scope : Scope} {cl : List (Str × Addr)} {Q : Value → Shared → Prop} {p : Value → Bool} {FF : Value → Value → Prop} {a : Addr} {items : List Value}
    (hh : A.handled = none) (F : Fr g L s.heap m) (N : News g L s.heap news) (ht : s.heap.IsTuple a items.toArray) (hn : items.length ≤ sizeLine)
    (tests : ∀ C v s₃ m₃ E', v ∈ items → Fr s.heap C s₃.heap (kstB m₃ [(x, v)]) →
      wpAny (model prog w) A (forIn ifs true fun c r => if r = true then do let ok ← isTrue c (compEnvC scope cl C env) (eval c (compEnvC scope cl C env)); pure (ForInStep.yield ok) else pure (ForInStep.yield r)) (fun ok s₄ => ok = p v ∧ Keeps s₃ s₄) E' s₃)
    (elts : ∀ C v s₃ m₃ E', v ∈ items → p v = true → Fr s.heap C s₃.heap (kstB m₃ [(x, v)]) → wpAny (model prog w) A (eval elt (compEnvC scope cl C env)) (fun y s₄ => FF v y ∧ Keeps s₃ s₄) E' s₃)
    (h : ∀ D h' tk ys n', Paired FF (items.filter p) ys → Fr g L h' m → News g L h' ((D, listOf ys.toArray n') :: news) → (∀ b o, s.heap.get? b = some o → h'.get? b = some o) → s.heap.get? D = none → Q (.ref D) { s with heap := h', toks := tk }) :
    wpAny (model prog w) A (pyIter (.ref a)) (CompAt prog w A env scope cl x ifs elt p FF Q) E s := by
  obtain ⟨o, ho, hc⟩ := id ht
  have hlt : a < s.heap.objs.size := Heap.lt_size ho
  refine wpAny_pyIter_tuple ht ?_
  have ht' : (s.heap.push { cls := .type "tuple_iterator", data := .fields #[.ref a, .int 0 0] }).IsTuple a items.toArray := ht.at fun o e => Heap.get?_push_of_some _ e
  refine comp_core F N rfl (Walks.tuple hh _ a (Nat.ne_of_lt hlt) items.toArray) (by simpa using hn) ⟨⟨_, Heap.get?_push_size _ rfl, rfl, rfl⟩, ht'⟩ (by intro b hb; rw [List.mem_singleton.mp hb]; exact hlt) ?_ ?_ ?_
  · rintro C v s₃ m₃ E' ⟨i, hi⟩ F₃
    exact tests C v s₃ m₃ E' (List.mem_of_getElem? (by simpa using hi)) F₃
  · rintro C v s₃ m₃ E' ⟨i, hi⟩ hp F₃
    exact elts C v s₃ m₃ E' (List.mem_of_getElem? (by simpa using hi)) hp F₃
  · intro D h' tk ys n' vs hlen hP hF F' N' hk hD
    have e : vs = items := List.ext_getElem? fun i => by
      rcases Nat.lt_or_ge i vs.length with hi | hi
      · have h1 := hP i vs[i] (by simp [hi])
        have h2 : items[i]? = some vs[i] := by simpa using h1
        rw [h2]; simp [hi]
      · have : items.length ≤ i := by rw [hlen] at hi; simpa using hi
        rw [List.getElem?_eq_none hi, List.getElem?_eq_none this]
    rw [e] at hF
    exact h D h' tk ys n' hF F' N' hk hD

theorem comp_list {elt : Expr} {x : Str} {ifs : List Expr} {scope : Scope} {cl : List (Str × Addr)} {Q : Value → Shared → Prop} {p : Value → Bool} {FF : Value → Value → Prop} {a : Addr} {items : List Value}
    (hh : A.handled = none) (F : Fr g L s.heap m) (N : News g L s.heap news) (ht : s.heap.IsList a items.toArray) (hn : items.length ≤ sizeLine)
    (tests : ∀ C v s₃ m₃ E', v ∈ items → Fr s.heap C s₃.heap (kstB m₃ [(x, v)]) →
      wpAny (model prog w) A (forIn ifs true fun c r => if r = true then do let ok ← isTrue c (compEnvC scope cl C env) (eval c (compEnvC scope cl C env)); pure (ForInStep.yield ok) else pure (ForInStep.yield r)) (fun ok s₄ => ok = p v ∧ Keeps s₃ s₄) E' s₃)
    (elts : ∀ C v s₃ m₃ E', v ∈ items → p v = true → Fr s.heap C s₃.heap (kstB m₃ [(x, v)]) → wpAny (model prog w) A (eval elt (compEnvC scope cl C env)) (fun y s₄ => FF v y ∧ Keeps s₃ s₄) E' s₃)
    (h : ∀ D h' tk ys n', Paired FF (items.filter p) ys → Fr g L h' m → News g L h' ((D, listOf ys.toArray n') :: news) → (∀ b o, s.heap.get? b = some o → h'.get? b = some o) → s.heap.get? D = none → Q (.ref D) { s with heap := h', toks := tk }) :
    wpAny (model prog w) A (pyIter (.ref a)) (CompAt prog w A env scope cl x ifs elt p FF Q) E s := by
  obtain ⟨o, ho, hc⟩ := id ht
  have hlt : a < s.heap.objs.size := Heap.lt_size ho
  refine wpAny_pyIter_list ht ?_
  have ht' : (s.heap.push { cls := .type "list_iterator", data := .fields #[.ref a, .int 0 0] }).IsList a items.toArray := ht.at fun o e => Heap.get?_push_of_some _ e
  refine comp_core F N rfl (Walks.list hh _ a (Nat.ne_of_lt hlt) items.toArray) (by simpa using hn) ⟨⟨_, Heap.get?_push_size _ rfl, rfl, rfl⟩, ht'⟩ (by intro b hb; rw [List.mem_singleton.mp hb]; exact hlt) ?_ ?_ ?_
  · rintro C v s₃ m₃ E' ⟨i, hi⟩ F₃
    exact tests C v s₃ m₃ E' (List.mem_of_getElem? (by simpa using hi)) F₃
  · rintro C v s₃ m₃ E' ⟨i, hi⟩ hp F₃
    exact elts C v s₃ m₃ E' (List.mem_of_getElem? (by simpa using hi)) hp F₃
  · intro D h' tk ys n' vs hlen hP hF F' N' hk hD
    have e : vs = items := List.ext_getElem? fun i => by
      rcases Nat.lt_or_ge i vs.length with hi | hi
      · have h1 := hP i vs[i] (by simp [hi])
        have h2 : items[i]? = some vs[i] := by simpa using h1
        rw [h2]; simp [hi]
      · have : items.length ≤ i := by rw [hlen] at hi; simpa using hi
        rw [List.getElem?_eq_none hi, List.getElem?_eq_none this]
    rw [e] at hF
    exact h D h' tk ys n' hF F' N' hk hD

theorem nil_news {g h : Heap} {C : Addr} {m : Str → Option Value} (_F : Fr g C h m) : News g C h [] := fun _ hq => nomatch hq
theorem nameP_L {x : Str} {pos : Pos} {v : Value} {Q : Value → Shared → Prop} {scope : Scope} {cl : List (Str × Addr)} {C : Addr} {M : Model} (F : Fr g C s.heap m) (hv : m x = some v) (h : Q v s)
    (hk : (compEnvC scope cl C env).scope.kind = .function := by rfl) (hl : (compEnvC scope cl C env).kindOf x = some .local := by rfl) (hd : (x == ("__debug__" : Str)) = false := by decide) :
    wpAny M A (eval (.Name x pos) (compEnvC scope cl C env)) Q E s := wpAny_Name (wpAny_loadName_local hk hl F.ns hv h) hd
end
end Mine

open PySem PySem.W PySem.Calls PyProof.Rows
set_option Elab.async false
set_option maxRecDepth 100000
namespace Mine
section
variable {prog : Program} {w : World} {A : Around} {s : Shared} {b₀ : Heap} {K : Frag} {p : Program} {loose : List Str} {mean : ExcName → Option Value} {mg mb : Str → Option Value}
  {name qual : Str} {params : Arguments} {body : List Stmt} {scope : Scope} {dV kV doc pm cdv ct oc : Value} {an od : Option Addr} {osl : Array (Option Value)} {f : Addr} {binds : List (Str × Value)}
  {Q : Value → Shared → Prop} {E : Value → Shared → Prop} {pos : List Value}
noncomputable def entriesOf (h : Heap) (hid : List Addr) : List (Addr × Obj) := hid.filterMap fun a => (h.get? a).map fun o => (a, o)
theorem mem_entries {h : Heap} {hid : List Addr} {a : Addr} {o : Obj} : (a, o) ∈ entriesOf h hid ↔ a ∈ hid ∧ h.get? a = some o := by
  unfold entriesOf
  rw [List.mem_filterMap]
  constructor
  · rintro ⟨c, hc, e⟩
    cases q : h.get? c with
    | none => rw [q] at e; cases e
    | some o' => rw [q] at e; cases e; exact ⟨hc, q⟩
  · rintro ⟨h1, h2⟩
    exact ⟨a, h1, by rw [h2]; rfl⟩
theorem entries_addr {h : Heap} {hid : List Addr} (hh : ∀ a ∈ hid, ∃ o, h.get? a = some o) (a : Addr) : a ∈ (entriesOf h hid).map (·.1) ↔ a ∈ hid := by
  constructor
  · intro q
    obtain ⟨⟨b, o⟩, hp, rfl⟩ := List.mem_map.mp q
    exact (mem_entries.mp hp).1
  · intro q
    obtain ⟨o, e⟩ := hh a q
    exact List.mem_map.mpr ⟨(a, o), mem_entries.mpr ⟨q, e⟩, rfl⟩

/-- entering a def: `hid` may change, `ex` of it is written out, all else lies in one ledger -/
theorem enter_hide (hid : List Addr) (ex : List (Addr × Obj)) (X₀ : K.In b₀) (T : Top p loose mean mg mb b₀) (st : b₀.StaysIn s.heap) (hh : ∀ a ∈ hid, (∃ o, s.heap.get? a = some o) ∧ b₀.get? a = none) (hex : ∀ q ∈ ex, s.heap.get? q.1 = some q.2 ∧ q.1 ∈ hid)
    (ho : K.lookup f = some ⟨oc, od, .func (fnOf name qual params body scope dV kV doc pm an cdv ct), osl⟩) (hcd : codeIn K cdv qual = true) (hroom : A.depth < recursionLimit)
    (hbind : BindsTo s (fnOf name qual params body scope dV kV doc pm an cdv ct) ⟨pos, []⟩ binds) (hloc : ∀ y ∈ binds, scope.names.lookup y.1 = some .local)
    (h : ∀ g L' h₁, Fr g L' h₁ (fun y => binds.reverse.lookup y) → News g L' h₁ (ex ++ restOf g L' (ex.map (·.1)) h₁) → K.In g → Top p loose mean mg mb g → b₀.StaysIn g → Kept hid s.heap g → (∀ b o, s.heap.get? b = some o → h₁.get? b = some o) →
      (∀ a ∈ hid, a ≠ L' ∧ g.get? a = none) → (∀ b o, g.get? b = some o → h₁.get? b = some o) → (∀ o, h₁.get? L' = some o → ¬ CodeLike o) → s.heap.get? L' = none →
      wpAny (model prog w) (A.deeper (envOf qual scope L' f cdv)) (execs body (envOf qual scope L' f cdv))
        (fun fl s' => Q (match fl with | .ret v => v | _ => .none) s')
        (fun e s' => wpAny (model prog w) (A.deeper (envOf qual scope L' f cdv)) (leaving (envOf qual scope L' f cdv) e) (fun _ s'' => E e s'') (fun e' s'' => E e' s'') s')
        { s with heap := h₁, toks := s.toks + binds.length })
    (hco : scope.isCoroutine = false) (hgen : scope.isGenerator = false) (hk : scope.kind = .function)
    (hcell : ∀ x ∈ scope.names, x.2 ≠ .cell) : wpAny (model prog w) A (call (.ref f) pos) Q E s := by
  have hn : ∀ q ∈ entriesOf s.heap hid, s.heap.get? q.1 = some q.2 ∧ b₀.get? q.1 = none := fun q hq => by
    have := mem_entries.mp (show (q.1, q.2) ∈ _ from hq)
    exact ⟨this.2, (hh _ this.1).2⟩
  have ha := entries_addr (h := s.heap) (hid := hid) fun a q => (hh a q).1
  refine enter_def (news := entriesOf s.heap hid) X₀ T st hn ho hcd hroom hbind hloc (fun g L h₁ F N X T' stg kg hL => ?_) hco hgen hk hcell
  have hin := all_in F N kg fun q hq => (hn q hq).1
  have hN : ∀ a ∈ hid, a ≠ L ∧ g.get? a = none := fun a q => by
    obtain ⟨o, e⟩ := (hh a q).1
    exact (N (a, o) (mem_entries.mpr ⟨q, e⟩)).2
  refine h g L h₁ F ?_ X T' stg (fun b o e n => kg b o e fun q => n ((ha b).mp q)) hin hN F.keep (fr_notCode F) (Heap.get?_none_of_le hL)
  intro q hq
  rcases List.mem_append.mp hq with hq | hq
  · exact ⟨hin _ _ (hex q hq).1, hN _ (hex q hq).2⟩
  · exact rest_news _ _ _ _ q hq
end
theorem recheck2 {g h h' : Heap} {L : Addr} {m : Str → Option Value} {as : List Addr} (ex : List (Addr × Obj)) (F : Fr g L h m) (k : Kept as h h') (has : ∀ a ∈ as, a ≠ L ∧ g.get? a = none) (hex : ∀ q ∈ ex, h'.get? q.1 = some q.2 ∧ q.1 ≠ L ∧ g.get? q.1 = none) :
    Fr g L h' m ∧ News g L h' (ex ++ restOf g L (ex.map (·.1)) h') ∧ (∀ b o, g.get? b = some o → h'.get? b = some o) ∧ ∀ o, h'.get? L = some o → ¬ CodeLike o := by
  have F' : Fr g L h' m := fr_kept F k (fun q => (has _ q).1 rfl) (fun a q => (has _ q).2)
  refine ⟨F', fun q hq => ?_, F'.keep, fr_notCode F'⟩
  rcases List.mem_append.mp hq with hq | hq
  · exact hex q hq
  · exact rest_news _ _ _ _ q hq
theorem TabOk.through {as : List Addr} {h h' : Heap} {P : Addr} {line col : Nat} {qual : Str} (x : TabOk h P line col qual) (k : Kept as h h') (hP : P ∉ as) (n : ∀ a ∈ as, ∀ o, h.get? a = some o → ¬ CodeLike o) : TabOk h' P line col qual :=
  x.move (fun o e => k _ o e hP) (.of k n)
theorem TabOk.isSome {h : Heap} {P : Addr} {line col : Nat} {qual : Str} (x : TabOk h P line col qual) : ∃ o, h.get? P = some o := let ⟨_, e, _⟩ := x; ⟨_, e⟩
theorem TabOk.ne {h : Heap} {P a : Addr} {line col : Nat} {qual : Str} {o : Obj} (x : TabOk h P line col qual) (e : h.get? a = some o) (hd : ∀ vs, o.data ≠ .fields vs) : P ≠ a := fun q => by
  obtain ⟨ps, e1, _⟩ := x
  rw [q, e] at e1
  cases e1
  exact hd _ rfl
end Mine

open PySem PySem.W PySem.Calls PyProof.Rows
set_option Elab.async false
set_option maxRecDepth 100000
namespace Mine
structure Room where
  key : Int
  addr : Addr
  xs : List Int
noncomputable def kvsOf (rs : List Room) : List (Int × Value) := rs.map fun r => (r.key, .ref r.addr)
noncomputable def ListAt (h : Heap) (a : Addr) (xs : List Int) : Prop := ∃ vs n, h.get? a = some (listOf vs.toArray n) ∧ IntsAre vs xs
theorem ListAt.at {h h' : Heap} {a : Addr} {xs : List Int} (x : ListAt h a xs) (k : ∀ o, h.get? a = some o → h'.get? a = some o) : ListAt h' a xs := let ⟨vs, n, e, r⟩ := x; ⟨vs, n, k _ e, r⟩
structure QOk (prog : Program) (w : World) (h : Heap) (aS aD : Addr) (st : List Int) (rs : List Room) : Prop where
  S : ListAt h aS st
  D : ∃ oD, h.get? aD = some oD ∧ oD.IsDictOf (intKind prog w) (kvsOf rs)
  R : ∀ r ∈ rs, ListAt h r.addr r.xs
  nd : (aS :: aD :: rs.map Room.addr).Nodup
noncomputable def cont (rs : List Room) : List (Int × List Int) := rs.map fun r => (r.key, r.xs)
noncomputable def putC (c : List (Int × List Int)) (k x : Int) : List (Int × List Int) := if k ∈ c.map (·.1) then c.map (fun p => if p.1 = k then (p.1, hpush p.2 x) else p) else c ++ [(k, hpush [] x)]
noncomputable def putS (c : List (Int × List Int)) (st : List Int) (k : Int) : List Int := if k ∈ c.map (·.1) then st else hpush st k
noncomputable def setRoom (rs : List Room) (k : Int) (ys : List Int) : List Room := rs.map fun r => if r.key = k then ⟨r.key, r.addr, ys⟩ else r

theorem kvs_keys (rs : List Room) : (kvsOf rs).map (·.1) = rs.map Room.key := by unfold kvsOf; rw [List.map_map]; rfl
theorem cont_keys (rs : List Room) : (cont rs).map (·.1) = rs.map Room.key := by unfold cont; rw [List.map_map]; rfl
theorem key_unique : ∀ {rs : List Room}, (rs.map Room.key).Nodup → ∀ {r r' : Room}, r ∈ rs → r' ∈ rs → r.key = r'.key → r = r'
  | [], _, _, _, h, _, _ => nomatch h
  | a :: l, hnd, r, r', h1, h2, e => by
    have hn := List.nodup_cons.mp hnd
    rcases List.mem_cons.mp h1 with rfl | g1 <;> rcases List.mem_cons.mp h2 with rfl | g2
    · rfl
    · exact absurd (List.mem_map.mpr ⟨r', g2, e.symm⟩) hn.1
    · exact absurd (List.mem_map.mpr ⟨r, g1, e⟩) hn.1
    · exact key_unique hn.2 g1 g2 e
theorem valueAt_kvs : ∀ {rs : List Room}, (rs.map Room.key).Nodup → ∀ {r : Room}, r ∈ rs → valueAt (kvsOf rs) r.key = some (.ref r.addr)
  | [], _, _, h => nomatch h
  | a :: l, hnd, r, h1 => by
    have hn := List.nodup_cons.mp hnd
    unfold valueAt kvsOf
    rw [List.map_cons, List.find?_cons]
    by_cases e : a.key = r.key
    · have : a = r := key_unique hnd (.head _) h1 e
      subst this; simp
    · rcases List.mem_cons.mp h1 with rfl | h1
      · exact absurd rfl e
      · have ih := valueAt_kvs hn.2 h1
        unfold valueAt kvsOf at ih
        simp only [e, decide_false]
        exact ih
theorem valueAt_none {rs : List Room} {k : Int} (h : k ∉ rs.map Room.key) : valueAt (kvsOf rs) k = none := by
  unfold valueAt
  rw [Option.map_eq_none_iff, List.find?_eq_none]
  intro p hp
  unfold kvsOf at hp
  obtain ⟨r, hr, rfl⟩ := List.mem_map.mp hp
  simp only [decide_eq_true_eq]
  intro e
  exact h (List.mem_map.mpr ⟨r, hr, e⟩)
theorem stored_none {rs : List Room} {k : Int} {a : Addr} {xs : List Int} (h : k ∉ rs.map Room.key) : stored (kvsOf rs) k (.ref a) = kvsOf (rs ++ [⟨k, a, xs⟩]) := by
  unfold stored
  rw [if_neg]
  · unfold kvsOf; rw [List.map_append]; rfl
  · intro q
    obtain ⟨p, hp, e⟩ := List.any_eq_true.mp q
    unfold kvsOf at hp
    obtain ⟨r, hr, rfl⟩ := List.mem_map.mp hp
    exact h (List.mem_map.mpr ⟨r, hr, of_decide_eq_true e⟩)
theorem setRoom_kvs (rs : List Room) (k : Int) (ys : List Int) : kvsOf (setRoom rs k ys) = kvsOf rs := by
  unfold kvsOf setRoom
  rw [List.map_map]
  apply List.map_congr_left
  intro r _
  show (Room.key (if r.key = k then _ else r), Value.ref (Room.addr (if r.key = k then _ else r))) = _
  split <;> rfl
theorem setRoom_addr (rs : List Room) (k : Int) (ys : List Int) : (setRoom rs k ys).map Room.addr = rs.map Room.addr := by
  unfold setRoom
  rw [List.map_map]
  apply List.map_congr_left
  intro r _
  show Room.addr (if r.key = k then _ else r) = _
  split <;> rfl
theorem setRoom_put {rs : List Room} {r : Room} {v : Int} (hnd : (rs.map Room.key).Nodup) (hr : r ∈ rs) : cont (setRoom rs r.key (hpush r.xs v)) = putC (cont rs) r.key v := by
  unfold putC
  rw [if_pos (by rw [cont_keys]; exact List.mem_map.mpr ⟨r, hr, rfl⟩)]
  unfold cont setRoom
  rw [List.map_map, List.map_map]
  apply List.map_congr_left
  intro r' hr'
  simp only [Function.comp]
  by_cases e : r'.key = r.key
  · have := key_unique hnd hr' hr e
    subst this; simp
  · simp [e]
theorem setRoom_mem {rs : List Room} {r r' : Room} {ys : List Int} (hnd : (rs.map Room.key).Nodup) (hr : r ∈ rs) (h : r' ∈ setRoom rs r.key ys) : (r'.addr = r.addr ∧ r'.xs = ys) ∨ (r' ∈ rs ∧ r'.key ≠ r.key) := by
  unfold setRoom at h
  obtain ⟨a, ha, e⟩ := List.mem_map.mp h
  by_cases q : a.key = r.key
  · have := key_unique hnd ha hr q
    subst this
    rw [if_pos rfl] at e; subst e; exact .inl ⟨rfl, rfl⟩
  · rw [if_neg q] at e; subst e; exact .inr ⟨ha, q⟩
theorem addr_ne {rs : List Room} (hnd : (rs.map Room.addr).Nodup) {r r' : Room} (h1 : r ∈ rs) (h2 : r' ∈ rs) (e : r.key ≠ r'.key) : r.addr ≠ r'.addr := by
  intro q
  apply e
  have key : ∀ {l : List Room}, (l.map Room.addr).Nodup → ∀ {a b : Room}, a ∈ l → b ∈ l → a.addr = b.addr → a = b := by
    intro l
    induction l with
    | nil => intro _ _ _ h; cases h
    | cons x l ih =>
      intro hn a b ha hb e
      have hn' := List.nodup_cons.mp hn
      rcases List.mem_cons.mp ha with rfl | ga <;> rcases List.mem_cons.mp hb with rfl | gb
      · rfl
      · exact absurd (List.mem_map.mpr ⟨b, gb, e.symm⟩) hn'.1
      · exact absurd (List.mem_map.mpr ⟨a, ga, e⟩) hn'.1
      · exact ih hn'.2 ga gb e
  rw [key hnd h1 h2 q]
theorem QOk.keys {prog : Program} {w : World} {h : Heap} {aS aD : Addr} {st : List Int} {rs : List Room} (q : QOk prog w h aS aD st rs) : (rs.map Room.key).Nodup := by
  obtain ⟨oD, _, es, ep, _, _, _, _, hn⟩ := q.D
  rw [kvs_keys] at hn; exact hn
theorem dict_notCode {prog : Program} {w : World} {o : Obj} {kvs : List (Int × Value)} (hD : o.IsDictOf (intKind prog w) kvs) : ∀ vs, o.data ≠ .fields vs := by
  intro vs e
  obtain ⟨es, ep, _, c3, _⟩ := hD
  rw [c3] at e; cases e
theorem notCode_of {o : Obj} (h : ∀ vs, o.data ≠ .fields vs) : ¬ CodeLike o := by rintro ⟨vs, q, t, c1, c2⟩; exact h _ c1
end Mine

local macro_rules | `(tactic| walk_at "eval Name") => `(tactic| (k_here; k_dflt (refine' Mine.nameP_L ?N ?c ?_ ?a ?b; (case a => rfl); (case b => rfl); (case N => k_asm); (case c => rfl); k_whole)))

open PySem PySem.W PySem.Calls PyProof.Rows
set_option Elab.async false
set_option maxRecDepth 100000
namespace Mine

section
variable {w : World} {A : Around} {s : Shared} {b₀ : Heap} {loose : List Str} {mean : ExcName → Option Value} {mg mb : Str → Option Value} {Q : Value → Shared → Prop} {E : Value → Shared → Prop}

theorem idm_call {x sg : Int} {t0 t1 : Tok} (hsg : sg = 1 ∨ sg = -1)
    (X₀ : (hd.heap_39 w.params).In b₀) (T : Top topProg loose mean mg mb b₀) (C1 : CodeHd b₀ 62 58) (C2 : CodeHd b₀ 69 65) (st : b₀.StaysIn s.heap) (hh : A.handled = none) (hroom : A.depth + 33 < recursionLimit) (hx0 : -(2 ^ 89) < x) (hx1 : x < 2 ^ 89)
    (hb1 : b₀.get? 58 = none) (ht1 : T58 s.heap) (hb2 : b₀.get? 65 = none) (ht2 : T65 s.heap)
    (h : ∀ h' tk a t t', Kept [58, 65] s.heap h' → T58 h' → T65 h' → h'.get? a = some (pairObj (x * sg / 4096) (x * sg % 4096 * sg) t t') → s.heap.get? a = none → Q (.ref a) { s with heap := h', toks := tk }) :
    wpAny (model Challenge.rw_op0093_01.row.prog w) A (call (.ref 84) [.int x t0, .int (4096 * sg) t1]) Q E s := by
  rcases hsg with rfl | rfl
  · refine idm1_call X₀ T C1 C2 st hh (by omega) hx0 hx1 hb1 ht1 hb2 ht2 ?_
    intro h' tk a t t' k a1 a2 e n
    exact h h' tk a t t' k a1 a2 (by rw [Int.mul_one, Int.mul_one]; exact e) n
  · refine idm2_call X₀ T C1 C2 st hh (by omega) hx0 hx1 hb1 ht1 hb2 ht2 ?_
    intro h' tk a t t' k a1 a2 e n
    exact h h' tk a t t' k a1 a2 (by rw [show x * -1 = -x from by omega, show -x % 4096 * -1 = -(-x % 4096) from by omega]; exact e) n

noncomputable def storeyOf (x sg : Int) : Int := x * sg / 4096 * sg
noncomputable def bitOf (x sg : Int) : Int := x * sg % 4096 * sg

set_option maxHeartbeats 4000000 in
theorem put_call {x sg : Int} {t0 t1 : Tok} {aS aD : Addr} {stv : List Int} {rs : List Room} (hsg : sg = 1 ∨ sg = -1)
    (X₀ : (hd.heap_39 w.params).In b₀) (T : Top topProg loose mean mg mb b₀) (C1 : CodeHd b₀ 62 58) (C2 : CodeHd b₀ 69 65) (st : b₀.StaysIn s.heap) (hh : A.handled = none) (hroom : A.depth + 40 < recursionLimit) (hun : A.units + 200 < cLine) (hx0 : -(2 ^ 89) < x) (hx1 : x < 2 ^ 89)
    (hb1 : b₀.get? 58 = none) (ht1 : T58 s.heap) (hb2 : b₀.get? 65 = none) (ht2 : T65 s.heap)
    (hq : QOk Challenge.rw_op0093_01.row.prog w s.heap aS aD stv rs) (hbS : b₀.get? aS = none) (hbD : b₀.get? aD = none) (hbR : ∀ r ∈ rs, b₀.get? r.addr = none) (hlo : (aD == sysModules) = false)
    (hz1 : stv.length < 800) (hz2 : rs.length < 800) (hz3 : ∀ r ∈ rs, r.xs.length < 800)
    (h : ∀ h' tk rs', Kept (58 :: 65 :: aS :: aD :: rs.map Room.addr) s.heap h' → T58 h' → T65 h' → QOk Challenge.rw_op0093_01.row.prog w h' aS aD (putS (cont rs) stv (storeyOf x sg)) rs' → cont rs' = putC (cont rs) (storeyOf x sg) (bitOf x sg) →
      (∀ r ∈ rs', s.heap.get? r.addr = none ∨ ∃ r₀ ∈ rs, r.addr = r₀.addr) → Q (.bool true) { s with heap := h', toks := tk }) :
    wpAny (model Challenge.rw_op0093_01.row.prog w) A (call (.ref 103) [.ref aS, .ref aD, .int x t0, .int sg t1]) Q E s := by
  obtain ⟨Ah, Ad, Af, Ag, Au⟩ := A
  cases hh
  dsimp only at hroom hun
  obtain ⟨⟨vS, nS, eS, hiS⟩, ⟨oD, eD, hD⟩, hR, hnd⟩ := hq
  revert X₀; k_fill; intro X₀
  refine' enter_hide (58 :: 65 :: aS :: aD :: rs.map Room.addr) [(aD, oD)] (binds := [("storeys", .ref aS), ("rooms", .ref aD), ("number", .int x t0), ("sign", .int sg t1)]) X₀ T st ?hh ?hex ?ho ?hcd (by show Ad < _; exact room_0 hroom) ?hbind ?hloc ?h ?c1 ?c2 ?c3 ?c4
  walk_at "my cases"
  case hex =>
    intro q hq
    rw [List.mem_singleton.mp hq]; exact ⟨eD, .tail _ (.tail _ (.tail _ (.head _)))⟩
  case hh =>
    intro a ha
    rcases List.mem_cons.mp ha with rfl | ha
    · exact ⟨ht1.isSome, hb1⟩
    rcases List.mem_cons.mp ha with rfl | ha
    · exact ⟨ht2.isSome, hb2⟩
    rcases List.mem_cons.mp ha with rfl | ha
    · exact ⟨⟨_, eS⟩, hbS⟩
    rcases List.mem_cons.mp ha with rfl | ha
    · exact ⟨⟨_, eD⟩, hbD⟩
    · obtain ⟨r, hr, rfl⟩ := List.mem_map.mp ha
      obtain ⟨v, n, e, _⟩ := hR r hr
      exact ⟨⟨_, e⟩, hbR r hr⟩
  case h =>
    intro g L h₁ F N X T stg kg hin hhid hk hLc hLs
    clear X₀
    replace C1 := C1.keeps stg
    replace C2 := C2.keeps stg
    simp only [List.nil_append, List.cons_append, List.map_nil, List.map_cons] at N
    replace ht1 : T58 h₁ := ht1.kept (as := []) hin
    replace ht2 : T65 h₁ := ht2.kept (as := []) hin
    obtain ⟨nL1, hg1⟩ := hhid 58 (.head _)
    obtain ⟨nL2, hg2⟩ := hhid 65 (.tail _ (.head _))
    obtain ⟨nLD, hgD⟩ := hhid aD (.tail _ (.tail _ (.tail _ (.head _))))
    have n1D : (58 : Addr) ≠ aD := ht1.ne (hin _ _ eD) (dict_notCode hD)
    have n2D : (65 : Addr) ≠ aD := ht2.ne (hin _ _ eD) (dict_notCode hD)
    (try k_unmd); k_fold
    walk_at "my go2"
    rename Fr _ _ _ _ => F
    rename News _ _ _ _ => N
    have K1 := rest_kept F N (fun q hq => .tail _ hq) hk
    have hnc : ∀ a ∈ [L, aD], ∀ o, h₁.get? a = some o → ¬ CodeLike o := by
      intro a ha
      rcases List.mem_cons.mp ha with rfl | ha
      · exact hLc
      · intro o e; rw [List.mem_singleton.mp ha, hin _ _ eD] at e; cases e; exact notCode_of (dict_notCode hD)
    replace ht1 := ht1.through K1 (by simp [nL1, n1D]) hnc
    replace ht2 := ht2.through K1 (by simp [nL2, n2D]) hnc
    refine' idm_call hsg X T C1 C2 F.keep rfl ?y1 hx0 hx1 hg1 ht1 hg2 ht2 ?_
    case y1 => show Ad + 1 + _ < _; exact room_1 hroom (by decide)
    intro h2 tk2 aP tP tP' k2 ht3 ht4 haP hnP
    obtain ⟨qv, hqv⟩ : ∃ q, q = x * sg / 4096 := ⟨_, rfl⟩
    obtain ⟨rv, hrv⟩ : ∃ r, r = x * sg % 4096 * sg := ⟨_, rfl⟩
    have hrs : x * sg % 4096 = rv * sg := by rw [hrv]; rcases hsg with rfl | rfl <;> omega
    have hqs : x * sg / 4096 % 16 * 4096 = qv.fmod 16 * 4096 := by rw [hqv, Int.fmod_eq_emod_of_nonneg _ (by decide)]
    rw [← hqv, ← hrv] at haP
    obtain ⟨na1, na2⟩ := fresh_in F hnP
    have nPD := ne_fresh hnP (N.get (.head _))
    have eD2 := k2 _ _ (N.get (.head _)) (by simp [n1D.symm, n2D.symm])
    obtain ⟨F2, N2, hk2, hLc2⟩ := recheck2 [(aP, _), (aD, oD)] F k2 (by
      intro a ha
      rcases List.mem_cons.mp ha with rfl | ha
      · exact ⟨nL1, hg1⟩
      · rw [List.mem_singleton.mp ha]; exact ⟨nL2, hg2⟩) (fun q hq => by
      rcases List.mem_cons.mp hq with rfl | hq
      · exact ⟨haP, na1, na2⟩
      · rw [List.mem_singleton.mp hq]; exact ⟨eD2, nLD, hgD⟩)
    simp only [List.cons_append, List.nil_append, List.map_cons, List.map_nil] at N2
    have K2 : Kept [L, aD, 58, 65] h₁ h2 := fun b o e n => by
      refine k2 b o (K1 b o e ?_) ?_
      · intro q; exact n (by simp only [List.mem_cons, List.not_mem_nil, or_false] at q ⊢; rcases q with q | q <;> simp [q])
      · intro q; exact n (by simp only [List.mem_cons, List.not_mem_nil, or_false] at q ⊢; rcases q with q | q <;> simp [q])
    clear F N
    (try k_unmd)
    walk_at "my go2"
    refine' comp_my (cl := []) (fun _ => false) (fun _ _ => True) ?q1 ?q2 ?q3 ?q4 ?q5 ?_ ?q6
    case q1 => with_unfolding_all rfl
    case q2 => decide
    case q3 => rfl
    case q4 => decide
    case q5 => rfl
    case q6 => intro _; rfl
    walk_at "my go2"
    rename Fr _ _ _ _ => F
    rename News _ _ _ _ => N
    refine comp_tuple (items := [.int qv tP, .int rv tP']) rfl F N ⟨_, N.get (.head _), rfl, _, rfl⟩ (by rw [sizeLine_eq]; show 2 ≤ _; decide) ?_ (fun _ _ _ _ _ _ hp => nomatch hp) ?_
    · intro C v s₃ m₃ E' hv F₃
      obtain ⟨a, t, rfl⟩ : ∃ a t, v = .int a t := by
        rcases List.mem_cons.mp hv with rfl | hv
        · exact ⟨_, _, rfl⟩
        · rw [List.mem_singleton.mp hv]; exact ⟨_, _, rfl⟩
      have X₃ := X.keeps F.keep
      have T₃ := T.keeps F.keep
      clear F N
      dsimp only [kstB] at F₃
      have N₃ := nil_news F₃
      refine wpAny_tests_one ?_
      walk_at "my go2"
      exact ⟨_, _, rfl, fun _ _ e => e⟩
    · intro D3 h3 tk3 ys n3 hpair F3 N3 hk3 hD3
      have hys : ys = [] := by
        rw [show ([Value.int qv tP, Value.int rv tP'].filter fun _ => false) = [] from rfl] at hpair
        cases hpair; rfl
      subst hys
      have nDD := ne_fresh hD3 (N.get (.tail _ (.head _)))
      have nDP := ne_fresh hD3 (N.get (.head _))
      clear F N
      dsimp only
      walk_at "my go2"
      rename Fr _ _ _ _ => F
      rename News _ _ _ _ => N
      refine imode_call X T F.keep (by show Ad + 1 < _; exact room_p hroom (by decide)) ?_
      intro h4 tk4 t4 k4
      have F4 := fr_kept F k4 (by simp) (by simp)
      have N4 := news_kept N k4 (by simp)
      rw [hrs]
      clear F N
      dsimp only
      walk_at "my go2"
      · rename _ ≠ _ => hne; exact absurd rfl hne
      rename Fr _ _ _ _ => F
      rename News _ _ _ _ => N
      refine ifmt_call X T F.keep (by show Ad + 1 < _; exact room_p hroom (by decide)) ?_
      intro h5 tk5 t5 k5
      have F5 := fr_kept F k5 (by simp) (by simp)
      have N5 := news_kept N k5 (by simp)
      rw [hqs]
      clear F N
      dsimp only
      walk_at "my go2"
      · rename _ ≠ _ => hne; exact absurd rfl hne
      rename Fr _ _ _ _ => F
      rename News _ _ _ _ => N
      rename_i aT _ ltT _ _ _ _ _ h6
      have K3 := rest_kept (ex := [aP, aD]) F N (fun q hq => .tail _ (.tail _ (.tail _ (.tail _ (.tail _ (.tail _ hq)))))) hk2
      have hvis : ∀ b o, h₁.get? b = some o → b ∉ [L, aD, 58, 65] → b ≠ aP := fun b o e n q => by
        have := K1 b o e (fun z => n (by simp only [List.mem_cons, List.not_mem_nil, or_false] at z ⊢; rcases z with z | z <;> simp [z]))
        rw [q] at this; dsimp only at hnP; rw [this] at hnP; cases hnP
      have K6 : Kept [L, aD, 58, 65] h₁ _ := fun b o e n => K3 b o (K2 b o e n) (fun z => by
        simp only [List.mem_cons, List.not_mem_nil, or_false] at z
        rcases z with z | z | z
        · exact n (by simp [z])
        · exact hvis b o e n z
        · exact n (by simp [z]))
      have hnd1 := List.nodup_cons.mp hnd
      have hnd2 := List.nodup_cons.mp hnd1.2
      have hkeys : (rs.map Room.key).Nodup := by
        obtain ⟨es, ep, _, _, _, _, hn⟩ := id hD
        rw [kvs_keys] at hn; exact hn
      have hoffR : ∀ r ∈ rs, r.addr ∉ [L, aD, 58, 65] ∧ r.addr ≠ aD := fun r hr => by
        obtain ⟨v, n, e, _⟩ := hR r hr
        have z1 := (hhid r.addr (.tail _ (.tail _ (.tail _ (.tail _ (List.mem_map.mpr ⟨r, hr, rfl⟩)))))).1
        have z2 : r.addr ≠ aD := fun q => hnd2.1 (List.mem_map.mpr ⟨r, hr, q⟩)
        have z3 : (58 : Addr) ≠ r.addr := ht3.ne (K2 _ _ (hin _ _ e) (by
          simp only [List.mem_cons, List.not_mem_nil, or_false, not_or]
          exact ⟨z1, z2, fun q => by have := ht1.ne (a := r.addr) (K1 _ _ (hin _ _ e) (by simp [z1, z2])) (by intro vs q; cases q); exact this q.symm, fun q => by have := ht2.ne (a := r.addr) (K1 _ _ (hin _ _ e) (by simp [z1, z2])) (by intro vs q; cases q); exact this q.symm⟩)) (by intro vs q; cases q)
        have z4 : (65 : Addr) ≠ r.addr := ht2.ne (a := r.addr) (K1 _ _ (hin _ _ e) (by simp [z1, z2])) (by intro vs q; cases q)
        exact ⟨by simp [z1, z2, z3.symm, z4.symm], z2⟩
      have hoffS : aS ∉ [L, aD, 58, 65] := by
        have z1 := (hhid aS (.tail _ (.tail _ (.head _)))).1
        have z2 : aS ≠ aD := fun q => hnd1.1 (by rw [q]; exact .head _)
        have z3 := ht1.ne (a := aS) (K1 _ _ (hin _ _ eS) (by simp [z1, z2])) (by intro vs q; cases q)
        have z4 := ht2.ne (a := aS) (K1 _ _ (hin _ _ eS) (by simp [z1, z2])) (by intro vs q; cases q)
        simp [z1, z2, z3.symm, z4.symm]
      have hnc2 : ∀ a ∈ [L, aP, aD], ∀ o, h2.get? a = some o → ¬ CodeLike o := by
        intro a ha
        rcases List.mem_cons.mp ha with rfl | ha
        · exact hLc2
        rcases List.mem_cons.mp ha with rfl | ha
        · intro o e; rw [haP] at e; cases e; rintro ⟨vs, q, t, c1, c2⟩; cases c1
        · intro o e; rw [List.mem_singleton.mp ha, eD2] at e; cases e; exact notCode_of (dict_notCode hD)
      have n1P : (58 : Addr) ≠ aP := ht3.ne haP (by intro vs q; cases q)
      have n2P : (65 : Addr) ≠ aP := ht4.ne haP (by intro vs q; cases q)
      replace ht3 := ht3.through K3 (by simp [nL1, n1P, n1D]) hnc2
      replace ht4 := ht4.through K3 (by simp [nL2, n2P, n2D]) hnc2
      have eS6 := K6 _ _ (hin _ _ eS) hoffS
      have hR6 : ∀ r ∈ rs, ListAt _ r.addr r.xs := fun r hr => (hR r hr).at fun o e => K6 _ o (hin _ _ e) (hoffR r hr).1
      have eT6 := N.get (.tail _ (.head _))
      have eD6 := N.get (.tail _ (.tail _ (.tail _ (.tail _ (.tail _ (.head _))))))
      have nTL := (N _ (.tail _ (.head _))).2
      have hnT : ∀ b o, h₁.get? b = some o → g.get? b = none → b ∉ [L, aD, 58, 65] → b ≠ aT := fun b o e hg n => by
        have e2 := K2 _ _ e n
        have n' := n
        simp only [List.mem_cons, List.not_mem_nil, or_false, not_or] at n'
        exact off_of_lt (d := aT) ltT.2.2.2.2 (b, _) (mem_restOf.mpr ⟨e2, hg, n'.1, by simp [n'.2.1, hvis _ _ e n]⟩) aT (.head _)
      have nST : aS ≠ aT := hnT _ _ (hin _ _ eS) (hhid aS (.tail _ (.tail _ (.head _)))).2 hoffS
      have hst : storeyOf x sg = qv * sg := by unfold storeyOf; rw [hqv]
      have hbt : bitOf x sg = rv := by unfold bitOf; rw [hrv]
      have n1T := ht3.ne eT6 (by intro vs q; cases q)
      have n2T := ht4.ne eT6 (by intro vs q; cases q)
      by_cases hkey : qv * sg ∈ rs.map Room.key
      · obtain ⟨r, hr, hrk⟩ := List.mem_map.mp hkey
        obtain ⟨vR, nR, eR6, hiR⟩ := hR6 r hr
        have zR := hhid r.addr (.tail _ (.tail _ (.tail _ (.tail _ (List.mem_map.mpr ⟨r, hr, rfl⟩)))))
        have nTD : aT ≠ aD := by k_ne
        have nTR : r.addr ≠ aT := by
          obtain ⟨v, n, e, _⟩ := hR r hr
          exact hnT _ _ (hin _ _ e) zR.2 (hoffR r hr).1
        obtain ⟨F7, N7, hk7, hLc7⟩ := recheck2 [(aT, _), (aD, oD), (r.addr, _)] F (Kept.refl [] _) (fun _ hq => nomatch hq) (fun q hq => by
          rcases List.mem_cons.mp hq with rfl | hq
          · exact ⟨eT6, nTL⟩
          rcases List.mem_cons.mp hq with rfl | hq
          · exact ⟨eD6, nLD, hgD⟩
          · rw [List.mem_singleton.mp hq]; exact ⟨eR6, zR⟩)
        simp only [List.cons_append, List.nil_append, List.map_cons, List.map_nil] at N7
        refine kdg_notin N (.tail _ (.tail _ (.tail _ (.tail _ (.tail _ (.head _)))))) hD hlo (intKind_is _ _ _ _) true (by rw [← hrk, valueAt_kvs hkeys hr]; rfl) ?_
        clear F N
        simp only [Bool.not_true]
        walk_at "my go2"
        refine kda_item (k := qv * sg) N7 (.tail _ (.head _)) hD (intKind_is _ _ _ _) (by rw [← hrk]; exact valueAt_kvs hkeys hr) ?_
        walk_at "my go2"
        refine' push_call X T F7.keep ?y1 (N7.get (.tail _ (.tail _ (.head _)))) zR.2 hiR ?y2 ?_
        case y1 => show Ad + 1 + 1 < _; exact room_1 hroom (by decide)
        case y2 => have := hz3 r hr; omega
        intro h8 tk8 v8 n8 k8 e8 hi8
        have hoff7 := rest_off g L [aT, aD, r.addr] h6
        obtain ⟨F8, N8⟩ := kept_upd F7 N7 (.tail (fun q => nTR q.symm) (.tail (fun q => (hoffR r hr).2 q.symm) (.head (fun p hp => hoff7 p hp r.addr (.tail _ (.tail _ (.head _))))))) k8 e8
        have m1 : @Ne Nat aT aD := nTD
        have m2 : @Ne Nat r.addr aT := nTR
        clear F7 N7
        dsimp only
        walk_at "my go2"
        refine' comp_my (cl := []) (fun _ => false) (fun _ _ => True) ?q1 ?q2 ?q3 ?q4 ?q5 ?_ ?q6
        case q1 => with_unfolding_all rfl
        case q2 => decide
        case q3 => rfl
        case q4 => decide
        case q5 => rfl
        case q6 => intro _; rfl
        walk_at "my go2"
        rename Fr _ _ _ _ => F
        rename News _ _ _ _ => N
        refine comp_list (items := [Value.none]) rfl F N (PySem.IsL.isList (n := 0 + 1) (N.get (.head _))) (by rw [sizeLine_eq]; show 1 ≤ _; decide) ?_ (fun _ _ _ _ _ _ hp => nomatch hp) ?_
        · intro C v s₃ m₃ E' hv F₃
          obtain rfl : v = .none := List.mem_singleton.mp hv
          have X₃ := X.keeps F.keep
          have T₃ := T.keeps F.keep
          clear F N
          dsimp only [kstB] at F₃
          have N₃ := nil_news F₃
          refine wpAny_tests_one ?_
          walk_at "my go2"
          exact ⟨_, _, rfl, fun _ _ e => e⟩
        intro D9 h9 tk9 ys n9 hpair F9 N9 hk9 hD9
        have hys : ys = [] := by
          rw [show (([Value.none] : List Value).filter fun _ => false) = [] from rfl] at hpair
          cases hpair; rfl
        subst hys
        clear F N
        dsimp only
        walk_at "my go2"
        rename Fr _ _ _ _ => F
        rename News _ _ _ _ => N
        have K9 := rest_kept (ex := [aT, aD, r.addr]) F N (fun q hq => .tail _ (.tail _ (.tail _ (.tail _ (.tail _ hq))))) hk7
        have hnc9 : ∀ a ∈ [L, aT, aD, r.addr], ∀ o, h6.get? a = some o → ¬ CodeLike o := by
          intro a ha
          rcases List.mem_cons.mp ha with rfl | ha
          · exact hLc7
          rcases List.mem_cons.mp ha with rfl | ha
          · intro o e; rw [eT6] at e; cases e; exact list_notCode
          rcases List.mem_cons.mp ha with rfl | ha
          · intro o e; rw [eD6] at e; cases e; exact notCode_of (dict_notCode hD)
          · intro o e; rw [List.mem_singleton.mp ha, eR6] at e; cases e; exact list_notCode
        have hoR := hoffR r hr
        have hoR' := hoR.1
        simp only [List.mem_cons, List.not_mem_nil, or_false, not_or] at hoR'
        have hoS' := hoffS
        simp only [List.mem_cons, List.not_mem_nil, or_false, not_or] at hoS'
        have nSR : aS ≠ r.addr := fun q => hnd1.1 (by rw [q]; exact .tail _ (List.mem_map.mpr ⟨r, hr, rfl⟩))
        refine h _ _ (setRoom rs r.key (hpush r.xs rv)) (fun b o e n => F.keep b o (kg b o e n)) (ht3.through K9 (by simp [nL1, n1T, n1D, Ne.symm hoR'.2.2.1]) hnc9) (ht4.through K9 (by simp [nL2, n2T, n2D, Ne.symm hoR'.2.2.2]) hnc9) ⟨?_, ⟨oD, N.get (.tail _ (.tail _ (.tail _ (.head _)))), by rw [setRoom_kvs]; exact hD⟩, ?_, by rw [setRoom_addr]; exact hnd⟩ ?_ ?_
        · rw [hst]; unfold putS; rw [if_pos (by rw [cont_keys]; exact hkey)]
          exact ⟨vS, nS, K9 _ _ eS6 (by simp [hoS'.1, nST, hoS'.2.1, nSR]), hiS⟩
        · intro r' hr'
          rcases setRoom_mem hkeys hr hr' with ⟨e1, e2⟩ | ⟨h1, h2⟩
          · rw [e1, e2]; exact ⟨v8, n8, N.get (.tail _ (.tail _ (.tail _ (.tail _ (.head _))))), hi8⟩
          · obtain ⟨v, n, e, _⟩ := hR r' h1
            have hg' := (hhid r'.addr (.tail _ (.tail _ (.tail _ (.tail _ (List.mem_map.mpr ⟨r', h1, rfl⟩)))))).2
            have hz := (hoffR r' h1).1
            have n3 := hnT _ _ (hin _ _ e) hg' hz
            simp only [List.mem_cons, List.not_mem_nil, or_false, not_or] at hz
            exact (hR6 r' h1).at fun o e => K9 _ o e (by simp [hz.1, n3, hz.2.1, addr_ne hnd2.2 h1 hr h2])
        · rw [hst, hbt, ← hrk]; exact setRoom_put hkeys hr
        · intro r' hr'
          refine .inr ?_
          have : r'.addr ∈ (setRoom rs r.key (hpush r.xs rv)).map Room.addr := List.mem_map.mpr ⟨r', hr', rfl⟩
          rw [setRoom_addr] at this
          obtain ⟨r₀, h0, h1⟩ := List.mem_map.mp this
          exact ⟨r₀, h0, h1.symm⟩
      · have zS := hhid aS (.tail _ (.tail _ (.head _)))
        have nTD : aT ≠ aD := by k_ne
        obtain ⟨F7, N7, hk7, hLc7⟩ := recheck2 [(aT, _), (aD, oD), (aS, _)] F (Kept.refl [] _) (fun _ hq => nomatch hq) (fun q hq => by
          rcases List.mem_cons.mp hq with rfl | hq
          · exact ⟨eT6, nTL⟩
          rcases List.mem_cons.mp hq with rfl | hq
          · exact ⟨eD6, nLD, hgD⟩
          · rw [List.mem_singleton.mp hq]; exact ⟨eS6, zS⟩)
        simp only [List.cons_append, List.nil_append, List.map_cons, List.map_nil] at N7
        refine kdg_notin N (.tail _ (.tail _ (.tail _ (.tail _ (.tail _ (.head _)))))) hD hlo (intKind_is _ _ _ _) false (by rw [valueAt_none hkey]; rfl) ?_
        have hoff7 := rest_off g L [aT, aD, aS] h6
        have m1 : @Ne Nat aT aD := nTD
        have m2 : @Ne Nat aS aT := nST
        have m3 : @Ne Nat aS aD := fun q => hnd1.1 (by rw [show aS = aD from q]; exact .head _)
        clear F N
        simp only [Bool.not_false]
        walk_at "my go2"
        rename Fr _ _ _ _ => F
        rename News _ _ _ _ => N
        rename_i aN _ ltN
        refine kda_set (knd := intKind _ _) (k := qv * sg) F N (by k_updF) hD (intKind_is _ _ _ _) (by rw [sizeLine_eq]; unfold kvsOf; rw [List.length_map]; omega) ?_
        intro h8 oD8 F8 N8 hD8
        rw [stored_none (xs := hpush [] rv) hkey] at hD8
        have hoffN : OwnOff (restOf g L [aT, aD, aS] h6) [aN, aT, aD, aS] := fun p hp b hb => by
          rcases List.mem_cons.mp hb with rfl | hb
          · exact off_of_lt ltN.2.2.2 p hp _ (.head _)
          · exact hoff7 p hp b hb
        clear hoff7
        have nNL := (N _ (.head _)).2
        clear F N
        (try dsimp only [List.nil_append, List.cons_append] at N8)
        dsimp only
        walk_at "my go2"
        rename Fr _ _ _ _ => F
        rename News _ _ _ _ => N
        have m4 : @Ne Nat aN aS := by omega
        have m5 : @Ne Nat aN aT := by omega
        have m6 : @Ne Nat aN aD := by omega
        refine' push_call X T F.keep ?y1 (N.get (.tail _ (.tail _ (.tail _ (.head _))))) zS.2 hiS ?y2 ?_
        case y1 => show Ad + 1 + 1 < _; exact room_1 hroom (by decide)
        case y2 => omega
        intro h10 tk10 vS' nS' k10 e10 hi10
        obtain ⟨F10, N10⟩ := kept_upd F N (.tail m4 (.tail (Ne.symm m2) (.tail (Ne.symm m3) (.head (fun p hp => hoffN p hp aS (.tail _ (.tail _ (.tail _ (.head _))))))))) k10 e10
        clear F N
        dsimp only
        walk_at "my go2"
        rename Fr _ _ _ _ => F
        rename News _ _ _ _ => N
        have hkeys8 : ((rs ++ [⟨qv * sg, aN, hpush [] rv⟩] : List Room).map Room.key).Nodup := by
          obtain ⟨es, ep, _, _, _, _, hn⟩ := id hD8
          rw [kvs_keys] at hn; exact hn
        refine kda_item (k := qv * sg) N (.tail _ (.tail _ (.head _))) hD8 (intKind_is _ _ _ _) (valueAt_kvs (r := ⟨qv * sg, aN, hpush [] rv⟩) hkeys8 (List.mem_append.mpr (.inr (.head _)))) ?_
        walk_at "my go2"
        refine' push_call (vs := []) (xs := []) X T F.keep ?y1 (N.get (.head _)) nNL.2 .nil ?y2 ?_
        case y1 => show Ad + 1 + 1 < _; exact room_1 hroom (by decide)
        case y2 => simp
        intro h11 tk11 vN nN k11 e11 hi11
        obtain ⟨F11, N11⟩ := kept_upd F N (.head (by
          intro p hp
          rcases List.mem_cons.mp hp with rfl | hp
          · exact Ne.symm m5
          rcases List.mem_cons.mp hp with rfl | hp
          · exact Ne.symm m6
          rcases List.mem_cons.mp hp with rfl | hp
          · exact Ne.symm m4
          · exact hoffN p hp aN (.head _))) k11 e11
        clear F N
        dsimp only
        walk_at "my go2"
        refine' comp_my (cl := []) (fun _ => false) (fun _ _ => True) ?q1 ?q2 ?q3 ?q4 ?q5 ?_ ?q6
        case q1 => with_unfolding_all rfl
        case q2 => decide
        case q3 => rfl
        case q4 => decide
        case q5 => rfl
        case q6 => intro _; rfl
        walk_at "my go2"
        rename Fr _ _ _ _ => F
        rename News _ _ _ _ => N
        refine comp_list (items := [.none, .none]) rfl F N (PySem.IsL.isList (n := 0 + 1 + 1) (N.get (.tail _ (.head _)))) (by rw [sizeLine_eq]; show 2 ≤ _; decide) ?_ (fun _ _ _ _ _ _ hp => nomatch hp) ?_
        · intro C v s₃ m₃ E' hv F₃
          obtain rfl : v = .none := by rcases List.mem_cons.mp hv with rfl | hv; rfl; exact List.mem_singleton.mp hv
          have X₃ := X.keeps F.keep
          have T₃ := T.keeps F.keep
          clear F N
          dsimp only [kstB] at F₃
          have N₃ := nil_news F₃
          refine wpAny_tests_one ?_
          walk_at "my go2"
          exact ⟨_, _, rfl, fun _ _ e => e⟩
        intro D9 h9 tk9 ys n9 hpair F9 N9 hk9 hD9
        have hys : ys = [] := by
          rw [show (([.none, .none] : List Value).filter fun _ => false) = [] from rfl] at hpair
          cases hpair; rfl
        subst hys
        clear F N
        dsimp only
        walk_at "my go2"
        rename Fr _ _ _ _ => F
        rename News _ _ _ _ => N
        have K9 := rest_kept (ex := [aT, aD, aS]) F N (fun q hq => .tail _ (.tail _ (.tail _ (.tail _ (.tail _ (.tail _ hq)))))) hk7
        have hnc9 : ∀ a ∈ [L, aT, aD, aS], ∀ o, h6.get? a = some o → ¬ CodeLike o := by
          intro a ha
          rcases List.mem_cons.mp ha with rfl | ha
          · exact hLc7
          rcases List.mem_cons.mp ha with rfl | ha
          · intro o e; rw [eT6] at e; cases e; exact list_notCode
          rcases List.mem_cons.mp ha with rfl | ha
          · intro o e; rw [eD6] at e; cases e; exact notCode_of (dict_notCode hD)
          · intro o e; rw [List.mem_singleton.mp ha, eS6] at e; cases e; exact list_notCode
        have hoS' := hoffS
        simp only [List.mem_cons, List.not_mem_nil, or_false, not_or] at hoS'
        have hR7 : ∀ r ∈ rs, r.addr ∉ [L, aT, aD, aS] ∧ g.get? r.addr = none := fun r hr => by
          obtain ⟨v, n, e, _⟩ := hR r hr
          have hz := hoffR r hr
          have hg' := (hhid r.addr (.tail _ (.tail _ (.tail _ (.tail _ (List.mem_map.mpr ⟨r, hr, rfl⟩)))))).2
          have n3 := hnT _ _ (hin _ _ e) hg' hz.1
          have hz1 := hz.1
          simp only [List.mem_cons, List.not_mem_nil, or_false, not_or] at hz1
          have nSR : aS ≠ r.addr := fun q => hnd1.1 (by rw [q]; exact .tail _ (List.mem_map.mpr ⟨r, hr, rfl⟩))
          exact ⟨by simp [hz1.1, n3, hz1.2.1, nSR.symm], hg'⟩
        have hNR : ∀ r ∈ rs, r.addr ≠ aN := fun r hr => by
          obtain ⟨v, n, e, _⟩ := hR6 r hr
          have z := hR7 r hr
          have z1 := z.1
          simp only [List.mem_cons, List.not_mem_nil, or_false, not_or] at z1
          exact hoffN (r.addr, _) (mem_restOf.mpr ⟨e, z.2, z1.1, by simp [z1.2.1, z1.2.2.1, z1.2.2.2]⟩) aN (.head _)
        have h6N : h6.get? aN = none := by
          cases q : h6.get? aN with
          | none => rfl
          | some o => exact absurd rfl (hoffN (aN, o) (mem_restOf.mpr ⟨q, nNL.2, nNL.1, by
              simp only [List.mem_cons, List.not_mem_nil, or_false, not_or]; exact ⟨m5, m6, m4⟩⟩) aN (.head _))
        have hfresh : s.heap.get? aN = none := by
          cases q : s.heap.get? aN with
          | none => rfl
          | some o =>
            have := K6 _ _ (hin _ _ q) (by
              simp only [List.mem_cons, List.not_mem_nil, or_false, not_or]
              refine ⟨nNL.1, m6, fun z => ?_, fun z => ?_⟩
              · obtain ⟨o', e'⟩ := ht3.isSome; rw [z, e'] at h6N; cases h6N
              · obtain ⟨o', e'⟩ := ht4.isSome; rw [z, e'] at h6N; cases h6N)
            rw [h6N] at this; cases this
        have nS1 : (58 : Addr) ≠ aS := Ne.symm hoS'.2.2.1
        have nS2 : (65 : Addr) ≠ aS := Ne.symm hoS'.2.2.2
        refine h _ _ (rs ++ [⟨qv * sg, aN, hpush [] rv⟩]) (fun b o e n => F.keep b o (kg b o e n)) (ht3.through K9 (by simp [nL1, n1T, n1D, nS1]) hnc9) (ht4.through K9 (by simp [nL2, n2T, n2D, nS2]) hnc9) ⟨?_, ⟨oD8, N.get (.tail _ (.tail _ (.tail _ (.tail _ (.head _))))), hD8⟩, ?_, ?_⟩ ?_ ?_
        · rw [hst]; unfold putS; rw [if_neg (by rw [cont_keys]; exact hkey)]
          exact ⟨vS', nS', N.get (.tail _ (.tail _ (.tail _ (.tail _ (.tail _ (.head _)))))), hi10⟩
        · intro r' hr'
          rcases List.mem_append.mp hr' with hr' | hr'
          · exact (hR6 r' hr').at fun o e => K9 _ o e (hR7 r' hr').1
          · rw [List.mem_singleton.mp hr']; exact ⟨vN, nN, N.get (.tail _ (.tail _ (.head _))), hi11⟩
        · rw [List.map_append, ← List.cons_append, ← List.cons_append]
          refine List.nodup_append.mpr ⟨hnd, List.nodup_cons.mpr ⟨List.not_mem_nil, List.nodup_nil⟩, ?_⟩
          intro a ha b hb
          rw [List.map_cons, List.map_nil, List.mem_singleton] at hb
          rw [hb]
          rcases List.mem_cons.mp ha with rfl | ha
          · exact Ne.symm m4
          rcases List.mem_cons.mp ha with rfl | ha
          · exact Ne.symm m6
          · obtain ⟨r, hr, rfl⟩ := List.mem_map.mp ha
            exact hNR r hr
        · rw [hst, hbt]
          unfold putC
          rw [if_neg (by rw [cont_keys]; exact hkey)]
          unfold cont
          rw [List.map_append]; rfl
        · intro r' hr'
          rcases List.mem_append.mp hr' with hr' | hr'
          · exact .inr ⟨r', hr', rfl⟩
          · rw [List.mem_singleton.mp hr']; exact .inl hfresh
end
end Mine

open PySem PySem.W PySem.Calls PyProof.Rows
namespace Mine
theorem sd_length (v : Int) (xs : List Int) (p : Nat) : (sd v xs p).length = xs.length := by
  induction p using Nat.strongRecOn generalizing xs with
  | ind p ih =>
    rw [sd]
    split
    · split
      · rw [ih _ (by omega)]; simp
      · simp
    · simp
theorem su_length (v : Int) : ∀ (n : Nat) (xs : List Int) (p : Nat), xs.length - p ≤ n → (su v xs p).length = xs.length := by
  intro n
  induction n with
  | zero =>
    intro xs p h
    rw [su, dif_neg (by omega), sd_length]; simp
  | succ n ih =>
    intro xs p h
    rw [su]
    split
    · rename_i h1
      have := kid_gt xs p
      rw [ih _ _ (by simp; omega)]; simp
    · rw [sd_length]; simp
theorem hpush_length (xs : List Int) (x : Int) : (hpush xs x).length = xs.length + 1 := by unfold hpush; rw [sd_length]; simp
theorem hpopR_length {xs : List Int} (h : 0 < xs.length) : (hpopR xs).length = xs.length - 1 := by
  unfold hpopR
  split
  · rename_i h1; simp [h1]
  · rw [su_length _ _ _ _ (Nat.le_refl _)]; simp
end Mine

open PySem PySem.W PySem.Calls PyProof.Rows
set_option Elab.async false
set_option maxRecDepth 100000
namespace Mine
section
variable {w : World} {A : Around} {s : Shared} {b₀ : Heap} {loose : List Str} {mean : ExcName → Option Value} {mg mb : Str → Option Value} {Q : Value → Shared → Prop} {E : Value → Shared → Prop}

noncomputable def takeS (stv : List Int) (xs : List Int) : List Int := if hpopR xs = [] then hpopR stv else hpush (hpopR stv) (stv.getD 0 0)
noncomputable def takeR (rs : List Room) (k : Int) (xs : List Int) : List Room := if hpopR xs = [] then rs.filter (fun r => decide (r.key ≠ k)) else setRoom rs k (hpopR xs)

set_option maxHeartbeats 4000000 in
theorem taken_call {aS aD : Addr} {stv : List Int} {rs : List Room} {r : Room}
    (X₀ : (hd.heap_39 w.params).In b₀) (T : Top topProg loose mean mg mb b₀) (st : b₀.StaysIn s.heap) (hh : A.handled = none) (hroom : A.depth + 40 < recursionLimit) (hun : A.units + 200 < cLine)
    (hq : QOk Challenge.rw_op0093_01.row.prog w s.heap aS aD stv rs) (hbS : b₀.get? aS = none) (hbD : b₀.get? aD = none) (hbR : ∀ r ∈ rs, b₀.get? r.addr = none) (hlo : (aD == sysModules) = false)
    (hz1 : stv.length < 800) (hz2 : rs.length < 800) (hz3 : ∀ r ∈ rs, r.xs.length < 800)
    (hne : 0 < stv.length) (hr : r ∈ rs) (hrk : r.key = stv.getD 0 0) (hxne : 0 < r.xs.length)
    (h : ∀ h' tk t, Kept (aS :: aD :: rs.map Room.addr) s.heap h' → QOk Challenge.rw_op0093_01.row.prog w h' aS aD (takeS stv r.xs) (takeR rs r.key r.xs) → Q (.int (r.key * 4096 + r.xs.getD 0 0) t) { s with heap := h', toks := tk }) :
    wpAny (model Challenge.rw_op0093_01.row.prog w) A (call (.ref 110) [.ref aS, .ref aD]) Q E s := by
  obtain ⟨Ah, Ad, Af, Ag, Au⟩ := A
  cases hh
  dsimp only at hroom hun
  have hkeys := hq.keys
  obtain ⟨⟨vS, nS, eS, hiS⟩, ⟨oD, eD, hD⟩, hR, hnd⟩ := hq
  obtain ⟨vR, nR, eR, hiR⟩ := hR r hr
  have hnd1 := List.nodup_cons.mp hnd
  have hnd2 := List.nodup_cons.mp hnd1.2
  have m1 : @Ne Nat aS aD := fun q => hnd1.1 (by rw [show aS = aD from q]; exact .head _)
  have m2 : @Ne Nat aS r.addr := fun q => hnd1.1 (by rw [show aS = r.addr from q]; exact .tail _ (List.mem_map.mpr ⟨r, hr, rfl⟩))
  have m3 : @Ne Nat aD r.addr := fun q => hnd2.1 (by rw [show aD = r.addr from q]; exact List.mem_map.mpr ⟨r, hr, rfl⟩)
  revert X₀; k_fill; intro X₀
  refine' enter_hide (aS :: aD :: rs.map Room.addr) [(aS, listOf vS.toArray nS), (aD, oD), (r.addr, listOf vR.toArray nR)] (binds := [("storeys", .ref aS), ("rooms", .ref aD)]) X₀ T st ?hh ?hex ?ho ?hcd (by show Ad < _; exact room_0 hroom) ?hbind ?hloc ?h ?c1 ?c2 ?c3 ?c4
  walk_at "my cases"
  case hex =>
    intro q hq
    rcases List.mem_cons.mp hq with rfl | hq
    · exact ⟨eS, .head _⟩
    rcases List.mem_cons.mp hq with rfl | hq
    · exact ⟨eD, .tail _ (.head _)⟩
    · rw [List.mem_singleton.mp hq]; exact ⟨eR, .tail _ (.tail _ (List.mem_map.mpr ⟨r, hr, rfl⟩))⟩
  case hh =>
    intro a ha
    rcases List.mem_cons.mp ha with rfl | ha
    · exact ⟨⟨_, eS⟩, hbS⟩
    rcases List.mem_cons.mp ha with rfl | ha
    · exact ⟨⟨_, eD⟩, hbD⟩
    · obtain ⟨r, hr, rfl⟩ := List.mem_map.mp ha
      obtain ⟨v, n, e, _⟩ := hR r hr
      exact ⟨⟨_, e⟩, hbR r hr⟩
  case h =>
    intro g L h₁ F N X T stg kg hin hhid hk hLc hLs
    clear X₀
    simp only [List.nil_append, List.cons_append, List.map_nil, List.map_cons] at N
    have hoff := rest_off g L [aS, aD, r.addr] h₁
    (try k_unmd); k_fold
    walk_at "my go2"
    refine' pop_call X T F.keep ?y1 (N.get (.head _)) (N.fresh (.head _)) hiS hne ?y2 ?_
    case y1 => show Ad + 1 + 2 < _; exact room_1 hroom (by decide)
    case y2 => omega
    intro h2 tk2 vS2 nS2 tS2 k2 e2 hi2
    obtain ⟨F2, N2⟩ := kept_upd F N (.head (by
      intro p hp
      rcases List.mem_cons.mp hp with rfl | hp
      · exact Ne.symm m1
      rcases List.mem_cons.mp hp with rfl | hp
      · exact Ne.symm m2
      · exact hoff p hp aS (.head _))) k2 e2
    clear F N
    rw [← hrk]
    dsimp only
    walk_at "my go2"
    rename Fr _ _ _ _ => F
    rename News _ _ _ _ => N
    refine kda_item (k := r.key) N (.tail _ (.head _)) hD (intKind_is _ _ _ _) (valueAt_kvs hkeys hr) ?_
    walk_at "my go2"
    refine' pop_call X T F.keep ?y1 (N.get (.tail _ (.tail _ (.head _)))) (N.fresh (.tail _ (.tail _ (.head _)))) hiR hxne ?y2 ?_
    case y1 => show Ad + 1 + 2 < _; exact room_1 hroom (by decide)
    case y2 => have := hz3 r hr; omega
    intro h3 tk3 vR3 nR3 tR3 k3 e3 hi3
    obtain ⟨F3, N3⟩ := kept_upd F N (.tail m2 (.tail m3 (.head (fun p hp => hoff p hp r.addr (.tail _ (.tail _ (.head _))))))) k3 e3
    clear F N
    dsimp only
    walk_at "my go2"
    rename Fr _ _ _ _ => F
    rename News _ _ _ _ => N
    refine kda_item (k := r.key) N (.tail _ (.head _)) hD (intKind_is _ _ _ _) (valueAt_kvs hkeys hr) ?_
    walk_at "my go2"
    · rename Fr _ _ _ _ => F
      rename News _ _ _ _ => N
      rename decide _ = true => hdec
      have hemp : hpopR r.xs = [] := of_decide_eq_true hdec
      refine kob_pop (knd := intKind _ _) (k := r.key) (more := []) F N (by k_updF) hD (intKind_is _ _ _ _) (.inl rfl) rfl (PySem.F.args_dict_pop_2 _ _) (valueAt_kvs hkeys hr) (by rw [sizeLine_eq]; unfold kvsOf; rw [List.length_map]; omega) ?_
      intro h4 oD4 F4 N4 hD4
      clear F N
      (try dsimp only [List.nil_append, List.cons_append] at N4)
      dsimp only
      walk_at "my go2"
      dsimp only
      rename Fr _ _ _ _ => F
      rename News _ _ _ _ => N
      have K9 := rest_kept (ex := [aS, aD, r.addr]) F N (fun q hq => .tail _ (.tail _ (.tail _ (.tail _ hq)))) hk
      have hRo : ∀ r' ∈ rs, r'.key ≠ r.key → ListAt _ r'.addr r'.xs := fun r' hr' hk' => by
        have z1 := (hhid r'.addr (.tail _ (.tail _ (List.mem_map.mpr ⟨r', hr', rfl⟩)))).1
        have z2 : r'.addr ≠ aD := fun q => hnd2.1 (List.mem_map.mpr ⟨r', hr', q⟩)
        have z3 : r'.addr ≠ aS := fun q => hnd1.1 (by rw [← q]; exact .tail _ (List.mem_map.mpr ⟨r', hr', rfl⟩))
        exact (hR r' hr').at fun o e => K9 _ o (hin _ _ e) (by simp [z1, z2, z3, addr_ne hnd2.2 hr' hr hk'])
      have eR : takeR rs r.key r.xs = rs.filter (fun r' => decide (r'.key ≠ r.key)) := by unfold takeR; rw [if_pos hemp]
      have eT : takeS stv r.xs = hpopR stv := by unfold takeS; rw [if_pos hemp]
      refine h _ _ _ (fun b o e n => F.keep b o (kg b o e n)) ?_
      rw [eR, eT]
      refine ⟨⟨vS2, nS2, N.get (.tail _ (.head _)), hi2⟩, ⟨oD4, N.get (.tail _ (.tail _ (.head _))), ?_⟩, ?_, ?_⟩
      · have : kvsOf (rs.filter fun r' => decide (r'.key ≠ r.key)) = without (kvsOf rs) r.key := by
          unfold kvsOf without; rw [List.filter_map]; rfl
        rw [this]; exact hD4
      · intro r' hr'
        obtain ⟨h1, h2⟩ := List.mem_filter.mp hr'
        exact hRo r' h1 (of_decide_eq_true h2)
      · exact hnd.sublist (((List.filter_sublist.map Room.addr).cons_cons aD).cons_cons aS)
    · rename Fr _ _ _ _ => F
      rename News _ _ _ _ => N
      rename decide _ = false => hdec
      have hemp : ¬ hpopR r.xs = [] := of_decide_eq_false hdec
      rename_i l5 _ ltl
      have m5 : @Ne Nat l5 aS := by omega
      refine' push_call X T F.keep ?y1 (N.get (.tail _ (.head _))) (N.fresh (.tail _ (.head _))) hi2 ?y2 ?_
      case y1 => show Ad + 1 + 1 < _; exact room_1 hroom (by decide)
      case y2 => rw [hpopR_length hne]; omega
      intro h4 tk4 vS4 nS4 k4 e4 hi4
      obtain ⟨F4, N4⟩ := kept_upd F N (.tail m5 (.head (by
        intro p hp
        rcases List.mem_cons.mp hp with rfl | hp
        · exact Ne.symm m1
        rcases List.mem_cons.mp hp with rfl | hp
        · exact Ne.symm m2
        · exact hoff p hp aS (.head _)))) k4 e4
      clear F N
      dsimp only
      walk_at "my go2"
      dsimp only
      rename Fr _ _ _ _ => F
      rename News _ _ _ _ => N
      have K9 := rest_kept (ex := [aS, aD, r.addr]) F N (fun q hq => .tail _ (.tail _ (.tail _ (.tail _ hq)))) hk
      have hRo : ∀ r' ∈ rs, r'.key ≠ r.key → ListAt _ r'.addr r'.xs := fun r' hr' hk' => by
        have z1 := (hhid r'.addr (.tail _ (.tail _ (List.mem_map.mpr ⟨r', hr', rfl⟩)))).1
        have z2 : r'.addr ≠ aD := fun q => hnd2.1 (List.mem_map.mpr ⟨r', hr', q⟩)
        have z3 : r'.addr ≠ aS := fun q => hnd1.1 (by rw [← q]; exact .tail _ (List.mem_map.mpr ⟨r', hr', rfl⟩))
        exact (hR r' hr').at fun o e => K9 _ o (hin _ _ e) (by simp [z1, z2, z3, addr_ne hnd2.2 hr' hr hk'])
      have eR : takeR rs r.key r.xs = setRoom rs r.key (hpopR r.xs) := by unfold takeR; rw [if_neg hemp]
      have eT : takeS stv r.xs = hpush (hpopR stv) r.key := by unfold takeS; rw [if_neg hemp, hrk]
      refine h _ _ _ (fun b o e n => F.keep b o (kg b o e n)) ?_
      rw [eR, eT]
      refine ⟨⟨vS4, nS4, N.get (.tail _ (.head _)), hi4⟩, ⟨oD, N.get (.tail _ (.tail _ (.head _))), by rw [setRoom_kvs]; exact hD⟩, ?_, by rw [setRoom_addr]; exact hnd⟩
      intro r' hr'
      rcases setRoom_mem hkeys hr hr' with ⟨e1, e2⟩ | ⟨h1, h2⟩
      · rw [e1, e2]; exact ⟨vR3, nR3, N.get (.tail _ (.tail _ (.tail _ (.head _)))), hi3⟩
      · exact hRo r' h1 h2
end
end Mine

open PySem PySem.W PySem.Calls PyProof.Rows
set_option Elab.async false
set_option maxRecDepth 100000
namespace Mine
section
variable {w : World} {s : Shared} {loose : List Str} {mean : ExcName → Option Value} {mg mb : Str → Option Value} {Q : Value → Shared → Prop} {E : Value → Shared → Prop}

theorem pop_raise {prog : Program} {A : Around} {D : Addr} {n : Nat} (hh : A.handled = none) (ho : s.heap.get? D = some (listOf #[] n))
    (hE : ∀ h' tk e, Heap.NewExc s.heap h' e "IndexError" → E (.ref e) { s with heap := h', toks := tk }) : wpAny (model prog w) A (call (.builtin "list.pop") [.ref D]) Q E s :=
  call_meets PySem.F.slot_list_pop ⟨_, ho, rfl⟩ PySem.F.entry_list_pop (PySem.F.args_list_pop_1 _) (PySem.AutoSeq1.list_pop_list_0 D #[] n rfl) ⟨ho, hh, hE⟩

set_option maxHeartbeats 4000000 in
theorem taken_empty {aS aD : Addr} {nS : Nat} {h₀ : Heap} {L : Addr} {m : Str → Option Value} {cn : Str} {cs : Scope} {ca : Addr} {ccd : Value} {rest : List (Addr × Obj)}
    (X₀ : (hd.heap_39 w.params).In h₀) (T : Top topProg loose mean mg mb h₀) (F : Fr h₀ L s.heap m) (N : News h₀ L s.heap ((aS, listOf #[] nS) :: rest)) (hk : cs.kind = .function)
    (h : ∀ h' tk t, Fr h₀ L h' m → News h₀ L h' ((aS, listOf #[] nS) :: rest) → Q (.str "nothing" t) { s with heap := h', toks := tk }) :
    wpAny (model Challenge.rw_op0093_01.row.prog w) (callerA.deeper (envOf cn cs L ca ccd)) (call (.ref 110) [.ref aS, .ref aD]) Q E s := by
  revert X₀; k_fill; intro X₀
  have B := below_caller h₀
  obtain ⟨ck, cnm, c3, c4, c5⟩ := cs
  cases hk
  (try k_unmd)
  repeat' walk1
  rename News _ _ _ _ => N
  refine pop_raise rfl (N.get (.head _)) ?_
  intro h' tk e hx
  dsimp only
  repeat' walk1
  exact h _ _ _ (by assumption) (by assumption)
end
end Mine

open PySem PySem.W PySem.Calls PyProof.Rows
set_option Elab.async false
set_option maxRecDepth 100000
namespace Mine
noncomputable abbrev twoComp (elt t1 i1 t2 i2 : Expr) (scope : Scope) (pos : Pos) : Expr := .ListComp elt [⟨t1, i1, [], 0⟩, ⟨t2, i2, [], 0⟩] scope pos
theorem compTurn_two0 (elt t1 i1 t2 i2 : Expr) (scope : Scope) (pos : Pos) (it acc : Value) (env : Env) :
    compTurn (twoComp elt t1 i1 t2 i2 scope pos) 0 it acc env = (do
      standAt i1.pos
      match ← pyNext it with
      | none => pure (.done .next)
      | some v =>
        letOwnedTupleGo t1 it v
        assign t1 env v
        let x ← eval i2 env
        standAt i2.pos
        let x ← foldedSetIterable i2 env x
        let _ ← runOwn (.compStart (twoComp elt t1 i1 t2 i2 scope pos) 1 (← holding [x] (pyIter x)) acc env) env
        again (.compLoop (twoComp elt t1 i1 t2 i2 scope pos) 0 it acc env)) := by rfl
theorem compTurn_two1 (elt t1 i1 t2 i2 : Expr) (scope : Scope) (pos : Pos) (it acc : Value) (env : Env) :
    compTurn (twoComp elt t1 i1 t2 i2 scope pos) 1 it acc env = (standAt i2.pos >>= fun _ => pyNext it >>= fun r => match r with
      | none => pure (.done .next)
      | some v => letOwnedTupleGo t2 it v >>= fun _ => assign t2 env v >>= fun _ =>
        (eval elt env >>= fun x => call (.builtin "list.append") [acc, x] >>= fun _ => pure ()) >>= fun _ =>
          again (.compLoop (twoComp elt t1 i1 t2 i2 scope pos) 1 it acc env)) := by rfl

section
variable {prog : Program} {w : World} {A : Around} {R : Result → Shared → Prop} {s : Shared} {elt t1 i1 t2 i2 : Expr} {scope : Scope} {pos : Pos} {it acc : Value} {env : Env}
theorem compLoop_two1 (I : Nat → Shared → Prop)
    (turn : ∀ n s, I n s → wpAny (model prog w) A (pyNext it) (fun r s₁ => match r with
      | none => R (.ok .next) s₁
      | some v => wpAny (model prog w) A (assign t2 env v) (fun _ s₂ => wpAny (model prog w) A (eval elt env) (fun x s₃ =>
          wpAny (model prog w) A (call (.builtin "list.append") [acc, x]) (fun _ s₄ => ∃ m, m < n ∧ I m s₄) (notedBy (model prog w) A env fun e s' => R (.error e) s') s₃)
          (notedBy (model prog w) A env fun e s' => R (.error e) s') s₂) (notedBy (model prog w) A env fun e s' => R (.error e) s') s₁) (notedBy (model prog w) A env fun e s' => R (.error e) s') s)
    (n : Nat) (h : I n s) (ht : ∀ v, letOwnedTupleGo t2 it v = pure ()) :
    codeAny (model prog w) A (.compLoop (twoComp elt t1 i1 t2 i2 scope pos) 1 it acc env) R s := by
  refine codeAny_loop rfl I (fun n s hI => ?_) n h
  show wpAny _ _ ((compTurn (twoComp elt t1 i1 t2 i2 scope pos) 1 it acc env).onRaise (fun x => do noteFrame x env; theTreesLotGoes x)) _ _ s
  refine wpAny_noted ?_
  rw [compTurn_two1]
  refine wpAny_bind (wpAny_standAt (wpAny_bind (wpAny_mono (turn n s hI) (fun r s₁ h₁ => ?_) fun _ _ h' => h')))
  cases r with
  | none => exact wpAny_pure h₁
  | some v =>
    refine wpAny_bind (wpAny_of_eq (ht v) ?_)
    exact wpAny_bind (wpAny_mono h₁ (fun _ s₂ h₂ => wpAny_bind (wpAny_bind (wpAny_mono h₂ (fun x s₃ h₃ => wpAny_bind (wpAny_mono h₃
      (fun _ s₄ h₄ => wpAny_pure (wpAny_pure ⟨rfl, h₄⟩)) fun _ _ h' => h')) fun _ _ h' => h'))) fun _ _ h' => h')
theorem compStart_two1 (h0 : codeAny (model prog w) A (.compLoop (twoComp elt t1 i1 t2 i2 scope pos) 1 it acc env) R s)
    (h : wpAny (model prog w) A (pyIter it) (fun it' s' => codeAny (model prog w) A (.compLoop (twoComp elt t1 i1 t2 i2 scope pos) 1 it' acc env) R s') (notedBy (model prog w) A env fun x s' => R (.error x) s') s) :
    codeAny (model prog w) A (.compStart (twoComp elt t1 i1 t2 i2 scope pos) 1 it acc env) R s := by
  refine codeAny_of_tree ?_
  show wpAny _ _ ((compStart (twoComp elt t1 i1 t2 i2 scope pos) 1 it acc env).onRaise (fun x => do noteFrame x env; standAt theWindowsPlace)) _ _ s
  refine wpAny_notedAt ?_
  unfold compStart
  show wpAny _ _ (ask >>= _) _ _ s
  refine wpAny_bind (wpAny_askSetting (wpAny_ite ?_))
  split
  · first
      | exact wpAny_bind (wpAny_pure (wpAny_pure (And.intro rfl h0)))
      | exact wpAny_pure (And.intro rfl h0)
  · first
      | exact wpAny_bind (wpAny_rule (wpAny_bind (wpAny_standAt (wpAny_bind (wpAny_mono h (fun it' s' h' => wpAny_pure (And.intro rfl h')) fun _ _ x => x)))))
      | (refine wpAny_bind (wpAny_rule ?_); show wpAny _ _ (standAt i2.pos >>= _) _ _ s; exact wpAny_bind (wpAny_standAt (wpAny_bind (wpAny_mono h (fun it' s' h' => wpAny_pure (And.intro rfl h')) fun _ _ x => x))))
theorem compLoop_two0 (I : Nat → Shared → Prop) (hs : ∀ x, foldedSetIterable i2 env x = pure x)
    (turn : ∀ n s, I n s → ∀ E', wpAny (model prog w) A (pyNext it) (fun r s₁ => match r with
      | none => R (.ok .next) s₁
      | some v => wpAny (model prog w) A (assign t1 env v) (fun _ s₂ => wpAny (model prog w) A (eval i2 env) (fun x s₃ => wpAny (model prog w) A (pyIter x) (fun it2 s₄ =>
          codeAny (model prog w) A (.compStart (twoComp elt t1 i1 t2 i2 scope pos) 1 it2 acc env) (fun r s₅ => (∃ f, r = .ok f) ∧ ∃ m, m < n ∧ I m s₅) s₄) E' s₃) E' s₂) E' s₁) E' s)
    (n : Nat) (h : I n s) (ht : ∀ v, letOwnedTupleGo t1 it v = pure ()) :
    codeAny (model prog w) A (.compLoop (twoComp elt t1 i1 t2 i2 scope pos) 0 it acc env) R s := by
  refine codeAny_loop rfl I (fun n s hI => ?_) n h
  show wpAny _ _ ((compTurn (twoComp elt t1 i1 t2 i2 scope pos) 0 it acc env).onRaise (fun x => do noteFrame x env; theTreesLotGoes x)) _ _ s
  refine wpAny_noted ?_
  rw [compTurn_two0]
  refine wpAny_bind (wpAny_standAt (wpAny_bind (wpAny_mono (turn n s hI _) (fun r s₁ h₁ => ?_) fun _ _ h' => h')))
  cases r with
  | none => exact wpAny_pure h₁
  | some v =>
    refine wpAny_bind (wpAny_of_eq (ht v) ?_)
    refine wpAny_bind (wpAny_mono h₁ (fun _ s₂ h₂ => wpAny_bind (wpAny_mono h₂ (fun x s₃ h₃ => wpAny_bind (wpAny_standAt ?_)) fun _ _ h' => h')) fun _ _ h' => h')
    refine wpAny_bind (wpAny_of_eq (hs x) (wpAny_bind (wpAny_holding (wpAny_mono h₃ (fun it2 s₄ h₄ => ?_) fun _ _ h' => h'))))
    refine wpAny_bind (wpAny_runOwn (codeAny_mono h₄ fun r s₅ hr => ?_))
    obtain ⟨⟨f, rfl⟩, hI'⟩ := hr
    exact wpAny_pure ⟨rfl, hI'⟩
end
end Mine

open PySem PySem.W PySem.Calls PyProof.Rows
set_option Elab.async false
set_option maxRecDepth 100000
namespace Mine
section
variable {prog : Program} {w : World} {A : Around} {E : Value → Shared → Prop} {s : Shared} {env : Env}
/-- what stands behind the first source of «y = [elt for t1 in i1 for t2 in i2]» -/
noncomputable def HeldK (prog : Program) (w : World) (A : Around) (env : Env) (scope : Scope) (cl : List (Str × Addr)) (elt t1 i1 t2 i2 : Expr) (pos : Pos) (y : Str) (py : Pos) (Q : Flow → Shared → Prop) (E : Value → Shared → Prop) (it : Value) (s₂ : Shared) : Prop :=
  wpAny (model prog w) A (newList []) (fun acc s₃ => wpAny (model prog w) A (newFunctionEnv scope env.globals cl [] env.qual none .none (some env)) (fun cenv s₄ =>
    codeAny (model prog w) A (.compStart (twoComp elt t1 i1 t2 i2 scope pos) 0 it acc { cenv with scope := relabel scope env }) (compPost (model prog w) A E (some (assign (.Name y py) env)) (fun _ s' => Q .next s') acc cenv.locals) s₄) E s₃) E s₂
theorem held_enter {elt t1 i1 t2 i2 : Expr} {scope : Scope} {cl : List (Str × Addr)} {pos spos : Pos} {y : Str} {py : Pos} {Q : Flow → Shared → Prop}
    (hsw : swapsWith (twoComp elt t1 i1 t2 i2 scope pos) (some (.Name y py)) spos.line env = pure true)
    (hclos : closureFor scope env = pure cl) (hkind : scope.kind = .function) (hnames : ∀ z ∈ scope.names, z.2 = .local → scope.names.lookup z.1 = some .local)
    (hs : ∀ x, foldedSetIterable i1 env x = pure x)
    (h : wpAny (model prog w) A (eval i1 env) (fun xv s₁ => wpAny (model prog w) A (pyIter xv) (HeldK prog w A env scope cl elt t1 i1 t2 i2 pos y py Q E) E s₁) E s) :
    wpAny (model prog w) A (exec (.Assign [.Name y py] (twoComp elt t1 i1 t2 i2 scope pos) spos) env) Q E s := by
  rw [exec_Assign_Name_used _ _ _ _ hsw]
  refine wpAny_bind (wpAny_standAt (wpAny_bind ?_))
  show wpAny _ A (do let _ ← comprehension (twoComp elt t1 i1 t2 i2 scope pos) scope env _ (newList []) false (eval i1 env) (some (assign (.Name y py) env))) _ _ s
  exact wpAny_bind (wpAny_mono (wpAny_comprehension_free (use := some (assign (.Name y py) env)) (Q := fun _ s' => Q .next s') rfl hs hclos hkind hnames h) (fun _ s' hq => wpAny_pure (wpAny_pure hq)) fun _ _ e => e)
end

noncomputable def flat (f : Int → Int → Int) (rs : List Room) : List Int := rs.flatMap fun r => r.xs.map (f r.key)
theorem flat_snoc (f : Int → Int → Int) (rs : List Room) (i : Nat) (r : Room) (h : rs[i]? = some r) : flat f (rs.take (i + 1)) = flat f (rs.take i) ++ r.xs.map (f r.key) := by
  unfold flat
  rw [List.take_add_one, h]
  simp

theorem flat_take_le (f : Int → Int → Int) (rs : List Room) (k : Nat) : (flat f (rs.take k)).length ≤ (flat f rs).length := by
  have : flat f rs = flat f (rs.take k) ++ flat f (rs.drop k) := by unfold flat; rw [← List.flatMap_append, List.take_append_drop]
  rw [this, List.length_append]; omega
section
variable {prog : Program} {w : World} {A : Around} {E : Value → Shared → Prop} {s : Shared} {env : Env} {g : Heap} {m : Str → Option Value} {news : List (Addr × Obj)}
theorem held_dict {elt i1 i2 : Expr} {x1 x2 y : Str} {p1 p2 pos py : Pos} {scope : Scope} {cl : List (Str × Addr)} {Q : Flow → Shared → Prop} {aD : Addr} {rs : List Room} {ep : Nat} (f : Int → Int → Int)
    (hh : A.handled = none) (F : Fr g env.locals s.heap m) (N : News g env.locals s.heap news) (hlo : (aD == sysModules) = false) (hD : s.heap.DictAt (intKind prog w) aD (kvsOf rs) ep) (hR : ∀ r ∈ rs, ListAt s.heap r.addr r.xs)
    (hcell : ∀ z ∈ scope.names, z.2 ≠ .cell) (hkind : scope.kind = .function) (hx1 : scope.names.lookup x1 = some .local) (hx2 : scope.names.lookup x2 = some .local) (hx12 : x1 ≠ x2)
    (hy : env.kindOf y = some .local) (hp : (env.scope.kind == .class || (env.scope.kind == .module && env.locals != env.globals)) = false) (hz : (flat f rs).length ≤ 10000) (hs2 : ∀ C x, foldedSetIterable i2 (compEnvC scope cl C env) x = pure x)
    (hi2 : ∀ C s₃ m₃ E' (r : Room) t, r ∈ rs → Fr s.heap C s₃.heap (kstB m₃ [(x1, .int r.key t)]) → wpAny (model prog w) A (eval i2 (compEnvC scope cl C env)) (fun v s₄ => v = .ref r.addr ∧ ∃ tk, s₄ = { s₃ with toks := tk }) E' s₃)
    (helt : ∀ C s₃ m₃ E' k t v t', Fr s.heap C s₃.heap (kstB m₃ [(x2, .int v t'), (x1, .int k t)]) → wpAny (model prog w) A (eval elt (compEnvC scope cl C env)) (fun z s₄ => (∃ t, z = .int (f k v) t) ∧ ∃ tk, s₄ = { s₃ with toks := tk }) E' s₃)
    (h : ∀ D h' tk ys n', IntsAre ys (flat f rs) → Fr g env.locals h' (fun z => if z = y then some (.ref D) else m z) → News g env.locals h' ((D, listOf ys.toArray n') :: news) → (∀ b o, b ≠ env.locals → s.heap.get? b = some o → h'.get? b = some o) → s.heap.get? D = none → Q .next { s with heap := h', toks := tk }) :
    wpAny (model prog w) A (pyIter (.ref aD)) (HeldK prog w A env scope cl elt (.Name x1 p1) i1 (.Name x2 p2) i2 pos y py Q E) E s := by
  refine wpAny_pyIter_dict hlo hD ?_
  unfold HeldK
  refine wpAny_newObj_type (wpAny_newFunctionEnv hcell (by intro y hy; simp at hy) (fun h₁ hns₁ hsb₁ => ?_) hkind)
  dsimp only at hns₁ hsb₁ ⊢
  obtain ⟨oD, _, hoD, _⟩ := id hD
  have haD : aD < s.heap.objs.size := Heap.lt_size hoD
  generalize hH1 : s.heap.push { cls := .type "dict_keyiterator", data := .fields #[.ref aD, .int 0 0, .int (kvsOf rs).length 0, .int ep 0] } = H1 at hns₁ hsb₁ ⊢
  have hDs : H1.objs.size = s.heap.objs.size + 1 := by rw [← hH1, Heap.size_push]
  generalize hH2 : H1.push { cls := .type "list", dict := none, data := .seq ([] : List Value).toArray } = H2 at hns₁ hsb₁ ⊢
  have hCs : H2.objs.size = s.heap.objs.size + 2 := by rw [← hH2, Heap.size_push, hDs]
  have nDI : H1.objs.size ≠ s.heap.objs.size := by rw [hDs]; exact Nat.succ_ne_self _
  have nDC : H1.objs.size ≠ H2.objs.size := by rw [hDs, hCs]; exact Nat.ne_of_lt (Nat.lt_succ_self _)
  have nIC : s.heap.objs.size ≠ H2.objs.size := by rw [hCs]; exact Nat.ne_of_lt (Nat.lt_succ_of_lt (Nat.lt_succ_self _))
  have below : ∀ b, b < s.heap.objs.size → b ≠ H2.objs.size ∧ b ≠ s.heap.objs.size ∧ b ≠ H1.objs.size := fun b hb =>
    ⟨by rw [hCs]; exact Nat.ne_of_lt (Nat.lt_succ_of_lt (Nat.lt_succ_of_lt hb)), Nat.ne_of_lt hb, by rw [hDs]; exact Nat.ne_of_lt (Nat.lt_succ_of_lt hb)⟩
  have old : ∀ b o, s.heap.get? b = some o → h₁.get? b = some o := fun b o e =>
    hsb₁.extBut b o (below b (Heap.lt_size e)).1 (Heap.get?_push_of_some _ (hH2 ▸ Heap.get?_push_of_some _ (hH1 ▸ Heap.get?_push_of_some _ e)))
  have hit : h₁.IsKeyIter s.heap.objs.size aD 0 (kvsOf rs).length ep :=
    ⟨_, hsb₁.extBut _ _ nIC (Heap.get?_push_of_some _ (hH2 ▸ Heap.get?_push_of_some _ (hH1 ▸ Heap.get?_push_size _ rfl))), rfl, rfl⟩
  have hacc : h₁.PlainList H1.objs.size #[] := ⟨_, hsb₁.extBut _ _ nDC (Heap.get?_push_of_some _ (hH2 ▸ Heap.get?_push_size _ rfl))⟩
  have hD1 : h₁.DictAt (intKind prog w) aD (kvsOf rs) ep := hD.at' fun o e => old _ o e
  have W := Walks.dictKeys (prog := prog) (w := w) (A := A) (knd := intKind prog w) hh s.heap.objs.size aD (Nat.ne_of_lt haD) (kvsOf rs) ep
  have fresh : ∀ a, s.heap.objs.size ≤ a → s.heap.get? a = none := fun a ha => Heap.get?_none_of_le ha
  have hlen : (kvsOf rs).length = rs.length := by unfold kvsOf; simp
  have hCn : (compEnvC scope cl H2.objs.size env).scope.kind = .function := hkind
  have hpC : ((compEnvC scope cl H2.objs.size env).scope.kind == .class || ((compEnvC scope cl H2.objs.size env).scope.kind == .module && (compEnvC scope cl H2.objs.size env).locals != (compEnvC scope cl H2.objs.size env).globals)) = false := by simp [hCn]
  show codeAny (model prog w) A (.compStart (twoComp elt (.Name x1 p1) i1 (.Name x2 p2) i2 scope pos) 0 (.ref s.heap.objs.size) (.ref H1.objs.size) (compEnvC scope cl H2.objs.size env)) (compPost (model prog w) A E (some (assign (.Name y py) env)) (fun _ s' => Q .next s') (.ref H1.objs.size) H2.objs.size) _
  have loop : ∀ s₂ : Shared, s₂ = { s with heap := h₁, toks := s.toks + ([] : List (Str × Value)).length } → codeAny (model prog w) A (.compLoop (twoComp elt (.Name x1 p1) i1 (.Name x2 p2) i2 scope pos) 0 (.ref s.heap.objs.size) (.ref H1.objs.size) (compEnvC scope cl H2.objs.size env))
      (compPost (model prog w) A E (some (assign (.Name y py) env)) (fun _ s' => Q .next s') (.ref H1.objs.size) H2.objs.size) s₂ := by
    rintro s₂ rfl
    refine compLoop_two0 (fun k s' => ∃ h' tk m' ys i, s' = { s with heap := h', toks := tk } ∧ (h'.IsKeyIter s.heap.objs.size aD i (kvsOf rs).length ep ∧ h'.DictAt (intKind prog w) aD (kvsOf rs) ep) ∧ h'.Ns H2.objs.size m' ∧ h'.PlainList H1.objs.size (List.toArray ys) ∧ IntsAre ys (flat f (rs.take i)) ∧ (∀ b o, s.heap.get? b = some o → h'.get? b = some o) ∧ i ≤ rs.length ∧ k = rs.length + 1 - i)
      (hs2 _) ?_ (rs.length + 1) ⟨h₁, _, _, [], 0, rfl, ⟨hit, hD1⟩, hns₁, hacc, .nil, old, Nat.zero_le _, rfl⟩ (fun _ => rfl)
    rintro k s' ⟨h', tk, m', ys, i, rfl, hst', hns', hpl', hint', hk', hi', rfl⟩ E'
    by_cases hlt : i < rs.length
    · refine W.item i _ _ _ (by rw [hlen]; exact hlt) hst' fun v h2 tk2 hP hst2 hk2 => ?_
      obtain ⟨kk, xx, hkv, hv⟩ := hP
      obtain ⟨r, hr⟩ : ∃ r, rs[i]? = some r := ⟨rs[i], by simp [hlt]⟩
      have hrm : r ∈ rs := List.mem_of_getElem? hr
      have hkv' : (kvsOf rs)[i]? = some (r.key, .ref r.addr) := by unfold kvsOf; simp [hr]
      rw [hkv] at hkv'
      cases hkv'
      obtain ⟨t, rfl⟩ := Value.isInt_shape hv
      have hk2' : ∀ b o, b ≠ s.heap.objs.size → h'.get? b = some o → h2.get? b = some o := fun b o hb e => hk2 b o (fun q => hb (List.mem_singleton.mp q)) e
      have hns2 : h2.Ns H2.objs.size m' := hns'.at' fun o e => hk2' _ o (Ne.symm nIC) e
      refine wpAny_assign_Name (wpAny_storeName_local (lookup_relabel_local hx1) hns2 (fun h3 hn3 hs3 => ?_) hpC)
      have kept3 : ∀ b o, s.heap.get? b = some o → h3.get? b = some o := fun b o e => hs3.extBut b o (below b (Heap.lt_size e)).1 (hk2' b o (below b (Heap.lt_size e)).2.1 (hk' b o e))
      have F3 : Fr s.heap H2.objs.size h3 (fun z => if z = x1 then some (.int r.key t) else m' z) := ⟨hn3, kept3, by rw [hCs]; exact Nat.le_add_right _ _⟩
      have hpl3 : h3.PlainList H1.objs.size ys.toArray := hpl'.at fun o e => hs3.extBut _ o nDC (hk2' _ o nDI e)
      have hst3 : h3.IsKeyIter s.heap.objs.size aD (i + 1) (kvsOf rs).length ep := hst2.1.at fun o e => hs3.extBut _ o nIC e
      refine wpAny_mono (hi2 _ _ _ _ r t hrm (fr_ps (m := fun z => if z = x1 then some (.int r.key t) else m' z) F3 (by intro q hq; rw [List.mem_singleton.mp hq]; simp))) (fun v s4 hv4 => ?_) fun _ _ e => e
      obtain ⟨rfl, tk4, rfl⟩ := hv4
      obtain ⟨vr, nr, er, hir⟩ := hR r hrm
      have hl3 : h3.IsList r.addr vr.toArray := PySem.IsL.isList (n := nr) (kept3 _ _ er)
      have hra : r.addr < s.heap.objs.size := Heap.lt_size er
      refine wpAny_pyIter_list hl3 ?_
      dsimp only
      have hI2 : ∀ b o, h3.get? b = some o → b ≠ h3.objs.size := fun b o e => Nat.ne_of_lt (Heap.lt_size e)
      obtain ⟨oI, hoI, _⟩ := id hst3
      obtain ⟨nD3, hoD3⟩ := id hpl3
      obtain ⟨oC3, _, _, hoC3, _⟩ := id hn3
      have nI : s.heap.objs.size ≠ h3.objs.size := hI2 _ _ hoI
      have nD : H1.objs.size ≠ h3.objs.size := hI2 _ _ hoD3
      have nC : H2.objs.size ≠ h3.objs.size := hI2 _ _ hoC3
      have nR : r.addr ≠ h3.objs.size := hI2 _ _ (kept3 _ _ er)
      have lowI : ∀ b, b < s.heap.objs.size → b ≠ h3.objs.size := fun b hb => Nat.ne_of_lt (Nat.lt_trans hb (Heap.lt_size hoI))
      have hvr : vr.length = r.xs.length := hir.length
      have W2 := Walks.list (prog := prog) (w := w) (A := A) hh h3.objs.size r.addr nR vr.toArray
      have push3 : ∀ b o, h3.get? b = some o → (h3.push { cls := .type "list_iterator", data := .fields #[.ref r.addr, .int 0 0] }).get? b = some o := fun b o e => Heap.get?_push_of_some _ e
      have hit2 : (h3.push { cls := .type "list_iterator", data := .fields #[.ref r.addr, .int 0 0] }).IsListIter h3.objs.size r.addr 0 := ⟨_, Heap.get?_push_size _ rfl, rfl, rfl⟩
      have loop2 : ∀ s₂ : Shared, s₂ = { s with heap := h3.push { cls := .type "list_iterator", data := .fields #[.ref r.addr, .int 0 0] }, toks := tk4 } →
          codeAny (model prog w) A (.compLoop (twoComp elt (.Name x1 p1) i1 (.Name x2 p2) i2 scope pos) 1 (.ref h3.objs.size) (.ref H1.objs.size) (compEnvC scope cl H2.objs.size env))
          (fun r' s₅ => (∃ f, r' = .ok f) ∧ ∃ m, m < rs.length + 1 - i ∧ ∃ h' tk m' ys i, s₅ = { s with heap := h', toks := tk } ∧ (h'.IsKeyIter s.heap.objs.size aD i (kvsOf rs).length ep ∧ h'.DictAt (intKind prog w) aD (kvsOf rs) ep) ∧ h'.Ns H2.objs.size m' ∧ h'.PlainList H1.objs.size (List.toArray ys) ∧ IntsAre ys (flat f (rs.take i)) ∧ (∀ b o, s.heap.get? b = some o → h'.get? b = some o) ∧ i ≤ rs.length ∧ m = rs.length + 1 - i) s₂ := by
        rintro s₂ rfl
        refine compLoop_two1 (fun k s' => ∃ h' tk m'' ys' j, s' = { s with heap := h', toks := tk } ∧ (h'.IsListIter h3.objs.size r.addr j ∧ h'.IsList r.addr vr.toArray) ∧ h'.Ns H2.objs.size m'' ∧ m'' x1 = some (.int r.key t) ∧ h'.PlainList H1.objs.size (List.toArray ys') ∧
            IntsAre ys' (flat f (rs.take i) ++ (r.xs.take j).map (f r.key)) ∧ (∀ b o, s.heap.get? b = some o → h'.get? b = some o) ∧ h'.IsKeyIter s.heap.objs.size aD (i + 1) (kvsOf rs).length ep ∧ j ≤ r.xs.length ∧ k = r.xs.length + 1 - j)
          ?_ (r.xs.length + 1) ⟨_, tk4, _, ys, 0, rfl, ⟨hit2, hl3.at fun o e => push3 _ o e⟩, hn3.at' fun o e => push3 _ o e, by simp, hpl3.at fun o e => push3 _ o e, by simpa using hint', fun b o e => push3 _ _ (kept3 b o e), hst3.at fun o e => push3 _ o e, Nat.zero_le _, rfl⟩ (fun _ => rfl)
        rintro k s' ⟨h', tk, m'', ys', j, rfl, hst4, hns4, hm4, hpl4, hint4, hk4, hit4, hj, rfl⟩
        by_cases hjl : j < r.xs.length
        · refine W2.item j _ _ _ (by simpa [hvr] using hjl) hst4 fun v h5 tk5 hP5 hst5 hk5 => ?_
          have hk5' : ∀ b o, b ≠ h3.objs.size → h'.get? b = some o → h5.get? b = some o := fun b o hb e => hk5 b o (fun q => hb (List.mem_singleton.mp q)) e
          obtain ⟨t', rfl⟩ : ∃ t', v = .int (r.xs.getD j 0) t' := hir.int_at j v (by simpa using hP5)
          have hns5 : h5.Ns H2.objs.size m'' := hns4.at' fun o e => hk5' _ o nC e
          refine wpAny_assign_Name (wpAny_storeName_local (lookup_relabel_local hx2) hns5 (fun h6 hn6 hs6 => ?_) hpC)
          have kept6 : ∀ b o, s.heap.get? b = some o → h6.get? b = some o := fun b o e => hs6.extBut b o (below b (Heap.lt_size e)).1 (hk5' b o (lowI b (Heap.lt_size e)) (hk4 b o e))
          have F6 : Fr s.heap H2.objs.size h6 (fun z => if z = x2 then some (.int (r.xs.getD j 0) t') else m'' z) := ⟨hn6, kept6, by rw [hCs]; exact Nat.le_add_right _ _⟩
          refine wpAny_mono (helt _ _ _ _ r.key t _ t' (fr_ps (m := fun z => if z = x2 then some (.int (r.xs.getD j 0) t') else m'' z) F6 (by
            intro q hq
            rcases List.mem_cons.mp hq with rfl | hq
            · exact if_pos rfl
            · rw [List.mem_singleton.mp hq]; simp [hx12, hm4]))) (fun z s7 hz7 => ?_) fun _ _ e => e
          obtain ⟨⟨tz, rfl⟩, tk7, rfl⟩ := hz7
          have hpl6 : h6.PlainList H1.objs.size ys'.toArray := hpl4.at fun o e => hs6.extBut _ o nDC (hk5' _ o nD e)
          have hln : ys'.length ≤ 10000 := by
            have e1 := hint4.length
            have e2 := flat_take_le f rs (i + 1)
            rw [flat_snoc f rs i r hr] at e2
            simp only [List.length_append, List.length_map, List.length_take] at e1 e2
            omega
          refine wpAny_list_append_plain hpl6 (fun h8 hpl8 hs8 => ?_) (by rw [sizeLine_eq]; simp; omega)
          have hx5 : h5.IsListIter h3.objs.size r.addr (j + 1) := hst5.1
          refine ⟨r.xs.length + 1 - (j + 1), by omega, h8, _, _, ys' ++ [.int (f r.key (r.xs.getD j 0)) tz], j + 1, rfl, ⟨hx5.at fun o e => hs8.extBut _ o (Ne.symm nD) (hs6.extBut _ o (Ne.symm nC) e), hst5.2.at fun o e => hs8.extBut _ o (below _ hra).2.2 (hs6.extBut _ o (below _ hra).1 e)⟩,
            hn6.at' fun o e => hs8.extBut _ o (Ne.symm nDC) e, by simp [hx12, hm4], by simpa using hpl8, ?_, fun b o e => hs8.extBut b o (below b (Heap.lt_size e)).2.2 (kept6 b o e), hit4.at fun o e => hs8.extBut _ o (Ne.symm nDI) (hs6.extBut _ o nIC (hk5' _ o nI e)), hjl, rfl⟩
          have e9 : (r.xs.take (j + 1)).map (f r.key) = (r.xs.take j).map (f r.key) ++ [f r.key (r.xs.getD j 0)] := by
            rw [List.take_add_one, List.map_append]
            simp [List.getD_eq_getElem?_getD, hjl]
          rw [e9, ← List.append_assoc]
          exact hint4.append (.cons _ _ .nil)
        · have hje : j = r.xs.length := by omega
          subst hje
          have hst4' := hst4
          rw [show r.xs.length = vr.toArray.size from by simp [hvr]] at hst4'
          refine W2.done _ _ _ hst4' fun h5 tk5 hk5 => ?_
          have hk5' : ∀ b o, b ≠ h3.objs.size → h'.get? b = some o → h5.get? b = some o := fun b o hb e => hk5 b o (fun q => hb (List.mem_singleton.mp q)) e
          have kept5 : ∀ b o, s.heap.get? b = some o → h5.get? b = some o := fun b o e => hk5' b o (lowI b (Heap.lt_size e)) (hk4 b o e)
          refine ⟨⟨_, rfl⟩, rs.length + 1 - (i + 1), by omega, h5, _, m'', ys', i + 1, rfl, ⟨hit4.at fun o e => hk5' _ o nI e, hD.at' fun o e => kept5 _ o e⟩, hns4.at' fun o e => hk5' _ o nC e, hpl4.at fun o e => hk5' _ o nD e, ?_, kept5, hlt, rfl⟩
          rw [flat_snoc f rs i r hr]
          rw [List.take_length] at hint4
          exact hint4
      exact compStart_two1 (loop2 _ rfl) (wpAny_pyIter_listiter hit2 (loop2 _ rfl))
    · have hie : i = rs.length := by omega
      subst hie
      have hst'' := hst'
      rw [← hlen] at hst''
      refine W.done _ _ _ hst'' fun h2 tk2 hk2 => ?_
      have hk2' : ∀ b o, b ≠ s.heap.objs.size → h'.get? b = some o → h2.get? b = some o := fun b o hb e => hk2 b o (fun q => hb (List.mem_singleton.mp q)) e
      have kept2 : ∀ b o, s.heap.get? b = some o → h2.get? b = some o := fun b o e => hk2' b o (below b (Heap.lt_size e)).2.1 (hk' b o e)
      have hLlt : env.locals < s.heap.objs.size := F.ns.lt
      have hLC := (below _ hLlt).1
      have hLD := (below _ hLlt).2.2
      have hns2 : h2.Ns H2.objs.size m' := hns'.at' fun o e => hk2' _ o (Ne.symm nIC) e
      obtain ⟨n2, hpl2⟩ : h2.PlainList H1.objs.size ys.toArray := hpl'.at fun o e => hk2' _ o nDI e
      show wpAny _ A (assign (.Name y py) env (.ref H1.objs.size)) _ _ _
      refine wpAny_assign_Name (wpAny_storeName_local hy (F.ns.keeps kept2) (fun h3 hn3 hs3 => ?_) hp)
      refine ⟨m', hns2.sameBut hs3 (Ne.symm hLC), fun h4 hs4 => ?_⟩
      have kept4 : ∀ b o, b ≠ env.locals → s.heap.get? b = some o → h4.get? b = some o := fun b o hb e => hs4.extBut b o (below b (Heap.lt_size e)).1 (hs3.extBut b o hb (kept2 b o e))
      have hDn : s.heap.get? H1.objs.size = none := fresh _ (by rw [hDs]; exact Nat.le_succ _)
      obtain ⟨z1, z2⟩ := fresh_in F hDn
      rw [List.take_length] at hint'
      refine h H1.objs.size h4 _ ys n2 hint' ⟨hn3.sameBut hs4 hLC, fun b o e => kept4 b o (fun q => by
        have h1 := Nat.lt_of_lt_of_le (Heap.lt_size e) F.above
        rw [q] at h1; exact Nat.lt_irrefl _ h1) (F.keep b o e), F.above⟩ (fun q hq => ?_) kept4 hDn
      rcases List.mem_cons.mp hq with rfl | hq
      · exact ⟨hs4.extBut _ _ nDC (hs3.extBut _ _ (Ne.symm hLD) hpl2), z1, z2⟩
      · exact ⟨kept4 _ _ (N q hq).2.1 (N q hq).1, (N q hq).2⟩
  exact codeAny_compStart_list (loop _ rfl) (wpAny_pyIter_keyiter hit (loop _ rfl))
end
end Mine

open PySem PySem.W PySem.Calls PyProof.Rows
set_option Elab.async false
set_option maxRecDepth 100000
namespace Mine
section
variable {prog : Program} {w : World} {A : Around} {E : Value → Shared → Prop} {s : Shared} {env : Env} {g : Heap} {L : Addr} {m : Str → Option Value} {news : List (Addr × Obj)}
theorem comp_dict {elt : Expr} {x : Str} {ifs : List Expr} {scope : Scope} {cl : List (Str × Addr)} {Q : Value → Shared → Prop} {aD : Addr} {rs : List Room} {ep : Nat}
    (hh : A.handled = none) (F : Fr g L s.heap m) (N : News g L s.heap news) (hlo : (aD == sysModules) = false) (hD : s.heap.DictAt (intKind prog w) aD (kvsOf rs) ep) (hn : rs.length ≤ sizeLine)
    (tests : ∀ C v s₃ m₃ E', Fr s.heap C s₃.heap (kstB m₃ [(x, v)]) →
      wpAny (model prog w) A (forIn ifs true fun c r => if r = true then do let ok ← isTrue c (compEnvC scope cl C env) (eval c (compEnvC scope cl C env)); pure (ForInStep.yield ok) else pure (ForInStep.yield r)) (fun ok s₄ => ok = true ∧ Keeps s₃ s₄) E' s₃)
    (elts : ∀ C (r : Room) t s₃ m₃ E', r ∈ rs → Fr s.heap C s₃.heap (kstB m₃ [(x, .int r.key t)]) → wpAny (model prog w) A (eval elt (compEnvC scope cl C env)) (fun y s₄ => y = .ref r.addr ∧ Keeps s₃ s₄) E' s₃)
    (h : ∀ D h' tk n', Fr g L h' m → News g L h' ((D, listOf (rs.map fun r => Value.ref r.addr).toArray n') :: news) → (∀ b o, s.heap.get? b = some o → h'.get? b = some o) → s.heap.get? D = none → Q (.ref D) { s with heap := h', toks := tk }) :
    wpAny (model prog w) A (pyIter (.ref aD)) (CompAt prog w A env scope cl x ifs elt (fun _ => true) (fun v y => ∃ r ∈ rs, (∃ t, v = .int r.key t) ∧ y = .ref r.addr) Q) E s := by
  obtain ⟨o, es, ho, hc⟩ := id hD
  have hkeys : (rs.map Room.key).Nodup := by
    have := hc.2.2.2.2; rw [kvs_keys] at this; exact this
  have hlt : aD < s.heap.objs.size := Heap.lt_size ho
  have hlen : (kvsOf rs).length = rs.length := by unfold kvsOf; simp
  refine wpAny_pyIter_dict hlo hD ?_
  have hk : ∀ (i : Nat) (v : Value), (∃ k x, (kvsOf rs)[i]? = some (k, x) ∧ (intKind prog w).is k v = true) → ∃ r t, rs[i]? = some r ∧ v = .int r.key t := by
    rintro i v ⟨k, x, e, hv⟩
    unfold kvsOf at e
    rw [List.getElem?_map] at e
    cases q : rs[i]? with
    | none => rw [q] at e; cases e
    | some r =>
      rw [q] at e
      cases e
      obtain ⟨t, rfl⟩ := Value.isInt_shape hv
      exact ⟨r, t, rfl, rfl⟩
  refine comp_core F N rfl (Walks.dictKeys (knd := intKind prog w) hh _ aD (Nat.ne_of_lt hlt) (kvsOf rs) ep) (by rw [hlen]; exact hn) ⟨⟨_, Heap.get?_push_size _ rfl, rfl, rfl⟩, hD.at' fun o e => Heap.get?_push_of_some _ e⟩ (by intro b hb; rw [List.mem_singleton.mp hb]; exact hlt) ?_ ?_ ?_
  · rintro C v s₃ m₃ E' _ F₃
    exact tests C v s₃ m₃ E' F₃
  · rintro C v s₃ m₃ E' ⟨i, hi⟩ _ F₃
    obtain ⟨r, t, hr, rfl⟩ := hk i v hi
    have hrm := List.mem_of_getElem? hr
    refine wpAny_mono (elts C r t s₃ m₃ E' hrm F₃) (fun y s₄ hy => ⟨⟨r, hrm, ⟨t, rfl⟩, hy.1⟩, hy.2⟩) fun _ _ e => e
  · intro D h' tk ys n' vs hlen2 hP hF F' N' hk' hD'
    have e : ys = rs.map fun r => Value.ref r.addr := by
      rw [show vs.filter (fun _ => true) = vs from List.filter_eq_self.mpr (fun _ _ => rfl)] at hF
      have hl := hF.length
      apply List.ext_getElem?
      intro i
      have key : ∀ {l₁ : List Value} {l₂ : List Value}, Paired (fun v y => ∃ r ∈ rs, (∃ t, v = Value.int r.key t) ∧ y = .ref r.addr) l₁ l₂ → ∀ (i : Nat) (v : Value), l₁[i]? = some v → ∃ y, l₂[i]? = some y ∧ ∃ r ∈ rs, (∃ t, v = .int r.key t) ∧ y = .ref r.addr := by
        intro l₁ l₂ hp
        induction hp with
        | nil => intro i v hv; simp at hv
        | cons hab _ ih =>
          intro i v hv
          cases i with
          | zero => simp at hv; subst hv; exact ⟨_, rfl, hab⟩
          | succ i => simpa using ih i v (by simpa using hv)
      rcases Nat.lt_or_ge i vs.length with hi | hi
      · obtain ⟨r, t, hr, hv⟩ := hk i vs[i] (hP i _ (by simp [hi]))
        obtain ⟨y, hy, r', hr', ⟨t', e1⟩, e2⟩ := key hF i vs[i] (by simp [hi])
        rw [hv] at e1
        have ek : r.key = r'.key := by injection e1
        have er := key_unique hkeys (List.mem_of_getElem? hr) hr' ek
        rw [hy, e2, List.getElem?_map, hr, ← er]; rfl
      · have h1 : ys.length ≤ i := by omega
        rw [List.getElem?_eq_none h1, List.getElem?_map, List.getElem?_eq_none (by omega)]; rfl
    subst e
    exact h D h' tk n' F' N' hk' hD'
end
end Mine

open PySem PySem.W PySem.Calls PyProof.Rows
set_option Elab.async false
set_option maxRecDepth 100000
namespace Mine
section
variable {w : World} {A : Around} {s : Shared} {E : Value → Shared → Prop}
theorem nameP_C {env : Env} {g : Heap} {m : Str → Option Value} {x : Str} {pos : Pos} {v : Value} {o : Obj} {c : Addr} {Q : Value → Shared → Prop} {scope : Scope} {cl : List (Str × Addr)} {C : Addr} {M : Model} (F : Fr g C s.heap m) (hg : g.get? c = some o) (ho : o.data = .cell (some v)) (h : Q v s)
    (hk : (compEnvC scope cl C env).scope.kind = .function) (hl : (compEnvC scope cl C env).kindOf x = some .cell) (hc : cl.lookup x = some c) (hd : (x == ("__debug__" : Str)) = false := by decide) :
    wpAny M A (eval (.Name x pos) (compEnvC scope cl C env)) Q E s := wpAny_Name (wpAny_loadName_cell hk hl hc ⟨o, F.keep _ _ hg, ho⟩ h) hd
end
local macro_rules | `(tactic| walk_at "eval Name") => `(tactic| (k_here; k_dflt (refine' nameP_C ?N ?g ?c ?_ ?a ?b ?d; (case a | b | d => rfl); (case N => k_asm); (case g | c => assumption); k_whole)))
section
variable {w : World} {A : Around} {s : Shared} {b₀ : Heap} {loose : List Str} {mean : ExcName → Option Value} {mg mb : Str → Option Value} {Q : Value → Shared → Prop} {E : Value → Shared → Prop}
theorem item_at {prog : Program} {value slice : PySem.Expr} {d : Addr} {kvs : List (Int × Value)} {k : Int} {key v : Value} {Q : Value → Shared → Prop} (hD : s.heap.DictOf (intKind prog w) d kvs) (hkey : (intKind prog w).is k key = true) (hl : valueAt kvs k = some v) (h : Q v { s with toks := s.toks + 1 })
    (hs : subscripted slice false (.ref d) key = operate [.ref d, key] (getItem (.ref d) key) := by with_unfolding_all rfl) (hg : ∀ r, letTemporaryGo value (.ref d) r = pure () := by intro _; with_unfolding_all rfl) :
    wpAny (model prog w) A (subscriptTail value slice (.ref d) key) Q E s :=
  subscriptTail_builtin hD.typeIs slot_dict_getitem.lookup (wpAny_getItem_of hkey hD.mapOf hl h) hs hg
theorem walks_lt {prog : Program} {I : Addr} {fp wr : List Addr} {n : Nat} {P : Nat → Value → Prop} {St : Nat → Heap → Prop} (W : Walks prog w A I fp wr n P St) : Walks prog w A I fp wr n (fun i v => i < n ∧ P i v) St where
  sub := W.sub
  frame := W.frame
  item := fun i s Q E hi st hQ => W.item i s Q E hi st fun v h' tk hP a b => hQ v h' tk ⟨hi, hP⟩ a b
  done := W.done
  self := W.self
theorem sorted_dict {prog : Program} {h₀ : Heap} {L aD : Addr} {m : Str → Option Value} {news : List (Addr × Obj)} {rs : List Room} {ep : Nat} (hh : A.handled = none) (F : Fr h₀ L s.heap m) (N : News h₀ L s.heap news) (hlo : (aD == sysModules) = false) (hat : s.heap.DictAt (intKind prog w) aD (kvsOf rs) ep) (hn : rs.length < 64)
    (h : ∀ D vs' ns' c h' tk, Fr h₀ L h' m → News h₀ L h' ((D, listOf vs'.toArray c) :: news) → (∀ q ∈ news, q.1 < D) → IntsAre vs' ns' → ns'.Perm (rs.map Room.key) → ns'.Pairwise (· ≤ ·) → Q (.ref D) { s with heap := h', toks := tk }) :
    wpAny (model prog w) A (call (.builtin "sorted") [.ref aD]) Q E s := by
  have hlen : (kvsOf rs).length = rs.length := by unfold kvsOf; simp
  refine kdu_sorted (kdl_dict (knd := intKind prog w) (kvs := kvsOf rs) (ep := ep) hlo) hh F N hat (by rw [hlen, sizeLine_eq]; omega) ?_
  intro D h' tk vs F' N' hlt hl hv
  have hk : ∀ (l : List Room) (us : List Value), us.length = l.length → (∀ (j : Nat) (v : Value), us[j]? = some v → ∃ k x, (kvsOf l)[j]? = some (k, x) ∧ (intKind prog w).is k v = true) → IntsAre us (l.map Room.key) := by
    intro l
    induction l with
    | nil => intro us h1 _; cases us with | nil => exact .nil | cons _ _ => cases h1
    | cons r l ih =>
      intro us h1 h2
      cases us with
      | nil => cases h1
      | cons u us =>
        obtain ⟨k, x, e, hu⟩ := h2 0 u rfl
        cases e
        obtain ⟨t, rfl⟩ := Value.isInt_shape hu
        exact .cons _ _ (ih us (by simpa using h1) fun j v hj => h2 (j + 1) v (by simpa using hj))
  have hI := hk rs vs (by rw [hl, hlen]) hv
  refine ksk_lsort (vs := vs) F' N' (fun o => .head (fun p hp => Nat.ne_of_lt (hlt p hp))) rfl hI (by simpa using hn) ?_
  intro vs' ns' c h2 F2 N2 hI2 _ hp ho _
  exact h D vs' ns' c h2 _ F2 N2 hlt hI2 hp ho

theorem st_c {j n : Nat} (h : j < ((n : Int) - 1).toNat) : 1 + (j : Int) * 1 < (n : Int) := by omega
theorem st_d (j : Nat) : (0 : Int) ≤ 1 + (j : Int) * 1 := by omega
theorem st_a (j : Nat) : (1 + (j : Int) * 1).toNat = j + 1 := by omega
theorem st_b (j : Nat) : ((1 + (j : Int) * 1 - 1) / 2).toNat = (j + 1 - 1) / 2 := by omega
noncomputable def HeapL (xs : List Int) : Prop := ∀ k, 0 < k → k < xs.length → xs.getD ((k - 1) / 2) 0 ≤ xs.getD k 0

set_option maxHeartbeats 4000000 in
theorem stands_call {aS aD aR : Addr} {stv row : List Int} {rs : List Room}
    (X₀ : (hd.heap_39 w.params).In b₀) (T : Top topProg loose mean mg mb b₀) (st : b₀.StaysIn s.heap) (hh : A.handled = none) (hroom : A.depth + 40 < recursionLimit) (hun : A.units + 200 < cLine)
    (hq : QOk Challenge.rw_op0093_01.row.prog w s.heap aS aD stv rs) (hlo : (aD == sysModules) = false) (hrow : ListAt s.heap aR row)
    (hz1 : stv.length < 64) (hz2 : rs.length < 64) (hz3 : ∀ r ∈ rs, r.xs.length < 64) (hz4 : (flat (fun k v => k * 4096 + v) rs).length < 64) (hz5 : row.length < 64)
    (hh1 : HeapL stv) (hh2 : ∀ r ∈ rs, HeapL r.xs) (hp1 : stv.Perm (rs.map Room.key)) (hp2 : (flat (fun k v => k * 4096 + v) rs).Perm row) (ho : row.Pairwise (· ≤ ·))
    (h : ∀ h' tk, Kept [] s.heap h' → Q (.bool true) { s with heap := h', toks := tk }) :
    wpAny (model Challenge.rw_op0093_01.row.prog w) A (call (.ref 115) [.ref aS, .ref aD, .ref aR]) Q E s := by
  obtain ⟨Ah, Ad, Af, Ag, Au⟩ := A
  cases hh
  dsimp only at hroom hun
  have hkeys := hq.keys
  obtain ⟨⟨vS, nS, eS, hiS⟩, ⟨oD, eD, hD⟩, hR, hnd⟩ := hq
  obtain ⟨vR, nR, eR, hiR⟩ := hrow
  revert X₀; k_fill; intro X₀
  refine' enter_defC (news := []) (binds := [("storeys", .ref aS), ("rooms", .ref aD), ("row", .ref aR)]) X₀ T st ?hn ?ho ?hcd (by show Ad < _; exact room_0 hroom) ?hbind ?hkind ?hnd ?h ?c1 ?c2 ?c3
  walk_at "my casesC"
  case hn => intro q hq; cases hq
  case h =>
    intro g L h₁ tk cells F N CL X T stg kg hL hlt; clear hL
    clear X₀
    k_lt hlt
    k_cells CL
    simp only [List.cons_append, List.nil_append] at N
    (try k_unmd); k_fold
    walk_at "my go2"
    rename Fr _ _ _ _ => F
    rename News _ _ _ _ => N
    rename_i oh or_ dh dr
    replace dr : or_.data = .cell (some (.ref aD)) := dr
    refine for_my ?_
    walk_at "my go2"
    rename Fr _ _ _ _ => F
    rename News _ _ _ _ => N
    refine' comp_my (cl := [("rooms", L + 1)]) (fun _ => true) (fun v y => ∃ r ∈ rs, (∃ t, v = .int r.key t) ∧ y = .ref r.addr) ?a1 ?a2 ?a3 ?a4 ?a5 ?_ ?a6
    case a1 => with_unfolding_all rfl
    case a2 => decide
    case a3 => rfl
    case a4 => decide
    case a5 => rfl
    case a6 => intro _; rfl
    walk_at "my go2"
    rename Fr _ _ _ _ => F
    rename News _ _ _ _ => N
    have gD := kg aD oD eD (by simp)
    obtain ⟨ep, hat⟩ : ∃ ep, g.DictAt (intKind Challenge.rw_op0093_01.row.prog w) aD (kvsOf rs) ep := by
      obtain ⟨es, ep, hc⟩ := hD
      exact ⟨ep, oD, es, gD, hc⟩
    refine comp_dict rfl F N hlo (hat.at' fun o e => F.keep _ _ e) (by rw [sizeLine_eq]; omega) ?_ ?_ ?_
    · intro C v s₃ m₃ E' F₃
      exact wpAny_pure ⟨rfl, ⟨_, _, rfl, fun _ _ e => e⟩⟩
    · intro C r t s₃ m₃ E' hr F₃
      have gc := N.get (.tail _ (.tail _ (.head _)))
      walk_at "my go2"
      refine item_at (k := r.key) (hat.at' fun o e => F₃.keep _ _ (F.keep _ _ e)).dictOf (intKind_is _ _ _ _) (valueAt_kvs hkeys hr) ?_
      exact ⟨rfl, ⟨_, _, rfl, fun _ _ e => e⟩⟩
    · intro D h' tk n' F' N' hk' hD'
      clear F N
      refine add_arrays F' N' (PySem.IsL.isList (n := 0) (N'.get (.tail _ (.head _)))) (PySem.IsL.isList (n := n') (N'.get (.head _))) ?_ (by rw [sizeLine_eq]; simp; omega)
      intro h2 F2 N2
      dsimp only
      have N3 : News g L h2 [(L + 1 + 1, oh), (L + 1, or_)] := fun q hq => N2 q (.tail _ (.tail _ (.tail _ hq)))
      have ll0 : (L + 1 + 1 : Nat) < h'.objs.size := Heap.lt_size (N'.get (.tail _ (.tail _ (.head _))))
      generalize hls : h'.objs.size = ls at N2 ⊢
      have ll : (L + 1 + 1 : Nat) < ls := by rw [← hls]; exact ll0
      obtain ⟨nl1, nl2⟩ := (N2 _ (.head _)).2
      generalize hits : ((#[Value.ref aS] : Array Value).toList ++ (List.map (fun r => Value.ref r.addr) rs).toArray.toList) = its at N2 ⊢
      have hl2 : h2.IsList ls its.toArray := PySem.IsL.isList (n := 0) (N2.get (.head _))
      refine wpAny_pyIter_list hl2 ?_
      dsimp only
      have hlt2 : ls < h2.objs.size := Heap.lt_size (N2.get (.head _))
      obtain ⟨nI1, nI2⟩ := fresh_in F2 (Heap.get?_none_of_le (Nat.le_refl h2.objs.size))
      have p2 : ∀ b o, h2.get? b = some o → (h2.push { cls := .type "list_iterator", data := .fields #[.ref ls, .int 0 0] }).get? b = some o := fun b o e => Heap.get?_push_of_some _ e
      have nIh : h2.objs.size ≠ L + 1 + 1 := Ne.symm (Nat.ne_of_lt (Heap.lt_size (N3.get (.head _))))
      have nIr : h2.objs.size ≠ L + 1 := Ne.symm (Nat.ne_of_lt (Heap.lt_size (N3.get (.tail _ (.head _)))))
      have hall : ∀ v ∈ its, ∃ a xs, v = .ref a ∧ ListAt g a xs ∧ HeapL xs ∧ xs.length < 800 := by
        intro v hv
        rw [← hits] at hv
        rcases List.mem_append.mp hv with hv | hv
        · rw [List.mem_singleton.mp hv]
          exact ⟨aS, stv, rfl, ⟨vS, nS, kg _ _ eS (by simp), hiS⟩, hh1, by omega⟩
        · obtain ⟨r, hr, rfl⟩ := List.mem_map.mp (by simpa using hv)
          exact ⟨r.addr, r.xs, rfl, (hR r hr).at fun o e => kg _ _ e (by simp), hh2 r hr, Nat.lt_trans (hz3 r hr) (by decide)⟩
      have lI : (L + 1 + 1 : Nat) < h2.objs.size := Nat.lt_trans ll hlt2
      have e0 : (h2.push { cls := .type "list_iterator", data := .fields #[.ref ls, .int 0 0] }).get? h2.objs.size = some { cls := .type "list_iterator", data := .fields #[.ref ls, .int 0 0] } := Heap.get?_push_size _ rfl
      generalize hI : h2.objs.size = I at nI1 nI2 nIh nIr hlt2 lI e0 ⊢
      refine' ⟨I, _, _, _, _, _, fun _ h => Fr g L h _ ∧ ∃ oh vh, News g L h [(L + 1 + 1, oh), (L + 1, or_)] ∧ oh.data = .cell vh, rfl, Walks.list rfl _ ls (Nat.ne_of_lt hlt2) its.toArray, ⟨⟨_, e0, rfl, rfl⟩, hl2.at fun o e => p2 _ o e⟩, ⟨F2.push _, oh, _, fun q hq => ⟨p2 _ _ (N3 q hq).1, (N3 q hq).2⟩, dh⟩, ?b1, ?b2, ?b3, ?b4⟩
      case b1 =>
        rintro i h h' ⟨f, oh, vh, n, d⟩ hk
        have hk' : Kept [I] h h' := fun b o e q => hk b o q e
        exact ⟨fr_kept f hk' (by simpa using Ne.symm nI1) (by intro a ha; rw [List.mem_singleton.mp ha]; exact nI2), oh, vh, news_kept n hk' (by
          intro p hp
          rcases List.mem_cons.mp hp with rfl | hp
          · simpa using Ne.symm nIh
          · rw [List.mem_singleton.mp hp]; simpa using Ne.symm nIr), d⟩
      case b2 => intro i s' v Q' _ hq; exact wpAny_pure hq
      case b3 =>
        rintro i v h3 tk3 hi hv ⟨F, oh, vh, N, dh⟩ hst
        obtain ⟨a, xs, rfl, hla, hhp, hlx⟩ := hall v (List.mem_of_getElem? (by simpa using hv))
        obtain ⟨va, na, ea, hia⟩ := hla
        obtain ⟨⟨oI, eI, cI⟩, ⟨oL, eL, cL⟩⟩ := hst
        replace N : News g L h3 [(L + 1 + 1, oh), (L + 1, or_), (I, oI), (ls, oL)] := by
          intro q hq
          rcases List.mem_cons.mp hq with rfl | hq
          · exact N _ (.head _)
          rcases List.mem_cons.mp hq with rfl | hq
          · exact N _ (.tail _ (.head _))
          rcases List.mem_cons.mp hq with rfl | hq
          · exact ⟨eI, nI1, nI2⟩
          · rw [List.mem_singleton.mp hq]; exact ⟨eL, nl1, nl2⟩
        clear F2 N2 N3 F' N'
        have q1 : @Ne Nat (L + 1 + 1) I := by omega
        have q2 : @Ne Nat (L + 1 + 1) ls := fun e => Nat.ne_of_lt ll e
        walk_at "my go2"
        rename Fr _ _ _ _ => F
        rename News _ _ _ _ => N
        rename_i hc oc dc tkc
        refine' comp_my (cl := [("heap", L + 1 + 1)]) (fun _ => false) (fun _ _ => True) ?a1 ?a2 ?a3 ?a4 ?a5 ?_ ?a6
        case a1 => with_unfolding_all rfl
        case a2 => decide
        case a3 => rfl
        case a4 => decide
        case a5 => rfl
        case a6 => intro _; rfl
        walk_at "my go2"
        refine len_ints_fit (PySem.IsL.isList (n := na) (F.keep _ _ ea)) hia (by omega) ?_
        walk_at "my go2"
        rename Fr _ _ _ _ => F
        rename News _ _ _ _ => N
        rename IsRange _ _ _ _ _ _ _ _ => hr
        refine wpAny_pyIter_range hr (small_one (by omega) (by omega) (by omega) (by omega)) ?_
        have hrs := rangeSize_nat 1 (xs.length : Int)
        refine comp_core F N rfl (walks_lt (Walks.range rfl _ 1 1 ((xs.length : Int) - 1).toNat)) (by rw [sizeLine_eq]; omega) ?_ (by intro b hb; cases hb) ?_ ?_ ?_
        · rw [hrs]
          exact Heap.get?_push_size _ rfl
        · rintro C v s₃ m₃ E' ⟨j, hj, t, rfl⟩ F₃
          clear hz1 hz2 hz4 hz5 hroom hun
          have gc := N.get (.head _)
          have hlist : s₃.heap.IsList a va.toArray := PySem.IsL.isList (n := na) (F₃.keep _ _ (F.keep _ _ ea))
          have hb1 : (0 : Int) ≤ 1 + (j : Int) * 1 := st_d j
          have hb2 : 1 + (j : Int) * 1 < xs.length := by first | exact st_c (by rw [← hrs]; exact hj) | exact st_c hj | omega
          have N₃ := nil_news F₃
          have hfin : decide (xs.getD (1 + (j : Int) * 1).toNat 0 < xs.getD ((1 + (j : Int) * 1 - 1).fdiv 2).toNat 0) = false := by
            have z := hhp (j + 1) (by omega) (by omega)
            rw [Int.fdiv_eq_ediv_of_nonneg _ (by decide), st_a j, st_b j]
            exact decide_eq_false (by omega)
          walk_at "my go2"
          all_goals first | exact hfin | exact ⟨_, _, rfl, fun _ _ e => e⟩ | skip
        · intro C v s₃ m₃ E' _ hp
          cases hp
        · intro D h5 tk5 ys n' vs _ _ hp F5 N5 _ _
          rw [show vs.filter (fun _ => false) = [] from List.filter_eq_nil_iff.mpr (by intros; decide)] at hp
          cases hp
          clear F N
          walk_at "my go2"
          rename Fr _ _ _ _ => F
          rename News _ _ _ _ => N
          exact ⟨_, _, rfl, ⟨F, dc, _, fun q hq => N q (.tail _ (.tail _ (by
            rcases List.mem_cons.mp hq with rfl | hq
            · exact .head _
            · rw [List.mem_singleton.mp hq]; exact .tail _ (.head _)))), tkc⟩, ⟨oI, N.get (.tail _ (.tail _ (.tail _ (.tail _ (.head _))))), cI⟩, ⟨oL, N.get (.tail _ (.tail _ (.tail _ (.tail _ (.tail _ (.head _)))))), cL⟩⟩
      case b4 =>
        rintro h3 tk3 ⟨F, oh, vh, N, dh⟩
        clear F2 N2 N3 F' N'
        dsimp only
        walk_at "my go2"
        rename Fr _ _ _ _ => F
        rename News _ _ _ _ => N
        refine' held_enter (cl := [("rooms", L + 1)]) ?a1 ?a2 ?a3 ?a4 ?a6 ?_
        case a1 => with_unfolding_all rfl
        case a2 => with_unfolding_all rfl
        case a3 => rfl
        case a4 => decide
        case a6 => intro _; rfl
        walk_at "my go2"
        rename Fr _ _ _ _ => F
        rename News _ _ _ _ => N
        refine' held_dict (ep := ep) (rs := rs) (fun k v => k * 4096 + v) rfl F N hlo (hat.at' fun o e => F.keep _ _ e) (fun r hr => (hR r hr).at fun o e => F.keep _ _ (kg _ _ e (by simp))) ?c1 ?c2 ?c3 ?c4 ?c5 ?c6 ?c7 ?c8 ?c9 ?c10 ?c11 ?_
        case c1 => decide
        case c2 => rfl
        case c3 => rfl
        case c4 => rfl
        case c5 => decide
        case c6 => rfl
        case c7 => rfl
        case c8 => omega
        case c9 => intro _ _; rfl
        case c10 =>
          intro C s₃ m₃ E' r t hr F₃
          have gc := N.get (.tail _ (.head _))
          walk_at "my go2"
          refine item_at (k := r.key) (hat.at' fun o e => F₃.keep _ _ (F.keep _ _ e)).dictOf (intKind_is _ _ _ _) (valueAt_kvs hkeys hr) ?_
          exact ⟨rfl, ⟨_, rfl⟩⟩
        case c11 =>
          intro C s₃ m₃ E' k t v t' F₃
          have N₃ := nil_news F₃
          walk_at "my go2"
        intro D h5 tk5 ys n5 hi5 F5 N5 _ _
        clear F N
        dsimp only
        replace F5 : Fr g L h5 _ := F5
        replace N5 : News g L h5 _ := N5
        walk_at "my go2"
        refine kso_sorted F5 N5 (PySem.IsL.isList (n := nS) (F5.keep _ _ (kg _ _ eS (by simp)))) hiS hz1 ?_
        intro D1 v1 n1 c1 h6 F6 N6 _ i1 _ p1 o1 _
        clear F5 N5
        dsimp only
        walk_at "my go2"
        refine sorted_dict rfl F6 N6 hlo (hat.at' fun o e => F6.keep _ _ e) hz2 ?_
        intro D2 v2 n2 c2 h7 tk7 F7 N7 lt7 i2 p2 o2
        clear F6 N6
        dsimp only
        have e12 : n1 = n2 := lks_uniq ((p1.trans hp1).trans p2.symm) o1 o2
        subst e12
        k_lt lt7
        refine ke_eq_ints (PySem.IsL.isList (n := c1) (N7.get (.tail _ (.head _)))) (PySem.IsL.isList (n := c2) (N7.get (.head _))) i1 i2 (by show Au + 3 + 64 < cLine; omega) ?_
        rw [decide_eq_true rfl]
        iterate 12 walk1
        rename Fr _ _ _ _ => F
        rename News _ _ _ _ => N
        rename_i D3 v3 n3 c3 h8 i3 _ p3 o3 _ _ _
        have e3 : n3 = row := lks_uniq (p3.trans hp2) o3 ho
        subst e3
        refine ke_eq_ints (PySem.IsL.isList (n := c3) (N.get (.head _))) (PySem.IsL.isList (n := nR) (F.keep _ _ (kg _ _ eR (by simp)))) i3 hiR (by show Au + 3 + 64 < cLine; omega) ?_
        rw [decide_eq_true rfl]
        exact h _ _ (fun b o e _ => F.keep b o (kg b o e (by simp)))
end
end Mine

open PySem PySem.W PySem.Calls PyProof.Rows
set_option Elab.async false
namespace Mine
theorem getD_set (xs : List Int) (p k : Nat) (v : Int) : (xs.set p v).getD k 0 = if k = p then (if p < xs.length then v else 0) else xs.getD k 0 := by
  simp only [List.getD_eq_getElem?_getD, List.getElem?_set]
  by_cases h : p = k
  · subst h; by_cases h2 : p < xs.length <;> simp [h2]
  · rw [if_neg h, if_neg (fun e => h e.symm)]
structure SdPre (v : Int) (xs : List Int) (p : Nat) : Prop where
  lt : p < xs.length
  far : ∀ k, 0 < k → k < xs.length → k ≠ p → (k - 1) / 2 ≠ p → xs.getD ((k - 1) / 2) 0 ≤ xs.getD k 0
  kids : ∀ k, 0 < k → k < xs.length → (k - 1) / 2 = p → v ≤ xs.getD k 0
  over : 0 < p → ∀ k, 0 < k → k < xs.length → (k - 1) / 2 = p → xs.getD ((p - 1) / 2) 0 ≤ xs.getD k 0
theorem sd_end {v : Int} {xs : List Int} {p : Nat} (h : SdPre v xs p) (hp : 0 < p → xs.getD ((p - 1) / 2) 0 ≤ v) : HeapL (xs.set p v) := by
  intro k h0 hk
  rw [List.length_set] at hk
  rw [getD_set, getD_set]
  have hlt := h.lt
  by_cases e : k = p
  · subst e
    rw [if_pos rfl, if_pos hlt, if_neg (by omega)]
    exact hp h0
  · rw [if_neg e]
    by_cases e2 : (k - 1) / 2 = p
    · rw [if_pos e2, if_pos hlt]; exact h.kids k h0 hk e2
    · rw [if_neg e2]; exact h.far k h0 hk e e2
theorem sd_heap (v : Int) : ∀ (p : Nat) (xs : List Int), SdPre v xs p → HeapL (sd v xs p) := by
  intro p
  induction p using Nat.strongRecOn with
  | ind p ih =>
    intro xs h
    rw [sd]
    split
    · rename_i hp
      split
      · rename_i hv
        refine ih _ (by omega) _ ?_
        have hlt := h.lt
        generalize hq : (p - 1) / 2 = q at *
        have hqp : q < p := by omega
        refine ⟨by simp; omega, ?_, ?_, ?_⟩
        · intro k h0 hk e1 e2
          rw [List.length_set] at hk
          have ekp : k ≠ p := fun e => e2 (by rw [e]; exact hq)
          rw [getD_set, getD_set, if_neg ekp]
          by_cases e3 : (k - 1) / 2 = p
          · rw [if_pos e3, if_pos hlt]
            have := h.over hp k h0 hk e3
            rw [hq] at this; exact this
          · rw [if_neg e3]; exact h.far k h0 hk ekp e3
        · intro k h0 hk e1
          rw [List.length_set] at hk
          rw [getD_set]
          by_cases e : k = p
          · rw [if_pos e, if_pos hlt]; omega
          · rw [if_neg e]
            have := h.far k h0 hk e (by omega)
            rw [e1] at this; omega
        · intro hq0 k h0 hk e1
          rw [List.length_set] at hk
          have h1 := h.far q hq0 (by omega) (by omega) (by omega)
          rw [getD_set, getD_set, if_neg (show ¬ (q - 1) / 2 = p from by omega)]
          by_cases e : k = p
          · rw [if_pos e, if_pos hlt]; exact h1
          · rw [if_neg e]
            have := h.far k h0 hk e (by omega)
            rw [e1] at this; omega
      · exact sd_end h fun _ => by omega
    · rename_i hp
      exact sd_end h fun h0 => absurd h0 hp
theorem swap_perm (xs : List Int) (p q : Nat) (v : Int) (hp : p < xs.length) (hq : q < xs.length) (hne : q ≠ p) : ((xs.set p (xs.getD q 0)).set q v).Perm (xs.set p v) := by
  have h := List.set_set_perm (as := xs.set p v) (i := p) (j := q) (by simpa using hp) (by simpa using hq)
  have e1 : (xs.set p v)[q]'(by simpa using hq) = xs.getD q 0 := by
    rw [List.getElem_set_ne (Ne.symm hne)]; simp [hq]
  have e2 : (xs.set p v)[p]'(by simpa using hp) = v := by simp
  rw [e1, e2, List.set_set] at h
  exact h
theorem sd_perm (v : Int) : ∀ (p : Nat) (xs : List Int), p < xs.length → (sd v xs p).Perm (xs.set p v) := by
  intro p
  induction p using Nat.strongRecOn with
  | ind p ih =>
    intro xs h
    rw [sd]
    split
    · split
      · refine (ih _ (by omega) _ (by simp; omega)).trans ?_
        exact swap_perm xs p _ v h (by omega) (by omega)
      · exact .refl _
    · exact .refl _
structure SuPre (xs : List Int) (p : Nat) : Prop where
  lt : p < xs.length
  far : ∀ k, 0 < k → k < xs.length → k ≠ p → (k - 1) / 2 ≠ p → xs.getD ((k - 1) / 2) 0 ≤ xs.getD k 0
  over : 0 < p → ∀ k, 0 < k → k < xs.length → (k - 1) / 2 = p → xs.getD ((p - 1) / 2) 0 ≤ xs.getD k 0
theorem kid_min {xs : List Int} {p k : Nat} (h0 : 0 < k) (hk : k < xs.length) (e : (k - 1) / 2 = p) : xs.getD (kid xs p) 0 ≤ xs.getD k 0 := by
  have : k = 2 * p + 1 ∨ k = 2 * p + 2 := by omega
  unfold kid
  rcases this with rfl | rfl <;> split <;> omega
theorem kid_par (xs : List Int) (p : Nat) : (kid xs p - 1) / 2 = p := by unfold kid; split <;> omega
theorem su_heap (v : Int) : ∀ (n : Nat) (xs : List Int) (p : Nat), xs.length - p ≤ n → SuPre xs p → HeapL (su v xs p) := by
  intro n
  induction n with
  | zero => intro xs p h hp; have := hp.lt; omega
  | succ n ih =>
    intro xs p hn h
    have hlt := h.lt
    rw [su]
    split
    · rename_i h1
      have hgt := kid_gt xs p
      have hkl := kid_lt h1
      have hpar := kid_par xs p
      have hmin := fun k => @kid_min xs p k
      generalize kid xs p = c at *
      refine ih _ _ (by simp; omega) ⟨by simpa using hkl, ?_, ?_⟩
      · intro k h0 hk e1 e2
        rw [List.length_set] at hk
        rw [getD_set, getD_set]
        by_cases e : k = p
        · subst e
          rw [if_pos rfl, if_pos hlt, if_neg (by omega)]
          exact h.over h0 c (by omega) hkl hpar
        · rw [if_neg e]
          by_cases e3 : (k - 1) / 2 = p
          · rw [if_pos e3, if_pos hlt]; exact hmin k h0 hk e3
          · rw [if_neg e3]; exact h.far k h0 hk e e3
      · intro _ k h0 hk e1
        rw [List.length_set] at hk
        rw [getD_set, getD_set, if_pos hpar, if_pos hlt, if_neg (by omega)]
        have := h.far k h0 hk (by omega) (by omega)
        rw [e1] at this; exact this
    · rename_i h1
      refine sd_heap v p _ ⟨by simpa using hlt, ?_, ?_, ?_⟩
      · intro k h0 hk e1 e2
        rw [List.length_set] at hk
        rw [getD_set, getD_set, if_neg e1, if_neg e2]
        exact h.far k h0 hk e1 e2
      · intro k h0 hk e; rw [List.length_set] at hk; omega
      · intro _ k h0 hk e; rw [List.length_set] at hk; omega
theorem su_perm (v : Int) : ∀ (n : Nat) (xs : List Int) (p : Nat), xs.length - p ≤ n → p < xs.length → (su v xs p).Perm (xs.set p v) := by
  intro n
  induction n with
  | zero => intro xs p h hp; omega
  | succ n ih =>
    intro xs p hn h
    rw [su]
    split
    · rename_i h1
      have hgt := kid_gt xs p
      have hkl := kid_lt h1
      refine (ih _ _ (by simp; omega) (by simpa using hkl)).trans ?_
      exact swap_perm xs p _ v h hkl (by omega)
    · refine (sd_perm v p _ (by simpa using h)).trans ?_
      rw [List.set_set]
theorem hpush_heap {xs : List Int} (x : Int) (h : HeapL xs) : HeapL (hpush xs x) := by
  unfold hpush
  refine sd_heap x _ _ ⟨by simp, ?_, ?_, ?_⟩
  · intro k h0 hk e1 e2
    simp only [List.length_append, List.length_singleton] at hk
    have := h k h0 (by omega)
    simp only [List.getD_eq_getElem?_getD] at this ⊢
    rw [List.getElem?_append_left (by omega), List.getElem?_append_left (by omega)]
    exact this
  · intro k h0 hk e; simp at hk; omega
  · intro _ k h0 hk e; simp at hk; omega
theorem hpush_perm (xs : List Int) (x : Int) : (hpush xs x).Perm (x :: xs) := by
  unfold hpush
  refine (sd_perm x _ _ (by simp)).trans ?_
  rw [show (xs ++ [x]).set xs.length x = xs ++ [x] from by simp]
  exact List.perm_append_comm
theorem split_ends {xs : List Int} (h : 2 ≤ xs.length) : ∃ a m z, xs = a :: (m ++ [z]) := by
  cases xs with
  | nil => simp at h
  | cons a r =>
    have : r ≠ [] := by intro e; subst e; simp at h
    exact ⟨a, r.dropLast, r.getLast this, by rw [List.dropLast_concat_getLast this]⟩
theorem hpopR_heap {xs : List Int} (h : HeapL xs) (h0 : 0 < xs.length) : HeapL (hpopR xs) := by
  unfold hpopR
  split
  · intro k _ hk; cases hk
  · rename_i h1
    obtain ⟨a, m, z, rfl⟩ := split_ends (xs := xs) (by omega)
    have e1 : (a :: (m ++ [z])).dropLast = a :: m := by
      rw [show a :: (m ++ [z]) = (a :: m) ++ [z] from rfl, List.dropLast_concat]
    rw [e1]
    refine su_heap _ _ _ _ (Nat.le_refl _) ⟨by simp, ?_, by omega⟩
    intro k hk0 hk e2 e3
    rw [List.length_set] at hk
    rw [getD_set, getD_set, if_neg e2, if_neg e3]
    have := h k hk0 (by simp at hk ⊢; omega)
    rw [show a :: (m ++ [z]) = (a :: m) ++ [z] from rfl] at this
    simp only [List.getD_eq_getElem?_getD] at this ⊢
    rw [List.getElem?_append_left (by omega), List.getElem?_append_left (by omega)] at this
    exact this
theorem hpopR_perm {xs : List Int} (h0 : 0 < xs.length) : (xs.getD 0 0 :: hpopR xs).Perm xs := by
  unfold hpopR
  split
  · rename_i h1
    match xs, h1 with
    | [a], _ => exact .refl _
  · rename_i h1
    obtain ⟨a, m, z, rfl⟩ := split_ends (xs := xs) (by omega)
    have e1 : (a :: (m ++ [z])).dropLast = a :: m := by
      rw [show a :: (m ++ [z]) = (a :: m) ++ [z] from rfl, List.dropLast_concat]
    have e2 : (a :: (m ++ [z])).getLastD 0 = z := by
      rw [show a :: (m ++ [z]) = (a :: m) ++ [z] from rfl, List.getLastD_eq_getLast?, List.getLast?_concat]; rfl
    rw [e1, e2]
    have := su_perm z _ ((a :: m).set 0 z) 0 (Nat.le_refl _) (by simp)
    refine List.Perm.cons a (this.trans ?_)
    show (z :: m).Perm (m ++ [z])
    exact List.perm_append_comm (l₁ := [z])
theorem heap_least {xs : List Int} (h : HeapL xs) : ∀ k, k < xs.length → xs.getD 0 0 ≤ xs.getD k 0 := by
  intro k
  induction k using Nat.strongRecOn with
  | ind k ih =>
    intro hk
    cases k with
    | zero => exact Int.le_refl _
    | succ k => exact Int.le_trans (ih ((k + 1 - 1) / 2) (by omega) (by omega)) (h (k + 1) (by omega) hk)
theorem heap_least_mem {xs : List Int} (h : HeapL xs) : ∀ x ∈ xs, xs.getD 0 0 ≤ x := by
  intro x hx
  obtain ⟨k, hk, e⟩ := List.getElem_of_mem hx
  have := heap_least h k hk
  simp only [List.getD_eq_getElem?_getD, List.getElem?_eq_getElem hk, Option.getD_some, e] at this
  simpa [List.getD_eq_getElem?_getD] using this
end Mine

open PySem PySem.W PySem.Calls PyProof.Rows
set_option Elab.async false
namespace Mine
noncomputable abbrev Cont := List (Int × List Int)
noncomputable def flatC (c : Cont) : List Int := c.flatMap fun p => p.2.map fun v => p.1 * 4096 + v
theorem flat_cont (rs : List Room) : flat (fun k v => k * 4096 + v) rs = flatC (cont rs) := by
  unfold flat flatC cont
  rw [List.flatMap_map]
structure QInv (sg : Int) (stv : List Int) (c : Cont) (row : List Int) : Prop where
  hS : HeapL stv
  hR : ∀ p ∈ c, HeapL p.2 ∧ 0 < p.2.length ∧ ∀ x ∈ p.2, 0 ≤ x * sg ∧ x * sg < 4096
  keys : stv.Perm (c.map (·.1))
  nd : (c.map (·.1)).Nodup
  all : (flatC c).Perm row
  ord : row.Pairwise (· ≤ ·)
theorem split_at {c : Cont} {k : Int} {xs : List Int} (h : (k, xs) ∈ c) (hn : (c.map (·.1)).Nodup) : ∃ c1 c2, c = c1 ++ (k, xs) :: c2 ∧ k ∉ c1.map (·.1) ∧ k ∉ c2.map (·.1) := by
  obtain ⟨c1, c2, rfl⟩ := List.append_of_mem h
  rw [List.map_append, List.map_cons] at hn
  have h1 := List.nodup_append.mp hn
  have h2 := List.nodup_cons.mp h1.2.1
  exact ⟨c1, c2, rfl, fun q => h1.2.2 _ q _ (.head _) rfl, h2.1⟩
theorem map_off {c : Cont} {k : Int} (g : Int × List Int → Int × List Int) (h : k ∉ c.map (·.1)) : c.map (fun p => if p.1 = k then g p else p) = c := by
  conv => rhs; rw [← List.map_id c]
  apply List.map_congr_left
  intro p hp
  rw [if_neg (fun e => h (List.mem_map.mpr ⟨p, hp, e⟩))]; rfl
theorem filter_off {c : Cont} {k : Int} (h : k ∉ c.map (·.1)) : c.filter (fun p => decide (p.1 ≠ k)) = c := by
  apply List.filter_eq_self.mpr
  intro p hp
  exact decide_eq_true fun e => h (List.mem_map.mpr ⟨p, hp, e⟩)
theorem flatC_app (a b : Cont) : flatC (a ++ b) = flatC a ++ flatC b := by unfold flatC; rw [List.flatMap_append]
theorem flatC_cons (p : Int × List Int) (c : Cont) : flatC (p :: c) = (p.2.map fun v => p.1 * 4096 + v) ++ flatC c := by unfold flatC; rw [List.flatMap_cons]
theorem mid_perm {l r a b : List Int} {y : Int} (h : a.Perm (y :: b)) : (l ++ (a ++ r)).Perm (y :: (l ++ (b ++ r))) := by
  refine ((h.append_right r).append_left l).trans ?_
  rw [List.cons_append]
  exact List.perm_middle
theorem storey_eq {x sg : Int} (h : sg = 1 ∨ sg = -1) : storeyOf x sg * 4096 + bitOf x sg = x := by
  unfold storeyOf bitOf
  rcases h with rfl | rfl <;> omega
theorem bit_range {x sg : Int} (h : sg = 1 ∨ sg = -1) : 0 ≤ bitOf x sg * sg ∧ bitOf x sg * sg < 4096 := by
  unfold bitOf
  rcases h with rfl | rfl <;> omega
theorem hpush_mem {xs : List Int} {x y : Int} (h : y ∈ hpush xs x) : y = x ∨ y ∈ xs := List.mem_cons.mp ((hpush_perm xs x).mem_iff.mp h)
theorem HeapL_nil : HeapL [] := fun _ _ h => absurd h (Nat.not_lt_zero _)
theorem QInv.put {sg : Int} {stv : List Int} {c : Cont} {row row' : List Int} (q : QInv sg stv c row) (x : Int) (h : sg = 1 ∨ sg = -1) (hp : row'.Perm (row ++ [x])) (ho : row'.Pairwise (· ≤ ·)) :
    QInv sg (putS c stv (storeyOf x sg)) (putC c (storeyOf x sg) (bitOf x sg)) row' := by
  have hx := storey_eq (x := x) h
  have hb := bit_range (x := x) h
  generalize storeyOf x sg = k at *
  generalize bitOf x sg = b at *
  have hrow : ∀ {l : List Int}, l.Perm (x :: flatC c) → l.Perm row' := fun hl => hl.trans ((q.all.cons x).trans ((List.perm_append_comm (l₁ := [x])).trans hp.symm))
  unfold putS putC
  by_cases hk : k ∈ c.map (·.1)
  · rw [if_pos hk, if_pos hk]
    obtain ⟨⟨k', ys⟩, hm, rfl⟩ := List.mem_map.mp hk
    obtain ⟨c1, c2, rfl, n1, n2⟩ := split_at hm q.nd
    dsimp only at *
    rw [List.map_append, List.map_cons, map_off _ n1, map_off _ n2, if_pos rfl]
    have ek : (c1 ++ (k', hpush ys b) :: c2).map (·.1) = (c1 ++ (k', ys) :: c2).map (·.1) := by simp
    refine ⟨q.hS, ?_, by rw [ek]; exact q.keys, by rw [ek]; exact q.nd, hrow ?_, ho⟩
    · intro p hp
      have hy := q.hR (k', ys) (by simp)
      rcases List.mem_append.mp hp with hp | hp
      · exact q.hR p (List.mem_append.mpr (.inl hp))
      rcases List.mem_cons.mp hp with rfl | hp
      · refine ⟨hpush_heap _ hy.1, by rw [hpush_length]; omega, fun y hy' => ?_⟩
        rcases hpush_mem hy' with rfl | hy'
        · exact hb
        · exact hy.2.2 y hy'
      · exact q.hR p (List.mem_append.mpr (.inr (.tail _ hp)))
    · rw [flatC_app, flatC_cons, flatC_app, flatC_cons, ← hx]
      exact mid_perm ((hpush_perm ys b).map fun v => k' * 4096 + v)
  · rw [if_neg hk, if_neg hk]
    refine ⟨hpush_heap _ q.hS, ?_, ?_, ?_, hrow ?_, ho⟩
    · intro p hp
      rcases List.mem_append.mp hp with hp | hp
      · exact q.hR p hp
      · rw [List.mem_singleton.mp hp]
        refine ⟨hpush_heap _ HeapL_nil, by rw [hpush_length]; simp, fun y hy' => ?_⟩
        rcases hpush_mem hy' with rfl | hy'
        · exact hb
        · cases hy'
    · rw [List.map_append]
      exact (hpush_perm _ _).trans ((q.keys.cons k).trans (List.perm_append_comm (l₁ := [k])))
    · rw [List.map_append, List.nodup_append]
      refine ⟨q.nd, by simp, ?_⟩
      intro a ha b hb e
      simp at hb
      subst e; rw [hb] at ha; exact hk ha
    · rw [flatC_app, flatC_cons]
      have := mid_perm (l := flatC c) (r := []) ((hpush_perm [] b).map fun v => k * 4096 + v)
      simpa [flatC, hx] using this
noncomputable def takeC (c : Cont) (k : Int) (xs : List Int) : Cont := if hpopR xs = [] then c.filter (fun p => decide (p.1 ≠ k)) else c.map (fun p => if p.1 = k then (p.1, hpopR xs) else p)
theorem takeR_cont (rs : List Room) (k : Int) (xs : List Int) : cont (takeR rs k xs) = takeC (cont rs) k xs := by
  unfold takeR takeC
  split
  · unfold cont; rw [List.filter_map]; rfl
  · unfold cont setRoom
    rw [List.map_map, List.map_map]
    apply List.map_congr_left
    intro r _
    simp only [Function.comp]
    split <;> rfl
theorem mem_flatC {c : Cont} {z : Int} : z ∈ flatC c ↔ ∃ p ∈ c, ∃ v ∈ p.2, z = p.1 * 4096 + v := by
  unfold flatC
  rw [List.mem_flatMap]
  constructor
  · rintro ⟨p, hp, hz⟩
    obtain ⟨v, hv, e⟩ := List.mem_map.mp hz
    exact ⟨p, hp, v, hv, e.symm⟩
  · rintro ⟨p, hp, v, hv, e⟩
    exact ⟨p, hp, List.mem_map.mpr ⟨v, hv, e.symm⟩⟩
theorem QInv.take {sg : Int} {stv : List Int} {c : Cont} {row : List Int} (q : QInv sg stv c row) (h : sg = 1 ∨ sg = -1) {xs : List Int} (h0 : 0 < stv.length) (hm : (stv.getD 0 0, xs) ∈ c) :
    0 < row.length ∧ row.getD 0 0 = stv.getD 0 0 * 4096 + xs.getD 0 0 ∧ QInv sg (takeS stv xs) (takeC c (stv.getD 0 0) xs) (row.drop 1) := by
  obtain ⟨hh, hx0, hxr⟩ := q.hR _ hm
  dsimp only at hh hx0 hxr
  have hsp := hpopR_perm h0
  have hsl := heap_least_mem q.hS
  have hxp := hpopR_perm hx0
  have hxl := heap_least_mem hh
  have hx00 : xs.getD 0 0 ∈ xs := hxp.mem_iff.mp (.head _)
  have hkk := q.keys
  have hmin : ∀ z ∈ flatC c, stv.getD 0 0 * 4096 + xs.getD 0 0 ≤ z := by
    intro z hz
    obtain ⟨p, hp, v, hv, rfl⟩ := mem_flatC.mp hz
    have h1 := hsl p.1 (hkk.mem_iff.mpr (List.mem_map.mpr ⟨p, hp, rfl⟩))
    have h2 := (q.hR p hp).2.2 v hv
    have h3 := hxr _ hx00
    by_cases e : p.1 = stv.getD 0 0
    · have : p = (stv.getD 0 0, xs) := by
        obtain ⟨c1, c2, rfl, n1, n2⟩ := split_at hm q.nd
        rcases List.mem_append.mp hp with hp | hp
        · exact absurd (List.mem_map.mpr ⟨p, hp, e⟩) n1
        rcases List.mem_cons.mp hp with hp | hp
        · exact hp
        · exact absurd (List.mem_map.mpr ⟨p, hp, e⟩) n2
      rw [this] at hv ⊢
      have := hxl v hv
      dsimp only; omega
    · rcases h with rfl | rfl <;> omega
  have hmem : stv.getD 0 0 * 4096 + xs.getD 0 0 ∈ flatC c := mem_flatC.mpr ⟨_, hm, _, hx00, rfl⟩
  generalize hk : stv.getD 0 0 = k at *
  have hfl : (flatC c).Perm ((k * 4096 + xs.getD 0 0) :: flatC (takeC c k xs)) ∧ (∀ p ∈ takeC c k xs, p ∈ c ∨ (p = (k, hpopR xs) ∧ hpopR xs ≠ [])) ∧ (takeS stv xs).Perm ((takeC c k xs).map (·.1)) ∧ ((takeC c k xs).map (·.1)).Nodup := by
    have hnd := q.nd
    obtain ⟨c1, c2, rfl, n1, n2⟩ := split_at hm q.nd
    unfold takeC takeS
    by_cases e : hpopR xs = []
    · rw [if_pos e, if_pos e, List.filter_append, List.filter_cons_of_neg (by simp), filter_off n1, filter_off n2]
      rw [e] at hxp
      refine ⟨?_, fun p hp => .inl ?_, ?_, ?_⟩
      · rw [flatC_app, flatC_cons, flatC_app]
        have := mid_perm (l := flatC c1) (r := flatC c2) (hxp.symm.map fun v => k * 4096 + v)
        simpa using this
      · rcases List.mem_append.mp hp with hp | hp
        · exact List.mem_append.mpr (.inl hp)
        · exact List.mem_append.mpr (.inr (.tail _ hp))
      · have := hsp.trans hkk
        rw [List.map_append, List.map_cons] at this
        rw [List.map_append]
        exact (this.trans List.perm_middle).cons_inv
      · refine hnd.sublist ?_
        exact ((List.sublist_cons_self _ _).append_left c1).map _
    · rw [if_neg e, if_neg e, List.map_append, List.map_cons, map_off _ n1, map_off _ n2, if_pos rfl]
      have ek : (c1 ++ (k, hpopR xs) :: c2).map (·.1) = (c1 ++ (k, xs) :: c2).map (·.1) := by simp
      refine ⟨?_, fun p hp => ?_, ?_, ?_⟩
      · rw [flatC_app, flatC_cons, flatC_app, flatC_cons]
        exact mid_perm (hxp.symm.map fun v => k * 4096 + v)
      · rcases List.mem_append.mp hp with hp | hp
        · exact .inl (List.mem_append.mpr (.inl hp))
        rcases List.mem_cons.mp hp with hp | hp
        · exact .inr ⟨hp, e⟩
        · exact .inl (List.mem_append.mpr (.inr (.tail _ hp)))
      · rw [ek, hk]
        exact (hpush_perm _ _).trans (hsp.trans hkk)
      · rw [ek]; exact hnd
  obtain ⟨f1, f2, f3, f4⟩ := hfl
  have hall := q.all
  have hord := q.ord
  cases row with
  | nil => exact absurd (hall.mem_iff.mp hmem) (by simp)
  | cons a r =>
    have ea : a = k * 4096 + xs.getD 0 0 := by
      have h1 := hmin a (hall.mem_iff.mpr (.head _))
      rcases List.mem_cons.mp (hall.mem_iff.mp hmem) with e | e
      · exact e.symm
      · have := (List.pairwise_cons.mp hord).1 _ e
        omega
    refine ⟨by simp, ea, ?_, ?_, f3, f4, ?_, (List.pairwise_cons.mp hord).2⟩
    · unfold takeS
      split
      · exact hpopR_heap q.hS h0
      · exact hpush_heap _ (hpopR_heap q.hS h0)
    · intro p hp
      rcases f2 p hp with hp | ⟨rfl, hne⟩
      · exact q.hR p hp
      · refine ⟨hpopR_heap hh hx0, List.length_pos_iff.mpr hne, fun x hx => hxr x (hxp.mem_iff.mp (.tail _ hx))⟩
    · have := f1.symm.trans hall
      rw [ea] at this
      exact this.cons_inv
theorem QInv.empty {sg : Int} {stv : List Int} {c : Cont} {row : List Int} (q : QInv sg stv c row) (h : stv.length = 0) : row = [] := by
  have h1 := q.keys.length_eq
  rw [h, List.length_map] at h1
  have : c = [] := List.eq_nil_of_length_eq_zero h1.symm
  subst this
  exact q.all.symm.eq_nil
theorem QInv.size {sg : Int} {stv : List Int} {c : Cont} {row : List Int} (q : QInv sg stv c row) : c.length ≤ row.length ∧ stv.length ≤ row.length ∧ (∀ p ∈ c, p.2.length ≤ row.length) ∧ (flatC c).length = row.length := by
  have h1 := q.all.length_eq
  have h2 := q.keys.length_eq
  rw [List.length_map] at h2
  have h3 : ∀ (c : Cont), (∀ p ∈ c, 0 < p.2.length) → c.length ≤ (flatC c).length ∧ ∀ p ∈ c, p.2.length ≤ (flatC c).length := by
    intro c
    induction c with
    | nil => intro _; simp
    | cons a c ih =>
      intro h
      obtain ⟨i1, i2⟩ := ih fun p hp => h p (.tail _ hp)
      have := h a (.head _)
      rw [flatC_cons, List.length_append, List.length_map]
      refine ⟨by simp; omega, fun p hp => ?_⟩
      rcases List.mem_cons.mp hp with rfl | hp
      · omega
      · have := i2 p hp; omega
  obtain ⟨a, b⟩ := h3 c fun p hp => (q.hR p hp).2.1
  exact ⟨by omega, by omega, fun p hp => by have := b p hp; omega, h1⟩
theorem QInv.zero (sg : Int) : QInv sg [] [] [] := ⟨HeapL_nil, (by intro p hp; cases hp), .refl _, List.nodup_nil, .refl _, .nil⟩
theorem QInv.room {sg : Int} {stv : List Int} {c : Cont} {row : List Int} (q : QInv sg stv c row) (h : 0 < stv.length) : ∃ xs, (stv.getD 0 0, xs) ∈ c ∧ 0 < xs.length := by
  have : stv.getD 0 0 ∈ stv := (hpopR_perm h).mem_iff.mp (.head _)
  obtain ⟨⟨k, xs⟩, hp, e⟩ := List.mem_map.mp (q.keys.mem_iff.mp this)
  dsimp only at e
  rw [e] at hp
  exact ⟨xs, hp, (q.hR _ hp).2.1⟩
end Mine

open PySem PySem.W PySem.Calls PyProof.Rows
set_option Elab.async false
set_option maxRecDepth 100000
namespace Mine
section
variable {prog : Program} {w : World} {A : Around} {E : Value → Shared → Prop} {s : Shared} {env : Env} {g : Heap} {L : Addr} {m : Str → Option Value} {news : List (Addr × Obj)}
noncomputable def LEnd (s : Shared) (g : Heap) (L I ls : Addr) (oI oL : Obj) (J : Nat → List (Addr × Obj) → (Str → Option Value) → Prop) (i : Nat) (s₄ : Shared) : Prop :=
  ∃ h' tk' m' news', s₄ = { s with heap := h', toks := tk' } ∧ Fr g L h' m' ∧ News g L h' ((I, oI) :: (ls, oL) :: news') ∧ J (i + 1) news' m' ∧ ∀ p ∈ news', p.1 ≠ I
/-- a for loop over a list, its invariant over the ledger -/
theorem for_list {target : Expr} {body : List Stmt} {Q : Flow → Shared → Prop} {ls : Addr} {items : List Value} (J : Nat → List (Addr × Obj) → (Str → Option Value) → Prop)
    (hh : A.handled = none) (F : Fr g L s.heap m) (N : News g L s.heap news) (hl : s.heap.IsList ls items.toArray) (hl1 : ls ≠ L) (hl2 : g.get? ls = none) (J0 : J 0 news m)
    (hgo : ∀ i (s' : Shared) I v (Q' : Unit → Shared → Prop), s'.heap.IsListIter I ls i → Q' () s' → wpAny (model prog w) A (letOwnedTupleGo target (.ref I) v) Q' E s')
    (step : ∀ I, I = s.heap.objs.size → ∀ i v oI oL h tk m news, items[i]? = some v → J i news m → (∀ p ∈ news, p.1 ≠ I) → Fr g L h m → News g L h ((I, oI) :: (ls, oL) :: news) →
      wpAny (model prog w) A (assign target env v) (fun _ s₃ => wpAny (model prog w) A (execs body env) (fun f s₄ => match f with
        | .ret v => Q (.ret v) s₄
        | .brk => Q .next s₄
        | _ => LEnd s g L I ls oI oL J i s₄) E s₃) E { s with heap := h, toks := tk })
    (done : ∀ h tk m news, Fr g L h m → News g L h news → J items.length news m → Q .next { s with heap := h, toks := tk }) :
    wpAny (model prog w) A (pyIter (.ref ls)) (fun it s₂ => ForAt prog w A env target body Q E it s₂) E s := by
  refine wpAny_pyIter_list hl ?_
  obtain ⟨ol, hol, _⟩ := id hl
  have hlt : ls < s.heap.objs.size := Heap.lt_size hol
  have p2 : ∀ b o, s.heap.get? b = some o → (s.heap.push { cls := .type "list_iterator", data := .fields #[.ref ls, .int 0 0] }).get? b = some o := fun b o e => Heap.get?_push_of_some _ e
  obtain ⟨nI1, nI2⟩ := fresh_in F (Heap.get?_none_of_le (Nat.le_refl s.heap.objs.size))
  have e0 : (s.heap.push { cls := .type "list_iterator", data := .fields #[.ref ls, .int 0 0] }).get? s.heap.objs.size = some { cls := .type "list_iterator", data := .fields #[.ref ls, .int 0 0] } := Heap.get?_push_size _ rfl
  refine ⟨s.heap.objs.size, _, _, _, _, _, fun i h => ∃ m news, Fr g L h m ∧ News g L h news ∧ J i news m ∧ ∀ p ∈ news, p.1 ≠ s.heap.objs.size, rfl, Walks.list hh _ ls (Nat.ne_of_lt hlt) items.toArray, ⟨⟨_, e0, rfl, rfl⟩, hl.at fun o e => p2 _ o e⟩, ⟨m, news, F.push _, fun q hq => ⟨p2 _ _ (N q hq).1, (N q hq).2⟩, J0, fun p hp => Nat.ne_of_lt (Heap.lt_size (N p hp).1)⟩, ?_, ?_, ?_, ?_⟩
  · rintro i h h' ⟨m, news, f, n, j, o⟩ hk
    have hk' : Kept [s.heap.objs.size] h h' := fun b o e q => hk b o q e
    exact ⟨m, news, fr_kept f hk' (by simpa using Ne.symm nI1) (by intro a ha; rw [List.mem_singleton.mp ha]; exact nI2), news_kept n hk' (by intro p hp; simpa using o p hp), j, o⟩
  · intro i s' v Q' st hq
    exact hgo i s' _ v Q' st.1 hq
  · rintro i v h tk hi hv ⟨m, news, f, n, j, o⟩ ⟨⟨oI, eI, cI⟩, ⟨oL, eL, cL⟩⟩
    refine wpAny_mono (step _ rfl i v oI oL h tk m news (by simpa using hv) j o f ?_) (fun _ s₃ h₃ => wpAny_mono h₃ (fun fl s₄ h₄ => ?_) fun _ _ e => e) fun _ _ e => e
    · intro q hq
      rcases List.mem_cons.mp hq with rfl | hq
      · exact ⟨eI, nI1, nI2⟩
      rcases List.mem_cons.mp hq with rfl | hq
      · exact ⟨eL, hl1, hl2⟩
      · exact n q hq
    · have fin : LEnd s g L s.heap.objs.size ls oI oL J i s₄ → ForEnd { s with heap := s.heap.push { cls := .type "list_iterator", data := .fields #[.ref ls, .int 0 0] } } (fun i h => ∃ m news, Fr g L h m ∧ News g L h news ∧ J i news m ∧ ∀ p ∈ news, p.1 ≠ s.heap.objs.size) (fun i h => h.IsListIter s.heap.objs.size ls i ∧ h.IsList ls items.toArray) i s₄ := by
        rintro ⟨h', tk', m', news', rfl, f', n', j', o'⟩
        exact ⟨h', tk', rfl, ⟨m', news', f', fun q hq => n' q (.tail _ (.tail _ hq)), j', o'⟩, ⟨oI, n'.get (.head _), cI⟩, ⟨oL, n'.get (.tail _ (.head _)), cL⟩⟩
      cases fl with
      | ret v => exact h₄
      | brk => exact h₄
      | next => exact fin h₄
      | cont => exact fin h₄
  · rintro h tk ⟨m, news, f, n, j, _⟩
    exact done h tk m news f n (by simpa using j)
end
end Mine

open PySem PySem.W PySem.Calls PyProof.Rows
set_option Elab.async false
set_option maxRecDepth 100000
namespace Mine
noncomputable def lawDef : Stmt := Challenge.pw_op0093_01.main.body.getLast?.getD (.Pass default)
noncomputable def lawBody : List Stmt := match lawDef with | .FunctionDef (body := b) .. => b | _ => []
noncomputable def lawScope : Scope := match lawDef with | .FunctionDef (scope := sc) .. => sc | _ => default
noncomputable def forBody : Stmt → List Stmt | .For _ _ b _ _ => b | _ => []
noncomputable def fillBody : List Stmt := forBody (lawBody.getD 2 (.Pass default))
noncomputable def turnBody : List Stmt := forBody (lawBody.getD 3 (.Pass default))
noncomputable abbrev lawEnv (L fa : Addr) (cd : Value) : Env := envOf (Str.ofString "law") lawScope L fa cd
/-- a call of the script: a tuple of two ints -/
noncomputable def callObj (k x : Int) (t u : Tok) : Obj := { cls := .type "tuple", data := .seq #[.int k t, .int x u] }
theorem power_le (z : Int) : 0 ≤ (z.fdiv 6000003).fmod 6 + 1 ∧ (z.fdiv 6000003).fmod 6 + 1 ≤ 1000000 ∧ 0 ≤ (1009 : Int) ^ ((z.fdiv 6000003).fmod 6 + 1).toNat ∧ (1009 : Int) ^ ((z.fdiv 6000003).fmod 6 + 1).toNat ≤ 1009 ^ 6 := by
  rw [Int.fmod_eq_emod_of_nonneg _ (by decide)]
  generalize z.fdiv 6000003 = y
  have h : y % 6 = 0 ∨ y % 6 = 1 ∨ y % 6 = 2 ∨ y % 6 = 3 ∨ y % 6 = 4 ∨ y % 6 = 5 := by omega
  refine ⟨by omega, by omega, ?_⟩
  rcases h with h | h | h | h | h | h <;> rw [h] <;> decide
section
variable {prog : Program} {w : World} {A : Around} {E : Value → Shared → Prop} {s : Shared} {t u : Tok} {Q : Value → Shared → Prop}
theorem pow_step {z : Int} (h : ∀ pw, 0 ≤ pw → pw ≤ 1009 ^ 6 → Q (.int pw s.toks) { s with toks := s.toks + 1 }) :
    wpAny (model prog w) A (binaryOp .Pow (.int 1009 t) (.int ((z.fdiv 6000003).fmod 6 + 1) u)) Q E s := by
  obtain ⟨p1, p2, p3, p4⟩ := power_le z
  exact pow_int_small p1 p2 (by decide) (h _ p3 p4)
theorem mul_step {z pw : Int} (h0 : 0 ≤ pw) (h1 : pw ≤ 1009 ^ 6) (h : ∀ x, -(2 ^ 89) < x → x < 2 ^ 89 → Q (.int x s.toks) { s with toks := s.toks + 1 }) :
    wpAny (model prog w) A (binaryOp .Mult (.int ((z.fdiv 3).fmod 2000001 - 1000000) t) (.int pw u)) Q E s := by
  rw [Int.fmod_eq_emod_of_nonneg _ (by decide)]
  have h2 : (-1000000 : Int) ≤ z.fdiv 3 % 2000001 - 1000000 := by omega
  have h3 : z.fdiv 3 % 2000001 - 1000000 ≤ 1000000 := by omega
  generalize z.fdiv 3 % 2000001 - 1000000 = y at h2 h3 ⊢
  have e1 : y * pw ≤ 1000000 * 1009 ^ 6 := Int.le_trans (Int.mul_le_mul_of_nonneg_right h3 h0) (Int.mul_le_mul_of_nonneg_left h1 (by decide))
  have e2 : -(1000000 * 1009 ^ 6) ≤ y * pw := by
    have := Int.mul_le_mul_of_nonneg_right h2 h0
    have := Int.mul_le_mul_of_nonneg_left h1 (show (0 : Int) ≤ 1000000 by decide)
    omega
  refine mul_int (h _ (by omega) (by omega)) ?_
  exact IntMulOk.of_left (intBits_le (by omega))
end
end Mine

open PySem PySem.W PySem.Calls PyProof.Rows
set_option Elab.async false
set_option maxRecDepth 100000
namespace Mine
theorem news_swap {g h : Heap} {L : Addr} {a b : Addr × Obj} {r : List (Addr × Obj)} (N : News g L h (a :: b :: r)) : News g L h (b :: a :: r) := fun q hq => by
  rcases List.mem_cons.mp hq with rfl | hq
  · exact N _ (.tail _ (.head _))
  rcases List.mem_cons.mp hq with rfl | hq
  · exact N _ (.head _)
  · exact N _ (.tail _ (.tail _ hq))
theorem kst_id {m : Str → Option Value} {ps : List (Str × Value)} (hp : ∀ p ∈ ps, m p.1 = some p.2) : kstB m ps = m := by
  have : kstB m ps = m := funext fun z => kstB_eq hp fun _ => rfl
  exact this
section
variable {w : World} {s : Shared} {loose : List Str} {mean : ExcName → Option Value} {mg mb : Str → Option Value} {Q : Flow → Shared → Prop} {E : Value → Shared → Prop}
set_option maxHeartbeats 4000000 in
theorem fill_step {g : Heap} {L C fa : Addr} {cd : Value} {m : Str → Option Value} {vs : List Value} {nC : Nat} {more : List (Addr × Obj)} {z : Int} {tv : Tok}
    (X : (hd.heap_39 w.params).In g) (T : Top topProg loose mean mg mb g) (F : Fr g L s.heap m) (N : News g L s.heap ((C, listOf vs.toArray nC) :: more)) (hoff : OwnOff more [C])
    (m1 : m "calls" = some (.ref C)) (m2 : m "x" = some (.int z tv)) (hlen : vs.length < 100)
    (h : ∀ h' tk e nC' k x t u, Fr g L h' m → News g L h' ((C, listOf (vs ++ [Value.ref e]).toArray nC') :: (e, callObj k x t u) :: more) → (k = 0 ∨ k = 1 ∨ k = 2) → -(2 ^ 89) < x → x < 2 ^ 89 → OwnOff more [e] → e ≠ C → Q .next { s with heap := h', toks := tk }) :
    wpAny (model Challenge.rw_op0093_01.row.prog w) (callerA.deeper (lawEnv L fa cd)) (execs fillBody (lawEnv L fa cd)) Q E s := by
  show wpAny _ (callerA.deeper (envOf _ ⟨_, _, _, _, _⟩ _ _ _)) (execs (Stmt.Expr _ _ :: []) (envOf _ ⟨_, _, _, _, _⟩ _ _ _)) _ _ _
  revert X; k_fill; intro X
  have B := below_caller g
  have hps : ∀ q ∈ ([("calls", .ref C), ("x", .int z tv)] : List (Str × Value)), m q.1 = some q.2 := by
    intro q hq
    simp only [List.mem_cons, List.not_mem_nil, or_false] at hq
    rcases hq with rfl | rfl
    · exact m1
    · exact m2
  replace F := fr_ps F hps
  (try k_unmd)
  iterate 37 walk1
  dsimp only
  refine pow_step fun pw hp0 hp1 => ?_
  dsimp only
  refine mul_step hp0 hp1 fun x hx0 hx1 => ?_
  dsimp only
  repeat' walk1
  dsimp only
  rename Fr _ _ _ _ => F
  rename News _ _ _ _ => N
  rename_i lt _
  rw [kst_id hps] at F
  have N2 := news_swap N
  rw [List.push_toArray] at N2
  refine h _ _ _ _ _ _ _ _ F N2 ?_ hx0 hx1 (off_of_lt lt.2) (fun q => by rw [q] at lt; exact absurd lt.1 (Nat.lt_irrefl _))
  · rw [Int.fmod_eq_emod_of_nonneg _ (by decide)]; omega
end
end Mine

open PySem PySem.W PySem.Calls PyProof.Rows
set_option Elab.async false
set_option maxRecDepth 100000
namespace Mine
noncomputable def turn1 : Stmt := turnBody.getD 0 (.Pass default)
noncomputable def turn2 : Stmt := turnBody.getD 1 (.Pass default)
noncomputable def turn3 : Stmt := turnBody.getD 2 (.Pass default)
structure TurnAt (w : World) (g : Heap) (L S R aW : Addr) (sg : Int) (more : List (Addr × Obj)) (m : Str → Option Value) (row stv : List Int) (rs : List Room) (n : Nat) (h : Heap) : Prop where
  F : Fr g L h m
  N : News g L h more
  Q : QOk Challenge.rw_op0093_01.row.prog w h S R stv rs
  q : QInv sg stv (cont rs) row
  len : row.length ≤ n
  W : ListAt h aW row
  t1 : T58 h
  t2 : T65 h
  fr : ∀ a ∈ (58 : Addr) :: 65 :: aW :: S :: R :: rs.map Room.addr, a ≠ L ∧ g.get? a = none ∧ ∀ p ∈ more, p.1 ≠ a
  aw : aW ∉ (58 : Addr) :: 65 :: S :: R :: rs.map Room.addr
noncomputable def varsOf (S R aW : Addr) (sg k x : Int) (tg t u : Tok) : List (Str × Value) := [("call", .int k t), ("number", .int x u), ("row", .ref aW), ("rooms", .ref R), ("storeys", .ref S), ("sign", .int sg tg)]
theorem room_law (env : Env) : (callerA.deeper env).depth + 40 < recursionLimit := by
  show 1 + claimMargin + 1 + 40 < recursionLimit
  decide +kernel
theorem units_law (env : Env) : (callerA.deeper env).units + 200 < cLine := by
  show 4 + 3 + 200 < cLine
  decide +kernel
section
variable {w : World} {g h h' : Heap} {L S R aW : Addr} {sg : Int} {more : List (Addr × Obj)} {m m' : Str → Option Value} {row stv : List Int} {rs : List Room} {n : Nat}
theorem mem_room {a b c d e : Addr} {r : Room} (hr : r ∈ rs) : r.addr ∈ a :: b :: c :: d :: e :: rs.map Room.addr := .tail _ (.tail _ (.tail _ (.tail _ (.tail _ (List.mem_map.mpr ⟨r, hr, rfl⟩)))))
theorem QOk.moved {prog : Program} (q : QOk prog w h S R stv rs) (k : ∀ a ∈ S :: R :: rs.map Room.addr, ∀ o, h.get? a = some o → h'.get? a = some o) : QOk prog w h' S R stv rs :=
  ⟨q.S.at (k S (.head _)), (by obtain ⟨oD, e, d⟩ := q.D; exact ⟨oD, k R (.tail _ (.head _)) _ e, d⟩), fun r hr => (q.R r hr).at (k r.addr (.tail _ (.tail _ (List.mem_map.mpr ⟨r, hr, rfl⟩)))), q.nd⟩
theorem TurnAt.moved (Z : TurnAt w g L S R aW sg more m row stv rs n h) (k : Kept [L] h h') :
    QOk Challenge.rw_op0093_01.row.prog w h' S R stv rs ∧ T58 h' ∧ T65 h' ∧ News g L h' more ∧ ListAt h' aW row := by
  have hL : ∀ a ∈ (58 : Addr) :: 65 :: aW :: S :: R :: rs.map Room.addr, ∀ o, h.get? a = some o → h'.get? a = some o := fun a ha o e => k a o e (by simpa using (Z.fr a ha).1)
  have hnc : ∀ a ∈ [L], ∀ o, h.get? a = some o → ¬ CodeLike o := fun a ha o e => by rw [List.mem_singleton.mp ha] at e; exact fr_notCode Z.F o e
  exact ⟨Z.Q.moved fun a ha => hL a (.tail _ (.tail _ (.tail _ ha))), Z.t1.move (hL 58 (.head _)) (.of k hnc), Z.t2.move (hL 65 (.tail _ (.head _))) (.of k hnc),
    news_kept Z.N k (fun p hp q => (Z.N p hp).2.1 (List.mem_singleton.mp q)), Z.W.at (hL aW (.tail _ (.tail _ (.head _))))⟩
theorem TurnAt.keep (Z : TurnAt w g L S R aW sg more m row stv rs n h) (k : Kept [] h h') : TurnAt w g L S R aW sg more m row stv rs n h' := by
  obtain ⟨a, b, c, d, e⟩ := Z.moved (k.mono (fun _ q => nomatch q))
  exact ⟨fr_kept Z.F k List.not_mem_nil (fun _ q => nomatch q), d, a, Z.q, Z.len, e, b, c, Z.fr, Z.aw⟩
theorem TurnAt.more_turns {n' : Nat} (Z : TurnAt w g L S R aW sg more m row stv rs n h) (k : n ≤ n') : TurnAt w g L S R aW sg more m row stv rs n' h :=
  ⟨Z.F, Z.N, Z.Q, Z.q, Nat.le_trans Z.len k, Z.W, Z.t1, Z.t2, Z.fr, Z.aw⟩
/-- what a walk over a ledger of all leaves as it was -/
theorem kept_walk {a : Addr} {o : Obj} {news : List (Addr × Obj)} (F : Fr g L h m) (F' : Fr g L h' m') (N' : News g L h' news) (e : h.get? a = some o) (hs : ∀ p ∈ (a, o) :: restOf g L [a] h, p ∈ news) : Kept [L] h h' := fun b o' e' nb => by
  by_cases q : b = a
  · rw [q] at e' ⊢; rw [e] at e'; cases e'; exact N'.get (hs _ (.head _))
  · exact rest_kept (ex := [a]) F' N' (fun q hq => hs _ (.tail _ hq)) F.keep b o' e' (by
      simp only [List.mem_cons, List.not_mem_nil, or_false, not_or]
      exact ⟨fun x => nb (by rw [x]; exact .head _), q⟩)
theorem TurnAt.fresh {D : Addr} (Z : TurnAt w g L S R aW sg more m row stv rs n h) (h1 : h.get? D = none) : (D ≠ L ∧ g.get? D = none ∧ ∀ p ∈ more, p.1 ≠ D) ∧ ∀ a ∈ (58 : Addr) :: 65 :: aW :: S :: R :: rs.map Room.addr, D ≠ a := by
  have hne : ∀ a, (∃ o, h.get? a = some o) → D ≠ a := fun a ⟨o, e⟩ q => by rw [q, e] at h1; cases h1
  have hf := fresh_in Z.F h1
  refine ⟨⟨hf.1, hf.2, fun p hp q => hne p.1 ⟨_, (Z.N p hp).1⟩ q.symm⟩, ?_⟩
  intro a ha
  apply hne
  rcases List.mem_cons.mp ha with rfl | ha
  · exact Z.t1.isSome
  rcases List.mem_cons.mp ha with rfl | ha
  · exact Z.t2.isSome
  rcases List.mem_cons.mp ha with rfl | ha
  · obtain ⟨v, n, e, _⟩ := Z.W; exact ⟨_, e⟩
  rcases List.mem_cons.mp ha with rfl | ha
  · obtain ⟨v, n, e, _⟩ := Z.Q.S; exact ⟨_, e⟩
  rcases List.mem_cons.mp ha with rfl | ha
  · obtain ⟨o, e, _⟩ := Z.Q.D; exact ⟨_, e⟩
  · obtain ⟨r, hr, rfl⟩ := List.mem_map.mp ha
    obtain ⟨v, n, e, _⟩ := Z.Q.R r hr; exact ⟨_, e⟩
/-- a new row, the queue as it was -/
theorem TurnAt.put {h2 h3 : Heap} {D : Addr} {row' : List Int} {rs' : List Room} {x : Int} (Z : TurnAt w g L S R aW sg more m row stv rs n h) (hsg : sg = 1 ∨ sg = -1) (k : Kept [L] h h2) (F2 : Fr g L h2 m') (hD : h.get? D = none) (W : ListAt h2 D row') (hp : row'.Perm (row ++ [x])) (ho : row'.Pairwise (· ≤ ·))
    (k3 : Kept (58 :: 65 :: S :: R :: rs.map Room.addr) h2 h3) (t1 : T58 h3) (t2 : T65 h3) (q3 : QOk Challenge.rw_op0093_01.row.prog w h3 S R (putS (cont rs) stv (storeyOf x sg)) rs') (e3 : cont rs' = putC (cont rs) (storeyOf x sg) (bitOf x sg))
    (hr3 : ∀ r ∈ rs', h2.get? r.addr = none ∨ ∃ r₀ ∈ rs, r.addr = r₀.addr) : TurnAt w g L S R D sg more m' row' (putS (cont rs) stv (storeyOf x sg)) rs' (n + 1) h3 := by
  obtain ⟨z1, z2⟩ := Z.fresh hD
  obtain ⟨q2, a1, a2, N2, W2⟩ := Z.moved k
  have sub : ∀ a ∈ (58 : Addr) :: 65 :: S :: R :: rs.map Room.addr, a ∈ (58 : Addr) :: 65 :: aW :: S :: R :: rs.map Room.addr := by
    intro a ha
    rcases List.mem_cons.mp ha with rfl | ha
    · exact .head _
    rcases List.mem_cons.mp ha with rfl | ha
    · exact .tail _ (.head _)
    · exact .tail _ (.tail _ (.tail _ ha))
  have hDn : D ∉ (58 : Addr) :: 65 :: S :: R :: rs.map Room.addr := fun q => z2 D (sub D q) rfl
  have hfr3 : ∀ r ∈ rs', (r.addr ≠ L ∧ g.get? r.addr = none ∧ ∀ p ∈ more, p.1 ≠ r.addr) ∧ D ≠ r.addr := by
    intro r hr
    rcases hr3 r hr with e | ⟨r₀, h0, e⟩
    · have hf := fresh_in F2 e
      refine ⟨⟨hf.1, hf.2, fun p hp q => ?_⟩, fun q => ?_⟩
      · rw [← q, (N2 p hp).1] at e; cases e
      · obtain ⟨v, c, e', _⟩ := W; rw [← q, e'] at e; cases e
    · rw [e]; exact ⟨Z.fr _ (mem_room h0), z2 _ (mem_room h0)⟩
  have hall : ∀ a ∈ (58 : Addr) :: 65 :: S :: R :: rs'.map Room.addr, (a ≠ L ∧ g.get? a = none ∧ ∀ p ∈ more, p.1 ≠ a) ∧ D ≠ a := by
    intro a ha
    have old : a ∈ (58 : Addr) :: 65 :: S :: R :: rs.map Room.addr → (a ≠ L ∧ g.get? a = none ∧ ∀ p ∈ more, p.1 ≠ a) ∧ D ≠ a := fun q => ⟨Z.fr a (sub a q), z2 a (sub a q)⟩
    rcases List.mem_cons.mp ha with rfl | ha
    · exact old (.head _)
    rcases List.mem_cons.mp ha with rfl | ha
    · exact old (.tail _ (.head _))
    rcases List.mem_cons.mp ha with rfl | ha
    · exact old (.tail _ (.tail _ (.head _)))
    rcases List.mem_cons.mp ha with rfl | ha
    · exact old (.tail _ (.tail _ (.tail _ (.head _))))
    · obtain ⟨r, hr, rfl⟩ := List.mem_map.mp ha
      exact hfr3 r hr
  refine ⟨fr_kept F2 k3 (fun q => (Z.fr L (sub L q)).1 rfl) (fun a ha => (Z.fr a (sub a ha)).2.1), news_kept N2 k3 (fun p hp q => (Z.fr _ (sub _ q)).2.2 p hp rfl), q3, ?_, ?_, W.at fun o e => k3 D o e hDn, t1, t2, ?_, fun q => (hall D q).2 rfl⟩
  · rw [e3]; exact Z.q.put x hsg hp ho
  · have := hp.length_eq; have := Z.len; simp at *; omega
  · intro a ha
    rcases List.mem_cons.mp ha with rfl | ha
    · exact (hall _ (.head _)).1
    rcases List.mem_cons.mp ha with rfl | ha
    · exact (hall _ (.tail _ (.head _))).1
    rcases List.mem_cons.mp ha with rfl | ha
    · exact z1
    · exact (hall a (.tail _ (.tail _ ha))).1
theorem TurnAt.take {h2 h3 : Heap} {D : Addr} {row' stv' : List Int} {rs' : List Room} (Z : TurnAt w g L S R aW sg more m row stv rs n h) (k : Kept [L] h h2) (F2 : Fr g L h2 m') (hD : h.get? D = none) (W : ListAt h2 D row')
    (k3 : Kept (S :: R :: rs.map Room.addr) h2 h3) (q3 : QOk Challenge.rw_op0093_01.row.prog w h3 S R stv' rs') (qi : QInv sg stv' (cont rs') row') (hl : row'.length ≤ n)
    (hr3 : ∀ r ∈ rs', ∃ r₀ ∈ rs, r.addr = r₀.addr) : TurnAt w g L S R D sg more m' row' stv' rs' n h3 := by
  obtain ⟨z1, z2⟩ := Z.fresh hD
  obtain ⟨q2, a1, a2, N2, W2⟩ := Z.moved k
  have sub : ∀ a ∈ S :: R :: rs.map Room.addr, a ∈ (58 : Addr) :: 65 :: aW :: S :: R :: rs.map Room.addr := fun a ha => .tail _ (.tail _ (.tail _ ha))
  have hall : ∀ a ∈ (58 : Addr) :: 65 :: S :: R :: rs'.map Room.addr, a ∈ (58 : Addr) :: 65 :: aW :: S :: R :: rs.map Room.addr := by
    intro a ha
    rcases List.mem_cons.mp ha with rfl | ha
    · exact .head _
    rcases List.mem_cons.mp ha with rfl | ha
    · exact .tail _ (.head _)
    rcases List.mem_cons.mp ha with rfl | ha
    · exact sub _ (.head _)
    rcases List.mem_cons.mp ha with rfl | ha
    · exact sub _ (.tail _ (.head _))
    · obtain ⟨r, hr, rfl⟩ := List.mem_map.mp ha
      obtain ⟨r₀, h0, e⟩ := hr3 r hr
      rw [e]; exact mem_room h0
  have hdata : ∀ a ∈ S :: R :: rs.map Room.addr, ∃ o, h2.get? a = some o ∧ ∀ vs, o.data ≠ .fields vs := by
    intro a ha
    rcases List.mem_cons.mp ha with rfl | ha
    · obtain ⟨v, c, e, _⟩ := q2.S; exact ⟨_, e, fun vs q => by cases q⟩
    rcases List.mem_cons.mp ha with rfl | ha
    · obtain ⟨o, e, d⟩ := q2.D; exact ⟨o, e, dict_notCode d⟩
    · obtain ⟨r, hr, rfl⟩ := List.mem_map.mp ha
      obtain ⟨v, c, e, _⟩ := q2.R r hr; exact ⟨_, e, fun vs q => by cases q⟩
  have hnc : ∀ a ∈ S :: R :: rs.map Room.addr, ∀ o, h2.get? a = some o → ¬ CodeLike o := fun a ha o e => by
    obtain ⟨o', e', d⟩ := hdata a ha
    rw [e'] at e; cases e; exact notCode_of d
  have hne : ∀ {P : Addr} {l c : Nat} {q : Str}, TabOk h2 P l c q → P ∉ S :: R :: rs.map Room.addr := fun t ha => by
    obtain ⟨o', e', d⟩ := hdata _ ha
    exact t.ne e' d rfl
  refine ⟨fr_kept F2 k3 (fun q => (Z.fr L (sub L q)).1 rfl) (fun a ha => (Z.fr a (sub a ha)).2.1), news_kept N2 k3 (fun p hp q => (Z.fr _ (sub _ q)).2.2 p hp rfl), q3, qi, hl, W.at fun o e => k3 D o e (fun q => z2 D (sub D q) rfl),
    a1.through k3 (hne a1) hnc, a2.through k3 (hne a2) hnc, ?_, fun q => z2 D (hall D q) rfl⟩
  intro a ha
  rcases List.mem_cons.mp ha with rfl | ha
  · exact Z.fr _ (hall _ (.head _))
  rcases List.mem_cons.mp ha with rfl | ha
  · exact Z.fr _ (hall _ (.tail _ (.head _)))
  rcases List.mem_cons.mp ha with rfl | ha
  · exact z1
  · exact Z.fr _ (hall a (.tail _ (.tail _ ha)))
theorem takeR_addr {k : Int} {xs : List Int} : ∀ r ∈ takeR rs k xs, ∃ r₀ ∈ rs, r.addr = r₀.addr := by
  intro r hr
  unfold takeR at hr
  split at hr
  · exact ⟨r, (List.mem_filter.mp hr).1, rfl⟩
  · have : r.addr ∈ (setRoom rs k (hpopR xs)).map Room.addr := List.mem_map.mpr ⟨r, hr, rfl⟩
    rw [setRoom_addr] at this
    obtain ⟨r₀, h0, e⟩ := List.mem_map.mp this
    exact ⟨r₀, h0, e.symm⟩
theorem fresh_walk {D : Addr} (e : D ≠ L ∧ g.get? D = none) (n : D ≠ aW) (lt : AllLt D (restOf g L [aW] h)) : h.get? D = none := by
  cases q : h.get? D with
  | none => rfl
  | some o => exact absurd rfl (off_of_lt lt (D, o) (mem_restOf.mpr ⟨q, e.2, e.1, fun z => n (List.mem_singleton.mp z)⟩) D (.head _))
end
end Mine

open PySem PySem.W PySem.Calls PyProof.Rows
set_option Elab.async false
set_option maxRecDepth 100000
namespace Mine
section
variable {w : World} {s : Shared} {loose : List Str} {mean : ExcName → Option Value} {mg mb : Str → Option Value} {Q : Flow → Shared → Prop} {E : Value → Shared → Prop}
set_option maxHeartbeats 4000000 in
theorem st1 {g : Heap} {L S R aW fa : Addr} {cd : Value} {sg k x : Int} {tg t u : Tok} {more : List (Addr × Obj)} {m : Str → Option Value} {row stv : List Int} {rs : List Room} {n : Nat}
    (X : (hd.heap_39 w.params).In g) (T : Top topProg loose mean mg mb g) (C1 : CodeHd g 62 58) (C2 : CodeHd g 69 65) (hlo : (R == sysModules) = false) (hsg : sg = 1 ∨ sg = -1) (hx0 : -(2 ^ 89) < x) (hx1 : x < 2 ^ 89) (hk : k = 0 ∨ k = 2) (hn : n < 40)
    (Z : TurnAt w g L S R aW sg more m row stv rs n s.heap) (hm : ∀ p ∈ varsOf S R aW sg k x tg t u, m p.1 = some p.2)
    (h : ∀ h' tk m' aW' row' stv' rs', TurnAt w g L S R aW' sg more m' row' stv' rs' (n + 1) h' → (∀ p ∈ varsOf S R aW' sg k x tg t u, m' p.1 = some p.2) → Q .next { s with heap := h', toks := tk }) :
    wpAny (model Challenge.rw_op0093_01.row.prog w) (callerA.deeper (lawEnv L fa cd)) (exec turn1 (lawEnv L fa cd)) Q E s := by
  show wpAny _ (callerA.deeper (envOf _ ⟨_, _, _, _, _⟩ _ _ _)) (exec (Stmt.If _ _ _ _) (envOf _ ⟨_, _, _, _, _⟩ _ _ _)) _ _ _
  revert X; k_fill; intro X
  have B := below_caller g
  have F := fr_ps Z.F hm
  obtain ⟨vW, nW, eW, hiW⟩ := id Z.W
  have hW := Z.fr aW (.tail _ (.tail _ (.head _)))
  have N : News g L s.heap ((aW, listOf vW.toArray nW) :: restOf g L [aW] s.heap) := fun q hq => by
    rcases List.mem_cons.mp hq with rfl | hq
    · exact ⟨eW, hW.1, hW.2.1⟩
    · exact rest_news _ _ _ _ q hq
  have hoff := rest_off g L [aW] s.heap
  have hrl := Z.len
  have hk1 : k ≠ 1 := by omega
  unfold varsOf at F
  (try k_unmd)
  walk_at "my go2"
  rotate_left
  · exfalso; omega
  rename Fr _ _ _ _ => F2
  rename News _ _ _ _ => N2
  rename_i D v3 row' c3 h3 i3 e3 p3 o3 _ _ lt3 h4
  (try clear F); (try clear N)
  have hin := kept_walk Z.F F2 N2 eW (fun q hq => .tail _ (.tail _ (.tail _ hq)))
  have hD := fresh_walk (N2 _ (.head _)).2 (fun q => Nat.ne_of_gt lt3.2.2.1 q) lt3.2.2.2
  obtain ⟨hq, ht1, ht2, _, _⟩ := Z.moved hin
  obtain ⟨z1, z2, z3, z4⟩ := Z.q.size
  have hz0 := Z.len
  have z1' : rs.length ≤ row.length := by unfold cont at z1; simpa using z1
  refine put_call hsg X T C1 C2 F2.keep rfl (room_law _) (units_law _) hx0 hx1 (Z.fr 58 (.head _)).2.1 ht1 (Z.fr 65 (.tail _ (.head _))).2.1 ht2 hq (Z.fr S (.tail _ (.tail _ (.tail _ (.head _))))).2.1 (Z.fr R (.tail _ (.tail _ (.tail _ (.tail _ (.head _)))))).2.1 (fun r hr => (Z.fr r.addr (mem_room hr)).2.1) hlo (by omega) (by omega) (fun r hr => ?_) ?_
  · have := z3 (r.key, r.xs) (List.mem_map.mpr ⟨r, hr, rfl⟩)
    dsimp only at this; omega
  intro h5 tk5 rs5 k5 a1 a2 q5 e5 r5
  have Z5 := Z.put hsg hin F2 hD ⟨v3, c3, N2.get (.head _), i3⟩ p3 o3 k5 a1 a2 q5 e5 r5
  have F5 := Z5.F
  have N5 := Z5.N
  clear F2 N2
  dsimp only
  walk_at "my go2"
  refine h _ _ _ _ _ _ _ Z5 ?_
  intro q hq
  simp only [varsOf, List.mem_cons, List.not_mem_nil, or_false] at hq
  rcases hq with rfl | rfl | rfl | rfl | rfl | rfl <;> rfl
theorem st1_skip {g : Heap} {L S R aW fa : Addr} {cd : Value} {sg x : Int} {tg t u : Tok} {m : Str → Option Value}
    (X : (hd.heap_39 w.params).In g) (T : Top topProg loose mean mg mb g) (F : Fr g L s.heap m) (hm : ∀ p ∈ varsOf S R aW sg 1 x tg t u, m p.1 = some p.2)
    (h : ∀ tk, Q .next { s with toks := tk }) :
    wpAny (model Challenge.rw_op0093_01.row.prog w) (callerA.deeper (lawEnv L fa cd)) (exec turn1 (lawEnv L fa cd)) Q E s := by
  show wpAny _ (callerA.deeper (envOf _ ⟨_, _, _, _, _⟩ _ _ _)) (exec (Stmt.If _ _ _ _) (envOf _ ⟨_, _, _, _, _⟩ _ _ _)) _ _ _
  revert X; k_fill; intro X
  have B := below_caller g
  replace F := fr_ps F hm
  have N := nil_news F
  unfold varsOf at F
  (try k_unmd)
  walk_at "my go2"
  exact h _
theorem st2_skip {g : Heap} {L S R aW fa : Addr} {cd : Value} {sg x : Int} {tg t u : Tok} {m : Str → Option Value}
    (X : (hd.heap_39 w.params).In g) (T : Top topProg loose mean mg mb g) (F : Fr g L s.heap m) (hm : ∀ p ∈ varsOf S R aW sg 0 x tg t u, m p.1 = some p.2)
    (h : ∀ tk, Q .next { s with toks := tk }) :
    wpAny (model Challenge.rw_op0093_01.row.prog w) (callerA.deeper (lawEnv L fa cd)) (exec turn2 (lawEnv L fa cd)) Q E s := by
  show wpAny _ (callerA.deeper (envOf _ ⟨_, _, _, _, _⟩ _ _ _)) (exec (Stmt.If _ _ _ _) (envOf _ ⟨_, _, _, _, _⟩ _ _ _)) _ _ _
  revert X; k_fill; intro X
  have B := below_caller g
  replace F := fr_ps F hm
  have N := nil_news F
  unfold varsOf at F
  (try k_unmd)
  walk_at "my go2"
  exact h _
set_option maxHeartbeats 4000000 in
theorem st3 {g : Heap} {L S R aW fa : Addr} {cd : Value} {sg k x : Int} {tg t u : Tok} {more : List (Addr × Obj)} {m : Str → Option Value} {row stv : List Int} {rs : List Room} {n : Nat}
    (X : (hd.heap_39 w.params).In g) (T : Top topProg loose mean mg mb g) (hlo : (R == sysModules) = false) (hn : n < 40)
    (Z : TurnAt w g L S R aW sg more m row stv rs n s.heap) (hm : ∀ p ∈ varsOf S R aW sg k x tg t u, m p.1 = some p.2)
    (h : ∀ h' tk, TurnAt w g L S R aW sg more m row stv rs n h' → Q .next { s with heap := h', toks := tk }) :
    wpAny (model Challenge.rw_op0093_01.row.prog w) (callerA.deeper (lawEnv L fa cd)) (exec turn3 (lawEnv L fa cd)) Q E s := by
  show wpAny _ (callerA.deeper (envOf _ ⟨_, _, _, _, _⟩ _ _ _)) (exec (Stmt.If _ _ _ _) (envOf _ ⟨_, _, _, _, _⟩ _ _ _)) _ _ _
  revert X; k_fill; intro X
  have B := below_caller g
  have F := fr_ps Z.F hm
  have N := Z.N
  unfold varsOf at F
  (try k_unmd)
  walk_at "my go2"
  obtain ⟨z1, z2, z3, z4⟩ := Z.q.size
  have hz0 := Z.len
  have z1' : rs.length ≤ row.length := by unfold cont at z1; simpa using z1
  have hkey : stv.Perm (rs.map Room.key) := by have := Z.q.keys; rwa [cont_keys] at this
  have hmem : ∀ r ∈ rs, (r.key, r.xs) ∈ cont rs := fun r hr => List.mem_map.mpr ⟨r, hr, rfl⟩
  refine stands_call (row := row) (stv := stv) (rs := rs) X T F.keep rfl (room_law _) (units_law _) Z.Q hlo Z.W (by omega) (by omega) (fun r hr => ?_) ?_ (by omega) Z.q.hS (fun r hr => (Z.q.hR _ (hmem r hr)).1) hkey ?_ Z.q.ord ?_
  · have := z3 _ (hmem r hr)
    dsimp only at this; omega
  · rw [flat_cont]; omega
  · rw [flat_cont]; exact Z.q.all
  intro h2 tk2 k2
  have Z2 := Z.keep k2
  replace F := fr_ps Z2.F hm
  unfold varsOf at F
  replace N := Z2.N
  (try dsimp only)
  walk_at "my go2"
  exact h _ _ Z2
end
end Mine

open PySem PySem.W PySem.Calls PyProof.Rows
set_option Elab.async false
set_option maxRecDepth 100000
namespace Mine
theorem item0 {prog : Program} {w : World} {A : Around} {s : Shared} {E : Value → Shared → Prop} {value slice : PySem.Expr} {l : Addr} {v : Value} {vs : List Value} {u : Tok} {Q : Value → Shared → Prop} (hl : s.heap.IsList l (v :: vs).toArray) (h : Q v s)
    (hs : subscripted slice false (.ref l) (.int 0 u) = operate [.ref l, .int 0 u] (getItem (.ref l) (.int 0 u)) := by with_unfolding_all rfl) :
    wpAny (model prog w) A (subscriptTail value slice (.ref l) (.int 0 u)) Q E s :=
  tail_any hl.typeIs slot_list_getitem.lookup (wpAny_getItem_list hl (by decide) (by decide) (by simp) h) hs
section
variable {w : World} {s : Shared} {loose : List Str} {mean : ExcName → Option Value} {mg mb : Str → Option Value} {Q : Flow → Shared → Prop} {E : Value → Shared → Prop}
set_option maxHeartbeats 4000000 in
theorem st2 {g : Heap} {L S R aW fa : Addr} {cd : Value} {sg k x : Int} {tg t u : Tok} {more : List (Addr × Obj)} {m : Str → Option Value} {row stv : List Int} {rs : List Room} {n : Nat}
    (X : (hd.heap_39 w.params).In g) (T : Top topProg loose mean mg mb g) (hlo : (R == sysModules) = false) (hsg : sg = 1 ∨ sg = -1) (hk : k = 1 ∨ k = 2) (hn : n < 40)
    (Z : TurnAt w g L S R aW sg more m row stv rs n s.heap) (hm : ∀ p ∈ varsOf S R aW sg k x tg t u, m p.1 = some p.2)
    (h : ∀ h' tk m' aW' row' stv' rs', TurnAt w g L S R aW' sg more m' row' stv' rs' n h' → (∀ p ∈ varsOf S R aW' sg k x tg t u, m' p.1 = some p.2) → Q .next { s with heap := h', toks := tk }) :
    wpAny (model Challenge.rw_op0093_01.row.prog w) (callerA.deeper (lawEnv L fa cd)) (exec turn2 (lawEnv L fa cd)) Q E s := by
  show wpAny _ (callerA.deeper (envOf _ ⟨_, _, _, _, _⟩ _ _ _)) (exec (Stmt.If _ _ _ _) (envOf _ ⟨_, _, _, _, _⟩ _ _ _)) _ _ _
  revert X; k_fill; intro X
  have B := below_caller g
  have F := fr_ps Z.F hm
  obtain ⟨vW, nW, eW, hiW⟩ := id Z.W
  have hW := Z.fr aW (.tail _ (.tail _ (.head _)))
  have N : News g L s.heap ((aW, listOf vW.toArray nW) :: restOf g L [aW] s.heap) := fun q hq => by
    rcases List.mem_cons.mp hq with rfl | hq
    · exact ⟨eW, hW.1, hW.2.1⟩
    · exact rest_news _ _ _ _ q hq
  have hoff := rest_off g L [aW] s.heap
  have hrl := Z.len
  have hk1 : k ≠ 0 := by omega
  unfold varsOf at F
  (try k_unmd)
  walk_at "my go2"
  rotate_left
  · exfalso; omega
  cases hiW with
  | nil =>
    refine add_arrays (by assumption) (by assumption) (PySem.IsL.isList (n := nW) (News.get (by assumption) (.tail _ (.head _)))) (PySem.IsL.isList (n := 0) (News.get (by assumption) (.head _))) ?_ (by rw [sizeLine_eq]; simp)
    intro h2 F2 N2
    dsimp only
    walk_at "my go2"
    rename Fr _ _ _ _ => F4
    rename News _ _ _ _ => N4
    rename_i D _ lt _ _ _ _ _ h4
    have hin := kept_walk Z.F F4 N4 eW (fun q hq => .tail _ (.tail _ (.tail _ (.tail _ hq))))
    have hD : s.heap.get? D = none := fresh_walk (N4 _ (.tail _ (.head _))).2 (fun q => Nat.ne_of_gt lt.2.2.1 q) lt.2.2.2
    have WD : ListAt h4 D [] := ⟨[], 0, N4.get (.tail _ (.head _)), .nil⟩
    obtain ⟨hq, _, _, _, _⟩ := Z.moved hin
    have hstv : stv = [] := List.eq_nil_of_length_eq_zero (Nat.le_zero.mp Z.q.size.2.1)
    obtain ⟨vS, nS, eS, hiS⟩ := id hq.S
    rw [hstv] at hiS
    cases hiS
    have zS := Z.fr S (.tail _ (.tail _ (.tail _ (.head _))))
    have NS : News g L h4 ((S, listOf #[] nS) :: restOf g L [S] h4) := fun q hq => by
      rcases List.mem_cons.mp hq with rfl | hq
      · exact ⟨eS, zS.1, zS.2.1⟩
      · exact rest_news _ _ _ _ q hq
    clear N4
    refine taken_empty X T F4 NS rfl ?_
    intro h5 tk5 t5 F5 N5
    have k5 : Kept [L] h4 h5 := kept_walk F4 F5 N5 eS (fun q hq => hq)
    have hin5 := hin.trans k5
    have nDL := (fresh_in Z.F hD).1
    have Z5 := Z.take (stv' := stv) (rs' := rs) hin5 F5 hD (WD.at fun o e => k5 D o e (fun q => nDL (List.mem_singleton.mp q))) (Kept.refl _ _) (Z.moved hin5).1 Z.q (Nat.zero_le _) (fun r hr => ⟨r, hr, rfl⟩)
    replace N5 := Z5.N
    dsimp only
    walk_at "my go2"
    refine h _ _ _ _ _ _ _ Z5 ?_
    intro q hq
    simp only [varsOf, List.mem_cons, List.not_mem_nil, or_false] at hq
    rcases hq with rfl | rfl | rfl | rfl | rfl | rfl <;> rfl
  | cons a ta hi =>
    rename News _ _ _ _ => N1
    rename Fr _ _ _ _ => F1
    rename_i l1 h1 lt1 vr rowt
    have hiA : IntsAre (Value.int a ta :: vr) (a :: rowt) := .cons a ta hi
    have hs0 : 0 < stv.length := Nat.pos_of_ne_zero fun e => by have := Z.q.empty e; cases this
    obtain ⟨xs, hx, hx0⟩ := Z.q.room hs0
    obtain ⟨r, hr, hre⟩ := List.mem_map.mp hx
    obtain ⟨z1, z2, z3, z4⟩ := Z.q.size
    have z1' : rs.length ≤ (a :: rowt).length := by unfold cont at z1; simpa using z1
    obtain ⟨hp1, hp2, hp3⟩ := Z.q.take hsg hs0 hx
    refine add_arrays F1 N1 (PySem.IsL.isList (n := nW) (N1.get (.tail _ (.head _)))) (PySem.IsL.isList (n := 0) (N1.get (.head _))) ?_ (by rw [sizeLine_eq]; have := hi.length; simp at hrl ⊢; omega)
    intro h2 F2 N2
    dsimp only
    clear F1 N1
    (try dsimp only)
    (try simp only at N2)
    walk1
    refine item0 (v := .int a ta) (vs := vr ++ [.str (Str.ofString "nothing") tk]) (PySem.IsL.isList (n := 0) (N2.get (.head _))) ?_
    dsimp only
    walk_at "my go2"
    rename Fr _ _ _ _ => F4
    rename News _ _ _ _ => N4
    rename_i D vD _ iD _ _ lt _ _ _ _ _ h4
    have hin := kept_walk Z.F F4 N4 eW (fun q hq => .tail _ (.tail _ (.tail _ (.tail _ hq))))
    have hD : s.heap.get? D = none := fresh_walk (N4 _ (.tail _ (.head _))).2 (fun q => Nat.ne_of_gt lt.2.2.1 q) lt.2.2.2
    have WD : ListAt h4 D ((a :: rowt).drop 1) := ⟨vD, 0, N4.get (.tail _ (.head _)), iD⟩
    obtain ⟨hq, _, _, _, _⟩ := Z.moved hin
    clear N4
    injection hre with hrk hrx
    have e0 : r.key * 4096 + r.xs.getD 0 0 = a := by rw [hrk, hrx, ← hp2]; rfl
    refine taken_call (r := r) X T F4.keep rfl (room_law _) (units_law _) hq (Z.fr S (.tail _ (.tail _ (.tail _ (.head _))))).2.1 (Z.fr R (.tail _ (.tail _ (.tail _ (.tail _ (.head _)))))).2.1 (fun r hr => (Z.fr r.addr (mem_room hr)).2.1) hlo (by omega) (by omega) (fun r hr => ?_) hs0 hr hrk (by rw [hrx]; exact hx0) ?_
    · have := z3 (r.key, r.xs) (List.mem_map.mpr ⟨r, hr, rfl⟩)
      dsimp only at this; omega
    intro h5 tk5 t5 k5 q5
    rw [e0]
    have Z5 := Z.take (m' := _) hin F4 hD WD k5 q5 (by rw [takeR_cont, hrk, hrx]; exact hp3) (by simp at hrl ⊢; omega) takeR_addr
    have F5 := Z5.F
    have N5 := Z5.N
    clear F4
    dsimp only
    walk_at "my go2"
    · exact absurd rfl (show a ≠ a by assumption)
    refine h _ _ _ _ _ _ _ Z5 ?_
    intro q hq
    simp only [varsOf, List.mem_cons, List.not_mem_nil, or_false] at hq
    rcases hq with rfl | rfl | rfl | rfl | rfl | rfl <;> rfl
end
end Mine

open PySem PySem.W PySem.Calls PyProof.Rows
set_option Elab.async false
set_option maxRecDepth 100000
namespace Mine
noncomputable def forTarget : Stmt → Expr | .For t _ _ _ _ => t | _ => .Name "x" default
noncomputable def turnTarget : Expr := forTarget (lawBody.getD 3 (.Pass default))
noncomputable def varsFour (S R aW : Addr) (sg : Int) (tg : Tok) : List (Str × Value) := [("row", .ref aW), ("rooms", .ref R), ("storeys", .ref S), ("sign", .int sg tg)]
section
variable {w : World} {g h h' : Heap} {L S R aW : Addr} {sg : Int} {more : List (Addr × Obj)} {m m' : Str → Option Value} {row stv : List Int} {rs : List Room} {n : Nat}
theorem TurnAt.frame (Z : TurnAt w g L S R aW sg more m row stv rs n h) (k : Kept [L] h h') (F : Fr g L h' m') : TurnAt w g L S R aW sg more m' row stv rs n h' := by
  obtain ⟨a, b, c, d, e⟩ := Z.moved k
  exact ⟨F, d, a, Z.q, Z.len, e, b, c, Z.fr, Z.aw⟩
theorem TurnAt.add {I : Addr} {oI : Obj} (Z : TurnAt w g L S R aW sg more m row stv rs n h) (e : h.get? I = some oI) (h1 : I ≠ L) (h2 : g.get? I = none) (h3 : I ∉ (58 : Addr) :: 65 :: aW :: S :: R :: rs.map Room.addr) : TurnAt w g L S R aW sg ((I, oI) :: more) m row stv rs n h := by
  refine ⟨Z.F, fun q hq => ?_, Z.Q, Z.q, Z.len, Z.W, Z.t1, Z.t2, fun a ha => ⟨(Z.fr a ha).1, (Z.fr a ha).2.1, fun p hp => ?_⟩, Z.aw⟩
  · rcases List.mem_cons.mp hq with rfl | hq
    · exact ⟨e, h1, h2⟩
    · exact Z.N q hq
  · rcases List.mem_cons.mp hp with rfl | hp
    · intro q; exact h3 (by rw [show I = a from q]; exact ha)
    · exact (Z.fr a ha).2.2 p hp
theorem TurnAt.drop {I : Addr} {oI : Obj} (Z : TurnAt w g L S R aW sg ((I, oI) :: more) m row stv rs n h) (hc : ¬ CodeLike oI) (hm : ∀ p ∈ more, p.1 ≠ I) (k : Kept [I] h h') : TurnAt w g L S R aW sg more m row stv rs n h' := by
  have zI := Z.N (I, oI) (.head _)
  have hI : ∀ a ∈ (58 : Addr) :: 65 :: aW :: S :: R :: rs.map Room.addr, ∀ o, h.get? a = some o → h'.get? a = some o := fun a ha o e => k a o e (fun q => (Z.fr a ha).2.2 _ (.head _) (List.mem_singleton.mp q).symm)
  have hnc : ∀ a ∈ [I], ∀ o, h.get? a = some o → ¬ CodeLike o := fun a ha o e => by
    rw [List.mem_singleton.mp ha, zI.1] at e; cases e; exact hc
  exact ⟨fr_kept Z.F k (fun q => zI.2.1 (List.mem_singleton.mp q).symm) (fun a ha => by rw [List.mem_singleton.mp ha]; exact zI.2.2), news_kept (fun q hq => Z.N q (.tail _ hq)) k (fun p hp q => hm p hp (List.mem_singleton.mp q)),
    Z.Q.moved (fun a ha => hI a (.tail _ (.tail _ (.tail _ ha)))), Z.q, Z.len, Z.W.at (hI aW (.tail _ (.tail _ (.head _)))), Z.t1.move (hI 58 (.head _)) (.of k hnc), Z.t2.move (hI 65 (.tail _ (.head _))) (.of k hnc),
    fun a ha => ⟨(Z.fr a ha).1, (Z.fr a ha).2.1, fun p hp => (Z.fr a ha).2.2 p (.tail _ hp)⟩, Z.aw⟩
end
section
variable {w : World} {s : Shared} {loose : List Str} {mean : ExcName → Option Value} {mg mb : Str → Option Value} {E : Value → Shared → Prop}
set_option maxHeartbeats 4000000 in
theorem turn_assign {g : Heap} {L S R aW fa e : Addr} {cd : Value} {sg k x : Int} {tg t u : Tok} {more : List (Addr × Obj)} {m : Str → Option Value} {row stv : List Int} {rs : List Room} {n : Nat} {Q : Unit → Shared → Prop}
    (X : (hd.heap_39 w.params).In g) (T : Top topProg loose mean mg mb g) (Z : TurnAt w g L S R aW sg more m row stv rs n s.heap) (hm : ∀ p ∈ varsFour S R aW sg tg, m p.1 = some p.2) (he : (e, callObj k x t u) ∈ more)
    (h : ∀ h' tk m', TurnAt w g L S R aW sg more m' row stv rs n h' → (∀ p ∈ varsOf S R aW sg k x tg t u, m' p.1 = some p.2) → Q () { s with heap := h', toks := tk }) :
    wpAny (model Challenge.rw_op0093_01.row.prog w) (callerA.deeper (lawEnv L fa cd)) (assign turnTarget (lawEnv L fa cd) (.ref e)) Q E s := by
  show wpAny _ (callerA.deeper (envOf _ ⟨_, _, _, _, _⟩ _ _ _)) (assign (Expr.Tuple (Expr.Name _ _ :: Expr.Name _ _ :: []) _ _) (envOf _ ⟨_, _, _, _, _⟩ _ _ _) _) _ _ _
  revert X; k_fill; intro X
  have B := below_caller g
  have F := fr_ps Z.F hm
  have he1 := Z.N _ he
  have N : News g L s.heap ((e, callObj k x t u) :: restOf g L [e] s.heap) := fun q hq => by
    rcases List.mem_cons.mp hq with rfl | hq
    · exact he1
    · exact rest_news _ _ _ _ q hq
  have hoff := rest_off g L [e] s.heap
  unfold varsFour at F
  (try k_unmd)
  walk_at "my go2"
  rename Fr _ _ _ _ => F4
  rename News _ _ _ _ => N4
  refine h _ _ _ (Z.frame (kept_walk Z.F F4 N4 he1.1 (fun q hq => hq)) F4) ?_
  intro q hq
  simp only [varsOf, List.mem_cons, List.not_mem_nil, or_false] at hq
  rcases hq with rfl | rfl | rfl | rfl | rfl | rfl <;> rfl
/-- the turn's body, whatever the call -/
theorem turn_body {g : Heap} {L S R aW fa : Addr} {cd : Value} {sg k x : Int} {tg t u : Tok} {more : List (Addr × Obj)} {m : Str → Option Value} {row stv : List Int} {rs : List Room} {n : Nat} {Q : Flow → Shared → Prop}
    (X : (hd.heap_39 w.params).In g) (T : Top topProg loose mean mg mb g) (C1 : CodeHd g 62 58) (C2 : CodeHd g 69 65) (hlo : (R == sysModules) = false) (hsg : sg = 1 ∨ sg = -1) (hx0 : -(2 ^ 89) < x) (hx1 : x < 2 ^ 89) (hk : k = 0 ∨ k = 1 ∨ k = 2) (hn : n < 39)
    (Z : TurnAt w g L S R aW sg more m row stv rs n s.heap) (hm : ∀ p ∈ varsOf S R aW sg k x tg t u, m p.1 = some p.2)
    (h : ∀ h' tk m' aW' row' stv' rs', TurnAt w g L S R aW' sg more m' row' stv' rs' (n + 1) h' → (∀ p ∈ varsOf S R aW' sg k x tg t u, m' p.1 = some p.2) → Q .next { s with heap := h', toks := tk }) :
    wpAny (model Challenge.rw_op0093_01.row.prog w) (callerA.deeper (lawEnv L fa cd)) (execs turnBody (lawEnv L fa cd)) Q E s := by
  show wpAny _ _ (execs [turn1, turn2, turn3] _) _ _ _
  have last : ∀ h' tk m' aW' row' stv' rs', TurnAt w g L S R aW' sg more m' row' stv' rs' (n + 1) h' → (∀ p ∈ varsOf S R aW' sg k x tg t u, m' p.1 = some p.2) →
      wpAny (model Challenge.rw_op0093_01.row.prog w) (callerA.deeper (lawEnv L fa cd)) (execs [turn3] (lawEnv L fa cd)) Q E { s with heap := h', toks := tk } := fun h' tk m' aW' row' stv' rs' Z' hm' =>
    wpAny_execs_cons (st3 X T hlo (by omega) Z' hm' fun h2 tk2 Z2 => wpAny_execs_nil (h h2 tk2 m' aW' row' stv' rs' Z2 hm'))
  have mid : ∀ h' tk m' aW' row' stv' rs', TurnAt w g L S R aW' sg more m' row' stv' rs' (n + 1) h' → (∀ p ∈ varsOf S R aW' sg k x tg t u, m' p.1 = some p.2) →
      wpAny (model Challenge.rw_op0093_01.row.prog w) (callerA.deeper (lawEnv L fa cd)) (execs [turn2, turn3] (lawEnv L fa cd)) Q E { s with heap := h', toks := tk } := fun h' tk m' aW' row' stv' rs' Z' hm' => by
    refine wpAny_execs_cons ?_
    by_cases h0 : k = 0
    · subst h0
      exact st2_skip X T Z'.F hm' fun tk2 => last h' tk2 m' aW' row' stv' rs' Z' hm'
    · exact st2 X T hlo hsg (by omega) (by omega) Z' hm' fun h2 tk2 m2 aW2 row2 stv2 rs2 Z2 hm2 => last h2 tk2 m2 aW2 row2 stv2 rs2 Z2 hm2
  refine wpAny_execs_cons ?_
  by_cases h1 : k = 1
  · subst h1
    exact st1_skip X T Z.F hm fun tk2 => mid s.heap tk2 m aW row stv rs (Z.more_turns (Nat.le_succ n)) hm
  · exact st1 X T C1 C2 hlo hsg hx0 hx1 (by omega) (by omega) Z hm fun h2 tk2 m2 aW2 row2 stv2 rs2 Z2 hm2 => mid h2 tk2 m2 aW2 row2 stv2 rs2 Z2 hm2
noncomputable def CallsOk (vs : List Value) (rest : List (Addr × Obj)) : Prop := ∀ v ∈ vs, ∃ a k x t u, v = .ref a ∧ (a, callObj k x t u) ∈ rest ∧ (k = 0 ∨ k = 1 ∨ k = 2) ∧ -(2 ^ 89) < x ∧ x < 2 ^ 89
/-- the second loop, over its list -/
theorem turns {g : Heap} {L S R aW fa ls : Addr} {cd : Value} {sg : Int} {tg : Tok} {more : List (Addr × Obj)} {m : Str → Option Value} {items : List Value} {oL : Obj} {Q : Flow → Shared → Prop}
    (X : (hd.heap_39 w.params).In g) (T : Top topProg loose mean mg mb g) (C1 : CodeHd g 62 58) (C2 : CodeHd g 69 65) (hlo : (R == sysModules) = false) (hsg : sg = 1 ∨ sg = -1)
    (hc : CallsOk items more) (hlen : items.length < 39) (hl : s.heap.IsList ls items.toArray) (hls : (ls, oL) ∈ more)
    (Z : TurnAt w g L S R aW sg more m [] [] [] 0 s.heap) (hm : ∀ p ∈ varsFour S R aW sg tg, m p.1 = some p.2)
    (h : ∀ h' tk m' aW' row' stv' rs', TurnAt w g L S R aW' sg more m' row' stv' rs' items.length h' → Q .next { s with heap := h', toks := tk }) :
    wpAny (model Challenge.rw_op0093_01.row.prog w) (callerA.deeper (lawEnv L fa cd)) (pyIter (.ref ls)) (fun it s₂ => ForAt Challenge.rw_op0093_01.row.prog w (callerA.deeper (lawEnv L fa cd)) (lawEnv L fa cd) turnTarget turnBody Q E it s₂) E s := by
  refine wpAny_pyIter_list hl ?_
  obtain ⟨ol, hol, hod⟩ := id hl
  have hlt : ls < s.heap.objs.size := Heap.lt_size hol
  have hnone : s.heap.get? s.heap.objs.size = none := Heap.get?_none_of_le (Nat.le_refl s.heap.objs.size)
  have p2 : ∀ b o, s.heap.get? b = some o → (s.heap.push { cls := .type "list_iterator", data := .fields #[.ref ls, .int 0 0] }).get? b = some o := fun b o e => Heap.get?_push_of_some _ e
  obtain ⟨f1, f2⟩ := Z.fresh hnone
  have e0 : (s.heap.push { cls := .type "list_iterator", data := .fields #[.ref ls, .int 0 0] }).get? s.heap.objs.size = some { cls := .type "list_iterator", data := .fields #[.ref ls, .int 0 0] } := Heap.get?_push_size _ rfl
  have eL := (Z.N _ hls).1
  have hmI : ∀ p ∈ more, p.1 ≠ s.heap.objs.size := f1.2.2
  generalize hI : s.heap.objs.size = I at *
  refine ⟨I, _, _, _, _, _, fun i h => ∃ m aW row stv rs, (∀ h', Kept [I] h h' → TurnAt w g L S R aW sg more m row stv rs i h') ∧ (∀ p ∈ varsFour S R aW sg tg, m p.1 = some p.2) ∧ I ∉ (58 : Addr) :: 65 :: aW :: S :: R :: rs.map Room.addr,
    rfl, Walks.list rfl _ ls (Nat.ne_of_lt hlt) items.toArray, ⟨⟨_, e0, rfl, rfl⟩, hl.at fun o e => p2 _ o e⟩, ⟨m, aW, [], [], [], ?_, hm, fun q => f2 I q rfl⟩, ?_, ?_, ?_, ?_⟩
  · intro h' k
    refine Z.keep fun b o e _ => k b o (p2 b o e) (fun q => ?_)
    rw [List.mem_singleton.mp q, hnone] at e; cases e
  · rintro i h h' ⟨m, aW, row, stv, rs, a, b, c⟩ hk
    exact ⟨m, aW, row, stv, rs, fun h'' k'' => a h'' (Kept.trans (fun b o e q => hk b o q e) k''), b, c⟩
  · intro i s' v Q' st hq
    show wpAny _ _ (letOwnedTupleGo (Expr.Tuple _ _ _) _ _) _ _ _
    cases v with
    | ref T => exact wpAny_letOwnedTupleGo_listiter st.1 hq
    | _ => exact wpAny_pure hq
  · rintro i v h₁ tk hi hv ⟨m, aW, row, stv, rs, a, b, c⟩ ⟨⟨oI, eI, cI⟩, hL⟩
    have Z1 := (a h₁ (Kept.refl _ _)).add eI f1.1 f1.2.1 c
    obtain ⟨e, k, x, t, u, rfl, he, hk, hx0, hx1⟩ := hc v (List.mem_of_getElem? (by simpa using hv))
    refine turn_assign X T Z1 b (.tail _ he) fun h2 tk2 m2 Z2 hm2 => ?_
    refine turn_body X T C1 C2 hlo hsg hx0 hx1 hk (by simp at hi; omega) Z2 hm2 fun h3 tk3 m3 aW3 row3 stv3 rs3 Z3 hm3 => ?_
    have hcI : ¬ CodeLike oI := by
      rintro ⟨vs, q, t, e1, e2⟩
      rw [cI.2] at e1
      cases e1
      simp at e2
    refine ⟨h3, tk3, rfl, ⟨m3, aW3, row3, stv3, rs3, fun h' k => Z3.drop hcI hmI k, fun p hp => hm3 p ?_, fun q => (Z3.fr I q).2.2 _ (.head _) rfl⟩, ⟨oI, (Z3.N _ (.head _)).1, cI⟩, hl.at fun o e => ?_⟩
    · exact .tail _ (.tail _ hp)
    · have : o = oL := by rw [eL] at e; exact (Option.some.inj e).symm
      rw [this]; exact (Z3.N _ (.tail _ hls)).1
  · rintro h₁ tk ⟨m, aW, row, stv, rs, a, b, c⟩
    exact h _ _ _ _ _ _ _ (by simpa using a h₁ (Kept.refl _ _))
end
end Mine

open PySem PySem.W PySem.Calls PyProof.Rows
set_option Elab.async false
set_option maxRecDepth 100000
namespace Mine
theorem news_sub {g h : Heap} {L : Addr} {news news' : List (Addr × Obj)} (N : News g L h news) (hs : ∀ p ∈ news', p ∈ news) : News g L h news' := fun q hq => N q (hs q hq)
theorem start_news {g h : Heap} {L D C e1 e2 e3 e4 e5 Wr R S : Addr} {dl ow oD os o65 o58 : Obj} {p4 t1 : Addr × Obj} {a1 a2 a3 a4 a5 b1 b2 b3 b4 b5 : Tok}
    (N : News g L h [(D, dl), (C, listOf #[.ref e5, .ref e4, .ref e3, .ref e2, .ref e1] 0), (e1, callObj 0 (-4096) a1 b1), (e2, callObj 0 (-3) a2 b2), (e3, callObj 0 16872 a3 b3), (e4, callObj 0 33188 a4 b4), (e5, callObj 0 35309 a5 b5), p4, (Wr, ow), (R, oD), (S, os), t1, (65, o65), (58, o58)])
    (hC : ∀ e ∈ [e1, e2, e3, e4, e5], ∀ b ∈ [C, Wr, R, S, 65, 58], e ≠ b) :
    ∃ rest, News g L h ((C, listOf [Value.ref e5, .ref e4, .ref e3, .ref e2, .ref e1].toArray 0) :: (Wr, ow) :: (R, oD) :: (S, os) :: (65, o65) :: (58, o58) :: rest) ∧ CallsOk [.ref e5, .ref e4, .ref e3, .ref e2, .ref e1] rest ∧ OwnOff rest [C, Wr, R, S, 65, 58] := by
  refine ⟨[(e1, callObj 0 (-4096) a1 b1), (e2, callObj 0 (-3) a2 b2), (e3, callObj 0 16872 a3 b3), (e4, callObj 0 33188 a4 b4), (e5, callObj 0 35309 a5 b5)], news_sub N ?_, ?_, ?_⟩
  · intro p hp
    rcases List.mem_cons.mp hp with rfl | hp
    · exact .tail _ (.head _)
    rcases List.mem_cons.mp hp with rfl | hp
    · exact .tail _ (.tail _ (.tail _ (.tail _ (.tail _ (.tail _ (.tail _ (.tail _ (.head _))))))))
    rcases List.mem_cons.mp hp with rfl | hp
    · exact .tail _ (.tail _ (.tail _ (.tail _ (.tail _ (.tail _ (.tail _ (.tail _ (.tail _ (.head _)))))))))
    rcases List.mem_cons.mp hp with rfl | hp
    · exact .tail _ (.tail _ (.tail _ (.tail _ (.tail _ (.tail _ (.tail _ (.tail _ (.tail _ (.tail _ (.head _))))))))))
    rcases List.mem_cons.mp hp with rfl | hp
    · exact .tail _ (.tail _ (.tail _ (.tail _ (.tail _ (.tail _ (.tail _ (.tail _ (.tail _ (.tail _ (.tail _ (.tail _ (.head _))))))))))))
    rcases List.mem_cons.mp hp with rfl | hp
    · exact .tail _ (.tail _ (.tail _ (.tail _ (.tail _ (.tail _ (.tail _ (.tail _ (.tail _ (.tail _ (.tail _ (.tail _ (.tail _ (.head _)))))))))))))
    rcases List.mem_cons.mp hp with rfl | hp
    · exact .tail _ (.tail _ (.head _))
    rcases List.mem_cons.mp hp with rfl | hp
    · exact .tail _ (.tail _ (.tail _ (.head _)))
    rcases List.mem_cons.mp hp with rfl | hp
    · exact .tail _ (.tail _ (.tail _ (.tail _ (.head _))))
    rcases List.mem_cons.mp hp with rfl | hp
    · exact .tail _ (.tail _ (.tail _ (.tail _ (.tail _ (.head _)))))
    rcases List.mem_cons.mp hp with rfl | hp
    · exact .tail _ (.tail _ (.tail _ (.tail _ (.tail _ (.tail _ (.head _))))))
    exact nomatch hp
  · intro v hv
    simp only [List.mem_cons, List.not_mem_nil, or_false] at hv
    rcases hv with rfl | rfl | rfl | rfl | rfl
    · exact ⟨e5, 0, 35309, a5, b5, rfl, by simp, .inl rfl, by omega, by omega⟩
    · exact ⟨e4, 0, 33188, a4, b4, rfl, by simp, .inl rfl, by omega, by omega⟩
    · exact ⟨e3, 0, 16872, a3, b3, rfl, by simp, .inl rfl, by omega, by omega⟩
    · exact ⟨e2, 0, -3, a2, b2, rfl, by simp, .inl rfl, by omega, by omega⟩
    · exact ⟨e1, 0, -4096, a1, b1, rfl, by simp, .inl rfl, by omega, by omega⟩
  · intro p hp b hb
    refine hC p.1 ?_ b hb
    simp only [List.mem_cons, List.not_mem_nil, or_false] at hp ⊢
    rcases hp with rfl | rfl | rfl | rfl | rfl <;> simp
theorem turn_start {w : World} {g h : Heap} {L Wr R S : Addr} {sg : Int} {oD : Obj} {m : Str → Option Value} {news more : List (Addr × Obj)} (F : Fr g L h m) (N : News g L h news)
    (e1 : (Wr, listOf #[] 0) ∈ news) (e2 : (R, oD) ∈ news) (e3 : (S, listOf #[] 0) ∈ news) (e4 : (65, tabObj #[]) ∈ news) (e5 : (58, tabObj #[]) ∈ news) (em : ∀ p ∈ more, p ∈ news) (hD : oD.IsDictOf (intKind Challenge.rw_op0093_01.row.prog w) [])
    (hoff : OwnOff more [58, 65, Wr, S, R]) (hW : Wr ∉ [58, 65, S, R]) (hSR : S ≠ R) : TurnAt w g L S R Wr sg more m [] [] [] 0 h := by
  refine ⟨F, news_sub N em, ⟨⟨[], 0, N.get e3, .nil⟩, ⟨oD, N.get e2, hD⟩, (fun r hr => nomatch hr), ?_⟩, QInv.zero sg, Nat.le_refl _, ⟨[], 0, N.get e1, .nil⟩, ⟨#[], N.get e5, .inl rfl⟩, ⟨#[], N.get e4, .inl rfl⟩, ?_, hW⟩
  · simp [hSR]
  · intro a ha
    refine ⟨?_, ?_, fun p hp => hoff p hp a ha⟩
    all_goals
      simp only [List.map_nil, List.mem_cons, List.not_mem_nil, or_false] at ha
      rcases ha with rfl | rfl | rfl | rfl | rfl
    · exact (N _ e5).2.1
    · exact (N _ e4).2.1
    · exact (N _ e1).2.1
    · exact (N _ e3).2.1
    · exact (N _ e2).2.1
    · exact (N _ e5).2.2
    · exact (N _ e4).2.2
    · exact (N _ e1).2.2
    · exact (N _ e3).2.2
    · exact (N _ e2).2.2
noncomputable def lawVars (C Wr R S : Addr) (sg : Int) (tg : Tok) : List (Str × Value) := [("calls", .ref C), ("row", .ref Wr), ("rooms", .ref R), ("storeys", .ref S), ("sign", .int sg tg)]
theorem wl8 (n : Nat) : min (min 9 n - 1) (n - 1) ≤ 8 := by omega
theorem sign_ok (z : Int) : 1 - z.fmod 2 * 2 = 1 ∨ 1 - z.fmod 2 * 2 = -1 := by
  rw [Int.fmod_eq_emod_of_nonneg _ (by decide)]; omega
set_option maxHeartbeats 8000000 in
theorem law_holds : PySem.Challenge.rw_op0093_01.Holds := Mine.hd (by
  w_strict (
    k_go0
    (all_goals try k_fold)
    walk_at "my go2"
    refine for_my ?_
    walk_at "my go2"
    rename Fr _ _ _ _ => F
    rename News _ _ _ _ => N
    rename_i w s₀ s₁ mg mb G Y fa o pm cd doc kV ho hcd hg X0 V0 T0 B0 TE TW zs hsh hlay0 hLL hrr hl22 w4 w3 aZ vZ w0 hLz ra w1z r0 hIz hrz hc1 hc2 hDD hh1 X T K C2 l0 T1 wsT h17 hIT hCT hLT lT h16 tkS tS S h15 lS R h14 oD hlo hs0 fs0 hD fi0 lR Wr h13 lW P4 h12 lP h11 h10 h9 h8 h7 tk0 e5 h6 l5 e4 h6' l4 e3 h5 l3 e2 h4 l2 e1 h3 l1 C h2 lC x6 D ws h1 hI9 hC9 hL9 lD
    have hsg := sign_ok (List.take 1 zs).sum
    generalize (1 - (List.take 1 zs).sum.fmod 2 * 2 : Int) = sg at F N hsg
    generalize tkS + 1 + 1 + 1 + 1 = tg at F N
    obtain ⟨rest0, N0, ok0, off0⟩ := start_news N (by
      intro e he b hb
      simp only [List.mem_cons, List.not_mem_nil, or_false] at he hb
      rcases he with rfl | rfl | rfl | rfl | rfl
      · rcases hb with rfl | rfl | rfl | rfl | rfl | rfl
        · exact Nat.ne_of_lt lC.1
        · exact Nat.ne_of_gt l1.2.2.2.2.2.1
        · exact Nat.ne_of_gt l1.2.2.2.2.2.2.1
        · exact Nat.ne_of_gt l1.2.2.2.2.2.2.2.1
        · exact Nat.ne_of_gt l1.2.2.2.2.2.2.2.2.2.1
        · exact Nat.ne_of_gt l1.2.2.2.2.2.2.2.2.2.2
      · rcases hb with rfl | rfl | rfl | rfl | rfl | rfl
        · exact Nat.ne_of_lt lC.2.1
        · exact Nat.ne_of_gt l2.2.2.2.2.1
        · exact Nat.ne_of_gt l2.2.2.2.2.2.1
        · exact Nat.ne_of_gt l2.2.2.2.2.2.2.1
        · exact Nat.ne_of_gt l2.2.2.2.2.2.2.2.2.1
        · exact Nat.ne_of_gt l2.2.2.2.2.2.2.2.2.2
      · rcases hb with rfl | rfl | rfl | rfl | rfl | rfl
        · exact Nat.ne_of_lt lC.2.2.1
        · exact Nat.ne_of_gt l3.2.2.2.1
        · exact Nat.ne_of_gt l3.2.2.2.2.1
        · exact Nat.ne_of_gt l3.2.2.2.2.2.1
        · exact Nat.ne_of_gt l3.2.2.2.2.2.2.2.1
        · exact Nat.ne_of_gt l3.2.2.2.2.2.2.2.2
      · rcases hb with rfl | rfl | rfl | rfl | rfl | rfl
        · exact Nat.ne_of_lt lC.2.2.2.1
        · exact Nat.ne_of_gt l4.2.2.1
        · exact Nat.ne_of_gt l4.2.2.2.1
        · exact Nat.ne_of_gt l4.2.2.2.2.1
        · exact Nat.ne_of_gt l4.2.2.2.2.2.2.1
        · exact Nat.ne_of_gt l4.2.2.2.2.2.2.2
      · rcases hb with rfl | rfl | rfl | rfl | rfl | rfl
        · exact Nat.ne_of_lt lC.2.2.2.2.1
        · exact Nat.ne_of_gt l5.2.1
        · exact Nat.ne_of_gt l5.2.2.1
        · exact Nat.ne_of_gt l5.2.2.2.1
        · exact Nat.ne_of_gt l5.2.2.2.2.2.1
        · exact Nat.ne_of_gt l5.2.2.2.2.2.2)
    have lCD : @LT.lt Nat _ C D := lD.1
    dsimp only
    refine' for_list (items := ws) (fun i news m => ∃ vs nC rest, news = (C, listOf vs.toArray nC) :: (Wr, listOf #[] 0) :: (R, oD) :: (S, listOf #[] 0) :: (65, tabObj #[]) :: (58, tabObj #[]) :: rest ∧
        (∀ p ∈ lawVars C Wr R S sg tg, m p.1 = some p.2) ∧ CallsOk vs rest ∧ vs.length = 5 + i ∧ OwnOff rest [C, Wr, R, S, 65, 58])
      rfl F N0 (PySem.IsL.isList (n := 0) (N.get (.head _))) (N _ (.head _)).2.1 (N _ (.head _)).2.2 ⟨_, _, rest0, rfl, ?p0, ok0, rfl, off0⟩ ?go ?step ?done
    case p0 =>
      intro q hq
      simp only [lawVars, List.mem_cons, List.not_mem_nil, or_false] at hq
      rcases hq with rfl | rfl | rfl | rfl | rfl <;> rfl
    case go => intro i s' I v Q' _ hq; exact wpAny_pure hq
    case step =>
      clear F N N0 ok0 off0
      rintro I hI i v oI oL h tk m news hv ⟨vs, nC, rest, rfl, hm, hok, hlen, hoff⟩ hIn F N
      have lt0 : i < ws.length := by
        rcases Nat.lt_or_ge i ws.length with q | q
        · exact q
        · rw [List.getElem?_eq_none q] at hv; cases hv
      have hwl : ws.length ≤ 8 := by rw [hI9.length, hC9]; exact wl8 _
      obtain ⟨tv, rfl⟩ : ∃ t, v = .int _ t := hI9.int_at i v hv
      generalize (List.take _ (List.drop 1 zs)).getD i 0 = z at hv
      have nCI : C ≠ I := hIn _ (.head _)
      have nCD : C ≠ D := fun q => by rw [q] at lCD; exact Nat.lt_irrefl _ lCD
      have lC8 := lC
      iterate 2 walk1
      dsimp only
      rename Fr _ _ _ _ => F
      rename News _ _ _ _ => N
      have hm2 : ∀ p ∈ lawVars C Wr R S sg tg, (fun y => if y = Str.ofString "x" then some (Value.int z tv) else m y) p.1 = some p.2 := by
        intro p hp
        have := hm p hp
        simp only [lawVars, List.mem_cons, List.not_mem_nil, or_false] at hp
        rcases hp with rfl | rfl | rfl | rfl | rfl <;> exact this
      have hl100 : vs.length < 100 := by omega
      refine fill_step (C := C) (vs := vs) (nC := nC) (z := z) (tv := tv) (more := (I, oI) :: (D, oL) :: (Wr, listOf #[] 0) :: (R, oD) :: (S, listOf #[] 0) :: (65, tabObj #[]) :: (58, tabObj #[]) :: rest) X T F (news_sub N ?_) ?_ (hm2 _ (.head _)) (if_pos rfl) hl100 ?_
      · intro p hp
        rcases List.mem_cons.mp hp with rfl | hp
        · exact .tail _ (.tail _ (.head _))
        rcases List.mem_cons.mp hp with rfl | hp
        · exact .head _
        rcases List.mem_cons.mp hp with rfl | hp
        · exact .tail _ (.head _)
        exact .tail _ (.tail _ (.tail _ (hp)))
      · intro p hp b hb
        rw [List.mem_singleton.mp hb]
        simp only [List.mem_cons] at hp
        have x1 : ∀ a : Addr, a < C → a ≠ C := fun a q z => by rw [z] at q; exact Nat.lt_irrefl _ q
        rcases hp with rfl | rfl | rfl | rfl | rfl | rfl | rfl | hp
        · exact Ne.symm nCI
        · exact Ne.symm nCD
        · exact x1 _ lC.2.2.2.2.2.2.1
        · exact x1 _ lC.2.2.2.2.2.2.2.1
        · exact x1 _ lC.2.2.2.2.2.2.2.2.1
        · exact x1 _ lC.2.2.2.2.2.2.2.2.2.2.1
        · exact x1 _ lC.2.2.2.2.2.2.2.2.2.2.2
        · exact hoff p hp C (.head _)
      intro h' tk' e nC' k x t u F' N' hk hx0 hx1 he heC
      have he' : ∀ p ∈ ((I, oI) :: (D, oL) :: (Wr, listOf #[] 0) :: (R, oD) :: (S, listOf #[] 0) :: (65, tabObj #[]) :: (58, tabObj #[]) :: rest : List (Addr × Obj)), p.1 ≠ e := fun p hp => he p hp e (.head _)
      refine ⟨h', tk', _, (C, listOf (vs ++ [Value.ref e]).toArray nC') :: (Wr, listOf #[] 0) :: (R, oD) :: (S, listOf #[] 0) :: (65, tabObj #[]) :: (58, tabObj #[]) :: (e, callObj k x t u) :: rest, rfl, F', news_sub N' ?_, ⟨_, _, _, rfl, hm2, ?_, ?_, ?_⟩, ?_⟩
      · intro p hp
        rcases List.mem_cons.mp hp with rfl | hp
        · exact .tail _ (.tail _ (.head _))
        rcases List.mem_cons.mp hp with rfl | hp
        · exact .tail _ (.tail _ (.tail _ (.head _)))
        rcases List.mem_cons.mp hp with rfl | hp
        · exact .head _
        rcases List.mem_cons.mp hp with rfl | hp
        · exact .tail _ (.tail _ (.tail _ (.tail _ (.head _))))
        rcases List.mem_cons.mp hp with rfl | hp
        · exact .tail _ (.tail _ (.tail _ (.tail _ (.tail _ (.head _)))))
        rcases List.mem_cons.mp hp with rfl | hp
        · exact .tail _ (.tail _ (.tail _ (.tail _ (.tail _ (.tail _ (.head _))))))
        rcases List.mem_cons.mp hp with rfl | hp
        · exact .tail _ (.tail _ (.tail _ (.tail _ (.tail _ (.tail _ (.tail _ (.head _)))))))
        rcases List.mem_cons.mp hp with rfl | hp
        · exact .tail _ (.tail _ (.tail _ (.tail _ (.tail _ (.tail _ (.tail _ (.tail _ (.head _))))))))
        rcases List.mem_cons.mp hp with rfl | hp
        · exact .tail _ (.head _)
        exact .tail _ (.tail _ (.tail _ (.tail _ (.tail _ (.tail _ (.tail _ (.tail _ (.tail _ (hp)))))))))
      · intro v hv
        rcases List.mem_append.mp hv with hv | hv
        · obtain ⟨a, k', x', t', u', e1, e2, e3⟩ := hok v hv
          exact ⟨a, k', x', t', u', e1, .tail _ e2, e3⟩
        · exact ⟨e, k, x, t, u, List.mem_singleton.mp hv, .head _, hk, hx0, hx1⟩
      · simp; omega
      · intro p hp b hb
        rcases List.mem_cons.mp hp with rfl | hp
        · simp only [List.mem_cons, List.not_mem_nil, or_false] at hb
          rcases hb with rfl | rfl | rfl | rfl | rfl | rfl
          · exact heC
          · exact Ne.symm (he' _ (.tail _ (.tail _ (.head _))))
          · exact Ne.symm (he' _ (.tail _ (.tail _ (.tail _ (.head _)))))
          · exact Ne.symm (he' _ (.tail _ (.tail _ (.tail _ (.tail _ (.head _))))))
          · exact Ne.symm (he' _ (.tail _ (.tail _ (.tail _ (.tail _ (.tail _ (.head _)))))))
          · exact Ne.symm (he' _ (.tail _ (.tail _ (.tail _ (.tail _ (.tail _ (.tail _ (.head _))))))))
        · exact hoff p hp b hb
      · intro p hp
        simp only [List.mem_cons] at hp
        rcases hp with rfl | rfl | rfl | rfl | rfl | rfl | rfl | hp
        · exact nCI
        · exact hIn _ (.tail _ (.head _))
        · exact hIn _ (.tail _ (.tail _ (.head _)))
        · exact hIn _ (.tail _ (.tail _ (.tail _ (.head _))))
        · exact hIn _ (.tail _ (.tail _ (.tail _ (.tail _ (.head _)))))
        · exact hIn _ (.tail _ (.tail _ (.tail _ (.tail _ (.tail _ (.head _))))))
        · exact Ne.symm (he' _ (.head _))
        · exact hIn _ (.tail _ (.tail _ (.tail _ (.tail _ (.tail _ (.tail _ hp))))))
    case done =>
      clear F N N0 ok0 off0
      rintro h tk m news F N ⟨vs, nC, rest, rfl, hm, hok, hlen, hoff⟩
      replace F := fr_ps F hm
      unfold lawVars at F
      dsimp only
      walk_at "my go2"
      refine for_my ?_
      walk_at "my go2"
      dsimp only
      rename Fr _ _ _ _ => F
      rename News _ _ _ _ => N
      rename_i P _ lP1 l1' _ lP2
      refine KMa.mul F N (vs := [Value.ref P]) (ws := List.replicate 14 (Value.ref P)) (PySem.IsL.isList (n := 0) (N.get (.head _))) (by omega) (by omega) (by simp) (by simp) ?_
      intro M h4 F4 N4 hlt4
      clear F N
      have hwl : ws.length ≤ 8 := by rw [hI9.length, hC9]; exact wl8 _
      dsimp only
      refine add_arrays F4 N4 (PySem.IsL.isList (n := nC) (N4.get (.tail _ (.tail _ (.tail _ (.head _)))))) (PySem.IsL.isList (n := 0) (N4.get (.head _))) ?_ (by rw [sizeLine_eq]; simp; omega)
      intro h5 F5 N5
      dsimp only
      have hls : ∀ p ∈ ((M, listOf (List.replicate 14 (Value.ref P)).toArray 0) :: (l1', listOf #[Value.ref P] 0) :: (P, callObj 1 0 tk (tk + 1)) :: (C, listOf vs.toArray nC) :: (Wr, listOf #[] 0) :: (R, oD) :: (S, listOf #[] 0) :: (65, tabObj #[]) :: (58, tabObj #[]) :: rest : List (Addr × Obj)), p.1 < h4.objs.size := fun p hp => Heap.lt_size (N4 p hp).1
      rw [show vs.toArray.toList ++ (List.replicate 14 (Value.ref P)).toArray.toList = vs ++ List.replicate 14 (Value.ref P) from rfl] at N5
      generalize h4.objs.size = ls at hls N5 ⊢
      have ek := kst_id hm
      unfold lawVars at ek
      rw [ek] at F5
      clear N4 F4 hlt4
      have lw := lW
      have lr := lR
      have ls0 := lS
      have xne : ∀ a b : Addr, b < a → a ≠ b := fun a b q z => by rw [z] at q; exact Nat.lt_irrefl _ q
      have Z := turn_start (w := w) (sg := sg) (more := (ls, listOf (vs ++ List.replicate 14 (Value.ref P)).toArray 0) :: (P, callObj 1 0 tk (tk + 1)) :: rest) F5 N5 (.tail _ (.tail _ (.tail _ (.tail _ (.tail _ (.head _)))))) (.tail _ (.tail _ (.tail _ (.tail _ (.tail _ (.tail _ (.head _))))))) (.tail _ (.tail _ (.tail _ (.tail _ (.tail _ (.tail _ (.tail _ (.head _))))))))
        (.tail _ (.tail _ (.tail _ (.tail _ (.tail _ (.tail _ (.tail _ (.tail _ (.head _))))))))) (.tail _ (.tail _ (.tail _ (.tail _ (.tail _ (.tail _ (.tail _ (.tail _ (.tail _ (.head _)))))))))) ?z1 hD ?z2 ?z3 ?z4
      case z1 =>
        intro p hp
        rcases List.mem_cons.mp hp with rfl | hp
        · exact .head _
        rcases List.mem_cons.mp hp with rfl | hp
        · exact .tail _ (.tail _ (.tail _ (.head _)))
        exact .tail _ (.tail _ (.tail _ (.tail _ (.tail _ (.tail _ (.tail _ (.tail _ (.tail _ (.tail _ (hp))))))))))
      case z2 =>
        intro p hp b hb
        rcases List.mem_cons.mp hp with rfl | hp
        · refine xne _ _ ?_
          simp only [List.mem_cons, List.not_mem_nil, or_false] at hb
          rcases hb with rfl | rfl | rfl | rfl | rfl
          · exact hls _ (.tail _ (.tail _ (.tail _ (.tail _ (.tail _ (.tail _ (.tail _ (.tail _ (.head _)))))))))
          · exact hls _ (.tail _ (.tail _ (.tail _ (.tail _ (.tail _ (.tail _ (.tail _ (.head _))))))))
          · exact hls _ (.tail _ (.tail _ (.tail _ (.tail _ (.head _)))))
          · exact hls _ (.tail _ (.tail _ (.tail _ (.tail _ (.tail _ (.tail _ (.head _)))))))
          · exact hls _ (.tail _ (.tail _ (.tail _ (.tail _ (.tail _ (.head _))))))
        rcases List.mem_cons.mp hp with rfl | hp
        · refine xne _ _ ?_
          simp only [List.mem_cons, List.not_mem_nil, or_false] at hb
          rcases hb with rfl | rfl | rfl | rfl | rfl
          · exact lP1.2.2.2.2.2.1
          · exact lP1.2.2.2.2.1
          · exact lP1.2.1
          · exact lP1.2.2.2.1
          · exact lP1.2.2.1
        · refine hoff p hp b ?_
          simp only [List.mem_cons, List.not_mem_nil, or_false] at hb ⊢
          rcases hb with rfl | rfl | rfl | rfl | rfl <;> simp
      case z3 =>
        simp only [List.mem_cons, List.not_mem_nil, or_false, not_or]
        exact ⟨xne _ _ lW.2.2.2.2, xne _ _ lW.2.2.2.1, xne _ _ lW.2.1, xne _ _ lW.1⟩
      case z4 => exact Ne.symm (xne _ _ lR.1)
      refine turns (tg := tg) (oL := listOf (vs ++ List.replicate 14 (Value.ref P)).toArray 0) (items := vs ++ List.replicate 14 (Value.ref P)) X T codeHd C2 hlo hsg ?t1 ?t2 (PySem.IsL.isList (n := 0) (N5.get (.head _))) (.head _) Z ?t3 ?t4
      case t1 =>
        intro v hv
        rcases List.mem_append.mp hv with hv | hv
        · obtain ⟨a, k', x', t', u', e1, e2, e3⟩ := hok v hv
          exact ⟨a, k', x', t', u', e1, .tail _ (.tail _ e2), e3⟩
        · exact ⟨P, 1, 0, tk, tk + 1, List.eq_of_mem_replicate hv, .tail _ (.head _), .inr (.inl rfl), by omega, by omega⟩
      case t2 => simp; omega
      case t3 => exact fun p hp => hm p (.tail _ hp)
      case t4 =>
        intro h6 tk6 m6 aW6 row6 stv6 rs6 Z6
        clear F5 N5
        have F := Z6.F
        have N := Z6.N
        dsimp only
        iterate 3 walk1
        dsimp only
        obtain ⟨p1, g1, _⟩ := Z6.t1
        obtain ⟨p2, g2, _⟩ := Z6.t2
        exact ⟨⟨.inl ⟨_, _, _, rfl, fun _ => rfl, .bool true, by wrow_post, fun _ => ⟨List.nodup_nil, fun _ h => nomatch h⟩⟩, Z6.F.keep, rfl, hg⟩, ⟨p2, g2⟩, ⟨p1, g1⟩, trivial⟩))
end Mine

theorem PySem.Challenge.cw_op0093_01_holds : PySem.Challenge.rw_op0093_01.Holds :=
  Mine.law_holds
