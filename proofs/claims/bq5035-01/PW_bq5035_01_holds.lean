import PyProof.Rows.All
import Wide.All
import OpenK.AllK
import Wide.FinOn
import PySem.Challenge.RW_bq5035_01
set_option Elab.async false
set_option linter.all false

namespace Mine
open PySem PySem.W PyProof.Rows
set_option maxRecDepth 100000
set_option maxHeartbeats 8000000
local macro_rules | `(tactic| k_head) => `(tactic| x_head)
open_top hd for PySem.Challenge.rw_bq5035_01
end Mine

namespace Mine
open PySem PySem.W PyProof.Rows PySem.Calls
set_option maxRecDepth 100000
set_option maxHeartbeats 4000000
theorem top_off_Own : True := by
  w_top off
  exact trivial
/-- the stuff around, as weak as the calls of the law want it -/
abbrev ar (dp un : Nat) : Around := { handled := none, depth := dp, frames := none, guards := none, units := un }

theorem codeAny_wk {M : Model} {A : Around} {c : Code} {R : Result → Shared → Prop} {s : Shared} {dp un : Nat} (h : codeAny M (ar dp un) c R s)
    (h0 : A.handled = none) (hd : A.depth ≤ dp) (hu : A.units ≤ un) : codeAny M A c R s :=
  fun Γ p hc hΓ => h Γ p hc ⟨hΓ.1.trans h0, Nat.le_trans hΓ.2.1 hd, (fun _ e => by cases e), (fun _ e => by cases e), Nat.le_trans hΓ.2.2.2.2 hu⟩
theorem wpAny_wk {α : Type} {M : Model} {A : Around} {t : Sem α} {Q : α → Shared → Prop} {E : Value → Shared → Prop} {s : Shared} {dp un : Nat} (h : wpAny M (ar dp un) t Q E s)
    (h0 : A.handled = none) (hd : A.depth ≤ dp) (hu : A.units ≤ un) : wpAny M A t Q E s :=
  fun Γ p hΓ => h Γ p ⟨hΓ.1.trans h0, Nat.le_trans hΓ.2.1 hd, (fun _ e => by cases e), (fun _ e => by cases e), Nat.le_trans hΓ.2.2.2.2 hu⟩

section
variable {prog : Program} {w : World} {A : Around} {s : Shared} {K : Frag} {G₀ : Heap} {mg mb : Str → Option Value} {p : Program} {loose : List Str} {mean : ExcName → Option Value}
  {R : Result → Shared → Prop} {name qual : Str} {params : Arguments} {body : List Stmt} {scope : Scope} {dV kV doc pm cdv ct oc : Value} {an od : Option Addr} {osl : Array (Option Value)} {f : Addr} {args : Args} {binds : List (Str × Value)}

/-- a def of the text is called: its frame stands over the heap at hand, less the objects xs, which it may change -/
theorem own_call (xs : List (Addr × Obj)) (X : K.In G₀) (T : Top p loose mean mg mb G₀) (hG : ∀ b o, G₀.get? b = some o → s.heap.get? b = some o) (hx : ∀ q ∈ xs, s.heap.get? q.1 = some q.2 ∧ G₀.get? q.1 = none)
    (ho : K.lookup f = some ⟨oc, od, .func (fnOf name qual params body scope dV kV doc pm an cdv ct), osl⟩) (hcd : codeIn K cdv qual = true) (hroom : A.depth < recursionLimit)
    (hbind : BindsTo s (fnOf name qual params body scope dV kV doc pm an cdv ct) args binds) (hloc : ∀ y ∈ binds, scope.names.lookup y.1 = some .local)
    (h : ∀ g L' h₁ tk, Fr g L' h₁ (fun y => binds.reverse.lookup y) → News g L' h₁ xs → K.In g → Top p loose mean mg mb g → (∀ b o, G₀.get? b = some o → g.get? b = some o) →
      (∀ b o, s.heap.get? b = some o → b ∉ xs.map (·.1) → g.get? b = some o) →
      wpAny (model prog w) (A.deeper (envOf qual scope L' f cdv)) (execs body (envOf qual scope L' f cdv))
        (fun fl s' => R (.ok (.ret (match fl with | .ret v => v | _ => .none))) s')
        (fun e s' => wpAny (model prog w) (A.deeper (envOf qual scope L' f cdv)) (leaving (envOf qual scope L' f cdv) e) (fun _ s'' => R (.error e) s'') (fun e' s'' => R (.error e') s'') s')
        { s with heap := h₁, toks := tk })
    (hco : scope.isCoroutine = false) (hgen : scope.isGenerator = false) (hk : scope.kind = .function)
    (hcell : ∀ x ∈ scope.names, x.2 ≠ .cell) : codeAny (model prog w) A (.call (.ref f) args) R s := by
  refine codeAny_call_def (fd := fnX name qual params body scope [] dV kV doc pm an cdv ct) (body := body) (binds := binds) hroom (hG _ _ (X _ _ ho)) rfl (T.nolimit.keeps hG) (codeRec_of (X.keeps hG) hcd) rfl hbind hcell hloc (fun h₁ hns hk₁ => ?_) hco hgen hk
  have ne : ∀ b o, G₀.get? b = some o → b ∉ xs.map (·.1) := fun b o e q => by
    obtain ⟨q', hq, rfl⟩ := List.mem_map.mp q
    rw [(hx q' hq).2] at e; cases e
  have st : ∀ b o, G₀.get? b = some o → (hideAll s.heap (xs.map (·.1))).get? b = some o := fun b o e => hideAll_get _ (hG b o e) (ne b o e)
  exact h (hideAll s.heap (xs.map (·.1))) s.heap.objs.size h₁ _ ⟨hns, fun b o e => hk₁ b o (of_hideAll _ e), Nat.le_of_eq (hideAll_size _ _)⟩
    (fun q hq => ⟨hk₁ _ _ (hx q hq).1, Nat.ne_of_lt (Heap.lt_size (hx q hq).1), hideAll_none _ (List.mem_map_of_mem hq)⟩) (X.keeps st) (T.keeps st) st (fun b o e n => hideAll_get _ e n)

/-- the same for a def some of whose names are kept in cells -/
theorem own_callC (xs : List (Addr × Obj)) (X : K.In G₀) (T : Top p loose mean mg mb G₀) (hG : ∀ b o, G₀.get? b = some o → s.heap.get? b = some o) (hx : ∀ q ∈ xs, s.heap.get? q.1 = some q.2 ∧ G₀.get? q.1 = none)
    (ho : K.lookup f = some ⟨oc, od, .func (fnOf name qual params body scope dV kV doc pm an cdv ct), osl⟩) (hcd : codeIn K cdv qual = true) (hroom : A.depth < recursionLimit)
    (hbind : BindsTo s (fnOf name qual params body scope dV kV doc pm an cdv ct) args binds) (hkind : (binds.all fun y => scope.names.lookup y.1 == some .local || scope.names.lookup y.1 == some .cell) = true)
    (hnd : ((cellsFrom 0 scope.names []).map (·.1)).Nodup)
    (h : ∀ g L' h₁ tk cells, Fr g L' h₁ (bindL (envOfC qual scope L' f cdv).kindOf binds fun _ => none) → News g L' h₁ (cells ++ xs) →
      CellsAre (bindC (envOfC qual scope L' f cdv).kindOf binds fun _ => none) (cellsFrom (L' + 1) scope.names []) cells → K.In g → Top p loose mean mg mb g → (∀ b o, G₀.get? b = some o → g.get? b = some o) →
      (∀ b o, s.heap.get? b = some o → b ∉ xs.map (·.1) → g.get? b = some o) → (∀ q ∈ xs, q.1 < L') →
      wpAny (model prog w) (A.deeper (envOfC qual scope L' f cdv)) (execs body (envOfC qual scope L' f cdv))
        (fun fl s' => R (.ok (.ret (match fl with | .ret v => v | _ => .none))) s')
        (fun e s' => wpAny (model prog w) (A.deeper (envOfC qual scope L' f cdv)) (leaving (envOfC qual scope L' f cdv) e) (fun _ s'' => R (.error e) s'') (fun e' s'' => R (.error e') s'') s')
        { s with heap := h₁, toks := tk })
    (hco : scope.isCoroutine = false) (hgen : scope.isGenerator = false) (hk : scope.kind = .function) : codeAny (model prog w) A (.call (.ref f) args) R s := by
  have ne : ∀ b o, G₀.get? b = some o → b ∉ xs.map (·.1) := fun b o e q => by
    obtain ⟨q', hq, rfl⟩ := List.mem_map.mp q
    rw [(hx q' hq).2] at e; cases e
  have st : ∀ b o, G₀.get? b = some o → (hideAll s.heap (xs.map (·.1))).get? b = some o := fun b o e => hideAll_get _ (hG b o e) (ne b o e)
  refine codeAny_call_function (fd := fnX name qual params body scope [] dV kV doc pm an cdv ct) hroom (hG _ _ (X _ _ ho)) rfl hco hgen rfl (codeRec_of (X.keeps hG) hcd) (hbind _ _ _ _ ?_)
  refine wpAny_newFunctionEnv_cells hk (kindsX hkind _) fun env' he s' x => ?_
  subst he
  refine ⟨(T.nolimit.keeps hG).keeps x.toInCall.keep, codeAny_func ?_⟩
  obtain ⟨h₁, tk, rfl, _⟩ := x.done
  have hk₁ := x.toInCall.keep
  obtain ⟨cells, NC, Y⟩ := Cl.news (h₀ := s.heap) (Nat.le_refl _) fun n c hm => ⟨x.cell n c (lookup_of_mem_nodup (cellsFrom_names scope.names 0 (s.heap.objs.size + 1) [] [] rfl ▸ hnd) hm), x.above n c hm⟩
  refine h (hideAll s.heap (xs.map (·.1))) s.heap.objs.size h₁ tk cells ⟨x.toInCall.ns, fun b o e => hk₁ b o (of_hideAll _ e), Nat.le_of_eq (hideAll_size _ _)⟩ (fun p hp => ?_) Y (X.keeps st) (T.keeps st) st (fun b o e n => hideAll_get _ e n) (fun q hq => Heap.lt_size (hx q hq).1)
  rcases List.mem_append.mp hp with hp | hp
  · refine ⟨(NC p hp).1, (NC p hp).2.1, ?_⟩
    cases q : (hideAll s.heap (xs.map (·.1))).get? p.1 with
    | none => rfl
    | some o => have := of_hideAll _ q; rw [(NC p hp).2.2] at this; cases this
  · exact ⟨hk₁ _ _ (hx p hp).1, Nat.ne_of_lt (Heap.lt_size (hx p hp).1), hideAll_none _ (List.mem_map_of_mem hp)⟩
end
end Mine

namespace Mine
open PySem PySem.W PyProof.Rows PySem.Calls
set_option maxRecDepth 100000
set_option maxHeartbeats 8000000
theorem top_off_Next : True := by
  w_top off
  exact trivial
noncomputable abbrev PR : Program := PySem.Challenge.rw_bq5035_01.row.prog
noncomputable abbrev LO : List Str := looseW Mine.hd.view_39 [Str.ofString "OrderedSet", Str.ofString "to_list", Str.ofString "update_copy"]
noncomputable abbrev KK (w : World) : Frag := Mine.hd.heap_39 w.params
abbrev stO (sl : Addr) (i sd : Int) (ti td : Tok) : Obj := listOf #[.ref sl, .int i ti, .int sd td] 0
/-- what the state's numbers lie between -/
structure Bd (i sd : Int) : Prop where
  i0 : 0 ≤ i
  i1 : i ≤ 63
  s0 : 0 ≤ sd
  s1 : sd < 2147483647

theorem fillK : (PySem.Challenge.rw_bq5035_01, Mine.hd.heap_39) = (PySem.Challenge.rw_bq5035_01, Mine.hd.heap_39) := by k_fill; rfl

theorem next_c {w : World} {mg mb : Str → Option Value} {mean : ExcName → Option Value} {G₀ : Heap} (X : (Mine.hd.heap_39 w.params).In G₀) (T : Top Mine.hd.view_39 LO mean mg mb G₀)
    {s : Shared} {st sl : Addr} {vs : List Value} {ns : List Int} {i sd many : Int} {ti td tm : Tok}
    (hG : ∀ b o, G₀.get? b = some o → s.heap.get? b = some o) (hst : s.heap.get? st = some (stO sl i sd ti td)) (hf : G₀.get? st = none) (hsl : s.heap.IsList sl vs.toArray) (hne : sl ≠ st) (hI : IntsAre vs ns)
    (hlen : ns.length ≤ 63) (hB : Bd i sd) (hm0 : 0 < many) (hm1 : many ≤ 1000)
    {R : Result → Shared → Prop}
    (hR : ∀ (v : Int) (t : Tok) (h' : Heap) (tk : Nat) (i' sd' : Int) (ti' td' : Tok), (∀ b o, s.heap.get? b = some o → b ≠ st → h'.get? b = some o) → h'.get? st = some (stO sl i' sd' ti' td') →
      Bd i' sd' → 0 ≤ v → v < many → R (.ok (.ret (.int v t))) { s with heap := h', toks := tk }) :
    codeAny (model PR w) (ar 900 5000) (.call (.ref 272) ⟨[.ref st, .int many tm], []⟩) R s := by
  refine' own_call (binds := [(Str.ofString "state", .ref st), (Str.ofString "many", .int many tm)]) [(st, stO sl i sd ti td)] X T hG ?hx ?ho ?hcd ?hroom ?hbind ?hloc ?_ ?c2 ?c3 ?c4 ?c5
  case ho => k_is
  case hcd => k_is
  case hroom => decide
  case hbind => exact BindsTo.of_eq rfl
  case hloc => exact locs rfl
  case c5 => decide
  case c2 => exact rfl
  case c3 => exact rfl
  case c4 => exact rfl
  case hx => intro q hq; cases List.mem_singleton.mp hq; exact ⟨hst, hf⟩
  intro g L h₁ tk₁ F N Xg Tg hGg hk
  have hslg : g.IsList sl vs.toArray := by
    obtain ⟨o, ho, r⟩ := hsl
    exact ⟨o, hk _ _ ho (by simpa using hne), r⟩
  have hR' : ∀ (v : Int) (t : Tok) (h' : Heap) (tk : Nat) (i' sd' : Int) (ti' td' : Tok) (L' : Addr) (m' : Str → Option Value), Fr g L' h' m' → News g L' h' [(st, stO sl i' sd' ti' td')] →
      Bd i' sd' → 0 ≤ v → v < many → R (.ok (.ret (.int v t))) { s with heap := h', toks := tk } := fun v t h' tk i' sd' ti' td' L' m' F' N' =>
    hR v t h' tk i' sd' ti' td' (fun b o e hb => F'.keep b o (hk b o e (by simpa using hb))) (N' _ (.head _)).1
  obtain ⟨hi0, hi1, hs0, hs1⟩ := hB
  clear hk hGg hG hst hf hsl X T hR
  (try dsimp only)
  (try k_fold)
  k_steps
  · refine hR' _ _ _ _ _ _ _ _ _ _ (by assumption) (by assumption) ⟨by omega, by omega, Int.fmod_nonneg_of_pos _ (by decide), Int.fmod_lt_of_pos _ (by decide)⟩ (Int.fmod_nonneg_of_pos _ hm0) (Int.fmod_lt_of_pos _ hm0)
  · refine hR' _ _ _ _ _ _ _ _ _ _ (by assumption) (by assumption) ⟨by omega, by omega, Int.fmod_nonneg_of_pos _ (by decide), Int.fmod_lt_of_pos _ (by decide)⟩ (Int.fmod_nonneg_of_pos _ hm0) (Int.fmod_lt_of_pos _ hm0)

section
variable {w : World} {mg mb : Str → Option Value} {mean : ExcName → Option Value} {g : Heap} {L : Addr} {m : Str → Option Value} {news : List (Addr × Obj)} {A : Around} {s : Shared}

/-- a change of one made object, seen from a frame -/
theorem fr_but {st : Addr} {h h' : Heap} (F : Fr g L h m) (hk : ∀ b o, h.get? b = some o → b ≠ st → h'.get? b = some o) (hL : L ≠ st) (hf : g.get? st = none) : Fr g L h' m := by
  obtain ⟨oL, es, ep, hL', r⟩ := F.ns
  refine ⟨⟨oL, es, ep, hk _ _ hL' hL, r⟩, fun b o e => hk b o (F.keep b o e) fun q => ?_, F.above⟩
  rw [q, hf] at e; cases e
theorem news_but {st : Addr} {h h' : Heap} {o o' : Obj} {nf : Obj → List (Addr × Obj)} (N : News g L h news) (U : UpdF st o news nf) (hk : ∀ b o, h.get? b = some o → b ≠ st → h'.get? b = some o) (ho : h'.get? st = some o') :
    News g L h' (nf o') := by
  obtain ⟨pre, post, rfl, hn, h1, h2⟩ := U.split
  rw [hn]
  intro p hp
  rcases List.mem_append.mp hp with q | q
  · have z := N p (List.mem_append_left _ q)
    exact ⟨hk _ _ z.1 (h1 p q), z.2⟩
  · rcases List.mem_cons.mp q with rfl | q
    · exact ⟨ho, (N (st, o) (by simp)).2⟩
    · have z := N p (List.mem_append_right _ (.tail _ q))
      exact ⟨hk _ _ z.1 (h2 p q), z.2⟩
theorem upd_mem {st : Addr} {o : Obj} {nf : Obj → List (Addr × Obj)} (U : UpdF st o news nf) : (st, o) ∈ news := by
  obtain ⟨pre, post, rfl, _⟩ := U.split
  simp

theorem next_r {st sl : Addr} {vs : List Value} {ns : List Int} {i sd many : Int} {ti td tm : Tok} {nf : Obj → List (Addr × Obj)} {Q E : Value → Shared → Prop}
    (X : (Mine.hd.heap_39 w.params).In g) (T : Top Mine.hd.view_39 LO mean mg mb g) (F : Fr g L s.heap m) (N : News g L s.heap news) (U : UpdF st (stO sl i sd ti td) news nf)
    (hsl : g.IsList sl vs.toArray) (hI : IntsAre vs ns) (hlen : ns.length ≤ 63) (hB : Bd i sd) (hm0 : 0 < many) (hm1 : many ≤ 1000) (h0 : A.handled = none) (hd : A.depth ≤ 900) (hu : A.units ≤ 5000)
    (h : ∀ (v : Int) (t : Tok) (h' : Heap) (tk : Nat) (i' sd' : Int) (ti' td' : Tok), Bd i' sd' → 0 ≤ v → v < many → Fr g L h' m → News g L h' (nf (stO sl i' sd' ti' td')) →
      Q (.int v t) { s with heap := h', toks := tk }) :
    wpAny (model PR w) A (call (.ref 272) [.ref st, .int many tm] []) Q E s := by
  have z := N _ (upd_mem U)
  obtain ⟨osl, hosl, rsl⟩ := hsl
  have hne : sl ≠ st := fun e => by subst e; rw [z.2.2] at hosl; cases hosl
  refine wpAny_call (codeAny_wk (next_c X T F.keep z.1 z.2.2 ⟨osl, F.keep _ _ hosl, rsl⟩ hne hI hlen hB hm0 hm1 ?_) h0 hd hu)
  intro v t h' tk i' sd' ti' td' hk ho hB' v0 v1
  exact h v t h' tk i' sd' ti' td' hB' v0 v1 (fr_but F hk (Ne.symm z.2.1) z.2.2) (news_but N U hk ho)
end
end Mine

namespace Mine
open PySem PySem.W PyProof.Rows PySem.Calls
set_option maxRecDepth 100000
set_option maxHeartbeats 8000000
theorem top_off_Round : True := by
  w_top off
  exact trivial
/-- what a round's call does: it ends, answers True, and changes the state list alone -/
def RoundC (w : World) (f : Addr) : Prop := ∀ {mg mb : Str → Option Value} {mean : ExcName → Option Value} {G₀ : Heap} (_ : (Mine.hd.heap_39 w.params).In G₀) (_ : Top Mine.hd.view_39 LO mean mg mb G₀)
    {s : Shared} {st sl : Addr} {vs : List Value} {ns : List Int} {i sd : Int} {ti td : Tok} (_ : s.gens = #[])
    (_ : ∀ b o, G₀.get? b = some o → s.heap.get? b = some o) (_ : s.heap.get? st = some (stO sl i sd ti td)) (_ : G₀.get? st = none) (_ : s.heap.IsList sl vs.toArray) (_ : sl ≠ st) (_ : IntsAre vs ns)
    (_ : ns.length ≤ 63) (_ : Bd i sd) {R : Result → Shared → Prop}
    (_ : ∀ (h' : Heap) (tk : Nat) (i' sd' : Int) (ti' td' : Tok), (∀ b o, s.heap.get? b = some o → b ≠ st → h'.get? b = some o) → h'.get? st = some (stO sl i' sd' ti' td') →
      Bd i' sd' → R (.ok (.ret (.bool true))) { s with heap := h', toks := tk }),
    codeAny (model PR w) (ar 800 4000) (.call (.ref f) ⟨[.ref st], []⟩) R s

section
variable {w : World} {mg mb : Str → Option Value} {mean : ExcName → Option Value} {g : Heap} {L : Addr} {m : Str → Option Value} {news : List (Addr × Obj)} {A : Around} {s : Shared}
theorem round_r {f : Addr} (C : RoundC w f) {st sl : Addr} {vs : List Value} {ns : List Int} {i sd : Int} {ti td : Tok} {nf : Obj → List (Addr × Obj)} {Q E : Value → Shared → Prop}
    (X : (Mine.hd.heap_39 w.params).In g) (T : Top Mine.hd.view_39 LO mean mg mb g) (F : Fr g L s.heap m) (N : News g L s.heap news) (U : UpdF st (stO sl i sd ti td) news nf) (hg : s.gens = #[])
    (hsl : (sl, listOf vs.toArray 0) ∈ news) (hne : sl ≠ st) (hI : IntsAre vs ns) (hlen : ns.length ≤ 63) (hB : Bd i sd) (h0 : A.handled = none) (hd : A.depth ≤ 800) (hu : A.units ≤ 4000)
    (h : ∀ (h' : Heap) (tk : Nat) (i' sd' : Int) (ti' td' : Tok), Bd i' sd' → Fr g L h' m → News g L h' (nf (stO sl i' sd' ti' td')) → Q (.bool true) { s with heap := h', toks := tk }) :
    wpAny (model PR w) A (call (.ref f) [.ref st] []) Q E s := by
  have z := N _ (upd_mem U)
  refine wpAny_call (codeAny_wk (C X T hg F.keep z.1 z.2.2 ⟨_, (N _ hsl).1, rfl, 0, rfl⟩ hne hI hlen hB ?_) h0 hd hu)
  intro h' tk i' sd' ti' td' hk ho hB'
  exact h h' tk i' sd' ti' td' hB' (fr_but F hk (Ne.symm z.2.1) z.2.2) (news_but N U hk ho)
end
end Mine

namespace Mine
open PySem PySem.W PyProof.Rows PySem.Calls
set_option maxRecDepth 100000
set_option maxHeartbeats 8000000
theorem top_off_Rules : True := by
  w_top off
  exact trivial
abbrev itO (l : Addr) (i : Int) : Obj := { cls := .type "list_iterator", data := .fields #[.ref l, .int i 0] }
section
variable {prog : Program} {w : World} {A : Around} {E : Value → Shared → Prop} {s : Shared} {h₀ : Heap} {L : Addr} {m : Str → Option Value} {news : List (Addr × Obj)}
theorem iter_r {l : Addr} {its : Array Value} {n : Nat} {Q : Value → Shared → Prop} (F : Fr h₀ L s.heap m) (N : News h₀ L s.heap news) (hp : (l, listOf its n) ∈ news)
    (h : ∀ (I : Addr) h', Fr h₀ L h' m → News h₀ L h' ((I, itO l 0) :: news) → (∀ p ∈ news, p.1 < I) → Q (.ref I) { s with heap := h' }) :
    wpAny (model prog w) A (call (.builtin "iter") [.ref l]) Q E s := by
  refine call_function_entry (by decide +kernel) (by decide +kernel) kdk_entry_iter (kdk_args_iter _) ?_
  unfold Builtin.«iter»
  refine wpAny_bind (m := someArgs "iter" 1 2 _) (wpAny_of_eq (a := [Value.ref l]) (by first | rfl | kernel_rfl!) ?_)
  show wpAny _ _ (pyIter (.ref l) >>= _) _ _ _
  refine wpAny_bind (wpAny_pyIter_list (items := its) ⟨_, (N _ hp).1, rfl, n, rfl⟩ ?_)
  exact wpAny_pure ⟨_, rfl, h _ _ (F.push _) (News.push F N _ rfl) (fun q hq => Heap.lt_size (N q hq).1)⟩

theorem item_r {value slice : PySem.Expr} {l : Addr} {its : Array Value} {n : Nat} {k : Int} {u : Tok} {Q : Value → Shared → Prop} (N : News h₀ L s.heap news) (hp : (l, listOf its n) ∈ news)
    (h0 : 0 ≤ k) (h1 : k < its.size) (hz : its.size < 2 ^ 62) (h : ∀ v, its[k.toNat]? = some v → Q v s)
    (hs : subscripted slice false (.ref l) (.int k u) = operate [.ref l, .int k u] (getItem (.ref l) (.int k u)) := by with_unfolding_all rfl) :
    wpAny (model prog w) A (subscriptTail value slice (.ref l) (.int k u)) Q E s := by
  have hlt : k.toNat < its.size := by omega
  have hl : s.heap.IsList l its := ⟨_, (N _ hp).1, rfl, n, rfl⟩
  exact tail_any hl.typeIs slot_list_getitem.lookup (wpAny_getItem_list hl h0 (by omega) (Array.getElem?_eq_getElem hlt) (h _ (Array.getElem?_eq_getElem hlt))) hs
end
end Mine

namespace Mine
open PySem PySem.W PyProof.Rows PySem.Calls
set_option maxRecDepth 100000
set_option maxHeartbeats 8000000
theorem top_off_Comp : True := by
  w_top off
  exact trivial
section
variable {prog : Program} {w : World} {A : Around} {E : Value → Shared → Prop} {s : Shared} {h₀ : Heap} {L : Addr} {m : Str → Option Value} {env : Env} {news : List (Addr × Obj)}

/-- a name of the def around, kept in a cell, read within a comprehension -/
theorem ld_cell {scope : Scope} {cl : List (Str × Addr)} {C c : Addr} {o : Obj} {x : Str} {pos : Pos} {v : Value} {Q : Value → Shared → Prop} (N : News h₀ L s.heap news) (hc : cl.lookup x = some c) (hm : (c, o) ∈ news) (hd : o.data = .cell (some v)) (h : Q v s)
    (hk : (compEnvC scope cl C env).scope.kind = .function := by rfl) (hl : (compEnvC scope cl C env).kindOf x = some .cell := by rfl) (hb : (x == ("__debug__" : Str)) = false := by decide) :
    wpAny (model prog w) A (eval (.Name x pos) (compEnvC scope cl C env)) Q E s := wpAny_Name (wpAny_loadName_cell hk hl hc ⟨o, N.get hm, hd⟩ h) hb

/-- the turns of a comprehension by what holds between them -/
theorem rest_ind {elt : PySem.Expr} {x : Str} {scope : Scope} {cl : List (Str × Addr)} {S : List (Addr × Obj) → Prop} {P : Nat → Value → Prop} {Fin : List Value → List (Addr × Obj) → Prop} {n : Nat}
    (Inv : List Value → List (Addr × Obj) → Prop) (hfin : ∀ ys news, ys.length = n → Inv ys news → Fin ys news)
    (hstep : ∀ i ys news, Inv ys news → ys.length = i → i < n → ∀ v I oI C oC D m₂ h tk (E' : Value → Shared → Prop), P i v → LCg.NsObj oC m₂ → m₂ x = some v → Fr h₀ L h m → News h₀ L h ((I, oI) :: (C, oC) :: (D, LCg.lst ys) :: news) → LCg.Off3 I C D news → ((@Ne Nat I C) ∧ (@Ne Nat I D) ∧ (@Ne Nat C D)) →
      wpAny (model prog w) A (eval elt (compEnvC scope cl C env)) (LCg.CompEnd h₀ L m { s with heap := h, toks := tk } I oI C oC D (LCg.lst ys) S (fun y news' => Inv (ys ++ [y]) news')) E' { s with heap := h, toks := tk }) :
    ∀ k i ys news, ys.length = i → i + k = n → Inv ys news → LCg.CompRest prog w A h₀ L m env elt x scope cl s S P Fin k i ys news := by
  intro k
  induction k with
  | zero => intro i ys news h1 h2 hI; exact LCg.CompRest.zero (hfin ys news (by omega) hI)
  | succ k ih =>
    intro i ys news h1 h2 hI
    refine LCg.CompRest.succ fun v I oI C oC D m₂ h tk E' hP hC hx F N off ne => ?_
    refine wpAny_mono (hstep i ys news hI h1 (by omega) v I oI C oC D m₂ h tk E' hP hC hx F N off ne) (fun y s' hy => ?_) fun _ _ e => e
    obtain ⟨h', tk', news', rfl, F', N', off', hS', hI'⟩ := hy
    exact ⟨h', tk', news', rfl, F', N', off', hS', ih (i + 1) (ys ++ [y]) news' (by simp [h1]) (by omega) hI'⟩

theorem off3_upd {st : Addr} {o : Obj} {I C D : Addr} {nf : Obj → List (Addr × Obj)} (U : UpdF st o news nf) (o' : Obj) (h : LCg.Off3 I C D news) : LCg.Off3 I C D (nf o') := by
  obtain ⟨pre, post, rfl, hn, _, _⟩ := U.split
  rw [hn]
  refine LCg.Off3.of fun p hp => ?_
  rcases List.mem_append.mp hp with q | q
  · exact h.mem p (List.mem_append_left _ q)
  · rcases List.mem_cons.mp q with rfl | q
    · exact h.mem (st, o) (by simp)
    · exact h.mem p (List.mem_append_right _ (.tail _ q))
theorem off3_updI {st : Addr} {o o' : Obj} {I C D : Addr} {nf : Obj → List (Addr × Obj)} (U : UpdF st o news nf) (h : LCg.Off3 I C D (nf o')) : LCg.Off3 I C D news := by
  obtain ⟨pre, post, rfl, hn, _, _⟩ := U.split
  rw [hn] at h
  refine LCg.Off3.of fun p hp => ?_
  rcases List.mem_append.mp hp with q | q
  · exact h.mem p (List.mem_append_left _ q)
  · rcases List.mem_cons.mp q with rfl | q
    · exact h.mem (st, o') (by simp)
    · exact h.mem p (List.mem_append_right _ (.tail _ q))

theorem ints_snoc {vs : List Value} {ns : List Int} (h : IntsAre vs ns) (p : Int) (t : Tok) : IntsAre (vs ++ [.int p t]) (ns ++ [p]) := by
  induction h with
  | nil => exact .cons p t .nil
  | cons n t' _ ih => exact .cons n t' ih

/-- where a drawing turn ends -/
def DrawEnd (h₀ : Heap) (L : Addr) (m : Str → Option Value) (s₂ : Shared) (many : Int) (sl : Addr) (mk : Obj → List (Addr × Obj)) (y : Value) (s' : Shared) : Prop :=
  ∃ p tp h' tk' i'' sd'' ti'' td'', y = .int p tp ∧ 0 ≤ p ∧ p < many ∧ s' = { s₂ with heap := h', toks := tk' } ∧ Bd i'' sd'' ∧ Fr h₀ L h' m ∧ News h₀ L h' (mk (stO sl i'' sd'' ti'' td''))
theorem DrawEnd.intro {s₂ : Shared} {many : Int} {sl : Addr} {mk : Obj → List (Addr × Obj)} {p : Int} {tp : Tok} {h' : Heap} {tk' : Nat} {i'' sd'' : Int} {ti'' td'' : Tok} (p0 : 0 ≤ p) (p1 : p < many) (B : Bd i'' sd'') (F : Fr h₀ L h' m) (N : News h₀ L h' (mk (stO sl i'' sd'' ti'' td''))) :
    DrawEnd h₀ L m s₂ many sl mk (.int p tp) { s₂ with heap := h', toks := tk' } := ⟨p, tp, h', tk', i'', sd'', ti'', td'', rfl, p0, p1, rfl, B, F, N⟩

/-- a comprehension over a range that draws at every turn -/
theorem draws_src {elt : PySem.Expr} {x : Str} {scope : Scope} {cl : List (Str × Addr)} {Fin : Shared → List Value → List (Addr × Obj) → Prop} {r : Addr} {b : Int} {t u v : Tok} {s₁ : Shared}
    {st sl : Addr} {i sd many : Int} {ti td : Tok} {nf : Obj → List (Addr × Obj)}
    (hh : A.handled = none) (F : Fr h₀ L s₁.heap m) (N : News h₀ L s₁.heap news) (hr : IsRange s₁.heap r 0 b 1 t u v) (hb0 : 0 ≤ b) (hb1 : b < 1000)
    (U : UpdF st (stO sl i sd ti td) news nf) (hB : Bd i sd)
    (hstep : ∀ i' sd' ti' td' ys, Bd i' sd' → ∀ s₂ : Shared, s₂.gens = s₁.gens → ∀ I oI C oC D m₂ (E' : Value → Shared → Prop), LCg.NsObj oC m₂ → Fr h₀ L s₂.heap m → News h₀ L s₂.heap ((I, oI) :: (C, oC) :: (D, LCg.lst ys) :: nf (stO sl i' sd' ti' td')) →
      LCg.Off3 I C D (nf (stO sl i' sd' ti' td')) → ((@Ne Nat I C) ∧ (@Ne Nat I D) ∧ (@Ne Nat C D)) →
      wpAny (model prog w) A (eval elt (compEnvC scope cl C env)) (DrawEnd h₀ L m s₂ many sl (fun o => (I, oI) :: (C, oC) :: (D, LCg.lst ys) :: nf o)) E' s₂)
    (hfin : ∀ g ys ps i' sd' ti' td', IntsAre ys ps → (∀ p ∈ ps, 0 ≤ p ∧ p < many) → (ps.length : Int) = b → Bd i' sd' → Fin { s₁ with heap := g } ys (nf (stO sl i' sd' ti' td'))) :
    LCg.CompSrc prog w A h₀ L m env elt x scope cl Fin (.ref r) s₁ := by
  obtain ⟨n, rfl⟩ := Int.eq_ofNat_of_zero_le hb0
  have hn : Builtin.Range.rangeSize 0 (n : Int) 1 = ((n : Nat) : Int) := by rw [rangeSize_one]; split <;> omega
  refine LCg.CompSrc.range hh F N hr (small_one (by decide) (by decide) (by omega) (by omega)) hn (by rw [sizeLine_eq]; omega) fun g => ?_
  refine rest_ind (n := n) (fun ys news' => ∃ ps i' sd' ti' td', IntsAre ys ps ∧ (∀ p ∈ ps, 0 ≤ p ∧ p < many) ∧ Bd i' sd' ∧ news' = nf (stO sl i' sd' ti' td')) ?_ ?_ n 0 [] _ rfl (Nat.zero_add n) ⟨[], i, sd, ti, td, .nil, (by intro p hp; cases hp), hB, ?_⟩
  · rintro ys _ hl ⟨ps, i', sd', ti', td', hI, hp, hB', rfl⟩
    exact hfin g ys ps i' sd' ti' td' hI hp (by rw [← hI.length, hl]) hB'
  · rintro j ys _ ⟨ps, i', sd', ti', td', hI, hp, hB', rfl⟩ _ _ v I oI C oC D m₂ h tk E' hP hC hx F' N' off ne
    refine wpAny_mono (hstep i' sd' ti' td' ys hB' { s₁ with heap := h, toks := tk } rfl I oI C oC D m₂ E' hC F' N' off ne) (fun y s' hy => ?_) fun _ _ e => e
    obtain ⟨p, tp, h', tk', i'', sd'', ti'', td'', rfl, p0, p1, rfl, hB'', F'', N''⟩ := hy
    refine ⟨h', tk', _, rfl, F'', N'', off3_upd U _ (off3_updI U off), trivial, ps ++ [p], i'', sd'', ti'', td'', ints_snoc hI p tp, fun q hq => ?_, hB'', rfl⟩
    rcases List.mem_append.mp hq with hq | hq
    · exact hp q hq
    · cases List.mem_singleton.mp hq; exact ⟨p0, p1⟩
  · obtain ⟨pre, post, rfl, hnf, _, _⟩ := U.split
    rw [hnf]

/-- where a reading turn ends -/
def MapEnd (s₂ : Shared) (v : Value) (y : Value) (s' : Shared) : Prop := y = v ∧ ∃ tk', s' = { s₂ with toks := tk' }
theorem MapEnd.intro {s₂ : Shared} {v y : Value} {tk' : Nat} (h : y = v) : MapEnd s₂ v y { s₂ with toks := tk' } := ⟨h, tk', rfl⟩
theorem ints_get {vs : List Value} {ns : List Int} (h : IntsAre vs ns) : ∀ (i : Nat) (v : Value), vs[i]? = some v → ∃ p t, ns[i]? = some p ∧ v = .int p t := by
  induction h with
  | nil => intro i v e; simp at e
  | cons n t _ ih =>
    intro i v e
    cases i with
    | zero => simp at e; exact ⟨n, t, rfl, e.symm⟩
    | succ i => simpa using ih i v (by simpa using e)

/-- a comprehension over a made list of ints that reads alone -/
theorem map_src {elt : PySem.Expr} {x : Str} {scope : Scope} {cl : List (Str × Addr)} {Fin : Shared → List Value → List (Addr × Obj) → Prop} {ax : Addr} {ys : List Value} {ps : List Int} {f : Int → Value} {s₁ : Shared}
    (hh : A.handled = none) (F : Fr h₀ L s₁.heap m) (N : News h₀ L s₁.heap news) (hm : (ax, LCg.lst ys) ∈ news) (hI : IntsAre ys ps) (hsz : ps.length ≤ sizeLine)
    (hstep : ∀ p ∈ ps, ∀ t (s₂ : Shared) I oI C oC D zs m₂ (E' : Value → Shared → Prop), s₂.gens = s₁.gens → LCg.NsObj oC m₂ → m₂ x = some (.int p t) → Fr h₀ L s₂.heap m → News h₀ L s₂.heap ((I, oI) :: (C, oC) :: (D, LCg.lst zs) :: news) →
      LCg.Off3 I C D news → ((@Ne Nat I C) ∧ (@Ne Nat I D) ∧ (@Ne Nat C D)) → wpAny (model prog w) A (eval elt (compEnvC scope cl C env)) (MapEnd s₂ (f p)) E' s₂)
    (hfin : ∀ g, Fin { s₁ with heap := g } (ps.map f) news) :
    LCg.CompSrc prog w A h₀ L m env elt x scope cl Fin (.ref ax) s₁ := by
  refine LCg.CompSrc.ledger hh F N hm (by rw [List.size_toArray, hI.length]; exact hsz) fun g => ?_
  have hn : ys.toArray.size = ps.length := by rw [List.size_toArray, hI.length]
  rw [hn]
  refine rest_ind (n := ps.length) (fun zs news' => zs = (ps.take zs.length).map f ∧ news' = news) ?_ ?_ ps.length 0 [] _ rfl (Nat.zero_add _) ⟨by simp, rfl⟩
  · rintro zs _ hl ⟨hz, rfl⟩
    rw [hl, List.take_length] at hz
    rw [hz]; exact hfin g
  · rintro i zs _ ⟨hz, rfl⟩ hl hlt v I oI C oC D m₂ h tk E' hP hC hx F' N' off ne
    obtain ⟨p, t, hp, rfl⟩ := ints_get hI i v (by simpa using hP)
    refine wpAny_mono (hstep p (List.mem_of_getElem? hp) t { s₁ with heap := h, toks := tk } I oI C oC D zs m₂ E' rfl hC hx F' N' off ne) (fun y s' hy => ?_) fun _ _ e => e
    obtain ⟨rfl, tk', rfl⟩ := hy
    refine ⟨h, tk', _, rfl, F', N', off, .inr ⟨_, hm, rfl, _, rfl⟩, ?_, rfl⟩
    rw [List.length_append, List.length_singleton, List.take_add_one, List.map_append, ← hz, hl, hp]; rfl

/-- [xs[k] for k in picks]: xs a name kept in a cell, a written list of four; each pick one of its places -/
theorem row_src {xt x : Str} {pt px' pos' : Pos} {scope : Scope} {cl : List (Str × Addr)} {Fin : Shared → List Value → List (Addr × Obj) → Prop} {ax lt cT : Addr} {oT : Obj} {its4 : Array Value} {ys : List Value} {ps : List Int} {s₁ : Shared}
    (hh : A.handled = none) (F : Fr h₀ L s₁.heap m) (N : News h₀ L s₁.heap news) (hc : cl.lookup xt = some cT) (hmT : (cT, oT) ∈ news) (hdT : oT.data = .cell (some (.ref lt))) (hm4 : (lt, listOf its4 0) ∈ news) (h4 : its4.size = 4)
    (hm : (ax, LCg.lst ys) ∈ news) (hI : IntsAre ys ps) (hsz : ps.length ≤ 8) (hps : ∀ p ∈ ps, 0 ≤ p ∧ p < 4)
    (hkc : ∀ C, (compEnvC scope cl C env).scope.kind = .function) (hkt : ∀ C, (compEnvC scope cl C env).kindOf xt = some .cell) (hkx : ∀ C, (compEnvC scope cl C env).kindOf x = some .local) (hbt : (xt == ("__debug__" : Str)) = false) (hbx : (x == ("__debug__" : Str)) = false)
    (hfin : ∀ g, Fin { s₁ with heap := g } (ps.map fun p => its4.getD p.toNat .none) news) :
    LCg.CompSrc prog w A h₀ L m env (.Subscript (.Name xt pt) (.Name x px') pos') x scope cl Fin (.ref ax) s₁ := by
  refine map_src hh F N hm hI (by rw [sizeLine_eq]; omega) (fun p hp t s₂ I oI C oC D zs m₂ E' hg hC hx F' N' off ne => ?_) hfin
  have hp4 := hps p hp
  refine Subscript_ ?_
  refine ld_cell N' hc (.tail _ (.tail _ (.tail _ hmT))) hdT ?_ (hkc C) (hkt C) hbt
  refine ldVarK (hC.ns (N' _ (.tail _ (.head _))).1) hx ?_ (hkc C) (hkx C) hbx
  refine item_r N' (.tail _ (.tail _ (.tail _ hm4))) hp4.1 (by rw [h4]; exact hp4.2) (by rw [h4]; decide) (fun v hv => ?_)
  refine ⟨?_, s₂.toks, rfl⟩
  rw [Array.getD_eq_getD_getElem?, hv]; rfl
end
end Mine

namespace Mine
open PySem PySem.W PyProof.Rows PySem.Calls
set_option maxRecDepth 100000
set_option maxHeartbeats 8000000
theorem top_off_Enum : True := by
  w_top off
  exact trivial
section
variable {prog : Program} {w : World} {A : Around} {E : Value → Shared → Prop} {s : Shared} {h₀ : Heap} {L : Addr} {m : Str → Option Value} {env : Env} {news : List (Addr × Obj)}

/-- where a test ends -/
def TestEnd (s₃ : Shared) (b ok : Bool) (s₄ : Shared) : Prop := ok = b ∧ ∃ tk', s₄ = { s₃ with toks := tk' }
theorem TestEnd.intro {s₃ : Shared} {b ok : Bool} {tk' : Nat} (h : ok = b) : TestEnd s₃ b ok { s₃ with toks := tk' } := ⟨h, tk', rfl⟩
abbrev idx (qi : Nat → Bool) (n : Nat) : List Int := ((List.range n).filter qi).map Int.ofNat
theorem idx_succ (qi : Nat → Bool) (n : Nat) : idx qi (n + 1) = idx qi n ++ (if qi n then [(n : Int)] else []) := by
  unfold idx
  rw [List.range_succ, List.filter_append, List.map_append]
  cases h : qi n <;> simp [h]

/-- a list of the places in a list at which a test holds -/
theorem asg_enum {ct iter : PySem.Expr} {x1 x2 y : Str} {p1 p2 pe py tp : Pos} {kk : Nat} {scope : Scope} {cl : List (Str × Addr)} {pos spos : Pos} {Q : Flow → Shared → Prop} (_F₀ : Fr h₀ L s.heap m) (hLe : env.locals = L)
    (hsw : swapsWith (.ListComp (.Name x1 pe) [⟨.Tuple [.Name x1 p1, .Name x2 p2] kk tp, iter, [ct], 0⟩] scope pos) (some (.Name y py)) spos.line env = pure true)
    (hclos : closureFor scope env = pure cl) (hcell : ∀ z ∈ scope.names, z.2 ≠ .cell) (hkind : scope.kind = .function)
    (hnames : ∀ z ∈ scope.names, z.2 = .local → scope.names.lookup z.1 = some .local) (hx1 : scope.names.lookup x1 = some .local) (hx2 : scope.names.lookup x2 = some .local) (hx12 : x1 ≠ x2) (hd1 : (x1 == ("__debug__" : Str)) = false)
    (hy : env.kindOf y = some .local) (hp : (env.scope.kind == .class || (env.scope.kind == .module && env.locals != env.globals)) = false)
    (h : wpAny (model prog w) A (eval iter env) (fun xv s₁ => ∃ (e it l : Addr) (its : Array Value) (n : Nat) (qi : Nat → Bool) (news : List (Addr × Obj)), xv = .ref e ∧ A.handled = none ∧ Fr h₀ L s₁.heap m ∧ News h₀ L s₁.heap news ∧ (l, listOf its n) ∈ news ∧ its.size ≤ sizeLine ∧
      IsEnum s₁.heap e it 0 .none ∧ s₁.heap.IsListIter it l 0 ∧ e ≠ it ∧ (∀ p ∈ news, p.1 ≠ e ∧ p.1 ≠ it) ∧ h₀.get? e = none ∧ h₀.get? it = none ∧ L ≠ e ∧ L ≠ it ∧
      (∀ i v, its[i]? = some v → ∀ (s₃ : Shared) (C : Addr) oC m₂ (E' : Value → Shared → Prop), s₃.gens = s₁.gens → LCg.NsObj oC m₂ → m₂ x2 = some v → Fr h₀ L s₃.heap m → News h₀ L s₃.heap ((C, oC) :: news) → (∀ p ∈ news, p.1 ≠ C) →
        wpAny (model prog w) A (isTrue ct (compEnvC scope cl C env) (eval ct (compEnvC scope cl C env))) (TestEnd s₃ (qi i)) E' s₃) ∧
      (∀ g ys, IntsAre ys (idx qi its.size) → LCg.FinA h₀ L m { s₁ with heap := g } y Q ys news)) E s)
    (hs : ∀ x, foldedSetIterable iter env x = pure x := by intro _; rfl) :
    wpAny (model prog w) A (exec (.Assign [.Name y py] (.ListComp (.Name x1 pe) [⟨.Tuple [.Name x1 p1, .Name x2 p2] kk tp, iter, [ct], 0⟩] scope pos) spos) env) Q E s := by
  subst hLe
  rw [exec_Assign_Name_used _ _ _ _ hsw]
  refine wpAny_bind (wpAny_standAt (wpAny_bind ?_))
  show wpAny _ A (do let _ ← comprehension (.ListComp (.Name x1 pe) [⟨.Tuple [.Name x1 p1, .Name x2 p2] kk tp, iter, [ct], 0⟩] scope pos) scope env _ (newList []) false (eval iter env) (some (assign (.Name y py) env))) _ _ s
  refine wpAny_bind (wpAny_mono (wpAny_comprehension_free (use := some (assign (.Name y py) env)) (Q := fun _ s' => Q .next s') rfl hs hclos hkind hnames
    (wpAny_mono h (fun xv s₁ h₁ => ?_) fun _ _ e => e)) (fun _ s' hq => wpAny_pure (wpAny_pure hq)) fun _ _ e => e)
  obtain ⟨e, it, l, its, n, qi, news, rfl, hh, F, N, hml, hsz, he, hit, hei, hoff, hge, hgi, hLE, hLI, htest, hfin⟩ := h₁
  have hl : s₁.heap.IsList l its := ⟨_, (N _ hml).1, rfl, n, rfl⟩
  have hle := (hoff _ hml).1
  have hli := (hoff _ hml).2
  refine wpAny_pyIter_enum he ?_
  refine wpAny_newObj_type (wpAny_newFunctionEnv hcell (by intro z hz; simp at hz) (fun h₁ hns₁ hsb₁ => ?_) hkind)
  dsimp only at hns₁ hsb₁ ⊢
  generalize hH2 : s₁.heap.push { cls := .type "list", dict := none, data := .seq ([] : List Value).toArray } = H2 at hns₁ hsb₁ ⊢
  have hC : H2.objs.size = s₁.heap.objs.size + 1 := by rw [← hH2, Heap.size_push]
  have hDC : s₁.heap.objs.size ≠ H2.objs.size := by rw [hC]; exact Nat.ne_of_lt (Nat.lt_succ_self _)
  have below : ∀ b, b < s₁.heap.objs.size → b ≠ H2.objs.size ∧ b ≠ s₁.heap.objs.size := fun b hb => ⟨by rw [hC]; exact Nat.ne_of_lt (Nat.lt_succ_of_lt hb), Nat.ne_of_lt hb⟩
  have old : ∀ b o, s₁.heap.get? b = some o → h₁.get? b = some o := fun b o q => hsb₁.extBut b o (below b (Heap.lt_size q)).1 (Heap.get?_push_of_some _ (hH2 ▸ Heap.get?_push_of_some _ q))
  have hacc : h₁.get? s₁.heap.objs.size = some (LCg.lst []) := hsb₁.extBut _ _ hDC (Heap.get?_push_of_some _ (hH2 ▸ Heap.get?_push_size _ rfl))
  have fresh : ∀ a, s₁.heap.objs.size ≤ a → s₁.heap.get? a = none := fun a ha => by
    cases q : s₁.heap.get? a with
    | none => rfl
    | some o' => exact absurd (Heap.lt_size q) (Nat.not_lt.mpr ha)
  have fresh₀ : ∀ a, s₁.heap.objs.size ≤ a → h₀.get? a = none := fun a ha => by
    cases q : h₀.get? a with
    | none => rfl
    | some o' => have := F.keep a o' q; rw [fresh a ha] at this; cases this
  have hD₀ : h₀.get? s₁.heap.objs.size = none := fresh₀ _ (Nat.le_refl _)
  have hC₀ : h₀.get? H2.objs.size = none := fresh₀ _ (by rw [hC]; exact Nat.le_succ _)
  have hLlt : env.locals < s₁.heap.objs.size := F.ns.lt
  have hDL : s₁.heap.objs.size ≠ env.locals := Ne.symm (below _ hLlt).2
  have hCL : H2.objs.size ≠ env.locals := Ne.symm (below _ hLlt).1
  have helt : e < s₁.heap.objs.size := Heap.lt_size he
  have hilt : it < s₁.heap.objs.size := by obtain ⟨_, q, _⟩ := hit; exact Heap.lt_size q
  have hllt : l < s₁.heap.objs.size := by obtain ⟨_, q, _⟩ := hl; exact Heap.lt_size q
  have W := WalksT.enumerate (prog := prog) (w := w) (A := A) hh e it l hei hle hli its
  have offC : ∀ p ∈ news, p.1 ≠ H2.objs.size ∧ p.1 ≠ s₁.heap.objs.size := fun p hp => below _ (Heap.lt_size (N p hp).1)
  have loop : ∀ s₃ : Shared, s₃ = { s₁ with heap := h₁, toks := s₁.toks + ([] : List (Str × Value)).length } →
      codeAny (model prog w) A (.compLoop (.ListComp (.Name x1 pe) [⟨.Tuple [.Name x1 p1, .Name x2 p2] kk tp, iter, [ct], 0⟩] scope pos) 0 (.ref e) (.ref s₁.heap.objs.size) (compEnvC scope cl H2.objs.size env))
        (compPost (model prog w) A E (some (assign (.Name y py) env)) (fun _ s' => Q .next s') (.ref s₁.heap.objs.size) H2.objs.size) s₃ := by
    rintro s₃ rfl
    refine kct_loop
      (fun k s' => ∃ h' tk i ys m', s' = { s₁ with heap := h', toks := tk } ∧ i ≤ its.size ∧ k = its.size + 1 - i ∧ IntsAre ys (idx qi i) ∧ ((∃ old, IsEnum h' e it i old) ∧ h'.IsListIter it l i ∧ h'.IsList l its) ∧ Fr h₀ env.locals h' m ∧ h'.Ns H2.objs.size m' ∧
        News h₀ env.locals h' ((s₁.heap.objs.size, LCg.lst ys) :: news)) ?_ (its.size + 1)
      ⟨h₁, _, 0, [], _, rfl, Nat.zero_le _, rfl, .nil, ⟨⟨_, old _ _ he⟩, hit.at fun o q => old _ o q, hl.at fun o q => old _ o q⟩, F.keeps old, hns₁, fun p hp => ?_⟩
    · rintro k s' ⟨h', tk, i, ys, m', rfl, hi, rfl, hys, hst', F', hn', N'⟩
      have hyl : ys.length ≤ i := by rw [hys.length]; unfold idx; rw [List.length_map]; exact Nat.le_trans (List.length_filter_le _ _) (by simp)
      by_cases hlt : i < its.size
      · refine W.item i _ _ _ hlt hst' fun T vals h₂ tk₂ hPv hT hTt hMid hk₂ => ?_
        obtain ⟨t, x, hx, rfl⟩ := hPv
        have hTe := W.apart _ _ _ hMid
        refine W.go _ _ _ i T _ _ _ hMid fun h₃ hst₃ hk₃ => ?_
        have hTt₃ : h₃.IsTuple T #[.int i t, x] := by obtain ⟨o, q, r⟩ := hTt; exact ⟨o, hk₃ _ _ hTe q, r⟩
        have keep3 : ∀ b o, b ≠ e → b ≠ it → h'.get? b = some o → h₃.get? b = some o := fun b o hb hb' q => hk₃ b o (by simp [hb, hb']) (hk₂ b o (by simp [hb, hb']) q)
        have hCe : H2.objs.size ≠ e := Ne.symm (below e helt).1
        have hCi : H2.objs.size ≠ it := Ne.symm (below it hilt).1
        have hDe : s₁.heap.objs.size ≠ e := Ne.symm (below e helt).2
        have hDi : s₁.heap.objs.size ≠ it := Ne.symm (below it hilt).2
        refine kcp_assign hh hTt₃ (lookup_relabel_local hx1) (lookup_relabel_local hx2) (by simp [compEnvC, relabel, hkind]) (hn'.at' fun o q => keep3 _ o hCe hCi q) fun h₄ tk₄ hn₄ hk₄ => ?_
        have keep4 : ∀ b o, b ≠ e → b ≠ it → b ≠ H2.objs.size → h'.get? b = some o → h₄.get? b = some o := fun b o hb hb' hb'' q => hk₄ b o hb'' (keep3 b o hb hb' q)
        have F₄ : Fr h₀ env.locals h₄ m := ⟨F'.ns.at' fun o q => keep4 _ o hLE hLI (Ne.symm hCL) q, fun b o q => keep4 b o (fun z => by rw [z, hge] at q; cases q) (fun z => by rw [z, hgi] at q; cases q) (fun z => by rw [z, hC₀] at q; cases q) (F'.keep b o q), F'.above⟩
        have N₄ : News h₀ env.locals h₄ ((s₁.heap.objs.size, LCg.lst ys) :: news) := fun p hp => by
          have z := N' p hp
          rcases List.mem_cons.mp hp with rfl | hp
          · exact ⟨keep4 _ _ hDe hDi hDC z.1, z.2⟩
          · exact ⟨keep4 _ _ (hoff p hp).1 (hoff p hp).2 (offC p hp).1 z.1, z.2⟩
        have st₄ : (∃ old, IsEnum h₄ e it ((i + 1 : Nat) : Int) old) ∧ h₄.IsListIter it l (i + 1) ∧ h₄.IsList l its := by
          obtain ⟨⟨old', q1⟩, q2, q3⟩ := hst₃
          exact ⟨⟨old', hk₄ _ _ (Ne.symm hCe) q1⟩, q2.at fun o q => hk₄ _ o (Ne.symm hCi) q, q3.at fun o q => hk₄ _ o (below l hllt).1 q⟩
        obtain ⟨oC, heC, hoC⟩ := LCg.ns_obj hn₄
        refine wpAny_mono (htest i x hx { s₁ with heap := h₄, toks := tk₄ } H2.objs.size oC _ _ rfl hoC (by simp) F₄ (fun p hp => ?_) fun p hp => (offC p hp).1) (fun ok s₄ hok => ?_) fun _ _ e => e
        · rcases List.mem_cons.mp hp with rfl | hp
          · exact ⟨heC, hCL, hC₀⟩
          · exact N₄ p (List.mem_cons_of_mem _ hp)
        · obtain ⟨rfl, tk₅, rfl⟩ := hok
          cases hq : qi i with
          | false =>
            rw [if_neg (by simp)]
            exact ⟨its.size + 1 - (i + 1), by omega, h₄, tk₅, i + 1, ys, _, rfl, hlt, rfl, by rw [idx_succ, hq]; simpa using hys, st₄, F₄, hn₄, N₄⟩
          | true =>
            rw [if_pos rfl]
            refine wpAny_Name (wpAny_loadName_local (by simp [compEnvC, relabel, hkind]) (lookup_relabel_local hx1) hn₄ (show (if x1 = x2 then some x else if x1 = x1 then some (Value.int i t) else m' x1) = some (.int i t) by rw [if_neg hx12, if_pos rfl]) ?_) hd1
            refine append_at (hsz := by show ys.toArray.size ≤ sizeLine; rw [List.size_toArray]; exact Nat.le_trans hyl (Nat.le_trans hi hsz)) (N₄ _ (.head _)).1 fun h₅ hs₅ hD₅ => ?_
            have hDl : l ≠ s₁.heap.objs.size := (below l hllt).2
            refine ⟨its.size + 1 - (i + 1), by omega, h₅, tk₅, i + 1, ys ++ [.int i t], _, rfl, hlt, rfl, ?_, ?_, F₄.change hs₅ hDL hD₀, hn₄.sameBut hs₅ (Ne.symm hDC), fun p hp => ?_⟩
            · rw [idx_succ, hq]; exact ints_snoc hys _ t
            · obtain ⟨⟨old', q1⟩, q2, q3⟩ := st₄
              exact ⟨⟨old', hs₅.extBut _ _ (Ne.symm hDe) q1⟩, q2.extBut hs₅.extBut (Ne.symm hDi), q3.extBut hs₅.extBut hDl⟩
            · rcases List.mem_cons.mp hp with rfl | hp
              · exact ⟨hD₅.trans (congrArg some (LCg.lst_snoc ys _)), hDL, hD₀⟩
              · exact ⟨hs₅.extBut _ _ (offC p hp).2 (N₄ p (List.mem_cons_of_mem _ hp)).1, (N' p (List.mem_cons_of_mem _ hp)).2⟩
      · obtain rfl : i = its.size := Nat.le_antisymm hi (Nat.not_lt.mp hlt)
        refine W.done _ _ _ hst' fun h₂ tk₂ hk₂ => ?_
        have keep2 : ∀ b o, b ≠ e → b ≠ it → h'.get? b = some o → h₂.get? b = some o := fun b o hb hb' q => hk₂ b o (by simp [hb, hb']) q
        have F₂ : Fr h₀ env.locals h₂ m := ⟨F'.ns.at' fun o q => keep2 _ o hLE hLI q, fun b o q => keep2 b o (fun z => by rw [z, hge] at q; cases q) (fun z => by rw [z, hgi] at q; cases q) (F'.keep b o q), F'.above⟩
        have N₂ : News h₀ env.locals h₂ ((s₁.heap.objs.size, LCg.lst ys) :: news) := fun p hp => by
          have z := N' p hp
          rcases List.mem_cons.mp hp with rfl | hp
          · exact ⟨keep2 _ _ (Ne.symm (below e helt).2) (Ne.symm (below it hilt).2) z.1, z.2⟩
          · exact ⟨keep2 _ _ (hoff p hp).1 (hoff p hp).2 z.1, z.2⟩
        show wpAny _ A (assign (.Name y py) env (.ref s₁.heap.objs.size)) _ _ _
        refine wpAny_assign_Name (wpAny_storeName_local hy F₂.ns (fun h₃ hn₃ hs₃ => ?_) hp)
        have hL₀ : h₀.get? env.locals = none := Heap.get?_none_of_le F'.above
        have F₃ : Fr h₀ env.locals h₃ (fun z => if z = y then some (.ref s₁.heap.objs.size) else m z) := ⟨hn₃, fun b o q => hs₃.extBut b o (fun z => by rw [z, hL₀] at q; cases q) (F₂.keep b o q), F'.above⟩
        have hnC : h₂.Ns H2.objs.size m' := hn'.at' fun o q => keep2 _ o (Ne.symm (below e helt).1) (Ne.symm (below it hilt).1) q
        refine ⟨m', hnC.sameBut hs₃ hCL, fun h'' hs'' => hfin h'' ys hys s₁.heap.objs.size h'' _ (F₃.change hs'' hCL hC₀) (fun p hp => ?_) ?_⟩
        · have z := N₂ p hp
          refine ⟨hs''.extBut _ _ ?_ (hs₃.extBut _ _ z.2.1 z.1), z.2⟩
          rcases List.mem_cons.mp hp with rfl | hp
          · exact hDC
          · exact (offC p hp).1
        · have : ∀ q : List (Addr × Obj), (∀ p ∈ q, p.1 ≠ s₁.heap.objs.size) → LCg.Off1 s₁.heap.objs.size q := fun q => by
            induction q with
            | nil => intro _; trivial
            | cons a r ih => intro hq; exact ⟨hq a (.head _), ih fun p hp => hq p (.tail _ hp)⟩
          exact this _ fun p hp => (offC p hp).2
    · rcases List.mem_cons.mp hp with rfl | hp
      · exact ⟨hacc, hDL, hD₀⟩
      · exact ⟨old _ _ (N p hp).1, (N p hp).2⟩
  exact codeAny_compStart_list (loop _ rfl) (wpAny_pyIter_enum (old _ _ he) (loop _ rfl))

theorem enum_call {l : Addr} {its : Array Value} {n : Nat} {Q : Value → Shared → Prop} (F : Fr h₀ L s.heap m) (N : News h₀ L s.heap news) (hml : (l, listOf its n) ∈ news)
    (h : ∀ (e it : Addr) (h' : Heap), Fr h₀ L h' m → News h₀ L h' news → IsEnum h' e it 0 .none → h'.IsListIter it l 0 → e ≠ it → (∀ p ∈ news, p.1 ≠ e ∧ p.1 ≠ it) → h₀.get? e = none → h₀.get? it = none → L ≠ e → L ≠ it → Q (.ref e) { s with heap := h' }) :
    wpAny (model prog w) A (call (.type "enumerate") [.ref l]) Q E s := by
  refine call_enumerate_1 (N _ hml).1 fun h' he hit hz hk => ?_
  have fresh : ∀ a, s.heap.objs.size ≤ a → h₀.get? a = none := fun a ha => by
    cases q : h₀.get? a with
    | none => rfl
    | some o' => exact absurd (Heap.lt_size (F.keep a o' q)) (Nat.not_lt.mpr ha)
  have hLlt : L < s.heap.objs.size := F.ns.lt
  refine h _ _ h' (F.keeps hk) (N.grown hk) he hit (Nat.succ_ne_self _) (fun p hp => ?_) (fresh _ (Nat.le_succ _)) (fresh _ (Nat.le_refl _)) (Nat.ne_of_lt (Nat.lt_succ_of_lt hLlt)) (Nat.ne_of_lt hLlt)
  have z := Heap.lt_size (N p hp).1
  exact ⟨Nat.ne_of_lt (Nat.lt_succ_of_lt z), Nat.ne_of_lt z⟩
end
abbrev cellInt {o : Obj} {v : Int} {t : Tok} (_ : o.data = Data.cell (some (Value.int v t))) : Int := v
end Mine

namespace Mine
open PySem PySem.W PyProof.Rows PySem.Calls
set_option maxRecDepth 100000
set_option maxHeartbeats 8000000
theorem top_off_Dupes : True := by
  w_top off
  exact trivial
def StopW (P : Prop) : Prop := P
theorem stop_here {P : Prop} (h : StopW P) : P := h
theorem stop_out {P : Prop} (h : P) : StopW P := h

theorem is_lists {M : Model} {A : Around} {E : Value → Shared → Prop} {s : Shared} {a b : Addr} {ia ib : Array Value} {na nb : Nat} {Q : Value → Shared → Prop} (ha : s.heap.get? a = some (listOf ia na)) (hb : s.heap.get? b = some (listOf ib nb))
    (h : Q (.bool (decide (a = b))) s) : wpAny M A (compareOp .Is (.ref a) (.ref b)) Q E s := by
  show wpAny M A (isSame (.ref a) (.ref b) >>= fun x => pure (.bool x)) Q E s
  refine wpAny_bind ?_
  unfold isSame
  dsimp only
  by_cases e : a = b
  · subst e
    rw [if_pos (by simp)]
    rw [decide_eq_true rfl] at h
    exact wpAny_pure (wpAny_pure h)
  · rw [if_neg (by simpa using e)]
    rw [decide_eq_false e] at h
    exact wpAny_bind (wpAny_load ha (wpAny_bind (wpAny_load hb (wpAny_pure (wpAny_pure h)))))

/-- the locals of has_dupes -/
abbrev dm (sv tv : Value) (cnt : Int) (tc : Tok) (it : Option Value) : Str → Option Value := fun y => if y = Str.ofString "c" then some (.int cnt tc) else if y = Str.ofString "item" then it else if y = Str.ofString "sequence" then some sv else if y = Str.ofString "target" then some tv else none

/-- where a turn of has_dupes ends -/
def DupEnd (g : Heap) (L I : Addr) (oI : Obj) (sv : Value) (b : Addr) (cnt : Nat) (hit : Bool) (s₂ : Shared) (f : Flow) (s' : Shared) : Prop :=
  ∃ h' tk m', s' = { s₂ with heap := h', toks := tk } ∧ Fr g L h' m' ∧ News g L h' [(I, oI)] ∧
    ((f = .next ∧ (∃ tc it, ∀ y, m' y = dm sv (.ref b) ((if hit then cnt + 1 else cnt : Nat) : Int) tc it y) ∧ (hit = true → cnt = 0)) ∨ (f = .ret (.bool true) ∧ hit = true ∧ cnt = 1))
theorem DupEnd.next {g : Heap} {L I : Addr} {oI : Obj} {sv : Value} {b : Addr} {cnt : Nat} {hit : Bool} {s₂ : Shared} {h' : Heap} {tk : Nat} {m' : Str → Option Value} {c : Int} {tc : Tok} {it : Option Value} (F : Fr g L h' m') (N : News g L h' [(I, oI)])
    (hc : c = ((if hit then cnt + 1 else cnt : Nat) : Int)) (hm : ∀ y, m' y = dm sv (.ref b) c tc it y) (h0 : hit = true → cnt = 0) : DupEnd g L I oI sv b cnt hit s₂ .next { s₂ with heap := h', toks := tk } := by
  subst hc; exact ⟨h', tk, m', rfl, F, N, .inl ⟨rfl, ⟨tc, it, hm⟩, h0⟩⟩
theorem DupEnd.ret {g : Heap} {L I : Addr} {oI : Obj} {sv : Value} {b : Addr} {cnt : Nat} {hit : Bool} {s₂ : Shared} {h' : Heap} {tk : Nat} {m' : Str → Option Value} (F : Fr g L h' m') (N : News g L h' [(I, oI)]) (h1 : hit = true) (h2 : cnt = 1) :
    DupEnd g L I oI sv b cnt hit s₂ (.ret (.bool true)) { s₂ with heap := h', toks := tk } := ⟨h', tk, m', rfl, F, N, .inr ⟨rfl, h1, h2⟩⟩

theorem count_take_succ (as : List Addr) (b : Addr) (i : Nat) (a : Addr) (h : as[i]? = some a) : (as.take (i + 1)).count b = (as.take i).count b + (if a = b then 1 else 0) := by
  rw [List.take_add_one, h, List.count_append]
  by_cases e : a = b
  · subst e; simp
  · simp [e]

theorem dup_loop {prog : Program} {w : World} {A : Around} {s : Shared} {g : Heap} {L I b : Addr} {fp : List Addr} {n : Nat} {P : Nat → Value → Prop} {St : Nat → Heap → Prop} {D : Heap → Prop} {as : List Addr} {env : Env} {body : List Stmt} {px : Pos} {sv : Value} {tc0 : Tok} {R : Result → Shared → Prop}
    (hL : env.locals = L) (hitem : env.kindOf (Str.ofString "item") = some .local) (hpp : (env.scope.kind == .class || (env.scope.kind == .module && env.locals != env.globals)) = false)
    (W : Walks prog w A I fp [I] n P St) (hn : n = as.length) (hP : ∀ i v, P i v → ∃ a, as[i]? = some a ∧ v = .ref a)
    (hfp : ∀ q ∈ fp, q = I ∨ ∃ o, g.get? q = some o) (hIg : g.get? I = none) (hIL : I ≠ L) (hSt : ∀ i h, St i h → ∃ o, h.get? I = some o)
    (hdone : ∀ (s : Shared) (Q : Option Value → Shared → Prop) (E : Value → Shared → Prop), St n s.heap → (∀ h' tk, D h' → (∀ b o, b ≠ I → s.heap.get? b = some o → h'.get? b = some o) → Q none { s with heap := h', toks := tk }) → wpAny (model prog w) A (pyNext (.ref I)) Q E s)
    (hturn : ∀ a ∈ as, ∀ (cnt : Nat) tc (s₂ : Shared) oI, s₂.gens = s.gens → cnt ≤ 1 → Fr g L s₂.heap (dm sv (.ref b) cnt tc (some (.ref a))) → News g L s₂.heap [(I, oI)] →
      wpAny (model prog w) A (execs body env) (DupEnd g L I oI sv b cnt (decide (a = b)) s₂) (notedBy (model prog w) A env fun e s' => R (.error e) s') s₂)
    (F : Fr g L s.heap (dm sv (.ref b) 0 tc0 none)) (hst : St 0 s.heap)
    (hT : ∀ i h' tk m', (as.take i).count b = 1 → as[i]? = some b → St (i + 1) h' → Fr g L h' m' → R (.ok (.ret (.bool true))) { s with heap := h', toks := tk })
    (hF : ∀ h' tk cnt tc it, as.count b ≤ 1 → D h' → Fr g L h' (dm sv (.ref b) cnt tc it) → R (.ok .next) { s with heap := h', toks := tk }) :
    codeAny (model prog w) A (.forLoop (.Name (Str.ofString "item") px) (.ref I) body [] env) R s := by
  subst hL
  refine codeAny_forLoop_any (fun k s' => ∃ h' tk i cnt tc it, s' = { s with heap := h', toks := tk } ∧ i ≤ n ∧ k = n - i ∧ St i h' ∧ Fr g env.locals h' (dm sv (.ref b) ((cnt : Nat) : Int) tc it) ∧ cnt = (as.take i).count b ∧ cnt ≤ 1) ?_ n
    ⟨s.heap, s.toks, 0, 0, tc0, none, rfl, Nat.zero_le _, rfl, hst, F, by simp, by omega⟩
  rintro k s' ⟨h', tk, i, cnt, tc, it, rfl, hi, rfl, hst', F', hc, hc1⟩
  have hLI : ∀ b o, g.get? b = some o → b ≠ I := fun b o e q => by rw [q, hIg] at e; cases e
  by_cases hlt : i < n
  · refine W.item i _ _ _ hlt hst' fun v h₂ tk₂ hPv hst₂ hk₂ => ?_
    obtain ⟨a, ha, rfl⟩ := hP i v hPv
    show wpAny _ A (pure ()) _ _ _
    refine wpAny_pure ?_
    have F₂ : Fr g env.locals h₂ (dm sv (.ref b) cnt tc it) := ⟨F'.ns.at' fun o e => hk₂ _ o (by simpa using Ne.symm hIL) e, fun b o e => hk₂ b o (by simpa using hLI b o e) (F'.keep b o e), F'.above⟩
    refine wpAny_assign_Name (wpAny_storeName_local hitem F₂.ns (fun h₃ hn₃ hs₃ => ?_) hpp)
    have hL₀ : g.get? env.locals = none := Heap.get?_none_of_le F'.above
    have F₃ : Fr g env.locals h₃ (dm sv (.ref b) cnt tc (some (.ref a))) := by
      refine ⟨?_, fun b o e => hs₃.extBut b o (fun q => by rw [q, hL₀] at e; cases e) (F₂.keep b o e), F'.above⟩
      have : (fun y => if y = Str.ofString "item" then some (Value.ref a) else dm sv (.ref b) cnt tc it y) = dm sv (.ref b) cnt tc (some (.ref a)) := by
        funext y
        unfold dm
        by_cases h1 : y = Str.ofString "c"
        · subst h1
          rw [if_neg (by decide)]
          simp
        · by_cases h2 : y = Str.ofString "item"
          · subst h2; simp; decide
          · simp [h1, h2]
      rw [← this]; exact hn₃
    have hst₃ : St (i + 1) h₃ := W.frame _ _ _ hst₂ fun q hq o e => by
      refine hs₃.extBut q o (fun z => ?_) e
      rcases hfp q hq with e' | ⟨o', e'⟩
      · exact hIL (e'.symm.trans z)
      · rw [z, hL₀] at e'; cases e'
    obtain ⟨oI, heI⟩ := hSt _ _ hst₃
    have N₃ : News g env.locals h₃ [(I, oI)] := fun p hp => by cases List.mem_singleton.mp hp; exact ⟨heI, hIL, hIg⟩
    have hcs := count_take_succ as b i a ha
    refine wpAny_mono (hturn a (List.mem_of_getElem? ha) cnt tc { s with heap := h₃, toks := tk₂ + 1 } oI rfl hc1 F₃ N₃) (fun f s₃ hf => ?_) fun _ _ e => e
    obtain ⟨h₄, tk₄, m', rfl, F₄, N₄, hf⟩ := hf
    have hst₄ : St (i + 1) h₄ := W.frame _ _ _ hst₃ fun q hq o e => by
      rcases hfp q hq with rfl | ⟨o', e'⟩
      · rw [heI] at e; cases e; exact (N₄ _ (.head _)).1
      · have z := F₃.keep _ _ e'
        rw [e] at z; cases z; exact F₄.keep _ _ e'
    rcases hf with ⟨rfl, ⟨tc', it', hm'⟩, h0⟩ | ⟨rfl, h1, h2⟩
    · have hm : m' = dm sv (.ref b) ((if decide (a = b) then cnt + 1 else cnt : Nat) : Int) tc' it' := funext hm'
      subst hm
      refine ⟨n - (i + 1), by omega, h₄, tk₄, i + 1, (if decide (a = b) then cnt + 1 else cnt : Nat), tc', it', rfl, hlt, rfl, hst₄, F₄, ?_, ?_⟩
      · rw [hcs, ← hc]
        by_cases e : a = b <;> simp [e]
      · by_cases e : a = b
        · have := h0 (by simp [e]); simp [e, this]
        · simp [e, hc1]
    · have e : a = b := by simpa using h1
      subst e
      exact hT i h₄ tk₄ m' (by omega) ha hst₄ F₄
  · obtain rfl : i = n := Nat.le_antisymm hi (Nat.not_lt.mp hlt)
    refine hdone _ _ _ hst' fun h₂ tk₂ hD hk₂ => ?_
    have F₂ : Fr g env.locals h₂ (dm sv (.ref b) cnt tc it) := ⟨F'.ns.at' fun o e => hk₂ _ o (Ne.symm hIL) e, fun b o e => hk₂ b o (hLI b o e) (F'.keep b o e), F'.above⟩
    refine wpAny_execs_nil ?_
    exact hF h₂ tk₂ cnt tc it (by rw [hn, List.take_length] at hc; omega) hD F₂

theorem fr_as {g h : Heap} {L : Addr} {m m' : Str → Option Value} (F : Fr g L h m) (e : ∀ y, m' y = m y) : Fr g L h m' := by
  have : m' = m := funext e
  rw [this]; exact F
theorem dm_start (sv tv : Value) (t : Tok) (y : Str) : dm sv tv 0 t none y = (if y = Str.ofString "c" then some (Value.int 0 t) else List.lookup y [(Str.ofString "sequence", sv), (Str.ofString "target", tv)].reverse) := by
  unfold dm
  show _ = (if y = Str.ofString "c" then _ else List.lookup y [(Str.ofString "target", tv), (Str.ofString "sequence", sv)])
  by_cases h1 : y = Str.ofString "c"
  · rw [if_pos h1, if_pos h1]
  · rw [if_neg h1, if_neg h1, List.lookup_cons, List.lookup_cons, List.lookup_nil]
    by_cases h2 : y = Str.ofString "item"
    · subst h2; rw [if_pos rfl, show (Str.ofString "item" == Str.ofString "target") = false by decide, show (Str.ofString "item" == Str.ofString "sequence") = false by decide]
    · rw [if_neg h2]
      by_cases h3 : y = Str.ofString "sequence"
      · subst h3; rw [if_pos rfl, show (Str.ofString "sequence" == Str.ofString "target") = false by decide]; simp
      · rw [if_neg h3]
        by_cases h4 : y = Str.ofString "target"
        · subst h4; rw [if_pos rfl]; simp
        · have e3 : (y == Str.ofString "sequence") = false := by simpa using h3
          have e4 : (y == Str.ofString "target") = false := by simpa using h4
          rw [if_neg h4, e3, e4]

local macro_rules | `(tactic| walk_at "exec For") => `(tactic| (k_here; refine stop_here ?_))
local macro_rules | `(tactic| walk_at "exec For Name Name cons nil") => `(tactic| (k_here; refine stop_here ?_))
local macro_rules | `(tactic| walk_at "pyIter") => `(tactic| (k_here; refine stop_here ?_))
local macro_rules | `(tactic| walk_at "compareOp Is ref ref") => `(tactic| (k_here; refine stop_here ?_))

theorem dupes_c {w : World} {mg mb : Str → Option Value} {mean : ExcName → Option Value} {G₀ : Heap} (X : (Mine.hd.heap_39 w.params).In G₀) (T : Top Mine.hd.view_39 LO mean mg mb G₀)
    {s : Shared} {sv : Value} {b : Addr} {as : List Addr} (xs : List (Addr × Obj)) (hG : ∀ b o, G₀.get? b = some o → s.heap.get? b = some o) (hx : ∀ q ∈ xs, s.heap.get? q.1 = some q.2 ∧ G₀.get? q.1 = none)
    (hl : ∀ a ∈ as, ∃ its n, s.heap.get? a = some (listOf its n)) (hlb : ∃ its n, s.heap.get? b = some (listOf its n)) (hal : ∀ a its n, s.heap.get? a = some (listOf its n) → a ∉ xs.map (·.1))
    (Tt : Nat → Heap → Prop) (Dd : Heap → Prop)
    (hit : ∀ (A : Around) (g : Heap) (L : Addr) (m : Str → Option Value) (s₂ : Shared) (Q E : Value → Shared → Prop), A.handled = none → Fr g L s₂.heap m → News g L s₂.heap xs → (∀ b o, s.heap.get? b = some o → b ∉ xs.map (·.1) → g.get? b = some o) →
      (∀ (I : Addr) (fp : List Addr) (n : Nat) (P : Nat → Value → Prop) (St : Nat → Heap → Prop) (h' : Heap), Walks PR w A I fp [I] n P St → n = as.length → (∀ i v, P i v → ∃ a, as[i]? = some a ∧ v = .ref a) → (∀ q ∈ fp, q = I ∨ ∃ o, g.get? q = some o) → g.get? I = none → I ≠ L →
        (∀ i h, St i h → ∃ o, h.get? I = some o) →
        (∀ (s : Shared) (Q : Option Value → Shared → Prop) (E : Value → Shared → Prop), St n s.heap → (∀ h' tk, Dd h' → (∀ b o, b ≠ I → s.heap.get? b = some o → h'.get? b = some o) → Q none { s with heap := h', toks := tk }) → wpAny (model PR w) A (pyNext (.ref I)) Q E s) →
        (∀ i h, St i h → Tt i h) → St 0 h' → Fr g L h' m → Q (.ref I) { s₂ with heap := h' }) → wpAny (model PR w) A (pyIter sv) Q E s₂)
    {R : Result → Shared → Prop}
    (hR : ∀ found h' tk, (∀ b o, s.heap.get? b = some o → b ∉ xs.map (·.1) → h'.get? b = some o) → (found = true → ∃ i, (as.take i).count b = 1 ∧ as[i]? = some b ∧ Tt (i + 1) h') → (found = false → as.count b ≤ 1 ∧ Dd h') →
      R (.ok (.ret (.bool found))) { s with heap := h', toks := tk }) :
    codeAny (model PR w) (ar 900 5000) (.call (.ref 265) ⟨[sv, .ref b], []⟩) R s := by
  refine' own_call (binds := [(Str.ofString "sequence", sv), (Str.ofString "target", .ref b)]) xs X T hG hx ?ho ?hcd ?hroom ?hbind ?hloc ?_ ?c2 ?c3 ?c4 ?c5
  case ho => k_is
  case hcd => k_is
  case hroom => decide
  case hbind => exact BindsTo.of_eq rfl
  case hloc => exact locs rfl
  case c5 => decide
  case c2 => exact rfl
  case c3 => exact rfl
  case c4 => exact rfl
  intro g L h₁ tk₁ F N Xg Tg hGg hk
  have hlg : ∀ a ∈ as, ∃ its n, g.get? a = some (listOf its n) := fun a ha => by
    obtain ⟨its, n, e⟩ := hl a ha
    exact ⟨its, n, hk _ _ e (hal _ _ _ e)⟩
  have hbg : ∃ its n, g.get? b = some (listOf its n) := by
    obtain ⟨its, n, e⟩ := hlb
    exact ⟨its, n, hk _ _ e (hal _ _ _ e)⟩
  clear hl hlb hal hx hG X T hGg
  (try dsimp only)
  (try k_fold)
  k_steps
  refine stop_out ?_
  refine wpAny_For ?_
  k_steps
  refine stop_out ?_
  refine hit _ g L _ _ _ _ rfl (by k_asm) (by k_asm) hk fun I fp n P St h3 W hn hP hfp hIg hIL hSt hdone hTt hst F3 => ?_
  refine dup_loop (by rfl) (by rfl) (by rfl) W hn hP hfp hIg hIL hSt hdone ?turn (fr_as F3 fun y => dm_start _ _ _ y) hst ?T ?F
  case turn =>
    intro a ha cnt tc s₂ oI hg hc F4 N4
    obtain ⟨ia, na, ea⟩ := hlg a ha
    obtain ⟨ib, nb, eb⟩ := hbg
    k_steps
    refine stop_out ?_
    refine is_lists (F4.keep _ _ ea) (F4.keep _ _ eb) ?_
    k_steps
    · exact DupEnd.ret (by assumption) (by assumption) (decide_eq_true (by assumption)) (by omega)
    · refine' DupEnd.next (c := (cnt : Int) + 1) (it := some (.ref a)) (by assumption) (by assumption) ?hc ?hm (fun _ => by omega)
      case hm =>
        intro y
        unfold dm
        by_cases h1 : y = Str.ofString "c"
        · rw [if_pos h1, if_pos h1]
        · rw [if_neg h1, if_neg h1, if_neg h1]
      case hc => rw [decide_eq_true (by assumption), if_pos rfl]; omega
    · exact DupEnd.next (h' := s₂.heap) (tk := s₂.toks) (c := cnt) (tc := tc) (it := some (.ref a)) F4 N4 (by rw [decide_eq_false (by assumption)]; rfl) (fun y => rfl) (fun h => absurd (of_decide_eq_true h) (by assumption))
  case T =>
    intro i h' tk m' c1 c2 st F4
    exact hR true h' tk (fun b o e hb => F4.keep b o (hk b o e hb)) (fun _ => ⟨i, c1, c2, hTt _ _ st⟩) (fun h => nomatch h)
  case F =>
    intro h' tk cnt tc it c1 hD F4
    k_steps
    exact hR false h' tk (fun b o e hb => F4.keep b o (hk b o e hb)) (fun h => nomatch h) (fun _ => ⟨c1, hD⟩)
end Mine

namespace Mine
open PySem PySem.W PyProof.Rows PySem.Calls
set_option maxRecDepth 100000
set_option maxHeartbeats 8000000
theorem top_off_Iter : True := by
  w_top off
  exact trivial
/-- a list's iterator that has come to its end -/
def DeadIt (h : Heap) (it : Addr) : Prop := ∃ o x, h.get? it = some o ∧ o.cls = .type "list_iterator" ∧ o.data = .fields #[.none, x]
section
variable {prog : Program} {w : World} {A : Around} {E : Value → Shared → Prop} {s : Shared} {h₀ : Heap} {L : Addr} {m : Str → Option Value} {env : Env} {news : List (Addr × Obj)}

theorem it_stop {it : Addr} {Q : Option Value → Shared → Prop} (hh : A.handled = none) (hT : s.TypeIs (.ref it) "list_iterator")
    (hB : ∀ (Q : Fin → Shared → Prop) (E : Value → Shared → Prop), (∀ h₁, Heap.SameBut it s.heap h₁ → DeadIt h₁ it → ∀ (α : Type) (Q' : α → Shared → Prop), wpAny (model prog w) A.in1 (Builtin.SmallTypes.stopIteration : Sem α) Q' E { s with heap := h₁ }) → wpAny (model prog w) A.in1 (Builtin.«list_iterator.__next__» ⟨[.ref it], []⟩) Q E s)
    (hQ : ∀ h', Heap.ExtBut it s.heap h' → DeadIt h' it → Q none { s with heap := h' }) : wpAny (model prog w) A (pyNext (.ref it)) Q E s := by
  unfold pyNext
  refine wpAny_bind (wpAny_attempt (wpAny_callSpecial?_slot (name := Str.ofString "__next__") hT slot_listiter_next
    (wpAny_call_entry slot_listiter_next hT entry_listiter_next ?_ (args_listiter_next _))))
  refine hB _ _ fun h₁ hs hd α Q' => ?_
  show wpAny _ _ (newExc (.type "StopIteration") [] >>= _) _ _ _
  refine wpAny_bind ?_
  simp only [newExc, newTuple]
  refine wpAny_bind (wpAny_newObj_type ?_ (by size_fits))
  refine wpAny_bind (m := firstArgMember _ _) (wpAny_of_eq (a := Value.none) (by first | rfl | (simp only [firstArgMember]; rfl)) ?_)
  refine wpAny_newObj_type ?_ (by size_fits)
  simp only [raiseNew]
  refine wpAny_bind (wpAny_handled ?_)
  rw [show A.in1.handled = none from hh]
  refine wpAny_bind (wpAny_pure (wpAny_throw ?_))
  refine wpAny_bind (wpAny_isInstance (T := "StopIteration") (b := true) ⟨_, Heap.get?_push_size _ rfl, rfl⟩ isSubtype_stop ?_)
  obtain ⟨o, x, e, r⟩ := hd
  exact wpAny_pure (hQ _ ((hs.extBut.push _).push _) ⟨o, x, Heap.get?_push_of_some _ (Heap.get?_push_of_some _ e), r⟩)

theorem it_end {it l : Addr} {i : Nat} {items : Array Value} {Q : Option Value → Shared → Prop} (hh : A.handled = none) (hit : s.heap.IsListIter it l i) (hl : s.heap.IsList l items) (hx : items[i]? = none)
    (hQ : ∀ h', Heap.ExtBut it s.heap h' → DeadIt h' it → Q none { s with heap := h' }) : wpAny (model prog w) A (pyNext (.ref it)) Q E s := by
  refine it_stop hh hit.typeIs (fun Q E k => ?_) hQ
  obtain ⟨o, ho, hc, hd⟩ := id hit
  obtain ⟨ol, hol, _, nl, hdl⟩ := hl
  show wpAny _ _ (field (.ref it) 0 >>= _) _ _ s
  refine wpAny_bind (wpAny_field ho hd (x := .ref l) rfl ?_)
  show wpAny _ _ (if (Value.ref l == Value.none) = true then _ else _) _ _ s
  rw [if_neg (show ¬ ((Value.ref l == Value.none) = true) from Bool.false_ne_true)]
  show wpAny _ _ (field (.ref it) 1 >>= _) _ _ s
  refine wpAny_bind (wpAny_field ho hd (x := .int i 0) rfl ?_)
  show wpAny _ _ (seqItems? (.ref l) >>= _) _ _ s
  refine wpAny_bind (wpAny_seqItems hol hdl ?_)
  simp only [Int.toNat_natCast, hx]
  refine wpAny_bind (wpAny_rule (wpAny_bind (wpAny_setField ho hd (by simp) ?_)))
  refine k _ (Heap.SameBut.update ..) ⟨_, .int i 0, Heap.get?_update_self _ ho (Obj.isFreed_of_fields (Obj.data_mapFields hd _)), (Obj.cls_mapFields ..).trans hc, ?_⟩ _ _
  · rw [Obj.data_mapFields hd]; simp

theorem it_dead {it : Addr} {Q : Option Value → Shared → Prop} (hh : A.handled = none) (hd : DeadIt s.heap it)
    (hQ : ∀ h', Heap.ExtBut it s.heap h' → DeadIt h' it → Q none { s with heap := h' }) : wpAny (model prog w) A (pyNext (.ref it)) Q E s := by
  obtain ⟨o, x, ho, hc, hdt⟩ := id hd
  refine it_stop hh ⟨o, ho, hc⟩ (fun Q E k => ?_) hQ
  show wpAny _ _ (field (.ref it) 0 >>= _) _ _ s
  refine wpAny_bind (wpAny_field ho hdt (x := .none) rfl ?_)
  show wpAny _ _ (if (Value.none == Value.none) = true then _ else _) _ _ s
  rw [if_pos (show (Value.none == Value.none) = true from by decide)]
  refine wpAny_bind (wpAny_rule ?_)
  exact wpAny_bind (k s.heap (Heap.SameBut.refl _ _) hd _ _)
end
end Mine

namespace Mine
open PySem PySem.W PyProof.Rows PySem.Calls
set_option maxRecDepth 100000
set_option maxHeartbeats 8000000
theorem top_off_DupR : True := by
  w_top off
  exact trivial
abbrev refs (as : List Addr) : List Value := as.map Value.ref
theorem refs_get (as : List Addr) (i : Nat) (v : Value) (h : (refs as).toArray[i]? = some v) : ∃ a, as[i]? = some a ∧ v = .ref a := by
  rw [List.getElem?_toArray, List.getElem?_map] at h
  cases e : as[i]? with
  | none => rw [e] at h; cases h
  | some a => rw [e] at h; cases h; exact ⟨a, rfl, rfl⟩
theorem count_two (as : List Addr) (b : Addr) (i : Nat) (h1 : (as.take i).count b = 1) (h2 : as[i]? = some b) : 1 < as.count b := by
  have h := count_take_succ as b i b h2
  rw [if_pos rfl, h1] at h
  have : (as.take (i + 1)).count b ≤ as.count b := (List.take_sublist _ _).count_le _
  omega
section
variable {w : World} {mg mb : Str → Option Value} {mean : ExcName → Option Value} {g : Heap} {L : Addr} {m : Str → Option Value} {news : List (Addr × Obj)} {A : Around} {s : Shared} {Q E : Value → Shared → Prop}

theorem fr_all {h h' : Heap} (F : Fr g L h m) (hk : ∀ b o, h.get? b = some o → h'.get? b = some o) : Fr g L h' m := F.keeps hk

theorem dupes_list_r (X : (Mine.hd.heap_39 w.params).In g) (T : Top Mine.hd.view_39 LO mean mg mb g) (F : Fr g L s.heap m) (N : News g L s.heap news) {l b : Addr} {as : List Addr} {nl : Nat} {ib : Array Value} {nb : Nat}
    (hl : (l, listOf (refs as).toArray nl) ∈ news) (hb : (b, listOf ib nb) ∈ news) (hal : ∀ a ∈ as, ∃ its n, (a, listOf its n) ∈ news) (h0 : A.handled = none) (hd : A.depth ≤ 900) (hu : A.units ≤ 5000)
    (h : ∀ h' tk, Fr g L h' m → News g L h' news → Q (.bool (decide (1 < as.count b))) { s with heap := h', toks := tk }) :
    wpAny (model PR w) A (call (.ref 265) [.ref l, .ref b] []) Q E s := by
  refine wpAny_call (codeAny_wk (dupes_c X T (as := as) [] F.keep (fun q hq => nomatch hq) (fun a ha => ?_) ⟨ib, nb, (N _ hb).1⟩ (fun a _ _ _ hm => nomatch hm) (fun _ _ => True) (fun _ => True) ?_ ?_) h0 hd hu)
  · obtain ⟨its, n, hm⟩ := hal a ha
    exact ⟨its, n, (N _ hm).1⟩
  · intro A g' L' m' s₂ Q E hh F' N' hk k
    have e := F'.keep _ _ (hk _ _ (N _ hl).1 (fun hm => nomatch hm))
    have hli : s₂.heap.IsList l (refs as).toArray := ⟨_, e, rfl, nl, rfl⟩
    have hlt : l < s₂.heap.objs.size := Heap.lt_size e
    have W := Walks.list (prog := PR) (w := w) hh s₂.heap.objs.size l (Nat.ne_of_lt hlt) (refs as).toArray
    refine wpAny_pyIter_list hli ?_
    refine k _ _ _ _ _ _ W (by simp) (refs_get as) (fun q hq => ?_) (next_is_new F') (Nat.ne_of_gt F'.ns.lt) (fun i h st => by obtain ⟨o, e, _⟩ := st.1; exact ⟨o, e⟩) (fun s Q E st kk => W.done s Q E st fun h' tk hk' => kk h' tk trivial fun b o hb e => hk' b o (by simpa using hb) e) (fun _ _ _ => trivial)
      ⟨⟨_, Heap.get?_push_size _ rfl, rfl, rfl⟩, hli.push _⟩ (F'.push _)
    rcases List.mem_cons.mp hq with rfl | hq
    · exact .inl rfl
    · cases List.mem_singleton.mp hq; exact .inr ⟨_, hk _ _ (N _ hl).1 (fun hm => nomatch hm)⟩
  · intro found h' tk hk h1 h2
    have hk' : ∀ b o, s.heap.get? b = some o → h'.get? b = some o := fun b o e => hk b o e (fun hm => nomatch hm)
    have e : found = decide (1 < as.count b) := by
      cases found with
      | true => obtain ⟨i, c1, c2, _⟩ := h1 rfl; exact (decide_eq_true (count_two as b i c1 c2)).symm
      | false => exact (decide_eq_false (Nat.not_lt.mpr (h2 rfl).1)).symm
    subst e
    exact h h' tk (F.keeps hk') (N.grown hk')

theorem dupes_tup_r (X : (Mine.hd.heap_39 w.params).In g) (T : Top Mine.hd.view_39 LO mean mg mb g) (F : Fr g L s.heap m) (N : News g L s.heap news) {l b : Addr} {as : List Addr} {nl : Nat} {ib : Array Value} {nb : Nat}
    (hl : (l, ({ cls := .type "tuple", data := .seq (refs as).toArray nl } : Obj)) ∈ news) (hb : (b, listOf ib nb) ∈ news) (hal : ∀ a ∈ as, ∃ its n, (a, listOf its n) ∈ news) (h0 : A.handled = none) (hd : A.depth ≤ 900) (hu : A.units ≤ 5000)
    (h : ∀ h' tk, Fr g L h' m → News g L h' news → Q (.bool (decide (1 < as.count b))) { s with heap := h', toks := tk }) :
    wpAny (model PR w) A (call (.ref 265) [.ref l, .ref b] []) Q E s := by
  refine wpAny_call (codeAny_wk (dupes_c X T (as := as) [] F.keep (fun q hq => nomatch hq) (fun a ha => ?_) ⟨ib, nb, (N _ hb).1⟩ (fun a _ _ _ hm => nomatch hm) (fun _ _ => True) (fun _ => True) ?_ ?_) h0 hd hu)
  · obtain ⟨its, n, hm⟩ := hal a ha
    exact ⟨its, n, (N _ hm).1⟩
  · intro A g' L' m' s₂ Q E hh F' N' hk k
    have e := F'.keep _ _ (hk _ _ (N _ hl).1 (fun hm => nomatch hm))
    have hli : s₂.heap.IsTuple l (refs as).toArray := ⟨_, e, rfl, nl, rfl⟩
    have hlt : l < s₂.heap.objs.size := Heap.lt_size e
    have W := Walks.tuple (prog := PR) (w := w) hh s₂.heap.objs.size l (Nat.ne_of_lt hlt) (refs as).toArray
    refine wpAny_pyIter_tuple hli ?_
    refine k _ _ _ _ _ _ W (by simp) (refs_get as) (fun q hq => ?_) (next_is_new F') (Nat.ne_of_gt F'.ns.lt) (fun i h st => by obtain ⟨o, e, _⟩ := st.1; exact ⟨o, e⟩) (fun s Q E st kk => W.done s Q E st fun h' tk hk' => kk h' tk trivial fun b o hb e => hk' b o (by simpa using hb) e) (fun _ _ _ => trivial)
      ⟨⟨_, Heap.get?_push_size _ rfl, rfl, rfl⟩, hli.push _⟩ (F'.push _)
    rcases List.mem_cons.mp hq with rfl | hq
    · exact .inl rfl
    · cases List.mem_singleton.mp hq; exact .inr ⟨_, hk _ _ (N _ hl).1 (fun hm => nomatch hm)⟩
  · intro found h' tk hk h1 h2
    have hk' : ∀ b o, s.heap.get? b = some o → h'.get? b = some o := fun b o e => hk b o e (fun hm => nomatch hm)
    have e : found = decide (1 < as.count b) := by
      cases found with
      | true => obtain ⟨i, c1, c2, _⟩ := h1 rfl; exact (decide_eq_true (count_two as b i c1 c2)).symm
      | false => exact (decide_eq_false (Nat.not_lt.mpr (h2 rfl).1)).symm
    subst e
    exact h h' tk (F.keeps hk') (N.grown hk')

/-- the walk that has_dupes reads: where it stands behind the call -/
theorem dupes_iter_r (X : (Mine.hd.heap_39 w.params).In g) (T : Top Mine.hd.view_39 LO mean mg mb g) (F : Fr g L s.heap m) (N : News g L s.heap news) {I l b : Addr} {as : List Addr} {nl : Nat} {ib : Array Value} {nb : Nat} {nf : Obj → List (Addr × Obj)}
    (U : UpdF I (itO l 0) news nf) (hl : (l, listOf (refs as).toArray nl) ∈ news) (hb : (b, listOf ib nb) ∈ news) (hal : ∀ a ∈ as, ∃ its n, (a, listOf its n) ∈ news) (h0 : A.handled = none) (hd : A.depth ≤ 900) (hu : A.units ≤ 5000)
    (h : ∀ h' tk oI, Fr g L h' m → News g L h' (nf oI) → (1 < as.count b → ∃ i, (as.take i).count b = 1 ∧ as[i]? = some b ∧ h'.IsListIter I l (i + 1)) → (¬ 1 < as.count b → DeadIt h' I) → Q (.bool (decide (1 < as.count b))) { s with heap := h', toks := tk }) :
    wpAny (model PR w) A (call (.ref 265) [.ref I, .ref b] []) Q E s := by
  have zI := N _ (upd_mem U)
  have hI0 : ∀ a its n, s.heap.get? a = some (listOf its n) → a ≠ I := fun a its n e q => by
    rw [q, zI.1] at e; have := congrArg Obj.cls (Option.some.inj e); exact absurd this (by intro hc; injection hc with hc; exact absurd hc (by decide))
  have hlI : l ≠ I := hI0 _ _ _ (N _ hl).1
  refine wpAny_call (codeAny_wk (dupes_c X T (as := as) [(I, itO l 0)] F.keep (fun q hq => by cases List.mem_singleton.mp hq; exact ⟨zI.1, zI.2.2⟩) (fun a ha => ?_) ⟨ib, nb, (N _ hb).1⟩ (fun a its n e hm => hI0 a its n e (List.mem_singleton.mp hm)) (fun i h => h.IsListIter I l i ∧ ∃ o, h.get? I = some o) (fun h => DeadIt h I) ?_ ?_) h0 hd hu)
  · obtain ⟨its, n, hm⟩ := hal a ha
    exact ⟨its, n, (N _ hm).1⟩
  · intro A g' L' m' s₂ Q E hh F' N' hk k
    have el := hk _ _ (N _ hl).1 (fun hm => hlI (List.mem_singleton.mp hm))
    have e := F'.keep _ _ el
    have hli : s₂.heap.IsList l (refs as).toArray := ⟨_, e, rfl, nl, rfl⟩
    have zI' := N' _ (.head _)
    have hit : s₂.heap.IsListIter I l 0 := ⟨_, zI'.1, rfl, rfl⟩
    have W := Walks.list (prog := PR) (w := w) hh I l hlI (refs as).toArray
    refine wpAny_pyIter_listiter hit ?_
    refine k I _ _ _ _ s₂.heap W (by simp) (refs_get as) (fun q hq => ?_) zI'.2.2 zI'.2.1 (fun i h st => by obtain ⟨o, e, _⟩ := st.1; exact ⟨o, e⟩) (fun s Q E st kk => it_end hh st.1 st.2 (by simp) fun h' hx hd => kk h' s.toks hd fun b o hb e => hx b o hb e) (fun i h st => ⟨st.1, by obtain ⟨o, e, _⟩ := st.1; exact ⟨o, e⟩⟩)
      ⟨hit, hli⟩ F'
    rcases List.mem_cons.mp hq with rfl | hq
    · exact .inl rfl
    · cases List.mem_singleton.mp hq; exact .inr ⟨_, el⟩
  · intro found h' tk hk h1 h2
    have hk' : ∀ b o, s.heap.get? b = some o → b ≠ I → h'.get? b = some o := fun b o e hb => hk b o e (fun hm => hb (List.mem_singleton.mp hm))
    have F' := fr_but F hk' (Ne.symm zI.2.1) zI.2.2
    cases found with
    | true =>
      obtain ⟨i, c1, c2, c3, o, eo⟩ := h1 rfl
      have c := count_two as b i c1 c2
      have := h h' tk o F' (news_but N U hk' eo) (fun _ => ⟨i, c1, c2, c3⟩) (fun hn => absurd c hn)
      rwa [decide_eq_true c] at this
    | false =>
      obtain ⟨c, hdead⟩ := h2 rfl
      obtain ⟨o, x, eo, r⟩ := id hdead
      have := h h' tk o F' (news_but N U hk' eo) (fun hn => absurd hn (Nat.not_lt.mpr c)) (fun _ => hdead)
      rwa [decide_eq_false (Nat.not_lt.mpr c)] at this
end
end Mine

namespace Mine
open PySem PySem.W PyProof.Rows PySem.Calls
set_option maxRecDepth 100000
set_option maxHeartbeats 8000000
theorem top_off_Left : True := by
  w_top off
  exact trivial
section
variable {prog : Program} {w : World} {A : Around} {E : Value → Shared → Prop} {s : Shared} {h₀ : Heap} {L : Addr} {m : Str → Option Value} {env : Env} {news : List (Addr × Obj)}
theorem iter_self {it : Addr} {Q : Value → Shared → Prop} (hT : s.TypeIs (.ref it) "list_iterator") (h : Q (.ref it) s) : wpAny (model prog w) A (pyIter (.ref it)) Q E s := by
  refine wpAny_pyIter_slot hT slot_listiter_iter (wpAny_call_entry slot_listiter_iter hT entry_listiter_iter ?_ (args_listiter_iter _))
  show wpAny _ _ (ret (.ref it)) _ _ s
  exact wpAny_pure ⟨_, rfl, "list_iterator", _, hT, slot_listiter_next.lookup, h⟩

theorem walks_shift {I : Addr} {fp wr : List Addr} {n : Nat} {P : Nat → Value → Prop} {St : Nat → Heap → Prop} (W : Walks prog w A I fp wr n P St) (k : Nat) (hk : k ≤ n) :
    Walks prog w A I fp wr (n - k) (fun i v => P (k + i) v) (fun i h => St (k + i) h) where
  sub := W.sub
  frame := fun i h h' st hk => W.frame _ h h' st hk
  item := fun i s Q E hi st hQ => W.item (k + i) s Q E (by omega) st hQ
  done := fun s Q E st hQ => W.done s Q E (by rwa [Nat.add_sub_cancel' hk] at st) hQ
  self := fun i s Q E st hQ => W.self (k + i) s Q E st hQ

theorem walks_dead (hh : A.handled = none) (I : Addr) : Walks prog w A I [I] [I] 0 (fun _ _ => True) (fun _ h => DeadIt h I) where
  sub := fun _ hb => hb
  frame := fun _ h h' st hk => by obtain ⟨o, x, e, r⟩ := st; exact ⟨o, x, hk I (by simp) o e, r⟩
  item := fun i s Q E hi => absurd hi (Nat.not_lt_zero _)
  done := fun s Q E st hQ => it_dead hh st fun h' hx hd => hQ h' s.toks fun b o hb e => hx b o (by simpa using hb) e
  self := fun i s Q E st hQ => by obtain ⟨o, x, e, c, _⟩ := st; exact iter_self ⟨o, e, c⟩ hQ

/-- the source of `[x for x in it]`: a list's iterator that stands in the midst, or at its end -/
def LeftSrc (prog : Program) (w : World) (A : Around) (h₀ : Heap) (L : Addr) (m : Str → Option Value) (y : Str) (Q : Flow → Shared → Prop) (xv : Value) (s₁ : Shared) : Prop :=
  ∃ (I l : Addr) (its : Array Value) (k : Nat) (news : List (Addr × Obj)), xv = .ref I ∧ A.handled = none ∧ Fr h₀ L s₁.heap m ∧ News h₀ L s₁.heap news ∧ (∃ n, (l, listOf its n) ∈ news) ∧ its.size ≤ sizeLine ∧ l ≠ I ∧ I < s₁.heap.objs.size ∧ L ≠ I ∧ h₀.get? I = none ∧ (∀ p ∈ news, p.1 ≠ I) ∧
    ((k < its.size ∧ s₁.heap.IsListIter I l (k + 1)) ∨ (k = its.size ∧ DeadIt s₁.heap I)) ∧
    (∀ g ys, ys.length = its.size - (k + 1) → LCg.FinA h₀ L m { s₁ with heap := g } y Q ys news)

theorem left_asg {iter : PySem.Expr} {x y : Str} {px px' py : Pos} {scope : Scope} {cl : List (Str × Addr)} {pos spos : Pos} {Q : Flow → Shared → Prop} (_F₀ : Fr h₀ L s.heap m) (hLe : env.locals = L)
    (hsw : swapsWith (.ListComp (.Name x px') [⟨.Name x px, iter, [], 0⟩] scope pos) (some (.Name y py)) spos.line env = pure true)
    (hclos : closureFor scope env = pure cl) (hcell : ∀ z ∈ scope.names, z.2 ≠ .cell) (hkind : scope.kind = .function)
    (hnames : ∀ z ∈ scope.names, z.2 = .local → scope.names.lookup z.1 = some .local) (hx : scope.names.lookup x = some .local)
    (hy : env.kindOf y = some .local) (hp : (env.scope.kind == .class || (env.scope.kind == .module && env.locals != env.globals)) = false)
    (hkc : ∀ C, (compEnvC scope cl C env).scope.kind = .function) (hkx : ∀ C, (compEnvC scope cl C env).kindOf x = some .local) (hbx : (x == ("__debug__" : Str)) = false)
    (h : wpAny (model prog w) A (eval iter env) (LeftSrc prog w A h₀ L m y Q) E s)
    (hs : ∀ x, foldedSetIterable iter env x = pure x := by intro _; rfl) :
    wpAny (model prog w) A (exec (.Assign [.Name y py] (.ListComp (.Name x px') [⟨.Name x px, iter, [], 0⟩] scope pos) spos) env) Q E s := by
  subst hLe
  rw [exec_Assign_Name_used _ _ _ _ hsw]
  refine wpAny_bind (wpAny_standAt (wpAny_bind ?_))
  show wpAny _ A (do let _ ← comprehension (.ListComp (.Name x px') [⟨.Name x px, iter, [], 0⟩] scope pos) scope env _ (newList []) false (eval iter env) (some (assign (.Name y py) env))) _ _ s
  refine wpAny_bind (wpAny_mono (wpAny_comprehension_free (use := some (assign (.Name y py) env)) (Q := fun _ s' => Q .next s') rfl hs hclos hkind hnames
    (wpAny_mono h (fun xv s₁ h₁ => ?_) fun _ _ e => e)) (fun _ s' hq => wpAny_pure (wpAny_pure hq)) fun _ _ e => e)
  obtain ⟨I, l, its, k, news, rfl, hh, F, N, ⟨nl, hl⟩, hsz, hlI, hIlt, hLI, hI₀, off, hst, hfin⟩ := h₁
  have rest : ∀ (n : Nat) (P : Nat → Value → Prop), n = its.size - (k + 1) → LCg.CompRest prog w A h₀ env.locals m env (.Name x px') x scope cl s₁ (fun nw => nw = news) P (fun ys nw => nw = news ∧ LCg.FinA h₀ env.locals m s₁ y Q ys news) n 0 [] news := by
    intro n P hn
    refine rest_ind (n := n) (fun _ nw => nw = news) (fun ys nw hl hI => ⟨hI, hfin s₁.heap ys (hl.trans hn)⟩) ?_ n 0 [] _ rfl (Nat.zero_add n) rfl
    rintro i zs _ rfl hl hlt v I' oI C oC D m₂ h tk E' hP hC hx' F' N' off' ne
    refine ldVarK (hC.ns (N' _ (.tail _ (.head _))).1) hx' ?_ (hkc C) (hkx C) hbx
    exact ⟨h, _, _, rfl, F', N', off', rfl, rfl⟩
  have fin : ∀ D C h' tk m' ys news', Fr h₀ env.locals h' m → News h₀ env.locals h' ((D, LCg.lst ys) :: news') → LCg.Off1 D news' → h'.Ns C m' → h₀.get? C = none → h₀.get? D = none → C ≠ env.locals → D ≠ env.locals → C ≠ D → (∀ p ∈ news', p.1 ≠ C) → (news' = news ∧ LCg.FinA h₀ env.locals m s₁ y Q ys news) →
      compPost (model prog w) A E (some (assign (.Name y py) env)) (fun _ s' => Q .next s') (.ref D) C (.ok .next) { s₁ with heap := h', toks := tk } := by
    rintro D C h' tk m' ys news' F' N' o1 hn hC₀ hD₀ hCL hDL hCD offC ⟨rfl, fin⟩
    show wpAny _ A (assign (.Name y py) env (.ref D)) _ _ _
    refine wpAny_assign_Name (wpAny_storeName_local hy F'.ns (fun h₂ hn₂ hs₂ => ?_) hp)
    have hL₀ : h₀.get? env.locals = none := Heap.get?_none_of_le F'.above
    have F₂ : Fr h₀ env.locals h₂ (fun z => if z = y then some (.ref D) else m z) := ⟨hn₂, fun b o e => hs₂.extBut b o (fun q => by rw [q, hL₀] at e; cases e) (F'.keep b o e), F'.above⟩
    refine ⟨m', hn.sameBut hs₂ hCL, fun h'' hs'' => fin D h'' _ (F₂.change hs'' hCL hC₀) (fun p hp => ?_) o1⟩
    have z : h₂.get? p.1 = some p.2 := hs₂.extBut _ _ (N' p hp).2.1 (N' p hp).1
    refine ⟨hs''.extBut _ _ ?_ z, (N' p hp).2⟩
    rcases List.mem_cons.mp hp with rfl | hp
    · exact Ne.symm hCD
    · exact offC p hp
  have hll : s₁.heap.IsList l its := ⟨_, (N _ hl).1, rfl, nl, rfl⟩
  have hllt : l < s₁.heap.objs.size := Heap.lt_size (N _ hl).1
  rcases hst with ⟨hlt, hit⟩ | ⟨hk, hd⟩
  · refine iter_self hit.typeIs ?_
    refine LCg.block_U (S := fun nw => nw = news) (walks_shift (Walks.list hh I l hlI its) (k + 1) hlt) (by omega) (fun i h st => by obtain ⟨o, e, _⟩ := st.1; exact ⟨o, e⟩) ?_ hcell hkind hx ⟨hit, hll⟩ (fun b hb => ?_) F N hLI hI₀ off rfl (rest _ _ rfl) fin
    · rintro i h h' o _ st e e' kp N' rfl
      exact ⟨by obtain ⟨o', q, r⟩ := st.1; rw [e] at q; cases q; exact ⟨o, e', r⟩, ⟨_, (N' _ hl).1, rfl, nl, rfl⟩⟩
    · rcases List.mem_cons.mp hb with rfl | hb
      · exact hIlt
      · cases List.mem_singleton.mp hb; exact hllt
  · have hT : s₁.TypeIs (.ref I) "list_iterator" := by obtain ⟨o, x, e, c, _⟩ := hd; exact ⟨o, e, c⟩
    refine iter_self hT ?_
    refine LCg.block_U (S := fun nw => nw = news) (Fin := fun ys nw => nw = news ∧ LCg.FinA h₀ env.locals m s₁ y Q ys news) (walks_dead hh I) (by omega) (fun i h st => by obtain ⟨o, x, e, _⟩ := st; exact ⟨o, e⟩) ?_ hcell hkind hx hd (fun b hb => ?_) F N hLI hI₀ off rfl (rest 0 _ (by rw [hk]; omega)) fin
    · rintro i h h' o _ ⟨o', x, q, r⟩ e e' kp N' rfl
      rw [e] at q; cases q; exact ⟨o, x, e', r⟩
    · cases List.mem_singleton.mp hb; exact hIlt
end
end Mine

namespace Mine
open PySem PySem.W PyProof.Rows PySem.Calls
set_option maxRecDepth 100000
set_option maxHeartbeats 8000000
theorem top_off_RepP : True := by
  w_top off
  exact trivial
abbrev hits (ps : List Int) (k : Int) (i : Nat) : Bool := decide (ps.getD i 0 = k)
theorem count_take_int (ps : List Int) (k : Int) (i : Nat) (p : Int) (h : ps[i]? = some p) : (ps.take (i + 1)).count k = (ps.take i).count k + (if p = k then 1 else 0) := by
  rw [List.take_add_one, h, List.count_append]
  by_cases e : p = k
  · subst e; simp
  · simp [e]
theorem idx_len (ps : List Int) (k : Int) : ∀ n, n ≤ ps.length → (idx (hits ps k) n).length = (ps.take n).count k
  | 0, _ => by simp [idx]
  | n + 1, h => by
    obtain ⟨p, hp⟩ : ∃ p, ps[n]? = some p := ⟨ps[n], List.getElem?_eq_getElem _⟩
    rw [idx_succ, count_take_int ps k n p hp, List.length_append, idx_len ps k n (by omega)]
    congr 1
    show (if decide (ps.getD n 0 = k) = true then [(n : Int)] else []).length = _
    rw [List.getD_eq_getElem?_getD, hp]
    by_cases e : p = k
    · simp [e]
    · simp [e]
theorem idx_all (ps : List Int) (k : Int) : (idx (hits ps k) ps.length).length = ps.count k := by
  rw [idx_len ps k _ (Nat.le_refl _), List.take_length]
theorem idx_pre (q : Nat → Bool) (a : Nat) : ∀ b, ∃ r, idx q (a + b) = idx q a ++ r
  | 0 => ⟨[], by simp⟩
  | b + 1 => by
    obtain ⟨r, h⟩ := idx_pre q a b
    refine ⟨r ++ (if q (a + b) then [((a + b : Nat) : Int)] else []), ?_⟩
    rw [← Nat.add_assoc, idx_succ, h, List.append_assoc]
theorem idx_two (ps : List Int) (k : Int) (i : Nat) (h : ps[i]? = some k) (h1 : (ps.take i).count k = 1) : (idx (hits ps k) ps.length)[1]? = some (i : Int) := by
  have hlt : i < ps.length := by
    by_cases hc : i < ps.length
    · exact hc
    · rw [List.getElem?_eq_none (by omega)] at h; cases h
  obtain ⟨r, hr⟩ := idx_pre (hits ps k) (i + 1) (ps.length - (i + 1))
  rw [Nat.add_sub_cancel' hlt] at hr
  have hl := idx_len ps k i (by omega)
  rw [h1] at hl
  have hq : hits ps k i = true := by
    show decide (ps.getD i 0 = k) = true
    rw [List.getD_eq_getElem?_getD, h]; simp
  rw [hr, idx_succ, hq, List.append_assoc, List.getElem?_append_right (by omega), hl]
  rfl

structure IsAd (ad : Int → Addr) (a b c d : Addr) : Prop where
  lt : (@LT.lt Nat _ a b) ∧ (@LT.lt Nat _ b c) ∧ (@LT.lt Nat _ c d)
  v0 : ad 0 = a
  v1 : ad 1 = b
  v2 : ad 2 = c
  v3 : ad 3 = d
theorem four {k : Int} (h0 : 0 ≤ k) (h1 : k < 4) : k = 0 ∨ k = 1 ∨ k = 2 ∨ k = 3 := by omega
theorem IsAd.inj {ad : Int → Addr} {a b c d : Addr} (A : IsAd ad a b c d) {p q : Int} (p0 : 0 ≤ p) (p1 : p < 4) (q0 : 0 ≤ q) (q1 : q < 4) : ad p = ad q ↔ p = q := by
  constructor
  · intro e
    obtain ⟨l1, l2, l3⟩ := A.lt
    have A0 : @Eq Nat _ _ := A.v0
    have A1 : @Eq Nat _ _ := A.v1
    have A2 : @Eq Nat _ _ := A.v2
    have A3 : @Eq Nat _ _ := A.v3
    have e' : @Eq Nat _ _ := e
    rcases four p0 p1 with rfl | rfl | rfl | rfl <;> rcases four q0 q1 with rfl | rfl | rfl | rfl <;> first | rfl | (exfalso; omega)
  · rintro rfl; rfl
theorem IsAd.get {ad : Int → Addr} {a b c d : Addr} (A : IsAd ad a b c d) {k : Int} (k0 : 0 ≤ k) (k1 : k < 4) : (#[.ref a, .ref b, .ref c, .ref d] : Array Value)[k.toNat]? = some (.ref (ad k)) := by
  rcases four k0 k1 with rfl | rfl | rfl | rfl
  · rw [A.v0]; rfl
  · rw [A.v1]; rfl
  · rw [A.v2]; rfl
  · rw [A.v3]; rfl
theorem IsAd.mem {ad : Int → Addr} {a b c d : Addr} (A : IsAd ad a b c d) {news : List (Addr × Obj)} {ia ib ic id' : Array Value} {na nb nc nd : Nat} (h0 : (a, listOf ia na) ∈ news) (h1 : (b, listOf ib nb) ∈ news) (h2 : (c, listOf ic nc) ∈ news) (h3 : (d, listOf id' nd) ∈ news) {k : Int} (k0 : 0 ≤ k) (k1 : k < 4) : ∃ i n, (ad k, listOf i n) ∈ news := by
  rcases four k0 k1 with rfl | rfl | rfl | rfl
  · rw [A.v0]; exact ⟨_, _, h0⟩
  · rw [A.v1]; exact ⟨_, _, h1⟩
  · rw [A.v2]; exact ⟨_, _, h2⟩
  · rw [A.v3]; exact ⟨_, _, h3⟩
theorem IsAd.count {ad : Int → Addr} {a b c d : Addr} (A : IsAd ad a b c d) {k : Int} (k0 : 0 ≤ k) (k1 : k < 4) : ∀ {ps : List Int}, (∀ p ∈ ps, 0 ≤ p ∧ p < 4) → (ps.map ad).count (ad k) = ps.count k
  | [], _ => rfl
  | p :: ps, h => by
    have hp := h p (.head _)
    have ih := A.count k0 k1 (ps := ps) fun q hq => h q (.tail _ hq)
    rw [List.map_cons, List.count_cons, List.count_cons, ih]
    congr 1
    by_cases e : p = k
    · subst e; simp
    · have : ad p ≠ ad k := fun h' => e ((A.inj hp.1 hp.2 k0 k1).mp h')
      simp [e, this]
theorem fin_ad {C : List Value → Prop} {a b c d : Addr} {ps : List Int} (hp : ∀ p ∈ ps, 0 ≤ p ∧ p < 4) (lt : (@LT.lt Nat _ a b) ∧ (@LT.lt Nat _ b c) ∧ (@LT.lt Nat _ c d)) (k : ∀ ad, IsAd ad a b c d → C (refs (ps.map ad))) : C (ps.map fun p => (#[.ref a, .ref b, .ref c, .ref d] : Array Value).getD p.toNat .none) := by
  have A : IsAd (fun p => if p = 0 then a else if p = 1 then b else if p = 2 then c else d) a b c d := ⟨lt, rfl, rfl, rfl, rfl⟩
  have e : (ps.map fun p => (#[.ref a, .ref b, .ref c, .ref d] : Array Value).getD p.toNat .none) = refs (ps.map fun p => if p = 0 then a else if p = 1 then b else if p = 2 then c else d) := by
    rw [refs, List.map_map]
    refine List.map_congr_left fun p h => ?_
    have z := A.get (hp p h).1 (hp p h).2
    rw [Array.getD_eq_getD_getElem?, z]; rfl
  rw [e]; exact k _ A
section
variable {w : World} {mg mb : Str → Option Value} {mean : ExcName → Option Value} {g : Heap} {L : Addr} {m : Str → Option Value} {news : List (Addr × Obj)} {A : Around} {s : Shared} {Q E : Value → Shared → Prop}
theorem item_ad {prog : Program} {h₀ : Heap} {value slice : PySem.Expr} {l a b c d : Addr} {ad : Int → Addr} {n : Nat} {k : Int} {u : Tok} (D : IsAd ad a b c d) (N : News h₀ L s.heap news) (hp : (l, listOf #[.ref a, .ref b, .ref c, .ref d] n) ∈ news)
    (h0 : 0 ≤ k) (h1 : k < 4) (h : Q (.ref (ad k)) s)
    (hs : subscripted slice false (.ref l) (.int k u) = operate [.ref l, .int k u] (getItem (.ref l) (.int k u)) := by with_unfolding_all rfl) :
    wpAny (model prog w) A (subscriptTail value slice (.ref l) (.int k u)) Q E s :=
  item_r N hp h0 h1 (by show 4 < _; decide) (fun v hv => by rw [D.get h0 h1] at hv; cases hv; exact h) hs

theorem bne_self (b : Bool) : ¬ (b != b) = true := by cases b <;> decide
theorem rsz (ad : Int → Addr) (ps : List Int) : (refs (ps.map ad)).toArray.size = ps.length := by simp
theorem end_yes {zs : List Value} {qi : Nat → Bool} {n i : Nat} {t : Tok} {l r : Nat} (hz : IntsAre zs (idx qi n)) (he : zs[1]? = some (.int (i : Int) t)) (hi : i < r) (hl : l = r - (i + 1)) : ((l : Int) == (r : Int) - (idx qi n).getD (Int.toNat 1) 0 - 1) = true := by
  obtain ⟨p, t', hp, hv⟩ := ints_get hz 1 _ he
  cases hv
  rw [List.getD_eq_getElem?_getD, show Int.toNat 1 = 1 from rfl, hp]
  refine beq_iff_eq.mpr ?_
  show (l : Int) = (r : Int) - (i : Int) - 1
  omega
theorem yes_gt {n : Nat} (h : 1 < n) : ¬ (true == decide ((1 : Int) < (n : Int))) = false := by
  rw [decide_eq_true (by omega)]; decide
theorem no_gt {n : Nat} (h : ¬ 1 < n) : ¬ (false == decide ((1 : Int) < (n : Int))) = false := by
  rw [decide_eq_false (by omega)]; decide
theorem gt_int (n : Nat) : decide (1 < n) = decide ((1 : Int) < (n : Int)) := decide_eq_decide.mpr (by omega)
/-- what the row, the aim and the places are to each other -/
structure Aim (ad : Int → Addr) (ps : List Int) (zs : List Value) (k : Int) (news : List (Addr × Obj)) : Prop where
  hps : ∀ p ∈ ps, 0 ≤ p ∧ p < 4
  k0 : 0 ≤ k
  k1 : k < 4
  hzs : IntsAre zs (idx (hits ps k) ps.length)
  inj : ∀ p q, 0 ≤ p → p < 4 → 0 ≤ q → q < 4 → (ad p = ad q ↔ p = q)
  cnt : (ps.map ad).count (ad k) = zs.length
  at' : ∀ k, 0 ≤ k → k < 4 → ∃ i n, (ad k, listOf i n) ∈ news
theorem Aim.of {ad : Int → Addr} {a b c d : Addr} (D : IsAd ad a b c d) {ps : List Int} {zs : List Value} {k : Int} {n : Nat} (hps : ∀ p ∈ ps, 0 ≤ p ∧ p < 4) (k0 : 0 ≤ k) (k1 : k < 4) (hn : n = ps.length) (hz : IntsAre zs (idx (hits ps k) n))
    {ia ib ic id' : Array Value} {na nb nc nd : Nat} (h0 : (a, listOf ia na) ∈ news) (h1 : (b, listOf ib nb) ∈ news) (h2 : (c, listOf ic nc) ∈ news) (h3 : (d, listOf id' nd) ∈ news) : Aim ad ps zs k news := by
  subst hn
  refine ⟨hps, k0, k1, hz, fun p q a b c d => D.inj a b c d, ?_, fun k a b => D.mem h0 h1 h2 h3 a b⟩
  rw [D.count k0 k1 hps, hz.length, idx_all]
theorem Aim.wider {ad : Int → Addr} {ps : List Int} {zs : List Value} {k : Int} {news' : List (Addr × Obj)} (D : Aim ad ps zs k news) (h : ∀ p ∈ news, p ∈ news') : Aim ad ps zs k news' :=
  ⟨D.hps, D.k0, D.k1, D.hzs, D.inj, D.cnt, fun k a b => by obtain ⟨i, n, hm⟩ := D.at' k a b; exact ⟨i, n, h _ hm⟩⟩
theorem Aim.al {ad : Int → Addr} {ps : List Int} {zs : List Value} {k : Int} (D : Aim ad ps zs k news) : ∀ a ∈ ps.map ad, ∃ its n, (a, listOf its n) ∈ news := fun a ha => by
  obtain ⟨p, hp, rfl⟩ := List.mem_map.mp ha
  exact D.at' p (D.hps p hp).1 (D.hps p hp).2
theorem Aim.two {ad : Int → Addr} {ps : List Int} {zs : List Value} {k : Int} (D : Aim ad ps zs k news) {i : Nat} (h1 : ((ps.map ad).take i).count (ad k) = 1) (h2 : (ps.map ad)[i]? = some (ad k)) : ∃ t, zs[1]? = some (.int (i : Int) t) ∧ i < ps.length := by
  rw [List.getElem?_map] at h2
  cases e : ps[i]? with
  | none => rw [e] at h2; cases h2
  | some p =>
    rw [e] at h2
    have hp := D.hps p (List.mem_of_getElem? e)
    have : p = k := (D.inj p k hp.1 hp.2 D.k0 D.k1).mp (Option.some.inj h2)
    subst this
    have hlt : i < ps.length := by
      by_cases hc : i < ps.length
      · exact hc
      · rw [List.getElem?_eq_none (by omega)] at e; cases e
    have hc : (ps.take i).count p = 1 := by
      rw [← h1, ← List.map_take]
      have key : ∀ (l : List Int), (∀ q ∈ l, 0 ≤ q ∧ q < 4) → (l.map ad).count (ad p) = l.count p := by
        intro l
        induction l with
        | nil => intro _; rfl
        | cons q l ih =>
          intro h
          have hq := h q (.head _)
          rw [List.map_cons, List.count_cons, List.count_cons, ih fun r hr => h r (.tail _ hr)]
          congr 1
          by_cases e : q = p
          · subst e; simp
          · have : ad q ≠ ad p := fun h' => e ((D.inj q p hq.1 hq.2 D.k0 D.k1).mp h')
            simp [e, this]
      exact (key _ fun q hq => D.hps q (List.mem_of_mem_take hq)).symm
    have z := idx_two ps p i e hc
    cases e1 : zs[1]? with
    | none =>
      have hl := D.hzs.length
      rw [List.getElem?_eq_none_iff] at e1
      rw [List.getElem?_eq_none (by omega)] at z; cases z
    | some v =>
      obtain ⟨p', t, e', rfl⟩ := ints_get D.hzs 1 v e1
      rw [z] at e'
      cases e'
      exact ⟨t, rfl, hlt⟩

theorem rep_list (X : (Mine.hd.heap_39 w.params).In g) (T : Top Mine.hd.view_39 LO mean mg mb g) (F : Fr g L s.heap m) (N : News g L s.heap news) {l : Addr} {ad : Int → Addr} {ps : List Int} {zs : List Value} {k : Int} {nl : Nat} (D : Aim ad ps zs k news)
    (hl : (l, listOf (refs (ps.map ad)).toArray nl) ∈ news) (h0 : A.handled = none) (hd : A.depth ≤ 900) (hu : A.units ≤ 5000)
    (h : ∀ h' tk, Fr g L h' m → News g L h' news → Q (.bool (decide ((1 : Int) < (zs.length : Int)))) { s with heap := h', toks := tk }) :
    wpAny (model PR w) A (call (.ref 265) [.ref l, .ref (ad k)] []) Q E s := by
  obtain ⟨ib, nb, hb⟩ := D.at' k D.k0 D.k1
  exact dupes_list_r X T F N hl hb D.al h0 hd hu (by rw [D.cnt, gt_int]; exact h)
theorem rep_tup (X : (Mine.hd.heap_39 w.params).In g) (T : Top Mine.hd.view_39 LO mean mg mb g) (F : Fr g L s.heap m) (N : News g L s.heap news) {l : Addr} {ad : Int → Addr} {ps : List Int} {zs : List Value} {k : Int} {nl : Nat} (D : Aim ad ps zs k news)
    (hl : (l, ({ cls := .type "tuple", data := .seq (refs (ps.map ad)).toArray nl } : Obj)) ∈ news) (h0 : A.handled = none) (hd : A.depth ≤ 900) (hu : A.units ≤ 5000)
    (h : ∀ h' tk, Fr g L h' m → News g L h' news → Q (.bool (decide ((1 : Int) < (zs.length : Int)))) { s with heap := h', toks := tk }) :
    wpAny (model PR w) A (call (.ref 265) [.ref l, .ref (ad k)] []) Q E s := by
  obtain ⟨ib, nb, hb⟩ := D.at' k D.k0 D.k1
  exact dupes_tup_r X T F N hl hb D.al h0 hd hu (by rw [D.cnt, gt_int]; exact h)
theorem upd_new {I : Addr} {o o' : Obj} {nf : Obj → List (Addr × Obj)} (U : UpdF I o news nf) : (I, o') ∈ nf o' := by
  obtain ⟨pre, post, rfl, hnf, _, _⟩ := U.split
  rw [hnf]; simp
theorem rep_iter (X : (Mine.hd.heap_39 w.params).In g) (T : Top Mine.hd.view_39 LO mean mg mb g) (F : Fr g L s.heap m) (N : News g L s.heap news) {I l : Addr} {ad : Int → Addr} {ps : List Int} {zs : List Value} {k : Int} {nl : Nat} {nf : Obj → List (Addr × Obj)} (D : Aim ad ps zs k news)
    (U : UpdF I (itO l 0) news nf) (hl : (l, listOf (refs (ps.map ad)).toArray nl) ∈ news) (h0 : A.handled = none) (hd : A.depth ≤ 900) (hu : A.units ≤ 5000)
    (hyes : ∀ h' tk oI i t, Fr g L h' m → News g L h' (nf oI) → 1 < zs.length → zs[1]? = some (.int ((i : Nat) : Int) t) → i < ps.length → (∀ h : Heap, h.get? I = some oI → h.IsListIter I l (i + 1)) → Q (.bool true) { s with heap := h', toks := tk })
    (hno : ∀ h' tk oI, Fr g L h' m → News g L h' (nf oI) → ¬ 1 < zs.length → (∀ h : Heap, h.get? I = some oI → DeadIt h I) → Q (.bool false) { s with heap := h', toks := tk }) :
    wpAny (model PR w) A (call (.ref 265) [.ref I, .ref (ad k)] []) Q E s := by
  obtain ⟨ib, nb, hb⟩ := D.at' k D.k0 D.k1
  refine dupes_iter_r X T F N U hl hb D.al h0 hd hu ?_
  rw [D.cnt]
  intro h' tk oI F' N' a b
  by_cases c : 1 < zs.length
  · obtain ⟨i, c1, c2, c3⟩ := a c
    obtain ⟨t, e, hi⟩ := D.two c1 c2
    rw [decide_eq_true c]
    refine hyes h' tk oI i t F' N' c e hi fun h eh => ?_
    obtain ⟨o, e', r⟩ := c3
    rw [(N' _ (upd_new U)).1] at e'; cases e'; exact ⟨_, eh, r⟩
  · rw [decide_eq_false c]
    refine hno h' tk oI F' N' c fun h eh => ?_
    obtain ⟨o, x, e', r⟩ := b c
    rw [(N' _ (upd_new U)).1] at e'; cases e'; exact ⟨_, x, eh, r⟩
theorem len_l {prog : Program} {h₀ : Heap} {l : Addr} {ys : List Value} (N : News h₀ L s.heap news) (hp : (l, LCg.lst ys) ∈ news) (hz : ys.length ≤ 8) (h : ∀ t tk, Q (.int (ys.length : Int) t) { s with toks := tk }) :
    wpAny (model prog w) A (call (.builtin "len") [.ref l] []) Q E s := by
  refine call_len_list (items := ys.toArray) ⟨_, (N _ hp).1, rfl, _, rfl⟩ (by rw [List.size_toArray]; omega) ?_
  exact h _ _
theorem idx_le (q : Nat → Bool) (n : Nat) : (idx q n).length ≤ n := by
  rw [idx, List.length_map]
  exact Nat.le_trans (List.length_filter_le _ _) (by simp)
end
end Mine

namespace Mine
open PySem PySem.W PyProof.Rows PySem.Calls
set_option maxRecDepth 100000
set_option maxHeartbeats 8000000
theorem top_off_Rep : True := by
  w_top off
  exact trivial
local macro_rules | `(tactic| walk_at "call ref") => `(tactic| (k_here; (with_reducible show wpAny _ _ (call (Value.ref _) [Value.ref _, Value.int _ _] _) _ _ _); k_dflt (refine' next_r ?X ?T ?F ?N ?U ?sl ?I ?len ?B ?m0 ?m1 ?h0 ?hd ?hu ?_; (case X => k_asm); (case T => k_asm); (case F => k_asm); (case N => k_asm); (case U => k_updF); (case sl => k_asm); (case I => k_asm); (case len => k_asm); (case B => k_asm); (case m0 => decide); (case m1 => decide); (case h0 => exact rfl); (case hd => exact Nat.le_of_ble_eq_true rfl); (case hu => exact Nat.le_of_ble_eq_true rfl)); intro v' t' h' tk' i' sd' ti' td' B' v0' v1' F' N'; (try dsimp only at N'); (try k_sweep)))
local macro_rules | `(tactic| walk_at "call ref") => `(tactic| (k_here; (with_reducible show wpAny _ _ (call (Value.ref _) [Value.ref _, Value.ref _] _) _ _ _); refine stop_here ?_))
local macro_rules | `(tactic| walk_at "call builtin:len") => `(tactic| (k_here; (with_reducible show wpAny _ _ (call (Value.builtin "len") [Value.ref _]) _ _ _); k_dflt (refine' len_l ?qN ?ql ?qz ?_; (case qN => k_asm); (case ql => k_mem); (case qz => first | assumption | (rw [List.length_map, List.length_map]; assumption))); intro t' tk'))
local macro_rules | `(tactic| walk_at "call builtin:iter") => `(tactic| (k_here; (with_reducible show wpAny _ _ (call (Value.builtin "iter") [Value.ref _]) _ _ _); k_dflt (refine' iter_r ?qF ?qN ?ql ?_; (case qF => k_asm); (case qN => k_asm); (case ql => k_mem)); intro I' h' F' N' lt'))
local macro_rules | `(tactic| walk_at "LeftSrc") => `(tactic| (k_here; refine stop_here ?_))
local macro_rules | `(tactic| walk_at "exec Assign cons ListComp") => `(tactic| (k_here; refine stop_here ?_))

local macro_rules | `(tactic| walk_at "CompSrc") => `(tactic| (k_here; refine stop_here ?_))
local macro_rules | `(tactic| walk_at "eval Name") => `(tactic| (k_here; (with_reducible show wpAny _ _ (eval (Expr.Name _ _) (compEnvC _ _ _ _)) _ _ _); k_dflt (refine' ld_cell ?N ?c ?m ?d ?_ ?k ?l ?b; (case N => k_asm); (case c => rfl); (case m => k_mem); (case d => k_asm); (case k => rfl); (case l => rfl); (case b => decide))))

local macro_rules | `(tactic| walk_at "subscriptTail") => `(tactic| (k_here; refine stop_here ?_))
local macro_rules | `(tactic| walk_at "call type:enumerate") => `(tactic| (k_here; refine stop_here ?_))

theorem rep_c {w : World} : RoundC w 291 := by
  intro mg mb mean G₀ X T s st sl vs ns i sd ti td hgens hG hst hf hsl hne hI hlen hB R hR
  refine' own_callC (binds := [(Str.ofString "state", .ref st)]) [(st, stO sl i sd ti td)] X T hG ?hx ?ho ?hcd ?hroom ?hbind ?hkind ?hnd ?_ ?c2 ?c3 ?c4
  case ho => k_is
  case hcd => k_is
  case hroom => decide
  case hbind => exact BindsTo.of_eq rfl
  case hkind => exact rfl
  case hnd => decide +kernel
  case c2 => exact rfl
  case c3 => exact rfl
  case c4 => exact rfl
  case hx => intro q hq; cases List.mem_singleton.mp hq; exact ⟨hst, hf⟩
  intro g L h₁ tk₁ cells F N Y Xg Tg hGg hk l1
  k_lt l1
  k_cells Y
  simp only [List.cons_append, List.nil_append] at N
  have hslg : g.IsList sl vs.toArray := by
    obtain ⟨o, ho, r⟩ := hsl
    exact ⟨o, hk _ _ ho (by simpa using hne), r⟩
  have hR' : ∀ (h' : Heap) (tk : Nat) (i' sd' : Int) (ti' td' : Tok) (L' : Addr) (m' : Str → Option Value), Fr g L' h' m' → h'.get? st = some (stO sl i' sd' ti' td') →
      Bd i' sd' → R (.ok (.ret (.bool true))) { s with heap := h', toks := tk } := fun h' tk i' sd' ti' td' L' m' F' hs =>
    hR h' tk i' sd' ti' td' (fun b o e hb => F'.keep b o (hk b o e (by simpa using hb))) hs
  clear hk hGg hG hst hf hsl X T hR
  (try dsimp only)
  (try k_fold)
  k_steps
  refine stop_out ?_
  k_dflt (refine LCg.Assign_ListComp_U (F₀ := by k_asm) (by rfl) (by with_unfolding_all rfl) (by with_unfolding_all rfl) (by decide) (by rfl) (by decide) (by rfl) (by rfl) (by rfl) ?_)
  k_steps
  refine stop_out ?_
  k_dflt (refine' draws_src (many := 4) (st := st) (sl := sl) ?hh ?F ?N ?r ?b0 ?b1 ?U ?B ?hstep ?hfin)
  case hh => exact rfl
  case F => k_asm
  case N => k_asm
  case r => assumption
  case b0 => omega
  case b1 => omega
  case U => k_updF
  case B => assumption
  case hstep =>
    intro i' sd' ti' td' ys B' s₂ hg2 I oI C oC D m₂ E' hC F' N' off ne
    (try dsimp only at N' off)
    (try simp only [LCg.Off3, and_true] at off)
    k_steps
    exact DrawEnd.intro (by assumption) (by assumption) (by assumption) (by assumption) (by assumption)
  case hfin =>
    intro g2 ys ps i' sd' ti' td' hIp hpp hlp hB2
    k_steps
    refine stop_out ?_
    k_dflt (refine LCg.Assign_ListComp_U (F₀ := by k_asm) (by rfl) (by with_unfolding_all rfl) (by with_unfolding_all rfl) (by decide) (by rfl) (by decide) (by rfl) (by rfl) (by rfl) ?_)
    k_steps
    refine stop_out ?_
    k_dflt (refine' row_src ?hh ?F ?N ?c ?mT ?dT ?m4 ?h4 ?m ?I ?sz ?ps ?kc ?kt ?kx ?bt ?bx ?fin)
    case hh => exact rfl
    case F => k_asm
    case N => k_asm
    case c => exact rfl
    case mT => k_mem
    case dT => k_asm
    case m4 => k_mem
    case h4 => exact rfl
    case m => k_mem
    case I => k_asm
    case sz => omega
    case ps => assumption
    case kc => intro _; exact rfl
    case kt => intro _; exact rfl
    case kx => intro _; exact rfl
    case bt => decide
    case bx => decide
    case fin =>
      intro g3
      refine fin_ad (C := fun r => LCg.FinA _ _ _ _ _ _ r _) hpp ?_ ?_
      · omega
      intro ad hAd
      k_steps
      refine stop_out ?_
      k_dflt (refine asg_enum (by k_asm) (by rfl) (by with_unfolding_all rfl) (by with_unfolding_all rfl) (by decide) (by rfl) (by decide) (by rfl) (by rfl) (by decide) (by decide) (by rfl) (by rfl) ?_)
      k_steps
      refine stop_out ?_
      k_dflt (refine' enum_call ?F ?N ?l ?_)
      case F => k_asm
      case N => k_asm
      case l => k_mem
      intro e it h4 F4 N4 hen hit hei hoff hge hgi hLe hLi
      (with_reducible rename (Obj.data _ = Data.cell (some (Value.int _ _))) => hda)
      refine ⟨e, it, _, _, _, fun i => decide (ps.getD i 0 = cellInt hda), _, rfl, rfl, F4, N4, by k_mem, ?_, hen, hit, hei, hoff, hge, hgi, hLe, hLi, ?_, ?_⟩
      · rw [List.size_toArray, hIp.length, sizeLine_eq]; omega
      · intro i v hv s₃ C oC m₂ E' hg hC hx F' N' off
        obtain ⟨p, t, hp, rfl⟩ := ints_get hIp i v (by simpa using hv)
        k_steps
        refine TestEnd.intro (tk' := s₃.toks) ?_
        show _ = decide (ps.getD i 0 = cellInt hda)
        rw [List.getD_eq_getElem?_getD, hp]
        show decide (p = _) = decide (p = _)
        rfl
      · intro g4 zs hz
        have hz8 : zs.length ≤ 8 := by
          rw [hz.length]
          refine Nat.le_trans (idx_le _ _) ?_
          rw [List.size_toArray, hIp.length]; omega
        have hp8 : ps.length ≤ 8 := by omega
        k_steps
        refine stop_out ?_
        k_dflt (refine' item_ad ?qA ?qN ?ql ?q0 ?q1 ?_ ?qs)
        case qA => assumption
        case qN => k_asm
        case ql => k_mem
        case q0 => assumption
        case q1 => assumption
        case qs => with_unfolding_all rfl
        k_steps
        refine stop_out ?_
        k_dflt (refine' rep_list ?X ?T ?F ?N ?D ?hl ?h0 ?hd ?hu ?_)
        case X => k_asm
        case T => k_asm
        case F => k_asm
        case N => k_asm
        case D => exact Aim.of hAd hpp (by assumption) (by assumption) (by rw [List.size_toArray, hIp.length]) hz (by k_mem) (by k_mem) (by k_mem) (by k_mem)
        case hl => k_mem
        case h0 => exact rfl
        case hd => exact Nat.le_of_ble_eq_true rfl
        case hu => exact Nat.le_of_ble_eq_true rfl
        intro h5 tk5 F5 N5
        (try dsimp only at N5)
        k_steps
        · exact absurd (by assumption) (bne_self _)
        refine stop_out ?_
        k_dflt (refine' item_ad ?qA ?qN ?ql ?q0 ?q1 ?_ ?qs)
        case qA => assumption
        case qN => k_asm
        case ql => k_mem
        case q0 => assumption
        case q1 => assumption
        case qs => with_unfolding_all rfl
        k_steps
        refine stop_out ?_
        k_dflt (refine' rep_tup ?X ?T ?F ?N ?D ?hl ?h0 ?hd ?hu ?_)
        case X => k_asm
        case T => k_asm
        case F => k_asm
        case N => k_asm
        case D => exact Aim.of hAd hpp (by assumption) (by assumption) (by rw [List.size_toArray, hIp.length]) hz (by k_mem) (by k_mem) (by k_mem) (by k_mem)
        case hl => k_mem
        case h0 => exact rfl
        case hd => exact Nat.le_of_ble_eq_true rfl
        case hu => exact Nat.le_of_ble_eq_true rfl
        intro h6 tk6 F6 N6
        (try dsimp only at N6)
        k_steps
        refine stop_out ?_
        k_dflt (refine' item_ad ?qA ?qN ?ql ?q0 ?q1 ?_ ?qs)
        case qA => assumption
        case qN => k_asm
        case ql => k_mem
        case q0 => assumption
        case q1 => assumption
        case qs => with_unfolding_all rfl
        k_steps
        refine stop_out ?_
        (with_reducible rename (∀ p, p ∈ _ → Prod.fst p < _) => hlt)
        k_dflt (refine' rep_iter ?X ?T ?F ?N ?D ?U ?hl ?h0 ?hd ?hu ?hyes ?hno)
        case X => k_asm
        case T => k_asm
        case F => k_asm
        case N => k_asm
        case D => exact Aim.of hAd hpp (by assumption) (by assumption) (by rw [List.size_toArray, hIp.length]) hz (by k_mem) (by k_mem) (by k_mem) (by k_mem)
        case U => exact UpdF.head fun p hp => Nat.ne_of_lt (hlt p hp)
        case hl => k_mem
        case h0 => exact rfl
        case hd => exact Nat.le_of_ble_eq_true rfl
        case hu => exact Nat.le_of_ble_eq_true rfl
        case hyes =>
          intro h7 tk7 oI i₇ t₇ F7 N7 hc he7 hi7 hit7
          (try dsimp only at N7)
          k_steps
          refine stop_out ?_
          k_dflt (refine left_asg (by k_asm) (by rfl) (by with_unfolding_all rfl) (by with_unfolding_all rfl) (by decide) (by rfl) (by decide) (by rfl) (by rfl) (by rfl) (by intro _; exact rfl) (by intro _; exact rfl) (by decide) ?_)
          k_steps
          refine stop_out ?_
          with_reducible rename (News g L _ ((_, oI) :: _)) => N8
          with_reducible rename (Fr g L _ _) => F8
          refine ⟨_, _, (refs (ps.map ad)).toArray, i₇, _, rfl, rfl, F8, fun p hp => N8 p (.tail _ hp), ⟨_, by k_mem⟩, ?_, ?_, Heap.lt_size (N8 _ (.head _)).1, Ne.symm (N8 _ (.head _)).2.1, (N8 _ (.head _)).2.2, fun p hp => Nat.ne_of_lt (hlt p hp), .inl ⟨?_, hit7 _ (N8 _ (.head _)).1⟩, ?_⟩
          · rw [rsz, sizeLine_eq]; omega
          · exact Nat.ne_of_lt (hlt (_, LCg.lst (refs (ps.map ad))) (by k_mem))
          · rw [rsz]; exact hi7
          · intro g9 ys9 hl9
            rw [rsz] at hl9
            have hl98 : ys9.length ≤ 8 := by omega
            have hl9' : ys9.length = (refs (ps.map ad)).length - (i₇ + 1) := by rw [hl9]; simp
            have hi7' : i₇ < (refs (ps.map ad)).length := by simpa using hi7
            k_steps
            · rw [end_yes hz he7 hi7' hl9']
              with_reducible rename (News g L _ _) => N9
              refine' hR' _ _ _ _ _ _ _ _ ?hf (N9 (st, _) ?hm).1 ?hB
              case hm => k_mem
              case hf => k_asm
              case hB => assumption
            · exact absurd (by assumption) (yes_gt hc)
        case hno =>
          intro h7 tk7 oI F7 N7 hc hd7
          (try dsimp only at N7)
          k_steps
          refine stop_out ?_
          k_dflt (refine left_asg (by k_asm) (by rfl) (by with_unfolding_all rfl) (by with_unfolding_all rfl) (by decide) (by rfl) (by decide) (by rfl) (by rfl) (by rfl) (by intro _; exact rfl) (by intro _; exact rfl) (by decide) ?_)
          k_steps
          refine stop_out ?_
          with_reducible rename (News g L _ ((_, oI) :: _)) => N8
          with_reducible rename (Fr g L _ _) => F8
          refine ⟨_, _, (refs (ps.map ad)).toArray, ps.length, _, rfl, rfl, F8, fun p hp => N8 p (.tail _ hp), ⟨_, by k_mem⟩, ?_, ?_, Heap.lt_size (N8 _ (.head _)).1, Ne.symm (N8 _ (.head _)).2.1, (N8 _ (.head _)).2.2, fun p hp => Nat.ne_of_lt (hlt p hp), .inr ⟨?_, hd7 _ (N8 _ (.head _)).1⟩, ?_⟩
          · rw [rsz, sizeLine_eq]; omega
          · exact Nat.ne_of_lt (hlt (_, LCg.lst (refs (ps.map ad))) (by k_mem))
          · rw [rsz]
          · intro g9 ys9 hl9
            rw [rsz] at hl9
            have hl98 : ys9.length ≤ 8 := by omega
            have hl9' : ys9.length = 0 := by omega
            k_steps
            · rw [show ((ys9.length : Int) == 0) = true from by rw [hl9']; rfl]
              with_reducible rename (News g L _ _) => N9
              refine' hR' _ _ _ _ _ _ _ _ ?hf (N9 (st, _) ?hm).1 ?hB
              case hm => k_mem
              case hf => k_asm
              case hB => assumption
            · exact absurd (by assumption) (no_gt hc)
end Mine

namespace Mine
open PySem PySem.W PyProof.Rows PySem.Calls PySem.W.X
set_option maxRecDepth 100000
set_option maxHeartbeats 8000000
theorem top_off_UlK : True := by
  w_top off
  exact trivial
/-- an end of x_run that hands on a new object -/
def NewQ (s : Shared) (o : Obj) (Q : Value → Shared → Prop) : Prop := ∀ x h' tk, (∀ b o, s.heap.get? b = some o → h'.get? b = some o) → h'.get? x = some o → s.heap.get? x = none → Q (.ref x) ⟨h', #[], s.drawn, tk, s.os⟩
theorem NewQ.use {s : Shared} {o : Obj} {Q : Value → Shared → Prop} {x : Addr} {h' : Heap} {news : List (Addr × Obj)} {tk : Nat} (k : NewQ s o Q) (D : Mem s.heap h' [] ((x, o) :: news)) : Q (.ref x) ⟨h', #[], s.drawn, tk, s.os⟩ :=
  k _ _ _ (fun b o e => D.keep b o e (by rw [show away [] b = true from rfl, Bool.or_true])) (D.nw _ (.head _)).1 (D.nw _ (.head _)).2
local macro_rules | `(tactic| x_close) => `(tactic| (refine' NewQ.use ?ka ?kb; (case ka => assumption); (case kb => assumption)))
abbrev fkObj : Obj := ⟨.type "builtin_function_or_method", none, .fields #[.builtin "dict.fromkeys", .type "dict"], #[]⟩
theorem fk_get {w : World} {A : Around} {s : Shared} {Q E : Value → Shared → Prop} (X : (Mine.hd.heap_39 w.params).In s.heap) (hg : s.gens = #[]) (h : NewQ s fkObj Q) :
    wpAny (model PR w) A (call (.builtin "classmethod_descriptor.__get__") [.builtin "dict.fromkeys", .none, .type "dict"] []) Q E s := by
  x_run
theorem dict_new {w : World} {A : Around} {s : Shared} {Q E : Value → Shared → Prop} (X : (Mine.hd.heap_39 w.params).In s.heap) (hg : s.gens = #[]) (h : NewQ s ⟨.type "dict", none, .dict #[] 0, #[]⟩ Q) :
    wpAny (model PR w) A (call (.type "dict") [] []) Q E s := by
  x_run
end Mine

namespace Mine
open PySem PySem.W PyProof.Rows PySem.Calls PySem.W.X
set_option maxRecDepth 100000
set_option maxHeartbeats 8000000
theorem top_off_UlF : True := by
  w_top off
  exact trivial
theorem fk_cls {w : World} : findCls (Mine.hd.heap_39 w.params) (.type "dict") (.type "type") (Str.ofString "fromkeys") = some (.get (.builtin "classmethod_descriptor.__get__") (.builtin "dict.fromkeys") .none (.type "dict")) := by kernel_rfl
theorem fk_stub : Manifest.isStub "dict" = false := by decide +kernel
theorem fk_type : typeOf (.type "dict") = pure (.type "type") := by first | rfl | kernel_rfl
theorem fk_entry : entryFor table "dict.fromkeys" = some Builtin.«dict.fromkeys» := entryFor_of_tree (by kernel_rfl)
theorem fkl_entry : entryFor table "dict.fromkeys.loop" = some Builtin.«dict.fromkeys.loop» := entryFor_of_tree (by kernel_rfl)
theorem fkl_plain : plainId "dict.fromkeys.loop" = true := by decide +kernel
theorem fk_quiet {as : Args} : (Code.builtin "dict.fromkeys" as).quiet = true := Code.quiet_builtin _ (by decide +kernel)
theorem fk_plain : plainId "dict.fromkeys" = true := by decide +kernel
theorem fk_check (a : Value) : checkBoundCall "dict.fromkeys" ⟨[.type "dict", a], []⟩ = pure () := by first | kernel_rfl | rfl
theorem fk_isType : isType (.type "dict") = pure true := by first | rfl | kernel_rfl
theorem fk_sub : isSubtype (.type "dict") (.type "dict") = pure true := by rw [isSubtype_type]; kernel_rfl
section
variable {w : World} {A : Around} {s : Shared} {E : Value → Shared → Prop}
theorem fk_method {L : Addr} {h₀ : Heap} {m : Str → Option Value} {news : List (Addr × Obj)} {pl : Sem Bool} {Q : Value × List Value → Shared → Prop} (F : Fr h₀ L s.heap m) (N : News h₀ L s.heap news) (X₀ : (Mine.hd.heap_39 w.params).In h₀) (hgens : s.gens = #[])
    (h : ∀ x h' tk, Fr h₀ L h' m → News h₀ L h' ((x, fkObj) :: news) → Q (.ref x, []) { s with heap := h', toks := tk }) :
    wpAny (model PR w) A (getMethod (.type "dict") (Str.ofString "fromkeys") pl) Q E s := by
  have X := X₀.keeps F.keep
  have hstub : opaqueClassAbove (.type "dict") = pure none := by unfold opaqueClassAbove; dsimp only; rw [fk_stub]; rfl
  have L0 : Looks (model PR w) s.heap (typeOf (.type "dict")) (.type "type") := Looks.of_pure fk_type
  have hg : findIn (Mine.hd.heap_39 w.params) (.type "type") "__getattribute__" = some (some (.builtin "type.__getattribute__")) := type_tga
  unfold getMethod specialOf
  refine wpAny_bind (wpAny_bind (L0.here ((looks_findIn X hg).here ?_)))
  dsimp only
  rw [if_pos canon_tga]
  refine wpAny_bind (wpAny_mono (Q := fun v => Q (v, [])) (E := E) ?_ (fun _ _ z => wpAny_pure z) fun _ _ z => z)
  have LO : Looks (model PR w) s.heap (opaqueClassAbove (.type "dict")) none := Looks.of_pure hstub
  refine cls_open X LO L0 hg (looks_hook X (r := none) (by rfl)) (by show subIn _ _ _ = _; rfl) fk_cls ?_
  show wpAny _ _ (holding [.builtin "dict.fromkeys"] (call (.builtin "classmethod_descriptor.__get__") [.builtin "dict.fromkeys", .none, .type "dict"]) >>= fun v => ret v) _ _ _
  refine wpAny_bind (wpAny_holding (fk_get X hgens fun x h' tk k hx hx0 => wpAny_pure (wpAny_pure ?_)))
  rw [← hgens]
  refine h x h' tk (F.keeps k) fun p hp => ?_
  rcases List.mem_cons.mp hp with rfl | hp
  · obtain ⟨o, _, _, eL, _⟩ := F.ns
    refine ⟨hx, fun q => ?_, ?_⟩
    · have q' : x = L := q
      rw [q', eL] at hx0; cases hx0
    · cases e : h₀.get? x with
      | none => rfl
      | some o => rw [F.keep _ _ e] at hx0; cases hx0
  · exact (N.grown k) p hp

/-- what fromkeys has stored -/
def fks (ks : List Int) : List (Int × Value) := ks.foldl (fun a k => stored a k .none) []
theorem fks_take (ks : List Int) (i : Nat) (k : Int) (h : ks[i]? = some k) : fks (ks.take (i + 1)) = stored (fks (ks.take i)) k .none := by
  unfold fks
  rw [List.take_add_one, h, List.foldl_append]; rfl
theorem stored_len (kvs : List (Int × Value)) (k : Int) (v : Value) : (stored kvs k v).length ≤ kvs.length + 1 := by
  unfold stored; split <;> simp
theorem fks_len : ∀ ks : List Int, (fks ks).length ≤ ks.length := by
  intro ks
  have : ∀ (l : List Int) (a : List (Int × Value)), (l.foldl (fun a k => stored a k .none) a).length ≤ a.length + l.length := by
    intro l
    induction l with
    | nil => intro a; simp
    | cons k l ih =>
      intro a
      have h1 := ih (stored a k .none)
      have h2 := stored_len a k .none
      simp only [List.foldl_cons, List.length_cons]
      omega
  simpa [fks] using this ks []

theorem fk_loop {R : Result → Shared → Prop} {I d : Addr} {fp : List Addr} {ks : List Int} {P : Nat → Value → Prop} {St : Nat → Heap → Prop} (W : Walks PR w A.in1 I fp [I] ks.length P St) (hd : d ∉ fp)
    (hval : ∀ i v, P i v → ∃ k t, ks[i]? = some k ∧ v = .int k t) (hb : ks.length ≤ 100) :
    ∀ (k i : Nat) (s : Shared), ks.length - i = k → i ≤ ks.length → St i s.heap → s.heap.DictOf (intKind PR w) d (fks (ks.take i)) →
      (∀ h' tk, (∀ b o, b ≠ d → b ≠ I → s.heap.get? b = some o → h'.get? b = some o) → h'.DictOf (intKind PR w) d (fks ks) → R (.ok (.ret (.ref d))) { s with heap := h', toks := tk }) →
      codeAny (model PR w) A (.builtin "dict.fromkeys.loop" ⟨[.ref d, .ref I, .none], []⟩) R s := by
  have hdI : d ≠ I := fun e => hd (e ▸ W.sub I (.head _))
  intro k
  induction k with
  | zero =>
    intro i s hk hi hst hS hR
    have hin : i = ks.length := by omega
    subst hin
    refine codeAny_builtin fkl_entry ?_
    rw [Around.under_plainId fkl_plain _]
    show wpAny _ A.in1 (pyNext (.ref I) >>= _) _ _ s
    refine wpAny_bind (W.done s _ _ hst fun h' tk hm => ?_)
    show wpAny _ A.in1 (ret (Value.ref d)) _ _ _
    rw [List.take_length] at hS
    exact wpAny_pure (hR h' tk (fun b o _ hb e => hm b o (by simpa using hb) e) (hS.at fun o e => hm _ o (by simpa using hdI) e))
  | succ k ih =>
    intro i s hk hi hst hS hR
    have hlt : i < ks.length := by omega
    refine codeAny_builtin fkl_entry ?_
    rw [Around.under_plainId fkl_plain _]
    show wpAny _ A.in1 (pyNext (.ref I) >>= _) _ _ s
    refine wpAny_bind (W.item i s _ _ hlt hst fun v h' tk hP hst' hm => ?_)
    obtain ⟨z, t, hz, rfl⟩ := hval i v hP
    have hS' := hS.at (h' := h') fun o e => hm _ o (by simpa using hdI) e
    have hT : Shared.TypeIs { s with heap := h', toks := tk } (.ref d) "dict" := hS'.typeIs (s := { s with heap := h', toks := tk })
    show wpAny _ A.in1 (typeOf (.ref d) >>= _) _ _ _
    refine wpAny_bind (wpAny_typeOf hT ?_)
    have hl := fks_len (ks.take i)
    rw [List.length_take] at hl
    show wpAny _ A.in1 (holding [Value.int z t] (dictSet d (.int z t) .none) >>= _) _ _ _
    refine wpAny_bind (wpAny_holding (wpAny_dictSet_pairs (knd := intKind PR w) (intKind_is _ _ _ _) hS' (fun h2 hD hsb => ?_) (by rw [sizeLine_eq]; omega)))
    refine wpAny_pure ⟨plainId_quiet fkl_plain _, ih (i + 1) _ (by omega) hlt (W.frame _ _ _ hst' fun b hb o e => ?_) (by rw [fks_take ks i z hz]; exact hD) fun h3 tk3 hk3 hS3 => ?_⟩
    · exact (hsb.2 b (fun h : b = d => hd (h ▸ hb))).trans e
    · exact hR h3 tk3 (fun b o h1 h2' e => hk3 b o h1 h2' ((hsb.2 b h1).trans (hm b o (by simpa using h2') e))) hS3
theorem fk_call {bm l : Addr} {its : Array Value} {ks : List Int} {Q : Value → Shared → Prop} (X : (Mine.hd.heap_39 w.params).In s.heap) (hgens : s.gens = #[]) (hh : A.handled = none) (hbm : s.heap.get? bm = some fkObj) (hl : s.heap.IsList l its) (hi : IntsAre its.toList ks) (hb : ks.length ≤ 100)
    (h : ∀ d h' tk o, (∀ b o, s.heap.get? b = some o → h'.get? b = some o) → h'.get? d = some o → s.heap.get? d = none → o.IsDictOf (intKind PR w) (fks ks) → Q (.ref d) ⟨h', #[], s.drawn, tk, s.os⟩) :
    wpAny (model PR w) A (call (.ref bm) [.ref l] []) Q E s := by
  have hsz : its.size = ks.length := by rw [← hi.length, Array.length_toList]
  refine wpAny_call (codeAny_of_tree ?_)
  show wpAny _ A.in1 (callAny (.ref bm) ⟨[.ref l], []⟩) _ _ s
  simp only [callAny]
  refine wpAny_bind (wpAny_load hbm ?_)
  simp only [show (Value.type "builtin_function_or_method" == Value.type "method" || Value.type "builtin_function_or_method" == Value.type "builtin_function_or_method" || Value.type "builtin_function_or_method" == Value.type "method-wrapper") = true by decide, if_true]
  refine KFB.if_so (by decide) ?_
  refine wpAny_bind (wpAny_of_eq (a := ()) (fk_check (.ref l)) ?_)
  refine wpAny_bind (wpAny_pure (wpAny_pure ?_))
  refine ⟨fk_quiet, codeAny_builtin fk_entry ?_⟩
  rw [Around.under_plainId fk_plain _]
  unfold Builtin.«dict.fromkeys»
  refine wpAny_bind (wpAny_of_eq (a := true) fk_isType ?_)
  refine KFB.if_not rfl ?_
  refine wpAny_bind (wpAny_of_eq (a := true) fk_sub ?_)
  refine KFB.if_not rfl ?_
  refine KFB.if_not rfl ?_
  refine wpAny_bind (wpAny_rule (wpAny_bind (wpAny_pure ?_)))
  refine wpAny_bind (dict_new X hgens fun d h1 tk1 k1 hd hd0 => ?_)
  have hl1 : h1.IsList l its := by obtain ⟨o, ho, r⟩ := hl; exact ⟨o, k1 _ _ ho, r⟩
  have TL : Looks (model PR w) h1 (typeOf (.ref l)) (.type "list") := by obtain ⟨o, ho, hc, _⟩ := hl1; exact hc ▸ (Looks.ld ho).andThen .now
  have TD : Looks (model PR w) h1 (typeOf (.ref d)) (.type "dict") := (Looks.ld hd).andThen .now
  generalize hPI : pyIter = PI
  repeat lk
  subst hPI
  have hlS : l < h1.objs.size := by obtain ⟨o, ho, _⟩ := hl1; exact Heap.lt_size ho
  have hdS : d < h1.objs.size := Heap.lt_size hd
  have hld : l ≠ d := fun e => by
    obtain ⟨o, ho, hc, _⟩ := hl
    rw [e, hd0] at ho; cases ho
  refine wpAny_pyIter_list (s := ⟨h1, #[], s.drawn, tk1, s.os⟩) hl1 ?_
  refine wpAny_pure ⟨plainId_quiet fkl_plain _, ?_⟩
  have W := Walks.list (prog := PR) (w := w) (A := A.in1) hh h1.objs.size l (Nat.ne_of_lt hlS) its
  rw [hsz] at W
  refine fk_loop W ?_ (fun i v hv => ?_) hb ks.length 0 _ (by omega) (Nat.zero_le _) ⟨⟨_, Heap.get?_push_size _ rfl, rfl, rfl⟩, hl1.push _⟩ ?_ ?_
  · intro hm
    rcases List.mem_cons.mp hm with e | hm
    · exact absurd e (Nat.ne_of_lt hdS)
    · exact absurd (List.mem_singleton.mp hm) (Ne.symm hld)
  · obtain ⟨t, e⟩ := PyProof.Rows.IntsAre.int_at hi i v (by rw [Array.getElem?_toList]; exact hv)
    have hlt : i < ks.length := by
      rw [← hsz]
      by_cases hc : i < its.size
      · exact hc
      · rw [Array.getElem?_eq_none (by omega)] at hv; cases hv
    exact ⟨_, t, by rw [List.getD_eq_getElem?_getD, List.getElem?_eq_getElem hlt]; rfl, e⟩
  · exact ⟨_, #[], 0, Heap.get?_push_of_some _ hd, ⟨rfl, rfl, rfl⟩, rfl, fun e he => by simp at he, .nil, List.nodup_nil⟩
  · intro h' tk' hk hD
    obtain ⟨o, es, ep, ho, r⟩ := hD
    refine h d h' tk' o (fun b o e => ?_) ho hd0 ⟨es, ep, r⟩
    have e1 := k1 b o e
    refine hk b o (fun q => ?_) (fun q => absurd (Heap.lt_size e1) (q ▸ Nat.lt_irrefl _)) (Heap.get?_push_of_some _ e1)
    rw [q, hd0] at e; cases e
theorem fk_fields {M : Model} {pos : Pos} {u : Addr} {first : List Value} {args : List (Bool × Sem Value)} {Q : Value → Shared → Prop} (hplain : args.any (·.1) = false)
    (h : wpAny M A (evalArgs (.ref u) true args []) (fun x s₁ => s₁.heap.get? u = some fkObj ∧ wpAny M A (call (.ref u) (first ++ x.pos) x.kw) Q E s₁) E s) : wpAny M A (callWith pos (.ref u) first args []) Q E s := by
  unfold callWith
  refine wpAny_bind (wpAny_holding (wpAny_mono h (fun x s₁ h₁ => wpAny_bind (wpAny_standAt ?_)) fun _ _ x => x))
  obtain ⟨ho, hcall⟩ := h₁
  simp only [hplain, List.any_nil, Bool.or_false]
  refine wpAny_bind (m := keeperOf (.ref u)) ?_
  unfold keeperOf
  refine wpAny_bind (wpAny_load ho ?_)
  simp only [show (Value.type "builtin_function_or_method" != Value.type "method") = true by decide, show (Value.type "builtin_function_or_method" == Value.type "builtin_function_or_method" || Value.type "builtin_function_or_method" == Value.type "method-wrapper") = true by decide, if_true]
  refine wpAny_pure ?_
  exact wpAny_bind (wpAny_mono hcall (fun r s₂ hr => wpAny_bind (wpAny_holding (wpAny_point (wpAny_pure hr)))) fun _ _ x => x)
theorem fk_with {M : Model} {L : Addr} {h₀ : Heap} {news : List (Addr × Obj)} {pos : Pos} {u : Addr} {first : List Value} {env : Env} {e : PySem.Expr} {rest : List PySem.Expr} {Q : Value → Shared → Prop} (_N : News h₀ L s.heap news) (_hm : (u, fkObj) ∈ news)
    (h : wpAny M A (spliced (backTo pos (starEach (e :: rest) env))) (fun vs s₁ => s₁.heap.get? u = some fkObj ∧ wpAny M A (call (.ref u) (first ++ vs)) Q E s₁) E s)
    (he : starEach (e :: rest) env = (false, eval e env) :: starEach rest env := by rfl) (hplain : (backTo pos (starEach rest env)).any (·.1) = false := by rfl) :
    wpAny M A (callWith pos (.ref u) first (backTo pos (starEach (e :: rest) env)) []) Q E s := by
  rw [he] at h ⊢
  refine fk_fields (by show (false || (backTo pos (starEach rest env)).any (·.1)) = false; rw [hplain]; rfl) ?_
  exact evalArgs_plain h

/-- list(d) of a dict of ints -/
theorem list_dict_r {L : Addr} {h₀ : Heap} {m : Str → Option Value} {news : List (Addr × Obj)} {d : Addr} {o : Obj} {kvs : List (Int × Value)} {Q : Value → Shared → Prop} (hh : A.handled = none) (F : Fr h₀ L s.heap m) (N : News h₀ L s.heap news) (hp : (d, o) ∈ news) (hd : o.IsDictOf (intKind PR w) kvs) (lo : (d == sysModules) = false) (hn : kvs.length ≤ 100)
    (h : ∀ (B : Addr) c h' tk (us : List Value), Fr h₀ L h' m → News h₀ L h' ((B, listOf us.toArray c) :: news) → (∀ q ∈ news, q.1 < B) → IntsAre us (kvs.map (·.1)) → Q (.ref B) { s with heap := h', toks := tk }) :
    wpAny (model PR w) A (call (.type "list") [.ref d]) Q E s := by
  obtain ⟨ep, hat⟩ := (Heap.dictOf_iff.mpr ⟨o, (N _ hp).1, hd⟩ : s.heap.DictOf (intKind PR w) d kvs).dictAt
  refine kdl_N (kdl_dict (knd := intKind PR w) (kvs := kvs) (ep := ep) lo) hh F N hat (by rw [sizeLine_eq]; omega) fun B c h' tk vs F' N' l1 hl hv => ?_
  have key : ∀ (vs : List Value) (kvs : List (Int × Value)), vs.length = kvs.length → (∀ (j : Nat) (v : Value), vs[j]? = some v → ∃ (k : Int) (x : Value), kvs[j]? = some (k, x) ∧ (intKind PR w).is k v = true) → IntsAre vs (kvs.map (·.1)) := by
    intro vs
    induction vs with
    | nil => intro kvs hl _; cases kvs with | nil => exact .nil | cons _ _ => simp at hl
    | cons v vs ih =>
      intro kvs hl hv
      cases kvs with
      | nil => simp at hl
      | cons q kvs =>
        obtain ⟨k, x, e, hk⟩ := hv 0 v rfl
        simp only [List.getElem?_cons_zero, Option.some.injEq] at e
        subst e
        obtain ⟨t, rfl⟩ := Value.isInt_shape hk
        exact .cons k t (ih kvs (by simpa using hl) fun j u hu => by simpa using hv (j + 1) u (by simpa using hu))
  exact h B c h' tk vs F' N' l1 (key vs kvs hl hv)
end
end Mine

namespace Mine
open PySem PySem.W PyProof.Rows PySem.Calls
set_option maxRecDepth 100000
set_option maxHeartbeats 8000000
theorem top_off_Ul : True := by
  w_top off
  exact trivial
def ded (n : Int) : List Int := if n = 2 ∨ n = 9 then [2, 9] else [2, n, 9]
theorem sys_in {w : World} : ((Mine.hd.heap_39 w.params).lookup 1).isSome = true := by kernel_rfl
theorem lo_of {w : World} {g : Heap} {d : Addr} (X : (Mine.hd.heap_39 w.params).In g) (h : g.get? d = none) : (d == sysModules) = false := by
  obtain ⟨o, e⟩ := Option.isSome_iff_exists.mp (sys_in (w := w))
  have h1 := X _ _ e
  cases hq : (d == sysModules) with
  | false => rfl
  | true =>
    have q : d = sysModules := by simpa using hq
    rw [show d = 1 from q, h1] at h; cases h
theorem fks_ded (n : Int) : (fks [2, n, 2, 9]).map (·.1) = ded n := by
  unfold ded fks
  by_cases h2 : n = 2
  · subst h2; rfl
  · by_cases h9 : n = 9
    · subst h9; rfl
    · have e2 : ¬ (2 : Int) = n := fun e => h2 e.symm
      have e9 : ¬ (9 : Int) = n := fun e => h9 e.symm
      have e9' : ¬ n = 9 := h9
      simp [stored, h2, h9, e2, e9]
local macro_rules | `(tactic| walk_at "getMethod type:dict") => `(tactic| (k_here; refine stop_here ?_))
local macro_rules | `(tactic| walk_at "callWith ref") => `(tactic| (k_here; refine stop_here ?_))
local macro_rules | `(tactic| walk_at "callWith") => `(tactic| (k_here; (with_reducible show wpAny _ _ (callWith _ (Value.ref _) _ _ _) _ _ _); refine stop_here ?_))
local macro_rules | `(tactic| walk_at "call ref") => `(tactic| (k_here; refine stop_here ?_))
local macro_rules | `(tactic| walk_at "call type:list") => `(tactic| (k_here; refine stop_here ?_))
theorem ul_c {w : World} {mg mb : Str → Option Value} {mean : ExcName → Option Value} {G₀ : Heap} (X : (Mine.hd.heap_39 w.params).In G₀) (T : Top Mine.hd.view_39 LO mean mg mb G₀)
    {s : Shared} {l : Addr} {n : Int} {t1 t2 t3 t4 : Tok} (hG : ∀ b o, G₀.get? b = some o → s.heap.get? b = some o) (hl : s.heap.IsList l #[.int 2 t1, .int n t2, .int 2 t3, .int 9 t4])
    (hgens : s.gens = #[]) {R : Result → Shared → Prop}
    (hR : ∀ li h' tk us c, (∀ b o, s.heap.get? b = some o → h'.get? b = some o) → h'.get? li = some (listOf us.toArray c) → s.heap.get? li = none → IntsAre us (ded n) → R (.ok (.ret (.ref li))) ⟨h', #[], s.drawn, tk, s.os⟩) :
    codeAny (model PR w) (ar 960 5500) (.call (.ref 28) ⟨[.ref l], []⟩) R s := by
  refine' own_call (binds := [(Str.ofString "seq", .ref l)]) [] X T hG ?hx ?ho ?hcd ?hroom ?hbind ?hloc ?_ ?c2 ?c3 ?c4 ?c5
  case ho => k_is
  case hcd => k_is
  case hroom => decide
  case hbind => exact BindsTo.of_eq rfl
  case hloc => exact locs rfl
  case c5 => decide
  case c2 => exact rfl
  case c3 => exact rfl
  case c4 => exact rfl
  case hx => intro q hq; cases hq
  intro g L h₁ tk₁ F N Xg Tg hGg hk
  have hlg : g.IsList l #[.int 2 t1, .int n t2, .int 2 t3, .int 9 t4] := by
    obtain ⟨o, ho, r⟩ := hl
    exact ⟨o, hk _ _ ho (by simp), r⟩
  clear hGg hG hl X T
  (try dsimp only)
  (try k_fold)
  k_steps
  refine stop_out ?_
  refine fk_method F (N := N) Xg hgens fun bm h2 tk2 F2 N2 => ?_
  (try dsimp only at N2)
  k_steps
  refine stop_out ?_
  refine fk_with (u := bm) N2 (.head _) ?_
  k_steps
  · exact (N2 _ (.head _)).1
  refine stop_out ?_
  with_reducible rename (Fr g L _ _) => F3
  with_reducible rename (News g L _ _) => N3
  refine fk_call (bm := bm) (l := l) (ks := [2, n, 2, 9]) (Xg.keeps F3.keep) hgens rfl (N3 (bm, _) (by k_mem)).1 (by obtain ⟨o, ho, r⟩ := hlg; exact ⟨o, F3.keep _ _ ho, r⟩) (.cons _ _ (.cons _ _ (.cons _ _ (.cons _ _ .nil)))) (by simp) fun d h4 tk4 o4 k4 hd4 hd40 hdo => ?_
  have F4 := F3.keeps k4
  have N4 : News g L h4 [(d, o4)] := fun p hp => by
    cases List.mem_singleton.mp hp
    refine ⟨hd4, fun q => ?_, ?_⟩
    · obtain ⟨o, _, _, eL, _⟩ := F3.ns
      have q' : d = L := q
      rw [q'] at hd40
      exact absurd (hd40.symm.trans eL) (by intro h; cases h)
    · cases e : g.get? d with
      | none => rfl
      | some o => exact absurd (hd40.symm.trans (F3.keep _ _ e)) (by intro h; cases h)
  clear F3 N3
  k_steps
  refine stop_out ?_
  with_reducible rename (Fr g L _ _) => F5
  with_reducible rename (News g L _ _) => N5
  refine list_dict_r (d := d) (o := o4) rfl F5 N5 (by k_mem) hdo (lo_of Xg (N5 (d, o4) (by k_mem)).2.2) (Nat.le_trans (fks_len _) (by simp)) fun B c h6 tk6 us F6 N6 l6 hus => ?_
  k_steps
  have zB := N6 _ (.head _)
  rw [fks_ded] at hus
  refine hR B h6 tk6 us c (fun b o e => F6.keep b o (hk b o e (by simp))) zB.1 ?_ hus
  generalize hq : s.heap.get? _ = r
  cases r with
  | none => rfl
  | some o => exact absurd (zB.2.2.symm.trans (hk _ o hq (by simp))) (by intro h; cases h)
end Mine

namespace Mine
open PySem PySem.W PyProof.Rows PySem.Calls
set_option maxRecDepth 100000
set_option maxHeartbeats 8000000
theorem top_off_OsNew : True := by
  w_top off
  exact trivial
def makesSet (K : Frag) (C : Addr) : Bool := match K.lookup C with
  | some ⟨_, _, .cls cd, sl⟩ => !cd.abstract && !cd.hasDel && (sl.toList[4]?).join == some (.builtin "set.__new__") && !cd.mro.isEmpty && cd.mro.contains (.ref C) && cd.mro.contains (.type "set") &&
      specialIn K (.ref C) "__call__" == some (some (.builtin "type.__call__")) && instIn K (.ref C) (.type "type") == some true
  | _ => false
structure MakesSet (M : Model) (h : Heap) (C : Addr) : Prop where
  obj : ∃ oc od cd sl, h.get? C = some ⟨oc, od, .cls cd, sl⟩ ∧ cd.abstract = false ∧ cd.hasDel = false ∧ cd.mro.isEmpty = false
  made : Looks M h (Bind.madeBy (.ref C)) (some "set.__new__")
  base : Looks M h (Bind.staticBase (.ref C)) (.ref C)
  self : Looks M h (isSubtype (.ref C) (.ref C)) true
  top : Looks M h (isSubtype (.ref C) (.type "set")) true
  call : Looks M h (specialOf (.ref C) "__call__") (some (.builtin "type.__call__"))
  typ : Looks M h (isInstance (.ref C) (.type "type")) true
theorem makesSet_of {K : Frag} {M : Model} {h : Heap} (X : K.In h) {C : Addr} (e : makesSet K C = true) : MakesSet M h C := by
  unfold makesSet at e
  split at e
  · rename_i oc od cd sl ho
    simp only [Bool.and_eq_true, Bool.not_eq_true', beq_iff_eq] at e
    obtain ⟨⟨⟨⟨⟨⟨⟨e1, e2⟩, e3⟩, e4⟩, e5⟩, e6⟩, e7⟩, e8⟩ := e
    have hc : clsIn K C = some cd := by unfold clsIn; rw [ho]
    have hm : Looks M h (mroOf (.ref C)) cd.mro := (looks_clsIn X hc).andThen .now
    obtain ⟨c, l, hl⟩ : ∃ c l, cd.mro = c :: l := by cases q : cd.mro with | nil => rw [q] at e4; cases e4 | cons c l => exact ⟨c, l, rfl⟩
    have made : Looks M h (Bind.madeBy (.ref C)) (some "set.__new__") := by
      intro A Q E s k q
      unfold Bind.madeBy
      refine wpAny_bind (hm A _ E s k ?_)
      rw [hl, List.forIn_cons]
      refine wpAny_bind (wpAny_bind (wpAny_bind (wpAny_bind (wpAny_loadPart (k _ _ (X _ _ ho)) (wpAny_pure ?_)))))
      dsimp only
      rw [← Array.getElem?_toList, e3]
      exact wpAny_pure (wpAny_pure (wpAny_pure q))
    refine ⟨⟨oc, od, cd, sl, X _ _ ho, e1, e2, e4⟩, made, ?_, looks_mroIn X ?_, looks_mroIn X ?_, looks_specialIn X e7, looks_instIn X e8⟩
    · intro A Q E s k q
      unfold Bind.staticBase
      refine wpAny_bind (hm A _ E s k ?_)
      rw [hl, List.forIn_cons]
      exact wpAny_bind (wpAny_bind (wpAny_bind (made A _ E s k (wpAny_pure (wpAny_pure (wpAny_pure q))))))
    · unfold mroIn; rw [hc, Option.bind_some, if_neg (by rw [e4]; decide), e5]
    · unfold mroIn; rw [hc, Option.bind_some, if_neg (by rw [e4]; decide), e6]
  · cases e
theorem os_makes {w : World} : makesSet (Mine.hd.heap_39 w.params) 232 = true := by kernel_rfl
theorem os_init {w : World} : findIn (Mine.hd.heap_39 w.params) (.ref 232) "__init__" = some (some (.ref 44)) := by k_is
theorem os_fn {w : World} : typeIn (Mine.hd.heap_39 w.params) (.ref 44) = some (.type "function") := by k_is
abbrev setObj (C dx : Addr) (led : Bool) : Obj := { cls := .ref C, dict := some dx, data := .set #[] 0 (.fresh 0 0 led) }
def SetNewQ (s : Shared) (Q : Value → Shared → Prop) : Prop :=
  ∀ x dx h' led tk, (∀ b o, s.heap.get? b = some o → h'.get? b = some o) → h'.get? x = some (setObj 232 dx led) → s.heap.get? x = none → h'.get? dx = some emptyDict → s.heap.get? dx = none → (@LT.lt Nat _ dx x) → Q (.ref x) ⟨h', #[], s.drawn, tk, s.os⟩
theorem SetNewQ.use {s : Shared} {Q : Value → Shared → Prop} {x dx : Addr} {h' : Heap} {led : Bool} {tk : Nat} (k : SetNewQ s Q) (D : W.X.Mem s.heap h' [] [(x, setObj 232 dx led), (dx, emptyDict)]) : Q (.ref x) ⟨h', #[], s.drawn, tk, s.os⟩ :=
  k _ _ _ _ _ (fun b o e => D.keep b o e (by rw [show W.X.away [] b = true from rfl, Bool.or_true])) (D.nw _ (.head _)).1 (D.nw _ (.head _)).2 (D.nw _ (.tail _ (.head _))).1 (D.nw _ (.tail _ (.head _))).2 ((List.pairwise_cons.mp D.ord).1 dx (by simp))
local macro_rules | `(tactic| x_close) => `(tactic| (refine' SetNewQ.use ?ka ?kb; (case ka => assumption); (case kb => assumption)))
theorem set_new {w : World} {A : Around} {s : Shared} {rest : Value} {Q E : Value → Shared → Prop} (X : (Mine.hd.heap_39 w.params).In s.heap) (hg : s.gens = #[])
    (h : SetNewQ s Q) :
    wpAny (model PR w) A (call (.builtin "set.__new__") [.ref 232, rest] []) Q E s := by
  x_run

theorem os_call {w : World} {A : Around} {s : Shared} {arg : Value} {R : Result → Shared → Prop} (X : (Mine.hd.heap_39 w.params).In s.heap) (hg : s.gens = #[])
    (hq : ∀ x dx h' led tk, (∀ b o, s.heap.get? b = some o → h'.get? b = some o) → h'.get? x = some (setObj 232 dx led) → s.heap.get? x = none → h'.get? dx = some emptyDict → s.heap.get? dx = none → (@LT.lt Nat _ dx x) →
      codeAny (model PR w) (A.under (.builtin "type.__call__" ⟨[.ref 232, arg], []⟩)) (.call (.ref 44) ⟨[.ref x, arg], []⟩) (InitBack x R) ⟨h', #[], s.drawn, tk, s.os⟩) :
    codeAny (model PR w) A (.call (.ref 232) ⟨[arg], []⟩) R s := by
  obtain ⟨⟨oc, od, cd, sl, hC, e1, e2, e4⟩, made, base, self, top, call, typ⟩ := makesSet_of (M := model PR w) X os_makes
  have hi : Looks (model PR w) s.heap (typeLookup (.ref 232) "__init__") (some (.ref 44)) := looks_findIn X os_init
  refine codeAny_of_tree ?_
  show wpAny _ _ (callAny (.ref 232) _) _ _ _
  refine nd_load hC ?_
  show wpAny _ _ (callAny.viaDunder (.ref 232) _) _ _ _
  unfold callAny.viaDunder
  refine wpAny_bind (call.at ?_)
  dsimp only
  rw [tc_bind]
  refine wpAny_bind (wpAny_pure (wpAny_bind (wpAny_pure ?_)))
  refine wpAny_pure (a := Fin.again (.call (.builtin "type.__call__") ⟨[.ref 232, arg], []⟩)) (And.intro rfl ?_)
  refine codeAny_call_builtin_at (Code.quiet_builtin _ (by decide +kernel)) entry_typeCall (check_slot tc_kind tc_split typ (tc_args _ _ _) ?_)
  unfold Builtin.«type.__call__»
  have hm : Looks (model PR w) s.heap (mroOf (.ref 232)) cd.mro := ((Looks.ld (part := none) hC).andThen .now).andThen .now
  repeat (first | simp only [e4, Bool.false_eq_true, if_false] | with_reducible refine set_new X hg ?_ | lk)
  intro x dx h' led tk k hx hxn hdx hdn hdl
  have t1 : Looks (model PR w) h' (typeOf (.ref x)) (.ref 232) := (Looks.ld hx).andThen .now
  have s1 := self.keeps k
  have i1 := hi.keeps k
  have b1 : Looks (model PR w) h' (bindSpecial (.ref 44) (.ref x)) (.ref 44, [.ref x]) := bind_fn (X.keeps k) (.ref x) os_fn
  unfold isInstance callSpecial? specialOf
  repeat (first | with_reducible refine wpAny_call ?_ | lk)
  refine codeAny_mono (hq x dx h' led tk k hx hxn hdx hdn hdl) fun r s' z => ?_
  rcases r with e | (v | _ | _ | _) <;> first | exact z | exact z.elim | skip
  obtain ⟨rfl, z⟩ := z
  exact wpAny_pure (wpAny_pure z)
end Mine

namespace Mine
open PySem PySem.W PyProof.Rows PySem.Calls Builtin Builtin.ObjectAttr Builtin.Getset_descriptor
set_option maxRecDepth 100000
set_option maxHeartbeats 8000000
theorem top_off_OsSlot : True := by
  w_top off
  exact trivial
theorem pass_set (self : Value) : refuseLoop self "__setattr__" [.ref 232, .type "set", .type "object"] = pure () := by rw [refuseLoop_ref]; kernel_rfl
section
variable {prog : Program} {w : World} {A : Around} {E : Value → Shared → Prop} {s : Shared} {K : Frag} {x C L p : Addr} {h₀ : Heap} {m : Str → Option Value} {news news' : List (Addr × Obj)} {ox ox' od : Obj} {name : Str} {v : Value} {i : Nat} {R : Result → Shared → Prop}
theorem osa_open' {tk : Tok} {r : Option Value} {l : List Value} (X : K.In s.heap) (I : InstAt s.heap x ox C (some od)) (hm : (clsIn K C).map (·.mro) = some l) (hl : l.isEmpty = false) (ho : l.contains (.type "object") = true) (hp : refuseLoop (.ref x) "__setattr__" l = pure ()) (ht : takerIn K C name = some r)
    (h : ∀ b, wpAny (model prog w) A.in1 (match r with | some a => setByDescriptor a (.ref x) v | none => storeInOwnDict (.ref x) (.ref C) (.str name tk) name v b)
      (fun fin s' => match fin with | .done f => R (.ok f) s' | .again c' => c'.quiet = true ∧ codeAny (model prog w) A c' R s') (fun e s' => R (.error e) s') s) :
    codeAny (model prog w) A (.call (.builtin "object.__setattr__") ⟨[.ref x, .str name tk, v], []⟩) R s := by
  have SF := PySem.F.store_object
  obtain ⟨cd, hc, rfl⟩ := Option.map_eq_some_iff.mp hm
  have sub : Looks (model prog w) s.heap (isInstance (.ref x) (.type "object")) true := I.type.andThen (looks_mroIn X (by unfold mroIn; rw [hc, Option.bind_some, if_neg (by rw [hl]; decide), ho]))
  refine codeAny_call_builtin SF.slot.plain SF.entry (@check_slot (model prog w) _ _ s "object.__setattr__" "object" "__setattr__" (.ref x) [.str name tk, v] [] _ SF.kind SF.split sub (SF.args (.ref x) (.str name tk) v) ?_)
  obtain ⟨attr, ha, hr⟩ := Option.bind_eq_some_iff.mp ht
  have hm : Looks (model prog w) s.heap (mroOf (.ref C)) cd.mro := (looks_clsIn X hc).andThen .now
  have L3 : Looks (model prog w) s.heap (storeTaker? attr) r := by
    cases attr with
    | none => cases hr; exact .now
    | some a =>
      obtain ⟨b, hb, rfl⟩ := Option.map_eq_some_iff.mp hr
      refine (looks_takesIn X hb).andThen ?_
      cases b <;> exact .now
  rw [osa_eq, refuse_eq]
  refine wpAny_bind (wpAny_bind (I.type.here (wpAny_bind (hm.here ?_))))
  rw [hp]
  refine wpAny_pure (wpAny_bind (I.type.here (wpAny_bind ((looks_findIn X ha).here (wpAny_bind (L3.here ?_))))))
  exact h _
theorem osa_descr' {tk : Tok} {T i : String} {l : List Value} (S : Slot T "__set__" i) (X : K.In s.heap) (I : InstAt s.heap x ox C (some od)) (hm : (clsIn K C).map (·.mro) = some l) (hl : l.isEmpty = false) (ho : l.contains (.type "object") = true) (hp : refuseLoop (.ref x) "__setattr__" l = pure ()) (ht : takerIn K C name = some (some (.ref p)))
    (hT : typeIn K (.ref p) = some (.type T)) (h : codeAny (model prog w) A.in1 (.call (.builtin i) ⟨[.ref p, .ref x, v], []⟩) (fun r s' => match r with | .ok (.ret _) => R (.ok (.ret .none)) s' | .ok _ => False | .error e => R (.error e) s') s) :
    codeAny (model prog w) A (.call (.builtin "object.__setattr__") ⟨[.ref x, .str name tk, v], []⟩) R s := by
  refine osa_open' X I hm hl ho hp ht fun _ => ?_
  refine wpAny_bind (wpAny_rule (wpAny_bind (wpAny_holding (wpAny_bind (wpAny_bind ((looks_typeIn X hT).here ((Looks.of_pure S.lookup).here (wpAny_holding ?_))))))))
  rw [S.bind]
  refine wpAny_bind (wpAny_pure (wpAny_bind (wpAny_call (codeAny_mono h fun r s' z => ?_))))
  rcases r with e | (v | _ | _ | _) <;> first | exact z | exact wpAny_pure (wpAny_pure z)

theorem os_set {Q : Unit → Shared → Prop} {dx : Addr} {led : Bool} (F : Fr h₀ L s.heap m) (X₀ : (Mine.hd.heap_39 w.params).In h₀) (N : News h₀ L s.heap news) (hm : (x, setObj 232 dx led) ∈ news) (hd : (dx, emptyDict) ∈ news)
    (U : Upd x (setObj 232 dx led) { setObj 232 dx led with slots := #[some v] } news news') (hs : findIn (Mine.hd.heap_39 w.params) (.ref 232) "__setattr__" = some (some (.builtin "object.__setattr__"))) (hM : (clsIn (Mine.hd.heap_39 w.params) 232).map (·.mro) = some [.ref 232, .type "set", .type "object"])
    (ht : takerIn (Mine.hd.heap_39 w.params) 232 "_list" = some (some (.ref 233))) (hT : typeIn (Mine.hd.heap_39 w.params) (.ref 233) = some (.type "member_descriptor")) (hi : slotIn (Mine.hd.heap_39 w.params) 233 232 = some 0)
    (h : ∀ h', Fr h₀ L h' m → News h₀ L h' news' → Q () { s with heap := h', toks := s.toks + 1 }) : wpAny (model prog w) A (setAttr (.ref x) "_list" v) Q E s := by
  obtain ⟨pre, post, rfl, rfl, a, b⟩ := U.split
  have I : InstAt s.heap x (setObj 232 dx led) 232 (some emptyDict) := ⟨(N _ hm).1, rfl, rfl, (N _ hd).1⟩
  exact set_plain (X₀.keeps F.keep) I hs (osa_descr' (s := { s with toks := s.toks + 1 }) KF.slot_mset (X₀.keeps F.keep) I hM rfl (by decide) (pass_set _) ht hT (slot_set (s := { s with toks := s.toks + 1 }) F N (X₀.keeps F.keep) I hi (by decide) a b rfl rfl fun h' F' N' => h h' F' N'))
end
theorem init_cls {w : World} : findCls (Mine.hd.heap_39 w.params) (.type "set") (.type "type") "__init__" = some (.val (.builtin "set.__init__")) := by kernel_rfl
theorem set_plainT : Manifest.isStub "set" = false := by decide +kernel
theorem init_handed : handedIn (.builtin "set.__init__") = true := by kernel_rfl
theorem init_method {w : World} {A : Around} {E : Value → Shared → Prop} {s : Shared} {L : Addr} {h₀ : Heap} {m : Str → Option Value} {pl : Sem Bool} {Q : Value × List Value → Shared → Prop} (F : Fr h₀ L s.heap m) (X₀ : (Mine.hd.heap_39 w.params).In h₀)
    (h : Q (.builtin "set.__init__", []) { s with toks := s.toks + 1 }) : wpAny (model PR w) A (getMethod (.type "set") "__init__" pl) Q E s :=
by
  refine' method_type ?F ?X ?m ?st ?e ?hh ?_
  case F => exact F
  case X => exact X₀
  case m => exact PyProof.Rows.meta_set
  case st => exact set_plainT
  case e => exact init_cls
  case hh => exact init_handed
  exact h
end Mine

namespace Mine
open PySem PySem.W PyProof.Rows PySem.Calls PySem.W.X
set_option maxRecDepth 100000
set_option maxHeartbeats 8000000
theorem top_off_OsGet : True := by
  w_top off
  exact trivial
def EndQ (s : Shared) (v : Value) (Q : Value → Shared → Prop) : Prop := ∀ h' tk, (∀ b o, s.heap.get? b = some o → h'.get? b = some o) → Q v ⟨h', #[], s.drawn, tk, s.os⟩
theorem EndQ.use {s : Shared} {v : Value} {Q : Value → Shared → Prop} {h' : Heap} {news : List (Addr × Obj)} {tk : Nat} (k : EndQ s v Q) (D : Mem s.heap h' [] news) : Q v ⟨h', #[], s.drawn, tk, s.os⟩ :=
  k _ _ (fun b o e => D.keep b o e (by rw [show away [] b = true from rfl, Bool.or_true]))
theorem EndQ.same {s : Shared} {v : Value} {Q : Value → Shared → Prop} {tk : Nat} (k : EndQ s v Q) : Q v ⟨s.heap, #[], s.drawn, tk, s.os⟩ := k _ _ fun _ _ e => e
local macro_rules | `(tactic| x_close) => `(tactic| (first | (refine' EndQ.use ?ka ?kb; (case ka => assumption); (case kb => assumption)) | (refine' EndQ.same ?ka; (case ka => assumption))))
theorem os_ga {w : World} {A : Around} {s : Shared} {x dx : Addr} {es : Array (Int × Value)} {ep : Nat} {tb : SetTable} {v : Addr} {tk : Tok} {Q E : Value → Shared → Prop} (X : (Mine.hd.heap_39 w.params).In s.heap) (hg : s.gens = #[])
    (hx : s.heap.get? x = some ⟨.ref 232, some dx, .set es ep tb, #[some (.ref v)]⟩) (hd : s.heap.get? dx = some ⟨.type "dict", none, .dict #[] 0, #[]⟩) (h : EndQ s (.ref v) Q) :
    wpAny (model PR w) A (call (.builtin "set.__getattribute__") [.ref x, .str (Str.ofString "_list") tk]) Q E s := by
  x_run
theorem bind_sga (self : Value) : bindSpecial (.builtin "set.__getattribute__") self = pure (.builtin "set.__getattribute__", [self]) :=
  (Slot.of (T := "set") (name := "__getattribute__") (owner := "set") (n := "__getattribute__") (by rw [typeLookup_type, builtinLookup_eq_fast]; kernel_rfl) (by decide +kernel) (by decide +kernel) (by decide +kernel)
    (.inl (by decide +kernel)) (by rw [isSubtype_type]; kernel_rfl)).bind self
theorem os_ga_in {w : World} : findIn (Mine.hd.heap_39 w.params) (.ref 232) "__getattribute__" = some (some (.builtin "set.__getattribute__")) := by k_is
theorem os_gattr {w : World} : findIn (Mine.hd.heap_39 w.params) (.ref 232) "__getattr__" = some none := by k_is
theorem os_get {w : World} {A : Around} {s : Shared} {x dx : Addr} {es : Array (Int × Value)} {ep : Nat} {tb : SetTable} {v : Addr} {expr : Bool} {Q E : Value → Shared → Prop} (X : (Mine.hd.heap_39 w.params).In s.heap) (hg : s.gens = #[])
    (hx : s.heap.get? x = some ⟨.ref 232, some dx, .set es ep tb, #[some (.ref v)]⟩) (hd : s.heap.get? dx = some ⟨.type "dict", none, .dict #[] 0, #[]⟩)
    (h : ∀ h' tk, (∀ b o, s.heap.get? b = some o → h'.get? b = some o) → Q (.ref v) { s with heap := h', toks := tk }) :
    wpAny (model PR w) A (getAttr (.ref x) "_list" expr) Q E s := by
  obtain ⟨hh, g, d, t, os⟩ := s
  dsimp only at hg X hx hd h
  subst hg
  have I : InstAt hh x ⟨.ref 232, some dx, .set es ep tb, #[some (.ref v)]⟩ 232 (some ⟨.type "dict", none, .dict #[] 0, #[]⟩) := ⟨hx, rfl, rfl, hd⟩
  have L0 := I.type (M := model PR w)
  have L1 := looks_findIn (M := model PR w) X os_ga_in
  have L2 := looks_findIn (M := model PR w) X os_gattr
  unfold getAttr getAttrBy
  refine wpAny_bind (wpAny_mkText (wpAny_holding (wpAny_bind (L0.at (wpAny_bind (L1.at ?_))))))
  show wpAny _ _ (getAttrByItsOwn _ _ _ _ _ _) _ _ _
  unfold getAttrByItsOwn hookBefore
  refine wpAny_bind (L2.at (wpAny_bind (wpAny_attempt (wpAny_holding ?_))))
  have e : callGetattribute (.ref x) (.str "_list" t) (.builtin "set.__getattribute__") expr = call (.builtin "set.__getattribute__") [.ref x, .str "_list" t] := by
    unfold callGetattribute boundAndCalled
    rw [bind_sga]
    cases expr <;> rfl
  rw [e]
  refine os_ga (s := ⟨hh, #[], d, t + 1, os⟩) X rfl hx hd fun h' tk k => ?_
  show wpAny _ _ (handedOut (.ref v)) _ _ _
  rw [handedOut_of (by rfl)]
  exact wpAny_pure (h h' tk k)
end Mine

namespace Mine
open PySem PySem.W PyProof.Rows PySem.Calls
set_option maxRecDepth 100000
set_option maxHeartbeats 8000000
theorem top_off_OsFill : True := by
  w_top off
  exact trivial
/-- a set, of a class of its own, that holds n keys at most -/
abbrev ssObj (dx : Addr) (sl : Array (Option Value)) (es : Array (Int × Value)) (ep : Nat) (tb : SetTable) : Obj := ⟨.ref 232, some dx, .set es ep tb, sl⟩
section
variable {prog : Program} {w : World} {A : Around} {E : Value → Shared → Prop} {s : Shared}
def SubSet (knd : KeyKind prog w Int) (h : Heap) (a dx : Addr) (sl : Array (Option Value)) (n : Nat) : Prop :=
  ∃ es ep t, h.get? a = some (ssObj dx sl es ep t) ∧ ElemsOf knd es.toList ∧ t.fits es.size = true ∧ es.size ≤ n
variable {knd : KeyKind prog w Int}

theorem sub_tail {g : Bool → Sem Unit} (hg : ∀ (b : Bool) (s₁ : Shared) (Q' : Unit → Shared → Prop), Q' () s₁ → wpAny (model prog w) A (g b) Q' E s₁)
    {a dx : Addr} {sl : Array (Option Value)} {es : Array (Int × Value)} {ep : Nat} {t : SetTable} (ho : s.heap.get? a = some (ssObj dx sl es ep t))
    {es1 : Array (Int × Value)} {t2 : SetTable} {n : Nat} (hel1 : ElemsOf knd es1.toList) (hb1 : es1.size ≤ n) (hn : n < scanBound) (hf2 : t2.fits es1.size = true) {wasDummy : Bool} {R : Option Bool → Shared → Prop}
    (h : ∀ h', Heap.SameBut a s.heap h' → SubSet knd h' a dx sl n → R (some true) { s with heap := h' }) :
    wpAny (model prog w) A (do
        storeSet a es1 t2
        if (!wasDummy && t2.tooFull) = true then do
            g (relayAll t2 es1 (SetTable.grown es1.size)).2.2
            storeSet a (relayAll t2 es1 (SetTable.grown es1.size)).1 (relayAll t2 es1 (SetTable.grown es1.size)).2.1
            pure (some true)
          else pure (some true)) R E s := by
  have get : ∀ (h : Heap) (es0 : Array (Int × Value)) (ep0 : Nat) (t0 : SetTable) (es' : Array (Int × Value)) (t' : SetTable), h.get? a = some (ssObj dx sl es0 ep0 t0) → (h.update a (Obj.putSet es' t')).get? a = some (ssObj dx sl es' (ep0 + 1) t') := fun h es0 ep0 t0 es' t' e => by
    have := Heap.get?_update_self (Obj.putSet es' t') e rfl
    exact this
  refine wpAny_bind (wpAny_storeSet_of ho rfl ?_ (fits_of_scanBound (by omega)))
  have ho1 := get _ _ _ _ es1 t2 ho
  have hsb1 := Heap.SameBut.update s.heap a (Obj.putSet es1 t2)
  split
  · have hp := relayAll_perm t2 es1 (SetTable.grown es1.size)
    have hfr := relayAll_fits t2 es1 (SetTable.grown es1.size)
    generalize hRl : relayAll t2 es1 (SetTable.grown es1.size) = Rl at hp hfr ⊢
    obtain ⟨es2, t3, gave2⟩ := Rl
    dsimp only at hp hfr ⊢
    have hsz : es2.size = es1.size := by rw [← Array.length_toList, hp.length_eq, Array.length_toList]
    refine wpAny_bind (hg _ _ _ ?_)
    refine wpAny_bind (wpAny_storeSet_of ho1 rfl ?_ (fits_of_scanBound (by omega)))
    exact wpAny_pure (h _ (hsb1.trans (Heap.SameBut.update _ a _)) ⟨es2, _, t3, get _ _ _ _ es2 t3 ho1, hel1.perm hp, hfr, by omega⟩)
  · exact wpAny_pure (h _ hsb1 ⟨es1, _, t2, ho1, hel1, hf2, hb1⟩)

theorem sub_add {a dx : Addr} {sl : Array (Option Value)} {n : Nat} {k : Int} {x : Value} {Q : Bool → Shared → Prop} (hkey : knd.is k x = true) (hsc : x.scannable = true) (hS : SubSet knd s.heap a dx sl n)
    (hroom : n + 1 < scanBound) (h : ∀ b h', Heap.SameBut a s.heap h' → SubSet knd h' a dx sl (n + 1) → Q b { s with heap := h' }) :
    wpAny (model prog w) A (setAddHashed a x (knd.hash k)) Q E s := by
  obtain ⟨es, ep, t, ho, hel, hf, hn⟩ := hS
  unfold setAddHashed setAddHashedIn
  refine wpAny_holding (wpAny_bind (wpAny_setState_of ho rfl hf ?_))
  dsimp only
  rw [byScan_of hsc (by omega) hel]
  simp only [↓reduceIte]
  unfold setAddByScan
  refine wpAny_bind ?_
  refine wpAny_bind (wpAny_rule ?_)
  refine wpAny_bind (wpAny_setScan_of hkey ho rfl hf hel ?_)
  cases hr : List.findIdx? (fun e => knd.is k e.2) es.toList with
  | some j =>
    dsimp only
    refine wpAny_pure (wpAny_pure ?_)
    exact h _ s.heap (Heap.SameBut.refl a s.heap) ⟨es, ep, t, ho, hel, hf, by omega⟩
  | none =>
    dsimp only
    have hgw : ∀ (b : Bool) {s₁ : Shared} {Q' : Unit → Shared → Prop}, Q' () s₁ → wpAny (model prog w) A (match b with | true => rule "set.scan.the-table-gave-way" | false => pure ()) Q' E s₁ :=
      fun b s₁ Q' hq => by cases b <;> first | exact wpAny_pure hq | exact wpAny_rule hq
    have hperm := layNew_perm t es (knd.hash k) x
    have hfits := layNew_fits t es (knd.hash k) x
    generalize hL : layNew t es (knd.hash k) x = L at hperm hfits ⊢
    obtain ⟨es1, t1, wasDummy, gave⟩ := L
    dsimp only at hperm hfits ⊢
    rw [Array.toList_push] at hperm
    have hel1 : ElemsOf knd es1.toList := (hel.push hkey hsc).perm hperm
    have hb1' : es1.size ≤ n + 1 := by rw [← Array.length_toList, hperm.length_eq, List.length_append, Array.length_toList]; simpa using hn
    refine wpAny_bind (hgw _ ?_)
    split
    · refine wpAny_bind ?_
      rw [hashByValue_scannable 8 hsc]
      refine wpAny_pure ?_
      refine sub_tail ?_ ho hel1 hb1' hroom ?_ ?_
      · intro b s₁ Q' hq; cases b <;> first | exact wpAny_pure hq | exact wpAny_rule hq
      · split
        · exact hfits
        · exact SetTable.fits_plain_off hfits
      · intro h' hsb hS'; dsimp only; exact wpAny_pure (h _ h' hsb hS')
    · refine wpAny_bind (wpAny_pure ?_)
      simp only [↓reduceIte]
      refine sub_tail ?_ ho hel1 hb1' hroom hfits ?_
      · intro b s₁ Q' hq; cases b <;> first | exact wpAny_pure hq | exact wpAny_rule hq
      · intro h' hsb hS'; dsimp only; exact wpAny_pure (h _ h' hsb hS')

theorem SubSet.at {h h' : Heap} {a dx : Addr} {sl : Array (Option Value)} {n : Nat} (x : SubSet knd h a dx sl n) (k : ∀ o, h.get? a = some o → h'.get? a = some o) : SubSet knd h' a dx sl n := by
  obtain ⟨es, ep, t, e, r⟩ := x; exact ⟨es, ep, t, k _ e, r⟩

/-- set.update over ints, of a walked source -/
theorem sub_loop {R : Result → Shared → Prop} {I : Addr} {fp : List Addr} {n : Nat} {P : Nat → Value → Prop} {St : Nat → Heap → Prop} (W : Walks prog w A.in1 I fp [I] n P St) (a dx : Addr) (sl : Array (Option Value)) (ha : a ∉ fp)
    (hval : ∀ i v, P i v → ∃ k t, v = .int k t) (hb : n + 1 < scanBound) :
    ∀ (k i : Nat) (s : Shared), n - i = k → i ≤ n → St i s.heap → SubSet (intKind prog w) s.heap a dx sl i →
      (∀ h' tk, (∀ b o, b ≠ a → b ≠ I → s.heap.get? b = some o → h'.get? b = some o) → SubSet (intKind prog w) h' a dx sl n → R (.ok (.ret .none)) { s with heap := h', toks := tk }) →
      codeAny (model prog w) A (.builtin "set.update.loop" ⟨[.ref a, .ref I], []⟩) R s := by
  have haI : a ≠ I := fun e => ha (e ▸ W.sub I (.head _))
  intro k
  induction k with
  | zero =>
    intro i s hk hi hst hS hR
    have hin : i = n := by omega
    subst hin
    refine codeAny_builtin F.entry_set_update_loop ?_
    rw [Around.under_plainId F.plain_set_update_loop _]
    show wpAny _ A.in1 (pyNext (.ref I) >>= _) _ _ s
    refine wpAny_bind (W.done s _ _ hst fun h' tk hm => ?_)
    show wpAny _ A.in1 (ret Value.none) _ _ _
    exact wpAny_pure (hR h' tk (fun b o _ hb e => hm b o (by simpa using hb) e) (hS.at fun o e => hm _ o (by simpa using haI) e))
  | succ k ih =>
    intro i s hk hi hst hS hR
    have hlt : i < n := by omega
    refine codeAny_builtin F.entry_set_update_loop ?_
    rw [Around.under_plainId F.plain_set_update_loop _]
    show wpAny _ A.in1 (pyNext (.ref I) >>= _) _ _ s
    refine wpAny_bind (W.item i s _ _ hlt hst fun v h' tk hP hst' hm => ?_)
    obtain ⟨z, t, rfl⟩ := hval i v hP
    have hS' := hS.at (h' := h') fun o e => hm _ o (by simpa using haI) e
    show wpAny _ A.in1 (holding [Value.int z t] (setAdd a (.int z t)) >>= _) _ _ _
    refine wpAny_bind (wpAny_holding ?_)
    unfold setAdd
    refine wpAny_holding ?_
    refine wpAny_bind ((intKind prog w).pyHash (k := z) (intKind_is _ _ _ _) ?_)
    refine sub_add (knd := intKind prog w) (intKind_is _ _ _ _) rfl hS' (by omega) fun b h2 hsb hS2 => ?_
    refine wpAny_pure ⟨plainId_quiet F.plain_set_update_loop _, ih (i + 1) _ (by omega) hlt (W.frame _ _ _ hst' fun b hb o e => ?_) hS2 fun h3 tk3 hk3 hS3 => ?_⟩
    · exact (hsb.2 b (fun h : b = a => ha (h ▸ hb))).trans e
    · exact hR h3 tk3 (fun b o h1 h2' e => hk3 b o h1 h2' ((hsb.2 b h1).trans (hm b o (by simpa using h2') e))) hS3
end
end Mine

namespace Mine
open PySem PySem.W PyProof.Rows PySem.Calls
set_option maxRecDepth 100000
set_option maxHeartbeats 8000000
theorem top_off_OsFill2 : True := by
  w_top off
  exact trivial
theorem os_sub {w : World} : subIn (Mine.hd.heap_39 w.params) (.ref 232) (.type "set") = some true := by k_is
theorem os_clsname {w : World} : (clsIn (Mine.hd.heap_39 w.params) 232).map (·.name) = some (Str.ofString "OrderedSet") := by kernel_rfl
section
variable {w : World} {A : Around} {s : Shared} {E : Value → Shared → Prop}
theorem printed_os {M : Model} {sig : Manifest.Signature} {self : Value} {name : Str} {Q : String → Shared → Prop} (hs : sig.receiver = .self) (hT : Looks M s.heap (typeOf self) (.ref 232)) (hC : Looks M s.heap (typeNameWhole (.ref 232)) name.toString) (h : ∀ x, Q x s) :
    wpAny M A (Bind.printed "*" false sig (some self)) Q E s := by
  unfold Bind.printed Bind.receiverType
  rw [if_neg (by decide), hs]
  refine wpAny_bind (m := (if (Manifest.Receiver.self == Manifest.Receiver.cls) = true then pure self else typeOf self)) ?_
  rw [if_neg (by decide)]
  exact hT.here (wpAny_bind (hC.here (wpAny_pure (h _))))

theorem sinit {x li dx : Addr} {led : Bool} {sl : Array (Option Value)} {us : List Value} {ks : List Int} {Q : Value → Shared → Prop} (X : (Mine.hd.heap_39 w.params).In s.heap) (hh : A.handled = none)
    (hx : s.heap.get? x = some (ssObj dx sl #[] 0 (.fresh 0 0 led))) (hl : s.heap.IsList li us.toArray) (hi : IntsAre us ks) (hb : us.length ≤ 8)
    (h : ∀ h' tk, (∀ b o, b ≠ x → s.heap.get? b = some o → h'.get? b = some o) → SubSet (intKind PR w) h' x dx sl us.length → Q .none { s with heap := h', toks := tk }) :
    wpAny (model PR w) A (call (.builtin "set.__init__") [.ref x, .ref li] []) Q E s := by
  obtain ⟨cd, hcd, hcn⟩ := Option.map_eq_some_iff.mp (os_clsname (w := w))
  have L0 : Looks (model PR w) s.heap (typeOf (.ref x)) (.ref 232) := (Looks.ld hx).andThen .now
  have LI : Looks (model PR w) s.heap (isInstance (.ref x) (.type "set")) true := L0.andThen (looks_subIn X os_sub)
  have LC : Looks (model PR w) s.heap (classData 232) cd := looks_clsIn X hcd
  have LN : Looks (model PR w) s.heap (typeNameWhole (.ref 232)) (Str.ofString "OrderedSet").toString := by rw [← hcn]; exact LC.andThen .now
  refine wpAny_call (codeAny_call_builtin (R := _) F.called_set.init.plain F.entry_set_init ?_)
  simp only [checkBuiltinCall, PySem.kind_set_init, PySem.split_set_init, PySem.sig_set_init]
  refine wpAny_bind (LI.here ?_)
  simp only [Bool.not_true, Bool.false_eq_true, if_false]
  unfold Bind.checkArgs
  dsimp only
  refine wpAny_bind (m := Bind.printed "set" true _ _) (PyProof.Rows.printed_name (by decide) ?_)
  refine wpAny_bind (m := Bind.printed "*" false _ _) (printed_os rfl L0 LN fun short => ?_)
  have hrn : (Manifest.Receiver.self == Manifest.Receiver.none) = false := by decide
  have hn : (if (Manifest.Receiver.self == Manifest.Receiver.none) = true then [Value.ref x, Value.ref li].length else [Value.ref x, Value.ref li].length - 1) = 1 := by simp [hrn]
  rw [hn]
  simp only [List.map_nil]
  have hk1 : (Manifest.ParamKind.posOnly == Manifest.ParamKind.posOnly) = true := by decide
  have hk2 : (Manifest.ParamKind.posOnly == Manifest.ParamKind.posOrKw) = false := by decide
  have hk3 : (Manifest.ParamKind.posOnly == Manifest.ParamKind.varPos) = false := by decide
  have hc : Bind.check ⟨.positional, "set", "*", .self, [⟨"iterable", .posOnly, false⟩]⟩ "set" short 1 [] = pure () := by
    simp [Bind.check, Bind.checkCount, Bind.isPositional, hk1, hk2, hk3]
  rw [hc]
  refine wpAny_pure ?_
  unfold Builtin.«set.__init__» noKeywords Builtin.Frozenset.updateFrom
  have L0' : Looks (model PR w) s.heap (typeOf (.ref li)) (.type "list") := by obtain ⟨o, ho, hc, _⟩ := hl; exact hc ▸ (Looks.ld ho).andThen .now
  have hsls := F.sub_list_set
  have hslf := F.sub_list_frozenset
  have LS : Looks (model PR w) s.heap (shownTypeOf (.ref x)) (.ref 232) := L0.andThen .now
  have LT : Looks (model PR w) s.heap (typeNameCut 200 (.ref 232)) (Str.ofString "OrderedSet").toString := by
    unfold typeNameCut
    refine LC.andThen ?_
    rw [hcn]
    exact Looks.of_pure (by rw [if_pos (by decide +kernel)])
  unfold typeNameOfCut
  obtain ⟨hp, g, d, tk, os⟩ := s
  dsimp only at *
  generalize hPI : pyIter = PI
  repeat lk
  subst hPI
  have hll : hp.IsList li us.toArray := hl
  refine wpAny_pyIter_list hll ?_
  refine wpAny_bind (wpAny_runValue ?_)
  have hlS : li < hp.objs.size := by obtain ⟨o, ho, _⟩ := hll; exact Heap.lt_size ho
  have hxS : x < hp.objs.size := Heap.lt_size hx
  have hlx : li ≠ x := fun e => by
    obtain ⟨o, ho, hc, _⟩ := hll
    rw [e, hx] at ho; cases ho; cases hc
  have hh3 : A.in1.in1.handled = none := hh
  refine sub_loop (Walks.list hh3 hp.objs.size li (Nat.ne_of_lt hlS) us.toArray) x dx sl ?_ ?_ ?_ us.toArray.size 0 _ ?_ (Nat.zero_le _) ?_ ?_ ?_
  · intro hm
    rcases List.mem_cons.mp hm with e | hm
    · exact absurd e (Nat.ne_of_lt hxS)
    · exact absurd (List.mem_singleton.mp hm) (Ne.symm hlx)
  · intro i v hv
    obtain ⟨t, e⟩ := PyProof.Rows.IntsAre.int_at hi i v (by simpa using hv)
    exact ⟨_, t, e⟩
  · rw [List.size_toArray]; unfold scanBound; omega
  · omega
  · exact ⟨⟨_, Heap.get?_push_size _ rfl, rfl, rfl⟩, hll.push _⟩
  · exact ⟨#[], 0, _, Heap.get?_push_of_some _ hx, (by intro e he; simp at he), rfl, Nat.le_refl _⟩
  · intro h' tk' hk hS
    refine wpAny_pure (wpAny_pure (h h' tk' (fun b o hb e => hk b o hb ?_ (Heap.get?_push_of_some _ e)) (by rwa [List.size_toArray] at hS)))
    exact fun q => absurd (Heap.lt_size e) (q ▸ Nat.lt_irrefl _)
end
end Mine

namespace Mine
open PySem PySem.W PyProof.Rows PySem.Calls
set_option maxRecDepth 100000
set_option maxHeartbeats 8000000
local macro_rules | `(tactic| walk_at "pad 0") => `(tactic| fail)
local macro_rules | `(tactic| walk_at "pad 1") => `(tactic| fail)
theorem top_off_OsInit : True := by
  w_top off
  exact trivial
theorem ul_r {w : World} {mg mb : Str → Option Value} {mean : ExcName → Option Value} {g : Heap} {L : Addr} {m : Str → Option Value} {news : List (Addr × Obj)} {A : Around} {s : Shared}
   {l : Addr} {n : Int} {t1 t2 t3 t4 : Tok} {Q E : Value → Shared → Prop} (X : (Mine.hd.heap_39 w.params).In g) (T : Top Mine.hd.view_39 LO mean mg mb g) (F : Fr g L s.heap m) (N : News g L s.heap news)
   (hl : g.IsList l #[.int 2 t1, .int n t2, .int 2 t3, .int 9 t4]) (hgens : s.gens = #[]) (h0 : A.handled = none) (hd : A.depth ≤ 960) (hu : A.units ≤ 5500)
   (h : ∀ (li : Addr) (c : Nat) (h' : Heap) (tk : Nat) (us : List Value), Fr g L h' m → News g L h' ((li, listOf us.toArray c) :: news) → (∀ p ∈ news, (@Ne Nat p.1 li)) → IntsAre us (ded n) → Q (.ref li) { s with heap := h', toks := tk }) :
   wpAny (model PR w) A (call (.ref 28) [.ref l] []) Q E s := by
  refine wpAny_call (codeAny_wk (ul_c X T F.keep (by obtain ⟨o, ho, r⟩ := hl; exact ⟨o, F.keep _ _ ho, r⟩) hgens fun li h' tk us c hk hli hli0 hus => ?_) h0 hd hu)
  obtain ⟨hp, gs, d, t, os⟩ := s
  dsimp only at hgens
  subst hgens
  obtain ⟨o, _, _, eL, _⟩ := id F.ns
  have hne : ∀ {b : Addr} {o : Obj}, hp.get? b = some o → b ≠ li := fun {b o} e q => by
    have q' : b = li := q
    rw [q'] at e
    exact absurd (e.symm.trans hli0) (by intro h; cases h)
  refine h li c h' tk us (F.keeps hk) (fun p hp => ?_) (fun p hp => hne (N p hp).1) hus
  rcases List.mem_cons.mp hp with rfl | hp
  · refine ⟨hli, fun q => hne eL q.symm, ?_⟩
    generalize hq : g.get? _ = r
    cases r with
    | none => rfl
    | some o => exact absurd rfl (hne (F.keep _ _ hq))
  · exact (N.grown hk) p hp
theorem sinit_r {w : World} {g : Heap} {L : Addr} {m : Str → Option Value} {news : List (Addr × Obj)} {A : Around} {s : Shared} {x li dx : Addr} {led : Bool} {sl : Array (Option Value)} {us : List Value} {c : Nat} {ks : List Int} {nf : Obj → List (Addr × Obj)} {Q E : Value → Shared → Prop}
    (X : (Mine.hd.heap_39 w.params).In g) (F : Fr g L s.heap m) (N : News g L s.heap news) (U : UpdF x (ssObj dx sl #[] 0 (.fresh 0 0 led)) news nf) (hl : (li, listOf us.toArray c) ∈ news) (hi : IntsAre us ks) (hb : us.length ≤ 8) (h0 : A.handled = none)
    (h : ∀ h' tk es ep tb, Fr g L h' m → News g L h' (nf (ssObj dx sl es ep tb)) → tb.fits es.size = true → es.size ≤ 8 → Q .none { s with heap := h', toks := tk }) :
    wpAny (model PR w) A (call (.builtin "set.__init__") [.ref x, .ref li] []) Q E s := by
  have zx := N _ (upd_mem U)
  refine sinit (X.keeps F.keep) h0 zx.1 ⟨_, (N _ hl).1, rfl, _, rfl⟩ hi hb fun h' tk hk hS => ?_
  obtain ⟨es, ep, tb, e, _, hf, hn⟩ := hS
  have hk' : ∀ b o, s.heap.get? b = some o → b ≠ x → h'.get? b = some o := fun b o e hb => hk b o hb e
  exact h h' tk es ep tb (fr_but F hk' (Ne.symm zx.2.1) zx.2.2) (news_but N U hk' e) hf (by omega)
theorem ded_len (n : Int) : (ded n).length ≤ 8 := by unfold ded; split <;> simp
local macro_rules | `(tactic| walk_at "call builtin:set.__init__") => `(tactic| (k_here; refine stop_here ?_))
local macro_rules | `(tactic| walk_at "call ref") => `(tactic| (k_here; (with_reducible show wpAny _ _ (call (Value.ref _) [Value.ref _] _) _ _ _); k_dflt (refine' ul_r ?X ?T ?F ?N ?l ?hg ?h0 ?hd ?hu ?_; (case X => k_asm); (case T => k_asm); (case F => k_asm); (case N => k_asm); (case l => assumption); (case hg => assumption); (case h0 => exact rfl); (case hd => exact Nat.le_of_ble_eq_true rfl); (case hu => exact Nat.le_of_ble_eq_true rfl)); intro li' c' h' tk' us' F' N' lt' iu'; (try simp only [List.forall_mem_cons, List.not_mem_nil, false_implies, implies_true, and_true] at lt'); (try k_sweep)))

local macro_rules | `(tactic| walk_at "setAttr ref") => `(tactic| (k_here; k_dflt (refine' os_set ?F ?X ?N ?m ?d ?U ?a1 ?a2 ?a3 ?a4 ?a5 ?_; (case F => k_asm); (case X => k_asm); (case N => k_asm); (case m => k_mem); (case d => k_mem); (case U => k_upd); (case a1 => k_is); (case a2 => rfl); (case a3 => k_is); (case a4 => k_is); (case a5 => k_is)); intro h' F' N'; (try k_sweep)))
local macro_rules | `(tactic| walk_at "getMethod type:set") => `(tactic| (k_here; refine stop_here ?_))
local macro_rules | `(tactic| walk_at "getAttr ref") => `(tactic| (k_here; refine stop_here ?_))
theorem init_c {w : World} {mg mb : Str → Option Value} {mean : ExcName → Option Value} {G₀ : Heap} (X : (Mine.hd.heap_39 w.params).In G₀) (T : Top Mine.hd.view_39 LO mean mg mb G₀)
    {s : Shared} {x dx l : Addr} {led : Bool} {n : Int} {t1 t2 t3 t4 : Tok} (hG : ∀ b o, G₀.get? b = some o → s.heap.get? b = some o)
    (hx : s.heap.get? x = some (setObj 232 dx led)) (hx0 : G₀.get? x = none) (hdx : s.heap.get? dx = some emptyDict) (hd0 : G₀.get? dx = none) (hlt : (@LT.lt Nat _ dx x)) (hl : s.heap.get? l = some (listOf #[.int 2 t1, .int n t2, .int 2 t3, .int 9 t4] 0))
    (hgens : s.gens = #[]) {R : Result → Shared → Prop}
    (hR : ∀ h' tk li us c es ep tb, (∀ b o, s.heap.get? b = some o → b ≠ x → h'.get? b = some o) → s.heap.get? li = none → (@Ne Nat li x) → h'.get? li = some (listOf us.toArray c) → IntsAre us (ded n) → h'.get? x = some (ssObj dx #[some (.ref li)] es ep tb) → tb.fits es.size = true → es.size ≤ 8 →
      R (.ok (.ret .none)) { s with heap := h', toks := tk }) :
    codeAny (model PR w) (ar 920 5200) (.call (.ref 44) ⟨[.ref x, .ref l], []⟩) R s := by
  have hlx : l ≠ x := fun e => by
    rw [e, hx] at hl; have := congrArg Obj.cls (Option.some.inj hl); exact absurd this (by intro hc; cases hc)
  have hld : l ≠ dx := fun e => by
    rw [e, hdx] at hl; have := congrArg Obj.cls (Option.some.inj hl); exact absurd this (by intro hc; injection hc with hc; exact absurd hc (by decide))
  refine' own_call (binds := [(Str.ofString "self", .ref x), (Str.ofString "d", .ref l)]) [(x, setObj 232 dx led), (dx, emptyDict)] X T hG ?hx ?ho ?hcd ?hroom ?hbind ?hloc ?_ ?c2 ?c3 ?c4 ?c5
  case ho => k_is
  case hcd => k_is
  case hroom => decide
  case hbind => exact binds_K (X.keeps hG) rfl (by k_is) rfl rfl rfl
  case hloc => exact locs rfl
  case c5 => decide
  case c2 => exact rfl
  case c3 => exact rfl
  case c4 => exact rfl
  case hx => intro q hq; rcases List.mem_cons.mp hq with rfl | hq; exact ⟨hx, hx0⟩; cases List.mem_singleton.mp hq; exact ⟨hdx, hd0⟩
  intro g L h₁ tk₁ F N Xg Tg hGg hk
  have hlg : g.IsList l #[.int 2 t1, .int n t2, .int 2 t3, .int 9 t4] := ⟨_, hk _ _ hl (by simp only [List.map_cons, List.map_nil, List.mem_cons, List.not_mem_nil, or_false, not_or]; exact ⟨hlx, hld⟩), rfl, 0, rfl⟩
  clear hGg hG hx hl X T
  (try dsimp only)
  (try k_fold)
  k_steps
  refine stop_out ?_
  refine init_method (by k_asm) Xg ?_
  k_steps
  refine stop_out ?_
  with_reducible rename (Fr g L _ _) => F8
  with_reducible rename (News g L _ _) => N8
  refine os_get (dx := dx) (Xg.keeps F8.keep) hgens (N8 (x, _) (by k_mem)).1 (N8 (dx, _) (by k_mem)).1 fun h8 tk8 k8 => ?_
  have F9 := F8.keeps k8
  have N9 := N8.grown k8
  clear F8 N8 k8
  k_steps
  refine stop_out ?_
  with_reducible rename (IntsAre _ _) => hIu
  k_dflt (refine' sinit_r (us := _) (ks := ded n) Xg ?F ?N ?U ?l hIu ?b ?h ?_)
  case F => k_asm
  case N => k_asm
  case U => k_updF
  case l => k_mem
  case b => rw [hIu.length]; exact ded_len n
  case h => exact rfl
  intro h10 tk10 es ep tb F10 N10 hfits hsz
  (try dsimp only at N10)
  k_steps
  with_reducible rename (News g L h10 _) => N11
  with_reducible rename (Fr g L h10 _) => F11
  have zl := N11 _ (.head _)
  have zx := N11 _ (.tail _ (.head _))
  have zd := N11 _ (.tail _ (.tail _ (.head _)))
  have clsE : ∀ {a : Addr} {o o' : Obj} {h : Heap}, h.get? a = some o → h.get? a = some o' → o.cls = o'.cls := fun e e' => by rw [e] at e'; cases e'; rfl
  refine hR h10 _ _ _ _ es ep tb (fun b o e hb => ?_) ?_ (fun q => ?_) zl.1 hIu zx.1 hfits hsz
  · by_cases hbd : b = dx
    · subst hbd
      rw [hdx] at e
      cases e
      exact zd.1
    · exact F11.keep b o (hk b o e (by simp only [List.map_cons, List.map_nil, List.mem_cons, List.not_mem_nil, or_false, not_or]; exact ⟨hb, hbd⟩))
  · generalize hq : s.heap.get? _ = r
    cases r with
    | none => rfl
    | some o =>
      exfalso
      have h1 := hk _ o hq
      rw [zl.2.2] at h1
      refine absurd (h1 ?_) (by intro h; cases h)
      simp only [List.map_cons, List.map_nil, List.mem_cons, List.not_mem_nil, or_false, not_or]
      refine ⟨fun q => ?_, fun q => ?_⟩
      · have z1 := zl.1; rw [q] at z1; exact absurd (clsE z1 zx.1) (by intro h; cases h)
      · have z1 := zl.1; rw [q] at z1; exact absurd (clsE z1 zd.1) (by intro h; injection h with h; exact absurd h (by decide))
  · have z1 := zl.1; rw [q] at z1; exact absurd (clsE z1 zx.1) (by intro h; cases h)
end Mine

namespace Mine
open PySem PySem.W PyProof.Rows PySem.Calls
set_option maxRecDepth 100000
set_option maxHeartbeats 8000000
theorem top_off_OsR : True := by
  w_top off
  exact trivial
theorem os_under (A : Around) (v : Value) : (A.under (.builtin "type.__call__" ⟨[.ref 232, v], []⟩)).handled = A.handled ∧ (A.under (.builtin "type.__call__" ⟨[.ref 232, v], []⟩)).depth = A.depth + 1 ∧ (A.under (.builtin "type.__call__" ⟨[.ref 232, v], []⟩)).units ≤ A.units + 100 :=
  ⟨rfl, rfl, by
    show A.units + _ ≤ A.units + 100
    exact Nat.add_le_add_left (Nat.le_of_ble_eq_true rfl) _⟩
abbrev osObj (dx li : Addr) (es : Array (Int × Value)) (ep : Nat) (tb : SetTable) : Obj := ssObj dx #[some (.ref li)] es ep tb
theorem os_r {w : World} {mg mb : Str → Option Value} {mean : ExcName → Option Value} {g : Heap} {L : Addr} {m : Str → Option Value} {news : List (Addr × Obj)} {A : Around} {s : Shared}
   {l : Addr} {n : Int} {t1 t2 t3 t4 : Tok} {Q E : Value → Shared → Prop} (X : (Mine.hd.heap_39 w.params).In g) (T : Top Mine.hd.view_39 LO mean mg mb g) (F : Fr g L s.heap m) (N : News g L s.heap news)
   (hl : (l, listOf #[.int 2 t1, .int n t2, .int 2 t3, .int 9 t4] 0) ∈ news) (hgens : s.gens = #[]) (h0 : A.handled = none) (hd : A.depth ≤ 900) (hu : A.units ≤ 5000)
   (h : ∀ (li x dx : Addr) (h' : Heap) (tk c : Nat) (us : List Value) (es : Array (Int × Value)) (ep : Nat) (tb : SetTable), Fr g L h' m → News g L h' ((li, listOf us.toArray c) :: (x, osObj dx li es ep tb) :: (dx, emptyDict) :: news) →
     (∀ p ∈ news, (@Ne Nat p.1 li) ∧ (@Ne Nat p.1 x) ∧ (@Ne Nat p.1 dx)) → IntsAre us (ded n) → tb.fits es.size = true → es.size ≤ 8 → Q (.ref x) { s with heap := h', toks := tk }) :
   wpAny (model PR w) A (call (.ref 232) [.ref l] []) Q E s := by
  obtain ⟨hp, gs, d, t, os⟩ := s
  dsimp only at hgens
  subst hgens
  have hfresh : ∀ {a : Addr}, hp.get? a = none → (∀ p ∈ news, (@Ne Nat p.1 a)) ∧ L ≠ a ∧ g.get? a = none := fun {a} ha => by
    have ne : ∀ {b : Addr} {o : Obj}, hp.get? b = some o → b ≠ a := fun {b o} e q => by
      have q' : b = a := q
      rw [q'] at e
      exact absurd (e.symm.trans ha) (by intro h; cases h)
    obtain ⟨o, _, _, eL, _⟩ := id F.ns
    refine ⟨fun p hp => ne (N p hp).1, ne eL, ?_⟩
    generalize hq : g.get? _ = r
    cases r with
    | none => rfl
    | some o => exact absurd rfl (ne (F.keep _ _ hq))
  refine wpAny_call (os_call (s := ⟨hp, #[], d, t, os⟩) (X.keeps F.keep) rfl fun x dx h1 led tk1 k1 hx hx0 hdx hdx0 hlt => ?_)
  obtain ⟨u0, u1, u2⟩ := os_under A (.ref l)
  have hx0' := hfresh hx0
  have hd0' := hfresh hdx0
  refine codeAny_wk (init_c X T (s := ⟨h1, #[], d, tk1, os⟩) (fun b o e => k1 _ _ (F.keep b o e)) hx hx0'.2.2 hdx hd0'.2.2 hlt (k1 _ _ (N _ hl).1) rfl
    fun h' tk li us c es ep tb hk hli0 hlix hli hus hx' hf hsz => ⟨rfl, ?_⟩) (u0.trans h0) (by rw [u1]; omega) (by omega)
  have hk2 : ∀ b o, hp.get? b = some o → h'.get? b = some o := fun b o e => hk b o (k1 b o e) fun q => by rw [q] at e; exact absurd (e.symm.trans hx0) (by intro h; cases h)
  have hli0' : hp.get? li = none := by
    generalize hq : hp.get? _ = r
    cases r with
    | none => rfl
    | some o => exact absurd ((k1 _ _ hq).symm.trans hli0) (by intro h; cases h)
  have hl0' := hfresh hli0'
  refine h li x dx h' tk c us es ep tb (F.keeps hk2) (fun p hp => ?_) (fun p hp => ⟨hl0'.1 p hp, hx0'.1 p hp, hd0'.1 p hp⟩) hus hf hsz
  rcases List.mem_cons.mp hp with rfl | hp
  · exact ⟨hli, Ne.symm hl0'.2.1, hl0'.2.2⟩
  · rcases List.mem_cons.mp hp with rfl | hp
    · exact ⟨hx', Ne.symm hx0'.2.1, hx0'.2.2⟩
    · rcases List.mem_cons.mp hp with rfl | hp
      · refine ⟨hk _ _ hdx fun q => ?_, Ne.symm hd0'.2.1, hd0'.2.2⟩
        have q' : dx = x := q
        exact absurd (q' ▸ hlt) (Nat.lt_irrefl _)
      · exact (N.grown hk2) p hp
end Mine

namespace Mine
open PySem PySem.W PyProof.Rows PySem.Calls PySem.W.X
set_option maxRecDepth 100000
set_option maxHeartbeats 8000000
theorem top_off_KindX : True := by
  w_top off
  exact trivial
local macro_rules | `(tactic| x_close) => `(tactic| (first | (refine' EndQ.use ?ka ?kb; (case ka => assumption); (case kb => assumption)) | (refine' EndQ.same ?ka; (case ka => assumption)) | (refine' NewQ.use ?ka ?kb; (case ka => assumption); (case kb => assumption))))
section
variable {w : World} {s : Shared} {n : Int} {a li dx : Addr} {t1 t2 t3 : Tok} {Q E : Value → Shared → Prop} (X : (Mine.hd.heap_39 w.params).In s.heap) (hg : s.gens = #[])
include X hg
theorem nsi_int (h : EndQ s (.bool false) Q) : wpAny (model PR w) (ar 960 5500) (call (.ref 242) [.int n t1]) Q E s := by x_run
theorem nsi_str {x : Str} (h : EndQ s (.bool false) Q) : wpAny (model PR w) (ar 960 5500) (call (.ref 242) [.str x t1]) Q E s := by x_run
theorem nsi_bytes {x : Array UInt8} (h : EndQ s (.bool false) Q) : wpAny (model PR w) (ar 960 5500) (call (.ref 242) [.bytes x t1]) Q E s := by x_run
theorem nsi_tup {its : Array Value} {c : Nat} (ha : s.heap.get? a = some ⟨.type "tuple", none, .seq its c, #[]⟩) (h : EndQ s (.bool true) Q) : wpAny (model PR w) (ar 960 5500) (call (.ref 242) [.ref a]) Q E s := by x_run
theorem nsi_dict {es : Array DictEntry} {ep : Nat} (ha : s.heap.get? a = some ⟨.type "dict", none, .dict es ep, #[]⟩) (h : EndQ s (.bool true) Q) : wpAny (model PR w) (ar 960 5500) (call (.ref 242) [.ref a]) Q E s := by x_run
theorem nsi_set {es : Array (Int × Value)} {ep : Nat} {tb : SetTable} (ha : s.heap.get? a = some ⟨.type "set", none, .set es ep tb, #[]⟩) (h : EndQ s (.bool true) Q) : wpAny (model PR w) (ar 960 5500) (call (.ref 242) [.ref a]) Q E s := by x_run
theorem nsi_iter {i : Int} (ha : s.heap.get? a = some ⟨.type "list_iterator", none, .fields #[.ref li, .int i 0], #[]⟩) (h : EndQ s (.bool true) Q) : wpAny (model PR w) (ar 960 5500) (call (.ref 242) [.ref a]) Q E s := by x_run
theorem nsi_os {es : Array (Int × Value)} {ep : Nat} {tb : SetTable} (ha : s.heap.get? a = some ⟨.ref 232, some dx, .set es ep tb, #[some (.ref li)]⟩) (hd : s.heap.get? dx = some ⟨.type "dict", none, .dict #[] 0, #[]⟩) (h : EndQ s (.bool true) Q) : wpAny (model PR w) (ar 960 5500) (call (.ref 242) [.ref a]) Q E s := by x_run
end
end Mine

namespace Mine
open PySem PySem.W PyProof.Rows PySem.Calls PySem.W.X
set_option maxRecDepth 100000
set_option maxHeartbeats 8000000
theorem top_off_KindT : True := by
  w_top off
  exact trivial
def ListQ (s : Shared) (us : Array Value) (Q : Value → Shared → Prop) : Prop := ∀ x h' tk c, (∀ b o, s.heap.get? b = some o → h'.get? b = some o) → h'.get? x = some ⟨.type "list", none, .seq us c, #[]⟩ → s.heap.get? x = none → Q (.ref x) ⟨h', #[], s.drawn, tk, s.os⟩
theorem ListQ.use {s : Shared} {us : Array Value} {Q : Value → Shared → Prop} {x : Addr} {h' : Heap} {news : List (Addr × Obj)} {tk c : Nat} (k : ListQ s us Q) (D : Mem s.heap h' [] news) (hm : (x, (⟨.type "list", none, .seq us c, #[]⟩ : Obj)) ∈ news) : Q (.ref x) ⟨h', #[], s.drawn, tk, s.os⟩ :=
  k _ _ _ _ (fun b o e => D.keep b o e (by rw [show away [] b = true from rfl, Bool.or_true])) (D.nw _ hm).1 (D.nw _ hm).2
local macro_rules | `(tactic| x_close) => `(tactic| (refine' ListQ.use ?ka ?kb ?kc; (case ka => assumption); (case kb => assumption); (case kc => repeat (first | exact List.Mem.head _ | apply List.Mem.tail))))
section
variable {w : World} {s : Shared} {n : Int} {a li dx : Addr} {t1 t2 t3 : Tok} {Q E : Value → Shared → Prop} (X : (Mine.hd.heap_39 w.params).In s.heap) (hg : s.gens = #[])
include X hg
theorem tl_int (h : ListQ s #[.int n t1] Q) : wpAny (model PR w) (ar 900 5000) (call (.ref 250) [.int n t1, .str (Str.ofString "unused") t3]) Q E s := by x_run
theorem tl_str {x : Str} (h : ListQ s #[.str x t1] Q) : wpAny (model PR w) (ar 900 5000) (call (.ref 250) [.str x t1, .str (Str.ofString "unused") t3]) Q E s := by x_run
theorem tl_bytes {x : Array UInt8} (h : ListQ s #[.bytes x t1] Q) : wpAny (model PR w) (ar 900 5000) (call (.ref 250) [.bytes x t1, .str (Str.ofString "unused") t3]) Q E s := by x_run
theorem tl_tup0 {c : Nat} (ha : s.heap.get? a = some ⟨.type "tuple", none, .seq #[] c, #[]⟩) (h : ListQ s #[] Q) : wpAny (model PR w) (ar 900 5000) (call (.ref 250) [.ref a, .str (Str.ofString "unused") t3]) Q E s := by x_run
theorem tl_tup2 {c : Nat} (ha : s.heap.get? a = some ⟨.type "tuple", none, .seq #[.int n t1, .int 1 t2] c, #[]⟩) (h : ListQ s #[.int n t1, .int 1 t2] Q) : wpAny (model PR w) (ar 900 5000) (call (.ref 250) [.ref a, .str (Str.ofString "unused") t3]) Q E s := by x_run
end
end Mine

namespace Mine
open PySem PySem.W PyProof.Rows PySem.Calls PySem.W.X
set_option maxRecDepth 100000
set_option maxHeartbeats 8000000
theorem top_off_KindO : True := by
  w_top off
  exact trivial
local macro_rules | `(tactic| x_close) => `(tactic| (refine' ListQ.use ?ka ?kb ?kc; (case ka => assumption); (case kb => assumption); (case kc => repeat (first | exact List.Mem.head _ | apply List.Mem.tail))))
section
variable {w : World} {s : Shared} {n : Int} {a li dx : Addr} {t1 t2 t3 t4 : Tok} {Q E : Value → Shared → Prop} (X : (Mine.hd.heap_39 w.params).In s.heap) (hg : s.gens = #[])
include X hg
theorem tl_os2 {es : Array (Int × Value)} {ep c : Nat} {tb : SetTable} (hp : tb.place.size = es.size) (hm : ¬ (tb.mask.succ.ble tb.fill = true)) (h8 : es.size ≤ 8)
   (ha : s.heap.get? a = some ⟨.ref 232, some dx, .set es ep tb, #[some (.ref li)]⟩) (hd : s.heap.get? dx = some ⟨.type "dict", none, .dict #[] 0, #[]⟩) (hl : s.heap.get? li = some ⟨.type "list", none, .seq #[.int 2 t1, .int 9 t2] c, #[]⟩) (h : ListQ s #[.int 2 t1, .int 9 t2] Q) :
   wpAny (model PR w) (ar 900 5000) (call (.ref 250) [.ref a, .str (Str.ofString "unused") t3]) Q E s := by
  x_run
theorem tl_os3 {es : Array (Int × Value)} {ep c : Nat} {tb : SetTable} (hp : tb.place.size = es.size) (hm : ¬ (tb.mask.succ.ble tb.fill = true)) (h8 : es.size ≤ 8)
   (ha : s.heap.get? a = some ⟨.ref 232, some dx, .set es ep tb, #[some (.ref li)]⟩) (hd : s.heap.get? dx = some ⟨.type "dict", none, .dict #[] 0, #[]⟩) (hl : s.heap.get? li = some ⟨.type "list", none, .seq #[.int 2 t1, .int n t2, .int 9 t4] c, #[]⟩) (h : ListQ s #[.int 2 t1, .int n t2, .int 9 t4] Q) :
   wpAny (model PR w) (ar 900 5000) (call (.ref 250) [.ref a, .str (Str.ofString "unused") t3]) Q E s := by
  x_run
end
end Mine

namespace Mine
open PySem PySem.W PyProof.Rows PySem.Calls
set_option maxRecDepth 100000
set_option maxHeartbeats 8000000
theorem top_off_KindG : True := by
  w_top off
  exact trivial
local macro_rules | `(tactic| walk_at "call ref") => `(tactic| (k_here; refine stop_here ?_))
local macro_rules | `(tactic| walk_at "call builtin:isinstance") => `(tactic| (k_here; refine stop_here ?_))
local macro_rules | `(tactic| walk_at "call type:list") => `(tactic| (k_here; refine stop_here ?_))
/-- to_list on an iterable that is no list -/
theorem tl_gen {w : World} {mg mb : Str → Option Value} {mean : ExcName → Option Value} {G₀ : Heap} (X : (Mine.hd.heap_39 w.params).In G₀) (T : Top Mine.hd.view_39 LO mean mg mb G₀)
    {s : Shared} {a : Addr} {t : Tok} (hG : ∀ b o, G₀.get? b = some o → s.heap.get? b = some o) (hgens : s.gens = #[])
    {R : Result → Shared → Prop}
    (hnsi : ∀ (s' : Shared) (Q E : Value → Shared → Prop), (∀ b o, s.heap.get? b = some o → s'.heap.get? b = some o) → s'.gens = #[] → EndQ s' (.bool true) Q → wpAny (model PR w) (ar 960 5500) (call (.ref 242) [.ref a]) Q E s')
    (hisl : ∀ (s' : Shared) (A : Around) (Q E : Value → Shared → Prop), (∀ b o, s.heap.get? b = some o → s'.heap.get? b = some o) → s'.gens = #[] → EndQ s' (.bool false) Q → wpAny (model PR w) A (call (.builtin "isinstance") [.ref a, .type "list"]) Q E s')
    (hlist : ∀ (s' : Shared) (A : Around) (E : Value → Shared → Prop), A.handled = none → (∀ b o, s.heap.get? b = some o → s'.heap.get? b = some o) → s'.gens = #[] → s'.drawn = s.drawn → s'.os = s.os → wpAny (model PR w) A (call (.type "list") [.ref a]) (fun v s'' => R (.ok (.ret v)) s'') E s') :
    codeAny (model PR w) (ar 930 5200) (.call (.ref 250) ⟨[.ref a, .str (Str.ofString "unused") t], []⟩) R s := by
  refine' own_call (binds := [(Str.ofString "x", .ref a), (Str.ofString "default", .str (Str.ofString "unused") t)]) [] X T hG ?hx ?ho ?hcd ?hroom ?hbind ?hloc ?_ ?c2 ?c3 ?c4 ?c5
  case ho => k_is
  case hcd => k_is
  case hroom => decide
  case hbind => exact binds_K (X.keeps hG) rfl (by k_is) rfl rfl rfl
  case hloc => exact locs rfl
  case c5 => decide
  case c2 => exact rfl
  case c3 => exact rfl
  case c4 => exact rfl
  case hx => intro q hq; cases hq
  intro g L h₁ tk₁ F N Xg Tg hGg hk
  have hk' : ∀ b o, s.heap.get? b = some o → g.get? b = some o := fun b o e => hk b o e (by simp)
  clear hGg hG X T hk
  (try dsimp only)
  (try k_fold)
  k_steps
  refine stop_out ?_
  with_reducible rename (Fr g L _ _) => F1
  refine wpAny_wk (hnsi _ _ _ (fun b o e => F1.keep b o (hk' b o e)) hgens fun h2 tk2 k2 => ?_) rfl (Nat.le_of_ble_eq_true rfl) (Nat.le_of_ble_eq_true rfl)
  have F2 := F1.keeps k2
  have N2 : News g L h2 [] := fun p hp => nomatch hp
  clear F1 k2
  k_steps
  refine stop_out ?_
  with_reducible rename (Fr g L _ _) => F3
  refine hisl _ _ _ _ (fun b o e => F3.keep b o (hk' b o e)) rfl fun h4 tk4 k4 => ?_
  have F4 := F3.keeps k4
  have N4 : News g L h4 [] := fun p hp => nomatch hp
  clear F3 k4
  k_steps
  refine stop_out ?_
  with_reducible rename (Fr g L _ _) => F5
  exact hlist _ _ _ rfl (fun b o e => F5.keep b o (hk' b o e)) rfl rfl rfl
end Mine

namespace Mine
open PySem PySem.W PyProof.Rows PySem.Calls PySem.W.X
set_option maxRecDepth 100000
set_option maxHeartbeats 8000000
theorem top_off_KindI : True := by
  w_top off
  exact trivial
local macro_rules | `(tactic| x_close) => `(tactic| (first | (refine' EndQ.use ?ka ?kb; (case ka => assumption); (case kb => assumption)) | (refine' EndQ.same ?ka; (case ka => assumption))))
section
variable {w : World} {A : Around} {s : Shared} {a li : Addr} {Q E : Value → Shared → Prop} (X : (Mine.hd.heap_39 w.params).In s.heap) (hg : s.gens = #[])
include X hg
theorem isl_dict {es : Array DictEntry} {ep : Nat} (ha : s.heap.get? a = some ⟨.type "dict", none, .dict es ep, #[]⟩) (h : EndQ s (.bool false) Q) : wpAny (model PR w) A (call (.builtin "isinstance") [.ref a, .type "list"]) Q E s := by x_run
theorem isl_set {es : Array (Int × Value)} {ep : Nat} {tb : SetTable} (ha : s.heap.get? a = some ⟨.type "set", none, .set es ep tb, #[]⟩) (h : EndQ s (.bool false) Q) : wpAny (model PR w) A (call (.builtin "isinstance") [.ref a, .type "list"]) Q E s := by x_run
theorem isl_iter {i : Int} (ha : s.heap.get? a = some ⟨.type "list_iterator", none, .fields #[.ref li, .int i 0], #[]⟩) (h : EndQ s (.bool false) Q) : wpAny (model PR w) A (call (.builtin "isinstance") [.ref a, .type "list"]) Q E s := by x_run
theorem isl_list {its : Array Value} {c : Nat} (ha : s.heap.get? a = some ⟨.type "list", none, .seq its c, #[]⟩) (h : EndQ s (.bool true) Q) : wpAny (model PR w) A (call (.builtin "isinstance") [.ref a, .type "list"]) Q E s := by x_run
end
end Mine

namespace Mine
open PySem PySem.W PyProof.Rows PySem.Calls
set_option maxRecDepth 100000
set_option maxHeartbeats 8000000
theorem top_off_LSrc : True := by
  w_top off
  exact trivial
/-- an iterator's end, which leaves it alive where it is one of wr -/
def DoneE (w : World) (A : Around) (I : Addr) (n : Nat) (St : Nat → Heap → Prop) (wr : List Addr) : Prop :=
  ∀ (s : Shared) (Q : Option Value → Shared → Prop) (E : Value → Shared → Prop), St n s.heap → (∀ h' tk, (∀ b o, b ≠ I → s.heap.get? b = some o → h'.get? b = some o) → (I ∈ wr → ∃ o, h'.get? I = some o) → Q none { s with heap := h', toks := tk }) → wpAny (model PR w) A (pyNext (.ref I)) Q E s
theorem DoneE.of {w : World} {A : Around} {I : Addr} {fp : List Addr} {n : Nat} {P : Nat → Value → Prop} {St : Nat → Heap → Prop} {wr : List Addr} (W : Walks PR w A I fp [I] n P St) (hI : I ∉ wr) : DoneE w A I n St wr :=
  fun s Q E st hQ => W.done s Q E st fun h' tk k => hQ h' tk (fun b o hb e => k b o (by simpa using hb) e) (fun h => absurd h hI)
theorem ext_loopE {w : World} {A : Around} {R : Result → Shared → Prop} {I : Addr} {fp : List Addr} {n : Nat} {P : Nat → Value → Prop} {St : Nat → Heap → Prop} {wr : List Addr} (W : Walks PR w A.in1 I fp [I] n P St) (D : DoneE w A.in1 I n St wr) (hn : n ≤ sizeLine) (S : Addr) (hSf : S ∉ fp) (res : Value) :
    ∀ (k i : Nat) (s : Shared) (acc : Array Value) (c : Nat), n - i = k → i ≤ n → St i s.heap → s.heap.get? S = some { cls := .type "list", dict := none, data := .seq acc c, slots := #[] } → ItemsOf P acc i →
      (∀ h' tk acc' c', (∀ b o, b ≠ S → b ≠ I → s.heap.get? b = some o → h'.get? b = some o) → (I ∈ wr → ∃ o, h'.get? I = some o) → h'.get? S = some { cls := .type "list", dict := none, data := .seq acc' c', slots := #[] } → ItemsOf P acc' n → R (.ok (.ret res)) { s with heap := h', toks := tk }) →
      codeAny (model PR w) A (.builtin "list.extend.loop" ⟨[.ref S, .ref I, res], []⟩) R s := by
  have hSI : S ≠ I := fun h => hSf (by rw [h]; exact W.sub _ (.head _))
  intro k
  induction k with
  | zero =>
    intro i s acc c hk hi st hS hacc hR
    obtain rfl : i = n := by omega
    refine codeAny_builtin PySem.F.entry_extend_loop ?_
    rw [Around.under_plainId PySem.F.plain_extend_loop _]
    show wpAny _ A.in1 (pyNext (.ref I) >>= _) _ _ s
    refine wpAny_bind (D s _ _ st fun h' tk kp hx => ?_)
    exact wpAny_pure (hR h' tk acc c (fun b o _ hb e => kp b o hb e) hx (kp _ _ hSI hS) hacc)
  | succ k ih =>
    intro i s acc c hk hi st hS hacc hR
    have hlt : i < n := by omega
    refine codeAny_builtin PySem.F.entry_extend_loop ?_
    rw [Around.under_plainId PySem.F.plain_extend_loop _]
    show wpAny _ A.in1 (pyNext (.ref I) >>= _) _ _ s
    refine wpAny_bind (W.item i s _ _ hlt st fun v h' tk hP st' kp => ?_)
    have hS' : h'.get? S = some { cls := .type "list", dict := none, data := .seq acc c, slots := #[] } := kp _ _ (by simpa using hSI) hS
    show wpAny _ A.in1 (updateSeq S (·.push v) >>= _) _ _ _
    refine wpAny_bind ?_
    refine wpAny_updateSeq (s := { s with heap := h', toks := tk }) hS' rfl (wpAny_pure ⟨plainId_quiet PySem.F.plain_extend_loop _, ih (i + 1) { s with heap := h'.update S (Obj.mapSeq (·.push v)), toks := tk } (acc.push v) _ (by omega) hlt (W.frame _ h' _ st' fun b hb o e => ?_) (Heap.get?_update_self _ hS' rfl) (hacc.push hP) fun h2 tk2 acc' c' k2 hx hS2 hacc' => ?_⟩)
      (by rw [hacc.1]; omega) (by show (acc.push v).size ≤ sizeLine + 1; rw [Array.size_push, hacc.1]; omega)
    · exact (Heap.get?_update_other _ _ (fun h : S = b => hSf (by rw [h]; exact hb))).trans e
    · exact hR h2 tk2 acc' c' (fun b o hb hb' e => k2 b o hb hb' ((Heap.get?_update_other _ _ (Ne.symm hb)).trans (kp b o (by simpa using hb') e))) hx hS2 hacc'
/-- what list(r) reads -/
structure LSrc (w : World) (T : String) (r : Addr) (n : Nat) (P : Nat → Value → Prop) (wr : List Addr) (h0 : Heap) : Prop where
  type : ∀ s : Shared, (∀ b o, h0.get? b = some o → s.heap.get? b = some o) → s.TypeIs (.ref r) T
  old : ∃ o, h0.get? r = some o
  wold : ∀ b ∈ wr, ∃ o, h0.get? b = some o
  notList : (Value.type T == Value.type "list") = false
  notTuple : (Value.type T == Value.type "tuple") = false
  hint : ∀ (A : Around) (E : Value → Shared → Prop) (s : Shared) (Q : Bool → Shared → Prop), (∀ b o, h0.get? b = some o → s.heap.get? b = some o) → Q false s → wpAny (model PR w) A (Builtin.List.listLengthHint (.ref r)) Q E s
  iter : ∀ (A : Around) (s : Shared) (Q E : Value → Shared → Prop), A.handled = none → (∀ b o, h0.get? b = some o → s.heap.get? b = some o) → s.gens = #[] →
    (∀ (I : Addr) (h' : Heap) (tk : Nat) (fp : List Addr) (St : Nat → Heap → Prop), (∀ b o, s.heap.get? b = some o → h'.get? b = some o) → Walks PR w A I fp [I] n P St → DoneE w A I n St wr → St 0 h' → (I ∈ wr ∨ s.heap.get? I = none) → (∀ b ∈ fp, b = I ∨ ∃ o, h0.get? b = some o) → Q (.ref I) { s with heap := h', toks := tk }) →
    wpAny (model PR w) A (pyIter (.ref r)) Q E s
section
variable {w : World} {A : Around} {E : Value → Shared → Prop} {s : Shared} {T : String} {r : Addr} {n : Nat} {P : Nat → Value → Prop} {wr : List Addr} {h0 : Heap}
theorem ls_extend {R : Result → Shared → Prop} (K : LSrc w T r n P wr h0) (hh : A.handled = none) (hok : ∀ b o, h0.get? b = some o → s.heap.get? b = some o) (hgens : s.gens = #[]) (S : Addr) (hS0 : h0.get? S = none) (res : Value) (c₀ : Nat) (hS : s.heap.get? S = some { cls := .type "list", data := .seq #[] c₀ })
    (hR : ∀ h' tk acc' c', (∀ b o, b ≠ S → b ∉ wr → s.heap.get? b = some o → h'.get? b = some o) → (∀ b ∈ wr, ∃ o, h'.get? b = some o) → h'.get? S = some { cls := .type "list", dict := none, data := .seq acc' c', slots := #[] } → ItemsOf P acc' n → R (.ok (.ret res)) { s with heap := h', toks := tk }) (hn : n ≤ sizeLine) :
    wpAny (model PR w) A.in1 (Builtin.List.listExtendWith (.ref S) (.ref r) res)
      (fun fin s' => match fin with | .done f => R (.ok f) s' | .again c' => c'.quiet = true ∧ codeAny (model PR w) A c' R s') (fun e s' => R (.error e) s') s := by
  have hSr : S ≠ r := fun q => by obtain ⟨o, e⟩ := K.old; rw [← q, hS0] at e; cases e
  have hSw : ∀ {b : Addr} {o : Obj}, h0.get? b = some o → b ≠ S := fun {b o} e q => by rw [q, hS0] at e; cases e
  unfold Builtin.List.listExtendWith
  refine wpAny_bind (wpAny_typeOf (T := T) (K.type s hok) ?_)
  have h1 : Builtin.List.listSameRef (.ref S) (.ref r) = false := by simp [Builtin.List.listSameRef, hSr]
  simp only [h1, K.notList, K.notTuple, Bool.or_false, Bool.false_eq_true, if_false]
  refine wpAny_bind (K.iter A.in1 s _ _ hh hok hgens fun I h' tk fp St k W D st hI hfp => ?_)
  have hS₁ : h'.get? S = some { cls := .type "list", data := .seq #[] c₀ } := k _ _ hS
  have hSI : S ≠ I := fun q => by
    rcases hI with hI | hI
    · obtain ⟨o, e⟩ := K.wold _ hI
      exact hSw e q.symm
    · rw [← q, hS] at hI; cases hI
  have hSf : S ∉ fp := fun hm => by
    rcases hfp _ hm with q | ⟨o, e⟩
    · exact hSI q
    · exact hSw e rfl
  have key : ∀ (h : Heap) (c₁ tk : Nat), St 0 h → (∀ b o, b ≠ S → s.heap.get? b = some o → h.get? b = some o) →
      h.get? S = some { cls := .type "list", data := .seq #[] c₁ } → codeAny (model PR w) A (.builtin "list.extend.loop" ⟨[.ref S, .ref I, res], []⟩) R { s with heap := h, toks := tk } := by
    intro h c₁ tk hst hk hS₁
    refine ext_loopE W D hn S hSf res n 0 _ #[] c₁ rfl (Nat.zero_le _) hst hS₁ (ItemsOf.nil _) fun h2 tk2 acc' c' k2 hx hS' hacc => ?_
    refine hR h2 tk2 acc' c' (fun b o hb hbw e => k2 b o hb (fun q => ?_) (hk b o hb e)) (fun b hb => ?_) hS' hacc
    · rcases hI with hI | hI
      · exact hbw (q ▸ hI)
      · rw [← q, e] at hI; cases hI
    · by_cases q : b = I
      · subst q; exact hx hb
      · obtain ⟨o, e⟩ := K.wold _ hb
        have hbS : b ≠ S := hSw e
        exact ⟨o, k2 b o hbS q (hk b o hbS (hok _ _ e))⟩
  refine wpAny_bind (wpAny_holding (K.hint _ _ _ _ (fun b o e => k _ _ (hok _ _ e)) ?_))
  refine wpAny_ite_split (fun _ => ?_) (fun _ => wpAny_pure ⟨plainId_quiet PySem.F.plain_extend_loop _, key h' c₀ _ st (fun b o _ e => k _ _ e) hS₁⟩)
  refine wpAny_bind (wpAny_rule ?_)
  refine wpAny_bind ?_
  show wpAny _ _ (updateSeq S (·.push .none) >>= fun _ => updateSeq S (·.pop)) _ _ _
  refine wpAny_bind (wpAny_updateSeq hS₁ rfl ?_)
  have hS₂ := Heap.get?_update_self (Obj.mapSeq (·.push Value.none)) hS₁ rfl
  refine wpAny_updateSeq (hz := by seq_fits) hS₂ rfl ?_
  have hS₃ := Heap.get?_update_self (Obj.mapSeq (·.pop)) hS₂ rfl
  refine wpAny_pure ⟨plainId_quiet PySem.F.plain_extend_loop _, key _ _ _ ?_ (fun b o hb e => ?_) hS₃⟩
  · refine W.frame 0 _ _ st fun b hb o e => ?_
    have hbS : b ≠ S := fun h => hSf (h ▸ hb)
    exact (Heap.get?_update_other _ _ (Ne.symm hbS)).trans ((Heap.get?_update_other _ _ (Ne.symm hbS)).trans e)
  · exact (Heap.get?_update_other _ _ (Ne.symm hb)).trans ((Heap.get?_update_other _ _ (Ne.symm hb)).trans (k _ _ e))

theorem ls_init {R : Result → Shared → Prop} (K : LSrc w T r n P wr h0) (hh : A.handled = none) (hok : ∀ b o, h0.get? b = some o → s.heap.get? b = some o) (hgens : s.gens = #[]) (S : Addr) (hS0 : h0.get? S = none) (hS : s.heap.get? S = some { cls := .type "list", data := .seq #[] })
    (hR : ∀ h' tk acc' c', (∀ b o, b ≠ S → b ∉ wr → s.heap.get? b = some o → h'.get? b = some o) → (∀ b ∈ wr, ∃ o, h'.get? b = some o) → h'.get? S = some { cls := .type "list", dict := none, data := .seq acc' c', slots := #[] } → ItemsOf P acc' n → R (.ok (.ret .none)) { s with heap := h', toks := tk }) (hn : n ≤ sizeLine) :
    wpAny (model PR w) A.in1 (Builtin.«list.__init__» ⟨[.ref S, .ref r], []⟩)
      (fun fin s' => match fin with | .done f => R (.ok f) s' | .again c' => c'.quiet = true ∧ codeAny (model PR w) A c' R s') (fun e s' => R (.error e) s') s := by
  show wpAny _ _ (do let old ← Builtin.List.listItems (.ref S); Builtin.List.listUpdate (.ref S) (fun _ => #[]); letGo old.toList.reverse; Builtin.List.listExtendWith (.ref S) (.ref r) .none) _ _ s
  refine wpAny_bind ?_
  unfold Builtin.List.listItems
  refine wpAny_bind (wpAny_seqItems hS rfl (wpAny_pure ?_))
  show wpAny _ _ (updateSeq S (fun _ => #[]) >>= fun _ => letGo (#[] : Array Value).toList.reverse >>= fun _ => Builtin.List.listExtendWith (.ref S) (.ref r) .none) _ _ s
  refine wpAny_bind (wpAny_updateSeq hS rfl ?_)
  have hS₂ := Heap.get?_update_self (Obj.mapSeq (fun _ => (#[] : Array Value))) hS rfl
  have oth : ∀ b o, b ≠ S → s.heap.get? b = some o → (s.heap.update S (Obj.mapSeq (fun _ => (#[] : Array Value)))).get? b = some o :=
    fun b o hb e => (Heap.get?_update_other _ _ (Ne.symm hb)).trans e
  refine wpAny_bind (wpAny_letGo ?_)
  refine ls_extend (s := { s with heap := s.heap.update S (Obj.mapSeq (fun _ => (#[] : Array Value))) }) K hh (fun b o e => oth b o (fun q => by rw [q, hS0] at e; cases e) (hok _ _ e)) hgens S hS0 .none _ hS₂ (fun h' tk acc' c' hk hw2 hS' hacc => ?_) hn
  exact hR h' tk acc' c' (fun b o hb hw e => hk b o hb hw (oth b o hb e)) hw2 hS' hacc

theorem ls_call {Q : Value → Shared → Prop} (K : LSrc w T r n P wr s.heap) (hh : A.handled = none) (hgens : s.gens = #[]) (hn : n ≤ sizeLine)
    (hQ : ∀ x h' tk (us : List Value) c', (∀ b o, b ∉ wr → s.heap.get? b = some o → h'.get? b = some o) → (∀ b ∈ wr, ∃ o, h'.get? b = some o) → s.heap.get? x = none → h'.get? x = some ⟨.type "list", none, .seq us.toArray c', #[]⟩ → us.length = n → (∀ j v, us[j]? = some v → P j v) → Q (.ref x) { s with heap := h', toks := tk }) :
    wpAny (model PR w) A (call (.type "list") [.ref r]) Q E s := by
  refine callType_codes (Q₁ := fun obj s₁ => obj = .ref s.heap.objs.size ∧ s₁ = { s with heap := s.heap.push { cls := .type "list", data := .seq #[] } }) PySem.F.called_list (PySem.F.typeCall_list_1 _) PySem.F.entry_list_init
    (code_list_new _ ⟨rfl, rfl⟩) fun obj s₁ h₁ => ?_
  obtain ⟨rfl, rfl⟩ := h₁
  have hS : (s.heap.push { cls := .type "list", data := .seq #[] }).get? s.heap.objs.size = some { cls := .type "list", data := .seq #[] } := Heap.get?_push_size _ rfl
  have hfr : s.heap.get? s.heap.objs.size = none := by
    cases e : s.heap.get? s.heap.objs.size with
    | none => rfl
    | some o => exact absurd (Heap.lt_size e) (Nat.lt_irrefl _)
  refine ⟨⟨_, hS, rfl⟩, PySem.F.args_list_init_2 _ _, ls_init (A := A.in1) (s := { s with heap := s.heap.push { cls := .type "list", data := .seq #[] } }) K hh (fun b o e => Heap.get?_push_of_some _ e) hgens _ hfr hS (fun h' tk acc' c' hk hw2 hS' hacc => ?_) hn⟩
  exact ⟨rfl, hQ _ h' tk acc'.toList c' (fun b o hb e => hk b o (Nat.ne_of_lt (Heap.lt_size e)) hb (Heap.get?_push_of_some _ e)) hw2 hfr (by rw [Array.toArray_toList]; exact hS') (by rw [Array.length_toList]; exact hacc.1) fun j v e => hacc.2 j v (by rw [← Array.getElem?_toList]; exact e)⟩
end
end Mine

namespace Mine
open PySem PySem.W PyProof.Rows PySem.Calls
set_option maxRecDepth 100000
set_option maxHeartbeats 8000000
theorem top_off_Set1 : True := by
  w_top off
  exact trivial
/-- the table of a set of one key -/
abbrev tb1 (p : Nat) (led : Bool) : SetTable := ⟨7, #[p], #[], 0, led, 0, true⟩
abbrev set1 (h : Int) (v : Value) (ep p : Nat) (led : Bool) : Obj := { cls := .type "set", dict := none, data := .set #[(h, v)] ep (tb1 p led) }
theorem lay_fresh (h : Int) (x : Value) (led : Bool) : layNew (.fresh 0 0 led) #[] h x = (#[(h, x)], tb1 (SetTable.bits h % 8) led, false, false) := by
  rfl
section
variable {prog : Program} {w : World} {A : Around} {E : Value → Shared → Prop} {s : Shared} {h₀ : Heap} {L sa : Addr} {m : Str → Option Value} {news : List (Addr × Obj)} {g : Obj → List (Addr × Obj)}
abbrev ledOf (prog : Program) (w : World) : Bool := !(model prog w).w.params.followText "set-order"
theorem newSet_led {Q : Value → Shared → Prop} (h : Q (.ref s.heap.objs.size) { s with heap := s.heap.push { cls := .type "set", dict := none, data := .set #[] 0 (.fresh 0 0 (ledOf prog w)) } }) :
    wpAny (model prog w) A (newSet (.type "set")) Q E s := by
  unfold newSet setsByText
  refine wpAny_bind (wpAny_bind (wpAny_askSetting (wpAny_pure ?_)))
  dsimp only
  simp only [newObj]
  exact wpAny_bind (wpAny_alloc (wpAny_pure h))
theorem core_led {road : DisplayRoad} {b : Bool} {elts : List (Bool × Sem Value)} {ts : List (Sem Value)} {Q : Value → Shared → Prop} (hroad : (road == .constants) = false) (hu : (road == .unsure) = false) (hs : elts.findIdx? (·.1) = none) (hlen : elts.length ≤ 30) (hm : elts.map (·.2) = ts)
    (h : wpAny (model prog w) A (evalAll ts) (fun vs s' => KdsFill (model prog w) A E false s.heap.objs.size Q vs s') E { s with heap := s.heap.push { cls := .type "set", dict := none, data := .set #[] 0 (.fresh 0 0 (ledOf prog w)) } }) :
    wpAny (model prog w) A (setDisplay road b elts) Q E s := by
  have hn : (if elts.length > 30 then 0 else (elts.findIdx? (·.1)).getD elts.length) = elts.length := by rw [if_neg (by omega), hs]; rfl
  unfold setDisplay
  try dsimp only
  rw [if_neg (by rw [hroad]; exact Bool.false_ne_true)]
  refine wpAny_bind (newSet_led ?_)
  dsimp only
  rw [hn, List.take_length, List.drop_length, hm]
  refine wpAny_bind (wpAny_holding ?_)
  refine wpAny_bind (wpAny_mono h (fun vs s' h' => ?_) fun _ _ x => x)
  refine wpAny_bind (wpAny_holding ?_)
  refine wpAny_bind (wpAny_mono (kds_for (fun x P s hx => ?_) vs s' h') (fun _ s1 h1 => ?_) fun _ _ x => x)
  · refine wpAny_bind (wpAny_mono hx (fun _ s2 h2 => ?_) fun _ _ x => x)
    first | exact wpAny_pure ⟨rfl, h2⟩ | exact wpAny_bind (wpAny_pure (wpAny_pure ⟨rfl, h2⟩))
  · have h2 : Q (.ref s.heap.objs.size) s1 := by simpa [KdsFill] using h1
    rw [hu, if_neg Bool.false_ne_true]
    refine wpAny_pure ?_
    rw [List.forIn_nil]
    exact wpAny_pure (wpAny_pure h2)

theorem add_one {n : Int} {t : Tok} {Q : Bool → Shared → Prop} {led : Bool} (F : Fr h₀ L s.heap m) (N : News h₀ L s.heap ((sa, { cls := .type "set", dict := none, data := .set #[] 0 (.fresh 0 0 led) }) :: news)) (off : ∀ p ∈ news, p.1 ≠ sa)
    (h : ∀ h' hs p b, Fr h₀ L h' m → News h₀ L h' ((sa, set1 hs (.int n t) 1 p led) :: news) → Q b { s with heap := h', toks := s.toks + 1 }) :
    wpAny (model prog w) A (setAdd sa (.int n t)) Q E s := by
  have hz := N _ (.head _)
  unfold setAdd
  refine wpAny_holding (wpAny_bind ((intKind prog w).pyHash (k := n) (intKind_is _ _ _ _) ?_))
  unfold setAddHashed setAddHashedIn
  refine wpAny_holding (wpAny_bind (wpAny_setState_of (s := { s with toks := s.toks + 1 }) hz.1 rfl rfl ?_))
  dsimp only
  rw [byScan_of (knd := intKind prog w) rfl (by decide) (by intro e he; simp at he)]
  simp only [↓reduceIte]
  unfold setAddByScan
  refine wpAny_bind ?_
  refine wpAny_bind (wpAny_rule ?_)
  refine wpAny_bind (wpAny_setScan_of (knd := intKind prog w) (s := { s with toks := s.toks + 1 }) (intKind_is _ _ _ _) hz.1 rfl rfl (by intro e he; simp at he) ?_)
  show wpAny _ _ _ _ _ _
  dsimp only [List.findIdx?_nil]
  rw [lay_fresh]
  dsimp only
  refine wpAny_bind (wpAny_pure ?_)
  simp only [↓reduceIte]
  refine wpAny_bind ?_
  rw [hashByValue_scannable 8 (rfl : (Value.int n t).scannable = true)]
  refine wpAny_pure ?_
  simp only [plainKind, ↓reduceIte]
  refine wpAny_bind (wpAny_storeSet_of (s := { s with toks := s.toks + 1 }) hz.1 rfl ?_ (by rw [sizeLine_eq]; exact (by decide : (1 : Nat) ≤ 16777216)))
  have hfull : (tb1 (SetTable.bits ((intKind prog w).hash n) % 8) led).tooFull = false := rfl
  rw [hfull]
  simp only [Bool.and_false, Bool.false_eq_true, ↓reduceIte]
  refine wpAny_pure (wpAny_pure ?_)
  have hsb := Heap.SameBut.update s.heap sa (Obj.putSet #[((intKind prog w).hash n, Value.int n t)] (tb1 (SetTable.bits ((intKind prog w).hash n) % 8) led))
  have hg : (s.heap.update sa (Obj.putSet #[((intKind prog w).hash n, Value.int n t)] (tb1 (SetTable.bits ((intKind prog w).hash n) % 8) led))).get? sa = some (set1 ((intKind prog w).hash n) (.int n t) 1 (SetTable.bits ((intKind prog w).hash n) % 8) led) :=
    Heap.get?_update_self _ hz.1 rfl
  refine h _ ((intKind prog w).hash n) (SetTable.bits ((intKind prog w).hash n) % 8) true (F.change hsb hz.2.1 hz.2.2) fun p hp => ?_
  rcases List.mem_cons.mp hp with rfl | hp
  · exact ⟨hg, hz.2⟩
  · have zp := N _ (.tail _ hp)
    exact ⟨hsb.extBut _ _ (off p hp) zp.1, zp.2⟩
theorem set1_eval {K : Frag} {e : PySem.Expr} {k : Nat} {pos : Pos} {env : Env} {Q : Value → Shared → Prop} (F : Fr h₀ L s.heap m) (N : News h₀ L s.heap news) (X : K.In h₀) (hc : kdsCode K env.code = true)
    (hroad : (displayRoad k [e] == .constants) = false) (hu : (displayRoad k [e] == .unsure) = false) (hp : [e].all kdsPlain = true)
    (h : ∀ D h', Fr h₀ L h' m → News h₀ L h' ((D, { cls := .type "set", dict := none, data := .set #[] 0 (.fresh 0 0 (ledOf prog w)) }) :: news) → (∀ p ∈ news, p.1 < D) →
      wpAny (model prog w) A (eval e env) (fun v s' => wpAny (model prog w) A (setAdd D v) (fun _ s'' => Q (.ref D) s'') E s') E { s with heap := h' }) :
    wpAny (model prog w) A (eval (.Set [e] k pos) env) Q E s := by
  rw [arm_eval_Set]
  refine wpAny_bind (wpAny_standAt ?_)
  refine wpAny_bind (kds_main (X.keeps F.keep) hc fun b => ?_)
  rw [kds_star [e] hp, List.map_map]
  refine core_led (ts := (evalEach [e] env).map fun t => do let v ← t; standAt pos; pure v) hroad hu ?_ ?_ ?_ ?_
  · refine List.findIdx?_eq_none_iff.mpr fun x hx => ?_
    obtain ⟨t, _, rfl⟩ := List.mem_map.mp hx
    rfl
  · rw [List.length_map, kds_len]; exact (by decide : (1 : Nat) ≤ 30)
  · rw [List.map_map]; try rfl
  · refine kds_all pos [e] _ _ ?_
    refine wpAny_mono (h _ _ (F.push _) (News.push F N _ rfl) (fun p hp => Heap.lt_size (N p hp).1)) (fun v s' h' => ?_) fun _ _ x => x
    exact kds_fill_cons (wpAny_mono h' (fun _ s'' h'' => kds_fill_nil rfl h'') fun _ _ x => x)
end
end Mine

namespace Mine
open PySem PySem.W PyProof.Rows PySem.Calls
set_option maxRecDepth 100000
set_option maxHeartbeats 8000000
theorem top_off_SetIt : True := by
  w_top off
  exact trivial
theorem si_slot : Slot "set_iterator" "__next__" "set_iterator.__next__" :=
  .of (owner := "set_iterator") (n := "__next__") (by rw [typeLookup_type, builtinLookup_eq_fast]; kernel_rfl) (by decide +kernel) (by decide +kernel) (by decide +kernel)
    (by first | exact .inl (by decide +kernel) | exact .inr (by decide +kernel)) (by rw [isSubtype_type]; kernel_rfl)
theorem si_entry : entryFor table "set_iterator.__next__" = some Builtin.«set_iterator.__next__» := entryFor_of_tree (by kernel_rfl)
theorem si_args (a : Value) : argsOk "set_iterator.__next__" ⟨[a], []⟩ := by unfold argsOk; kernel_rfl
theorem st_slot : Slot "set" "__iter__" "set.__iter__" :=
  .of (owner := "set") (n := "__iter__") (by rw [typeLookup_type, builtinLookup_eq_fast]; kernel_rfl) (by decide +kernel) (by decide +kernel) (by decide +kernel)
    (by first | exact .inl (by decide +kernel) | exact .inr (by decide +kernel)) (by rw [isSubtype_type]; kernel_rfl)
abbrev siObj (r : Addr) (slot i ep : Nat) : Obj := { cls := .type "set_iterator", data := .fields #[.int slot 0, .int i 0, .ref r, .int 1 0, .int ep 0] }
local macro_rules | `(tactic| x_close) => `(tactic| (refine' NewQ.use ?ka ?kb; (case ka => assumption); (case kb => assumption)))
theorem st_iter_x {w : World} {A : Around} {s : Shared} {r : Addr} {hs : Int} {v : Value} {ep p : Nat} {led : Bool} {Q E : Value → Shared → Prop} (X : (Mine.hd.heap_39 w.params).In s.heap) (hg : s.gens = #[]) (hr : s.heap.get? r = some ⟨.type "set", none, .set #[(hs, v)] ep ⟨7, #[p], #[], 0, led, 0, true⟩, #[]⟩)
    (h : NewQ s (siObj r 0 0 ep) Q) : wpAny (model PR w) A (call (.builtin "set.__iter__") [.ref r] []) Q E s := by
  x_run
section
variable {w : World} {A : Around} {E : Value → Shared → Prop} {s : Shared}
theorem st_iter {r : Addr} {hs : Int} {v : Value} {ep p : Nat} {led : Bool} {Q : Value → Shared → Prop} (X : (Mine.hd.heap_39 w.params).In s.heap) (hg : s.gens = #[]) (hr : s.heap.get? r = some (set1 hs v ep p led))
    (h : NewQ s (siObj r 0 0 ep) Q) : wpAny (model PR w) A (pyIter (.ref r)) Q E s := by
  have hT : s.TypeIs (.ref r) "set" := ⟨_, hr, rfl⟩
  exact wpAny_pyIter_slot hT st_slot (st_iter_x X hg hr fun x h' tk k hx hx0 => ⟨"set_iterator", _, ⟨_, hx, rfl⟩, si_slot.lookup, h x h' tk k hx hx0⟩)
theorem pick_one (next : Nat → Nat) (hs : Int) (v : Value) : pickOrder next #[(hs, v)] = #[(hs, v)] := by
  unfold pickOrder
  show pickOrder.go next 1 0 [(hs, v)] #[] = _
  unfold pickOrder.go
  have e : next 0 % [(hs, v)].length = 0 := Nat.mod_one _
  rw [e]
  rfl
theorem below_one (p j : Nat) : SetTable.below #[p] j = if p < j then 1 else 0 := by
  show SetTable.below.go #[p] j 1 0 1 = _
  unfold SetTable.below.go
  simp only [Nat.lt_add_one, ↓reduceIte]
  show (if p < j then SetTable.below.go #[p] j 0 1 1 else SetTable.below.go #[p] j 0 0 0) = _
  split <;> rfl
/-- what the next step of a walk over a set of one reads -/
theorem set_next {r : Addr} {hs : Int} {v : Value} {ep p slot given : Nat} {Q : Option (Value × Nat) → Shared → Prop} (hr : s.heap.get? r = some (set1 hs v ep p (ledOf PR w)))
    (h : ∀ nx, ((model PR w).w.params.followText "set-order" = false → nx = p + 1) → Q (if given = 0 then some (v, nx) else none) s) (hg : (given = 0 ∧ slot = 0) ∨ (given = 1 ∧ ((model PR w).w.params.followText "set-order" = false → slot = p + 1))) : wpAny (model PR w) A (setNext r slot given ep) Q E s := by
  unfold setNext
  refine wpAny_bind (wpAny_setState_of hr rfl rfl ?_)
  dsimp only
  unfold setsByText
  refine wpAny_bind (wpAny_bind (wpAny_askSetting (wpAny_pure ?_)))
  cases hb : (model PR w).w.params.followText "set-order" with
  | true =>
    rw [if_pos rfl, if_neg (by simp)]
    have hfin : ∀ (o : Option (Value × Nat)), o = (if given = 0 then some (v, slot) else none) → Q o s := fun o e => e ▸ h slot (fun q => by rw [hb] at q; cases q)
    unfold setWalk
    refine wpAny_bind (wpAny_bind (wpAny_setState_of hr rfl rfl ?_))
    dsimp only
    unfold setsByText
    refine wpAny_bind (wpAny_bind (wpAny_askSetting (wpAny_pure ?_)))
    rw [hb, if_pos rfl]
    refine wpAny_bind (wpAny_askSetting (wpAny_pure (wpAny_pure ?_)))
    rw [pick_one]
    refine hfin _ ?_
    rcases hg with ⟨rfl, rfl⟩ | ⟨rfl, _⟩ <;> rfl
  | false =>
    have hd : (PySem.SetTable.plain (tb1 p (ledOf PR w))) = true := rfl
    rw [if_neg Bool.false_ne_true]
    refine wpAny_ite_split (fun q => absurd q (by intro q; exact absurd q Bool.false_ne_true)) (fun _ => ?_)
    have hl : ledOf PR w = true := by unfold ledOf; rw [hb]; rfl
    refine wpAny_bind ?_
    rw [hl]
    refine wpAny_pure (wpAny_pure ?_)
    rw [below_one]
    rcases hg with ⟨rfl, rfl⟩ | ⟨rfl, hsl⟩
    · rw [if_neg (Nat.not_lt_zero _)]
      exact h (p + 1) (fun _ => rfl)
    · rw [hsl hb, if_pos (Nat.lt_succ_self _)]
      exact h (p + 1) (fun _ => rfl)
end
end Mine

namespace Mine
open PySem PySem.W PyProof.Rows PySem.Calls
set_option maxRecDepth 100000
set_option maxHeartbeats 8000000
theorem top_off_SetIt2 : True := by
  w_top off
  exact trivial
section
variable {w : World} {A : Around} {E : Value → Shared → Prop} {s : Shared}
theorem si_body {I r : Addr} {hs : Int} {v : Value} {ep p slot given : Nat} {Q : Fin → Shared → Prop} (hI : s.heap.get? I = some (siObj r slot given ep)) (hr : s.heap.get? r = some (set1 hs v ep p (ledOf PR w)))
    (hg : (given = 0 ∧ slot = 0) ∨ (given = 1 ∧ ((model PR w).w.params.followText "set-order" = false → slot = p + 1)))
    (hyes : given = 0 → ∀ nx h', ((model PR w).w.params.followText "set-order" = false → nx = p + 1) → Heap.SameBut I s.heap h' → h'.get? I = some (siObj r nx 1 ep) → Q (.done (.ret v)) { s with heap := h' })
    (hno : given = 1 → ∀ h', Heap.SameBut I s.heap h' → (∃ o, h'.get? I = some o) → wpAny (model PR w) A (Builtin.SmallTypes.stopIteration : Sem Fin) Q E { s with heap := h' }) :
    wpAny (model PR w) A (Builtin.«set_iterator.__next__» ⟨[.ref I], []⟩) Q E s := by
  unfold Builtin.«set_iterator.__next__»
  refine wpAny_bind (wpAny_of_eq (a := (Value.ref I, ([] : List Value))) (by first | rfl | kernel_rfl!) ?_)
  refine wpAny_bind (wpAny_fieldsOf hI rfl ?_)
  dsimp only
  refine wpAny_bind (wpAny_setEntries_of hr rfl rfl ?_)
  rw [if_neg (by show ¬ ((((1 : Nat) : Int) != 1) = true); decide)]
  simp only [Int.toNat_natCast]
  refine wpAny_bind (set_next hr (fun nx hnx => ?_) hg)
  rcases hg with ⟨rfl, rfl⟩ | ⟨rfl, hsl⟩
  · simp only [↓reduceIte]
    refine wpAny_bind (wpAny_setField hI rfl (by simp) ?_)
    have h1 : (s.heap.update I (Obj.mapFields (·.setIfInBounds 0 (rawInt (nx : Int))))).get? I = some (siObj r nx 0 ep) := Heap.get?_update_self _ hI rfl
    refine wpAny_bind (wpAny_setField (s := { s with heap := s.heap.update I (Obj.mapFields (·.setIfInBounds 0 (rawInt (nx : Int)))) }) h1 rfl (by simp) ?_)
    refine wpAny_pure (hyes rfl nx _ hnx ((Heap.SameBut.update s.heap I _).trans (Heap.SameBut.update _ I _)) ?_)
    exact Heap.get?_update_self _ h1 rfl
  · simp only [Nat.one_ne_zero, ↓reduceIte]
    refine wpAny_bind (wpAny_setField hI rfl (by simp) ?_)
    exact hno rfl _ (Heap.SameBut.update s.heap I _) ⟨_, Heap.get?_update_self _ hI rfl⟩
end
end Mine

namespace Mine
open PySem PySem.W PyProof.Rows PySem.Calls
set_option maxRecDepth 100000
set_option maxHeartbeats 8000000
theorem top_off_SetL : True := by
  w_top off
  exact trivial
theorem sii_slot : Slot "set_iterator" "__iter__" "set_iterator.__iter__" :=
  .of (owner := "set_iterator") (n := "__iter__") (by rw [typeLookup_type, builtinLookup_eq_fast]; kernel_rfl) (by decide +kernel) (by decide +kernel) (by decide +kernel)
    (by first | exact .inl (by decide +kernel) | exact .inr (by decide +kernel)) (by rw [isSubtype_type]; kernel_rfl)
theorem sii_entry : entryFor table "set_iterator.__iter__" = some Builtin.«dict_keyiterator.__iter__» :=
  entryFor_alias (id' := "dict_keyiterator.__iter__") (by kernel_rfl) rfl (by decide +kernel) (by kernel_rfl)
theorem sii_args (a : Value) : argsOk "set_iterator.__iter__" ⟨[a], []⟩ := by unfold argsOk; kernel_rfl
section
variable {w : World} {A : Around} {E : Value → Shared → Prop} {s : Shared}
theorem si_item {I r : Addr} {hs : Int} {v : Value} {ep p : Nat} {Q : Option Value → Shared → Prop} (hI : s.heap.get? I = some (siObj r 0 0 ep)) (hr : s.heap.get? r = some (set1 hs v ep p (ledOf PR w)))
    (hQ : ∀ nx h', ((model PR w).w.params.followText "set-order" = false → nx = p + 1) → Heap.SameBut I s.heap h' → h'.get? I = some (siObj r nx 1 ep) → Q (some v) { s with heap := h' }) : wpAny (model PR w) A (pyNext (.ref I)) Q E s := by
  have hT : s.TypeIs (.ref I) "set_iterator" := ⟨_, hI, rfl⟩
  unfold pyNext
  refine wpAny_bind (wpAny_attempt (wpAny_callSpecial?_slot (name := Str.ofString "__next__") hT si_slot
    (wpAny_call_entry si_slot hT si_entry ?_ (si_args _))))
  refine si_body hI hr (.inl ⟨rfl, rfl⟩) (fun _ nx h' hnx hsb hI' => ⟨v, rfl, wpAny_pure (hQ nx h' hnx hsb hI')⟩) (fun q => absurd q (by decide))
theorem si_done {I r : Addr} {hs : Int} {v : Value} {ep p slot : Nat} {Q : Option Value → Shared → Prop} (hh : A.handled = none) (hI : s.heap.get? I = some (siObj r slot 1 ep)) (hr : s.heap.get? r = some (set1 hs v ep p (ledOf PR w)))
    (hsl : (model PR w).w.params.followText "set-order" = false → slot = p + 1) (hQ : ∀ h', Heap.ExtBut I s.heap h' → Q none { s with heap := h' }) : wpAny (model PR w) A (pyNext (.ref I)) Q E s := by
  have hT : s.TypeIs (.ref I) "set_iterator" := ⟨_, hI, rfl⟩
  unfold pyNext
  refine wpAny_bind (wpAny_attempt (wpAny_callSpecial?_slot (name := Str.ofString "__next__") hT si_slot
    (wpAny_call_entry si_slot hT si_entry ?_ (si_args _))))
  refine si_body hI hr (.inr ⟨rfl, hsl⟩) (fun q => absurd q (by decide)) fun _ h₁ hsb _ => ?_
  show wpAny _ _ (newExc (.type "StopIteration") [] >>= _) _ _ _
  refine wpAny_bind ?_
  simp only [newExc, newTuple]
  refine wpAny_bind (wpAny_newObj_type ?_ (by size_fits))
  refine wpAny_bind (m := firstArgMember _ _) (wpAny_of_eq (a := Value.none) (by first | rfl | (simp only [firstArgMember]; rfl)) ?_)
  refine wpAny_newObj_type ?_ (by size_fits)
  simp only [raiseNew]
  refine wpAny_bind (wpAny_handled ?_)
  rw [show A.in1.handled = none from hh]
  refine wpAny_bind (wpAny_pure (wpAny_throw ?_))
  refine wpAny_bind (wpAny_isInstance (T := "StopIteration") (b := true) ⟨_, Heap.get?_push_size _ rfl, rfl⟩ isSubtype_stop ?_)
  exact wpAny_pure (hQ _ ((hsb.extBut.push _).push _))
theorem hint_set {r : Addr} {Q : Bool → Shared → Prop} (hT : s.TypeIs (.ref r) "set") (h : Q false s) : wpAny (model PR w) A (Builtin.List.listLengthHint (.ref r)) Q E s := by
  unfold Builtin.List.listLengthHint
  refine wpAny_bind (wpAny_specialOf hT (r := some (.builtin "set.__len__")) (by rw [typeLookup_type, builtinLookup_eq_fast]; kernel_rfl) ?_)
  generalize hid : ("set.__len__" : String) = id0
  wp_delta
  rw [show splitId id0 = some ("set", "__len__") from by subst hid; decide +kernel]
  subst hid
  refine wpAny_bind (wpAny_isInstance (T := "set") (b := true) hT (by rw [isSubtype_type]; kernel_rfl) ?_)
  refine wpAny_ite_split (fun hab => absurd hab (by decide)) (fun _ => ?_)
  refine wpAny_ite_split (fun _ => ?_) (fun hab => absurd (by decide +kernel) hab)
  refine wpAny_bind (wpAny_typeOf hT ?_)
  exact wpAny_pure h
theorem src_set {r : Addr} {hs : Int} {v : Value} {ep p : Nat} {h0 : Heap} (X : (Mine.hd.heap_39 w.params).In h0) (hr : h0.get? r = some (set1 hs v ep p (ledOf PR w))) : LSrc w "set" r 1 (fun _ u => u = v) [] h0 where
  type := fun s hk => ⟨_, hk _ _ hr, rfl⟩
  old := ⟨_, hr⟩
  wold := fun b hb => nomatch hb
  notList := by decide
  notTuple := by decide
  hint := fun A E s Q hk hq => hint_set ⟨_, hk _ _ hr, rfl⟩ hq
  iter := fun A s Q E hh hk hg hQ => by
    refine st_iter (X.keeps hk) hg (hk _ _ hr) fun I h' tk k hI hI0 => ?_
    rw [← hg]
    have hne : I ≠ r := fun q => by rw [q, hk _ _ hr] at hI0; cases hI0
    have W : Walks PR w A I [I, r] [I] 1 (fun _ u => u = v) (fun i h => (i = 0 ∧ h.get? I = some (siObj r 0 0 ep) ∨ i = 1 ∧ ∃ slot, h.get? I = some (siObj r slot 1 ep) ∧ ((model PR w).w.params.followText "set-order" = false → slot = p + 1)) ∧ h.get? r = some (set1 hs v ep p (ledOf PR w))) :=
      {
        sub := fun b hb => by simp at hb; simp [hb]
        frame := fun i h h' st hk => by
          refine ⟨?_, hk r (by simp) _ st.2⟩
          rcases st.1 with ⟨a, b⟩ | ⟨a, slot, b, c⟩
          · exact .inl ⟨a, hk I (by simp) _ b⟩
          · exact .inr ⟨a, slot, hk I (by simp) _ b, c⟩
        item := fun i s Q E hi st hQ => by
          rcases st.1 with ⟨a, b⟩ | ⟨a, _⟩
          · subst a
            refine si_item b st.2 fun nx h' hnx hsb hI' => hQ v h' s.toks rfl ⟨.inr ⟨rfl, nx, hI', hnx⟩, (hsb.2 r hne.symm).trans st.2⟩ fun b o hb e => hsb.extBut b o (by simpa using hb) e
          · omega
        done := fun s Q E st hQ => by
          rcases st.1 with ⟨a, b⟩ | ⟨a, slot, b, c⟩
          · cases a
          · exact si_done hh b st.2 c fun h' hx => hQ h' s.toks fun b o hb e => hx b o (by simpa using hb) e
        self := fun i s Q E st hQ => by
          have hT : s.TypeIs (.ref I) "set_iterator" := by
            rcases st.1 with ⟨_, b⟩ | ⟨_, slot, b, _⟩
            · exact ⟨_, b, rfl⟩
            · exact ⟨_, b, rfl⟩
          refine wpAny_pyIter_slot hT sii_slot (wpAny_call_entry sii_slot hT sii_entry ?_ (sii_args _))
          show wpAny _ _ (ret (.ref I)) _ _ s
          exact wpAny_pure ⟨_, rfl, "set_iterator", _, hT, si_slot.lookup, hQ⟩ }
    refine hQ I h' tk [I, r] _ k W (DoneE.of W (by simp)) ⟨.inl ⟨rfl, hI⟩, k _ _ (hk _ _ hr)⟩ (.inr hI0) fun b hb => ?_
    rcases List.mem_cons.mp hb with q | hb
    · exact .inl q
    · exact .inr ⟨_, (List.mem_singleton.mp hb) ▸ hr⟩
theorem hint_iter {r : Addr} {Q : Bool → Shared → Prop} (hT : s.TypeIs (.ref r) "list_iterator") (h : Q false s) : wpAny (model PR w) A (Builtin.List.listLengthHint (.ref r)) Q E s := by
  unfold Builtin.List.listLengthHint
  refine wpAny_bind (wpAny_specialOf hT (r := none) (by rw [typeLookup_type, builtinLookup_eq_fast]; kernel_rfl) ?_)
  dsimp only
  refine wpAny_ite_split (fun hab => absurd hab (by decide)) (fun _ => ?_)
  refine wpAny_ite_split (fun hab => absurd hab (by decide)) (fun _ => ?_)
  refine wpAny_bind (wpAny_specialOf hT (r := some (.builtin "list_iterator.__length_hint__")) (by rw [typeLookup_type, builtinLookup_eq_fast]; kernel_rfl) ?_)
  generalize hid : ("list_iterator.__length_hint__" : String) = id0
  wp_delta
  rw [show splitId id0 = some ("list_iterator", "__length_hint__") from by subst hid; decide +kernel]
  subst hid
  refine wpAny_bind (wpAny_isInstance (T := "list_iterator") (b := true) hT (by rw [isSubtype_type]; kernel_rfl) ?_)
  refine wpAny_ite_split (fun hab => absurd hab (by decide)) (fun _ => ?_)
  refine wpAny_ite_split (fun _ => ?_) (fun hab => absurd (by decide +kernel) hab)
  refine wpAny_ite_split (fun hab => absurd hab (by decide)) (fun _ => ?_)
  exact wpAny_pure h
theorem src_iter {I l : Addr} {its : Array Value} {c : Nat} {h0 : Heap} (hI : h0.get? I = some { cls := .type "list_iterator", data := .fields #[.ref l, .int 0 0] }) (hl : h0.get? l = some { cls := .type "list", data := .seq its c }) : LSrc w "list_iterator" I its.size (fun i v => its[i]? = some v) [I] h0 where
  type := fun s hk => ⟨_, hk _ _ hI, rfl⟩
  old := ⟨_, hI⟩
  wold := fun b hb => by cases List.mem_singleton.mp hb; exact ⟨_, hI⟩
  notList := by decide
  notTuple := by decide
  hint := fun A E s Q hk hq => hint_iter ⟨_, hk _ _ hI, rfl⟩ hq
  iter := fun A s Q E hh hk hg hQ => by
    have hne : l ≠ I := fun q => by
      rw [q, hI] at hl
      have := congrArg Obj.cls (Option.some.inj hl)
      exact absurd this (by intro hc; injection hc with hc; exact absurd hc (by decide))
    refine iter_self ⟨_, hk _ _ hI, rfl⟩ ?_
    refine hQ I s.heap s.toks [I, l] _ (fun _ _ e => e) (Walks.list hh I l hne its) (fun s Q E st hQ => it_end hh st.1 st.2 (by simp) fun h' hx hd => hQ h' s.toks (fun b o hb e => hx b o hb e) (fun _ => by obtain ⟨o, x, e, _⟩ := hd; exact ⟨o, e⟩)) ⟨⟨_, hk _ _ hI, rfl, rfl⟩, ⟨_, hk _ _ hl, rfl, c, rfl⟩⟩ (.inl (.head _)) fun b hb => ?_
    rcases List.mem_cons.mp hb with q | hb
    · exact .inl q
    · exact .inr ⟨_, (List.mem_singleton.mp hb) ▸ hl⟩
end
end Mine

namespace Mine
open PySem PySem.W PyProof.Rows PySem.Calls
set_option maxRecDepth 100000
set_option maxHeartbeats 8000000
theorem top_off_KindK : True := by
  w_top off
  exact trivial
inductive EqV : Value → Value → Prop
  | int (k : Int) (t t' : Tok) : EqV (.int k t) (.int k t')
  | str (x : Str) (t t' : Tok) : EqV (.str x t) (.str x t')
  | bytes (b : Array UInt8) (t t' : Tok) : EqV (.bytes b t) (.bytes b t')
inductive EqVs : List Value → List Value → Prop
  | nil : EqVs [] []
  | cons {u d : Value} {us ds : List Value} : EqV u d → EqVs us ds → EqVs (u :: us) (d :: ds)
theorem EqVs.ints {us ds : List Value} {ks : List Int} (h : IntsAre us ks) (h' : IntsAre ds ks) : EqVs us ds := by
  induction h generalizing ds with
  | nil => cases h'; exact .nil
  | cons n t _ ih => cases h' with | cons _ t' h' => exact .cons (.int n t t') (ih h')
/-- to_list's answer: a new list -/
def ToldQ (s : Shared) (wr : List Addr) (dv : List Value) (Q : Value → Shared → Prop) : Prop :=
  ∀ x h' tk (us : List Value) c, (∀ b o, b ∉ wr → s.heap.get? b = some o → h'.get? b = some o) → (∀ b ∈ wr, ∃ o, h'.get? b = some o) → h'.get? x = some ⟨.type "list", none, .seq us.toArray c, #[]⟩ → s.heap.get? x = none → EqVs us dv → Q (.ref x) ⟨h', #[], s.drawn, tk, s.os⟩
/-- a thing of the law: how the two functions answer to it -/
structure TOk (w : World) (tn : List (Addr × Obj)) (wr : List Addr) (tv : Value) (dv : List Value) (many : Bool) : Prop where
  nsi : ∀ (s : Shared) (Q E : Value → Shared → Prop), (Mine.hd.heap_39 w.params).In s.heap → s.gens = #[] → (∀ p ∈ tn, s.heap.get? p.1 = some p.2) → EndQ s (.bool many) Q → wpAny (model PR w) (ar 960 5500) (call (.ref 242) [tv]) Q E s
  tl : ∀ (s : Shared) (t : Tok) (Q E : Value → Shared → Prop) (mg mb : Str → Option Value) (mean : ExcName → Option Value) (G₀ : Heap), (Mine.hd.heap_39 w.params).In G₀ → Top Mine.hd.view_39 LO mean mg mb G₀ → (∀ b o, G₀.get? b = some o → s.heap.get? b = some o) → s.gens = #[] →
    (∀ p ∈ tn, s.heap.get? p.1 = some p.2) → ToldQ s wr dv Q → wpAny (model PR w) (ar 900 5000) (call (.ref 250) [tv, .str (Str.ofString "unused") t]) Q E s
theorem ListQ.told {s : Shared} {us : Array Value} {dv : List Value} {Q : Value → Shared → Prop} (h : ToldQ s [] dv Q) (e : EqVs us.toList dv) : ListQ s us Q :=
  fun x h' tk c k hx hx0 => h x h' tk us.toList c (fun b o _ e => k b o e) (fun b hb => nomatch hb) (by rw [Array.toArray_toList]; exact hx) hx0 e
section
variable {w : World} {tn : List (Addr × Obj)} {n : Int} {t1 t2 t3 t4 t5 t6 : Tok} {a li dx : Addr}
theorem ok_int : TOk w tn [] (.int n t1) [.int n t2] false where
  nsi := fun s Q E X hg _ h => nsi_int X hg h
  tl := fun s t Q E mg mb mean G₀ X T hG hg _ h => tl_int (X.keeps hG) hg (ListQ.told h (.cons (.int _ _ _) .nil))
theorem ok_str {x : Str} : TOk w tn [] (.str x t1) [.str x t2] false where
  nsi := fun s Q E X hg _ h => nsi_str X hg h
  tl := fun s t Q E mg mb mean G₀ X T hG hg _ h => tl_str (X.keeps hG) hg (ListQ.told h (.cons (.str _ _ _) .nil))
theorem ok_bytes {x : Array UInt8} : TOk w tn [] (.bytes x t1) [.bytes x t2] false where
  nsi := fun s Q E X hg _ h => nsi_bytes X hg h
  tl := fun s t Q E mg mb mean G₀ X T hG hg _ h => tl_bytes (X.keeps hG) hg (ListQ.told h (.cons (.bytes _ _ _) .nil))
theorem ok_tup0 {c : Nat} (hm : (a, (⟨.type "tuple", none, .seq #[] c, #[]⟩ : Obj)) ∈ tn) : TOk w tn [] (.ref a) [] true where
  nsi := fun s Q E X hg ht h => nsi_tup X hg (ht _ hm) h
  tl := fun s t Q E mg mb mean G₀ X T hG hg ht h => tl_tup0 (X.keeps hG) hg (ht _ hm) (ListQ.told h .nil)
theorem ok_tup2 {c : Nat} (hm : (a, (⟨.type "tuple", none, .seq #[.int n t1, .int 1 t2] c, #[]⟩ : Obj)) ∈ tn) : TOk w tn [] (.ref a) [.int n t3, .int 1 t4] true where
  nsi := fun s Q E X hg ht h => nsi_tup X hg (ht _ hm) h
  tl := fun s t Q E mg mb mean G₀ X T hG hg ht h => tl_tup2 (X.keeps hG) hg (ht _ hm) (ListQ.told h (.cons (.int _ _ _) (.cons (.int _ _ _) .nil)))
theorem ok_os {us dv : List Value} {ks : List Int} {c : Nat} {es : Array (Int × Value)} {ep : Nat} {tb : SetTable} (hd : ks = ded n) (hus : IntsAre us ks) (hdv : IntsAre dv ks) (hf : tb.fits es.size = true) (h8 : es.size ≤ 8)
    (h1 : (a, osObj dx li es ep tb) ∈ tn) (h2 : (dx, emptyDict) ∈ tn) (h3 : (li, listOf us.toArray c) ∈ tn) : TOk w tn [] (.ref a) dv true where
  nsi := fun s Q E X hg ht h => nsi_os X hg (ht _ h1) (ht _ h2) h
  tl := fun s t Q E mg mb mean G₀ X T hG hg ht h => by
    have hp : tb.place.size = es.size := by
      simp only [SetTable.fits, Bool.and_eq_true, beq_iff_eq] at hf; exact hf.1
    have hm : ¬ (tb.mask.succ.ble tb.fill = true) := by
      simp only [SetTable.fits, Bool.and_eq_true, decide_eq_true_eq] at hf
      intro q
      have := Nat.le_of_ble_eq_true q
      have h2 := hf.2
      omega
    have z1 := ht _ h1
    have z2 := ht _ h2
    have z3 := ht _ h3
    unfold ded at hd
    split at hd
    · subst hd
      cases hus with
      | cons _ t1 hus => cases hus with
        | cons _ t2 hus => cases hus with
          | nil => exact tl_os2 (X.keeps hG) hg hp hm h8 z1 z2 z3 (ListQ.told h (EqVs.ints (.cons _ _ (.cons _ _ .nil)) hdv))
    · subst hd
      cases hus with
      | cons _ t1 hus => cases hus with
        | cons _ t2 hus => cases hus with
          | cons _ t3 hus => cases hus with
            | nil => exact tl_os3 (X.keeps hG) hg hp hm h8 z1 z2 z3 (ListQ.told h (EqVs.ints (.cons _ _ (.cons _ _ (.cons _ _ .nil))) hdv))
/-- to_list by its text, of a source of list() -/
theorem tl_src {T : String} {k : Nat} {P : Nat → Value → Prop} {wr : List Addr} {dv : List Value} {s : Shared} {t : Tok} {Q E : Value → Shared → Prop} {mg mb : Str → Option Value} {mean : ExcName → Option Value} {G₀ : Heap} (X : (Mine.hd.heap_39 w.params).In G₀) (Tp : Top Mine.hd.view_39 LO mean mg mb G₀) (hG : ∀ b o, G₀.get? b = some o → s.heap.get? b = some o) (hg : s.gens = #[])
    (hnsi : ∀ (s' : Shared) (Q E : Value → Shared → Prop), (∀ b o, s.heap.get? b = some o → s'.heap.get? b = some o) → s'.gens = #[] → EndQ s' (.bool true) Q → wpAny (model PR w) (ar 960 5500) (call (.ref 242) [.ref a]) Q E s')
    (hisl : ∀ (s' : Shared) (A : Around) (Q E : Value → Shared → Prop), (∀ b o, s.heap.get? b = some o → s'.heap.get? b = some o) → s'.gens = #[] → EndQ s' (.bool false) Q → wpAny (model PR w) A (call (.builtin "isinstance") [.ref a, .type "list"]) Q E s')
    (K : ∀ h0 : Heap, (∀ b o, s.heap.get? b = some o → h0.get? b = some o) → LSrc w T a k P wr h0) (hk : k ≤ 1000) (hv : ∀ us : List Value, us.length = k → (∀ (j : Nat) (v : Value), us[j]? = some v → P j v) → EqVs us dv) (h : ToldQ s wr dv Q) :
    wpAny (model PR w) (ar 900 5000) (call (.ref 250) [.ref a, .str (Str.ofString "unused") t]) Q E s := by
  refine wpAny_call (codeAny_wk (tl_gen X Tp hG hg hnsi hisl fun s' A E' hh k' hg' hdr hos => ?_) rfl (Nat.le_of_ble_eq_true rfl) (Nat.le_of_ble_eq_true rfl))
  obtain ⟨hp, gs, d, tk, os⟩ := s'
  dsimp only at k' hg' hdr hos
  subst hg' hdr hos
  refine ls_call (s := ⟨hp, #[], s.drawn, tk, s.os⟩) (K hp k') hh rfl (by rw [sizeLine_eq]; omega) fun x h' tk' us c hk' hw2 hx0 hx hl hP => ?_
  refine h x h' tk' us c (fun b o hb e => hk' b o hb (k' b o e)) hw2 hx ?_ (hv us hl hP)
  cases e : s.heap.get? x with
  | none => rfl
  | some o => exact absurd (hx0.symm.trans (k' _ _ e)) (by intro h; cases h)
theorem eq_ints {us : List Value} {its : Array Value} {ks : List Int} {dv : List Value} (hi : IntsAre its.toList ks) (hd : IntsAre dv ks) (hl : us.length = its.size) (hv : ∀ (j : Nat) (v : Value), us[j]? = some v → its[j]? = some v) : EqVs us dv := by
  have e : us = its.toList := by
    refine List.ext_getElem (by rw [hl, Array.length_toList]) fun j h1 h2 => ?_
    have h3 := hv j us[j] (List.getElem?_eq_getElem h1)
    rw [Array.length_toList] at h2
    rw [Array.getElem?_eq_getElem h2] at h3
    exact (Option.some.inj h3).symm
  rw [e]; exact EqVs.ints hi hd
theorem ok_set {hs : Int} {ep p : Nat} (hm : (a, set1 hs (.int n t1) ep p (ledOf PR w)) ∈ tn) : TOk w tn [] (.ref a) [.int n t2] true where
  nsi := fun s Q E X hg ht h => nsi_set X hg (ht _ hm) h
  tl := fun s t Q E mg mb mean G₀ X T hG hg ht h =>
    tl_src X T hG hg (fun s' Q E k hg' h' => nsi_set (X.keeps fun b o e => k _ _ (hG _ _ e)) hg' (k _ _ (ht _ hm)) h') (fun s' A Q E k hg' h' => isl_set (X.keeps fun b o e => k _ _ (hG _ _ e)) hg' (k _ _ (ht _ hm)) h')
      (fun h0 k => src_set (X.keeps fun b o e => k _ _ (hG _ _ e)) (k _ _ (ht _ hm))) (by decide) (fun us hl hv => by
        obtain ⟨u, rfl⟩ := List.length_eq_one_iff.mp hl
        rw [hv 0 u rfl]
        exact .cons (.int _ _ _) .nil) h
theorem ok_iter {l : Addr} {c : Nat} (hm : (a, (⟨.type "list_iterator", none, .fields #[.ref l, .int 0 0], #[]⟩ : Obj)) ∈ tn) (hl : (l, listOf #[.int n t1, .int 7 t2] c) ∈ tn) : TOk w tn [a] (.ref a) [.int n t3, .int 7 t4] true where
  nsi := fun s Q E X hg ht h => nsi_iter X hg (ht _ hm) h
  tl := fun s t Q E mg mb mean G₀ X T hG hg ht h =>
    tl_src X T hG hg (fun s' Q E k hg' h' => nsi_iter (X.keeps fun b o e => k _ _ (hG _ _ e)) hg' (k _ _ (ht _ hm)) h') (fun s' A Q E k hg' h' => isl_iter (X.keeps fun b o e => k _ _ (hG _ _ e)) hg' (k _ _ (ht _ hm)) h')
      (fun h0 k => src_iter (k _ _ (ht _ hm)) (k _ _ (ht _ hl))) (by simp) (fun us hl hv => eq_ints (its := #[.int n t1, .int 7 t2]) (.cons _ _ (.cons _ _ .nil)) (.cons _ _ (.cons _ _ .nil)) hl hv) h
theorem src_of_kdl {T : String} {r d : Addr} {k : Nat} {P : Nat → Value → Prop} {OK : Heap → Prop} {h0 : Heap} (K : KdlSrc PR w T r d k P OK) (hok : ∀ h : Heap, (∀ b o, h0.get? b = some o → h.get? b = some o) → OK h) (hr : ∃ o, h0.get? r = some o) (hd : ∃ o, h0.get? d = some o) : LSrc w T r k P [] h0 where
  type := fun s hk => K.type s (hok _ hk)
  old := hr
  wold := fun b hb => nomatch hb
  notList := K.notList
  notTuple := K.notTuple
  hint := fun A E s Q hk hq => K.hint A E s Q (hok _ hk) hq
  iter := fun A s Q E hh hk hg hQ => by
    obtain ⟨oI, St, hit, W, st⟩ := K.iter A s hh (hok _ hk)
    refine hit _ _ (hQ _ _ s.toks _ St (fun b o e => Heap.get?_push_of_some _ e) W (DoneE.of W (by simp)) st (.inr ?_) fun b hb => ?_)
    · cases e : s.heap.get? s.heap.objs.size with
      | none => rfl
      | some o => exact absurd (Heap.lt_size e) (Nat.lt_irrefl _)
    · rcases List.mem_cons.mp hb with q | hb
      · exact .inl q
      · exact .inr ((List.mem_singleton.mp hb) ▸ hd)
theorem ok_dict {o : Obj} {kvs : List (Str × Value)} {x y : Str} {vx vy : Value} (hk : kvs = [(x, vx), (y, vy)]) (hm : (a, o) ∈ tn) (hd : o.IsDictOf (PySem.strKind PR w) kvs) (lo : (a == sysModules) = false) : TOk w tn [] (.ref a) [.str x t1, .str y t2] true := by
  obtain ⟨es, ep, hex, hda, hko, hpa, hnd⟩ := id hd
  obtain ⟨cl, di, da, sl⟩ := o
  obtain ⟨hc1, hc2, hc3⟩ := hex
  dsimp only at hc1 hc2 hc3 hda
  subst hc1 hc2 hc3 hda
  refine ⟨fun s Q E X hg ht h => nsi_dict X hg (ht _ hm) h, fun s t Q E mg mb mean G₀ X T hG hg ht h => ?_⟩
  refine tl_src X T hG hg (fun s' Q E k hg' h' => nsi_dict (X.keeps fun b o e => k _ _ (hG _ _ e)) hg' (k _ _ (ht _ hm)) h') (fun s' A Q E k hg' h' => isl_dict (X.keeps fun b o e => k _ _ (hG _ _ e)) hg' (k _ _ (ht _ hm)) h')
      (fun h0 k => src_of_kdl (kdl_dict (prog := PR) (w := w) (knd := PySem.strKind PR w) (d := a) (kvs := kvs) (ep := ep) lo) (fun h k' => ⟨_, es, k' _ _ (k _ _ (ht _ hm)), ⟨rfl, rfl, rfl⟩, rfl, hko, hpa, hnd⟩) ⟨_, k _ _ (ht _ hm)⟩ ⟨_, k _ _ (ht _ hm)⟩) (by subst hk; simp) (fun us hl hv => ?_) h
  subst hk
  match us, hl, hv with
  | [u, v], _, hv =>
    obtain ⟨k1, z1, e1, q1⟩ := hv 0 u rfl
    obtain ⟨k2, z2, e2, q2⟩ := hv 1 v rfl
    simp only [List.getElem?_cons_zero, List.getElem?_cons_succ, Option.some.injEq, Prod.mk.injEq] at e1 e2
    obtain ⟨rfl, _⟩ := e1
    obtain ⟨rfl, _⟩ := e2
    obtain ⟨tu, rfl⟩ := Value.isStrOf_shape q1
    obtain ⟨tv, rfl⟩ := Value.isStrOf_shape q2
    exact .cons (.str _ _ _) (.cons (.str _ _ _) .nil)
end
end Mine

namespace Mine
open PySem PySem.W PyProof.Rows PySem.Calls PySem.W.X
set_option maxRecDepth 100000
set_option maxHeartbeats 8000000
theorem top_off_KindL : True := by
  w_top off
  exact trivial
local macro_rules | `(tactic| x_close) => `(tactic| (first | (refine' EndQ.use ?ka ?kb; (case ka => assumption); (case kb => assumption)) | (refine' EndQ.same ?ka; (case ka => assumption))))
section
variable {w : World} {s : Shared} {a b : Addr} {t : Tok} {Q E : Value → Shared → Prop} (X : (Mine.hd.heap_39 w.params).In s.heap) (hg : s.gens = #[])
include X hg
theorem tll1 {its : Array Value} {c : Nat} (ha : s.heap.get? a = some ⟨.type "list", none, .seq its c, #[]⟩) (h : EndQ s (.ref a) Q) : wpAny (model PR w) (ar 900 5000) (call (.ref 250) [.ref a]) Q E s := by x_run
theorem tll2 {its : Array Value} {c : Nat} (ha : s.heap.get? a = some ⟨.type "list", none, .seq its c, #[]⟩) (h : EndQ s (.ref a) Q) : wpAny (model PR w) (ar 900 5000) (call (.ref 250) [.ref a, .ref b]) Q E s := by x_run
theorem tln0 (h : EndQ s .none Q) : wpAny (model PR w) (ar 900 5000) (call (.ref 250) [.none]) Q E s := by x_run
theorem tln1 (h : EndQ s (.ref b) Q) : wpAny (model PR w) (ar 900 5000) (call (.ref 250) [.none, .ref b]) Q E s := by x_run
theorem tln2 (h : EndQ s (.int 0 t) Q) : wpAny (model PR w) (ar 900 5000) (call (.ref 250) [.none, .int 0 t]) Q E s := by x_run
end
end Mine

namespace Mine
open PySem PySem.W PyProof.Rows PySem.Calls
set_option maxRecDepth 100000
set_option maxHeartbeats 8000000
theorem top_off_ThEnd : True := by
  w_top off
  exact trivial
abbrev tupO (tv : Value) (due : Addr) (many : Bool) : Obj := { cls := .type "tuple", data := .seq #[tv, .ref due, .bool many] }
/-- what _law_thing hands on -/
def ThingR (w : World) (s : Shared) (R : Result → Shared → Prop) : Prop :=
  ∀ (h' : Heap) (tk : Nat) (tup due : Addr) (tv : Value) (dv : List Value) (c : Nat) (many : Bool) (wr : List Addr) (tn : List (Addr × Obj)), (∀ b o, s.heap.get? b = some o → h'.get? b = some o) →
    (∀ p ∈ tn, h'.get? p.1 = some p.2 ∧ s.heap.get? p.1 = none) → (tup, tupO tv due many) ∈ tn → (due, listOf dv.toArray c) ∈ tn → (∀ b ∈ wr, ∃ i l, (b, itO l i) ∈ tn) → (∀ a, tv = .ref a → ∃ o, (a, o) ∈ tn) → (∀ p, tv ≠ .builtin p) → dv.length ≤ 8 → TOk w tn wr tv dv many → R (.ok (.ret (.ref tup))) { s with heap := h', toks := tk }
section
variable {w : World} {s : Shared} {R : Result → Shared → Prop} {g h' : Heap} {L : Addr} {m : Str → Option Value} {news : List (Addr × Obj)} {tk : Nat}
theorem thing_fin {tup due : Addr} {tv : Value} {dv : List Value} {c : Nat} {many : Bool} {wr : List Addr} (hR : ThingR w s R) (hk : ∀ b o, s.heap.get? b = some o → g.get? b = some o) (F : Fr g L h' m) (N : News g L h' news)
    (h1 : (tup, tupO tv due many) ∈ news) (h2 : (due, listOf dv.toArray c) ∈ news) (h3 : ∀ b ∈ wr, ∃ i l, (b, itO l i) ∈ news) (h5 : ∀ a, tv = .ref a → ∃ o, (a, o) ∈ news) (h7 : ∀ p, tv ≠ .builtin p) (h6 : dv.length ≤ 8) (h4 : TOk w news wr tv dv many) : R (.ok (.ret (.ref tup))) { s with heap := h', toks := tk } := by
  refine hR h' tk tup due tv dv c many wr news (fun b o e => F.keep b o (hk b o e)) (fun p hp => ⟨(N p hp).1, ?_⟩) h1 h2 h3 h5 h7 h6 h4
  cases e : s.heap.get? p.1 with
  | none => rfl
  | some o => exact absurd ((N p hp).2.2.symm.trans (hk _ o e)) (by intro h; cases h)
theorem ten {k : Int} (h0 : 0 ≤ k) (h1 : k < 10) : k = 0 ∨ k = 1 ∨ k = 2 ∨ k = 3 ∨ k = 4 ∨ k = 5 ∨ k = 6 ∨ k = 7 ∨ k = 8 ∨ k = 9 := by omega
/-- the ten kinds of things -/
theorem thing_all {kind n : Int} {v : Value} (hR : ThingR w s R) (hk : ∀ b o, s.heap.get? b = some o → g.get? b = some o) (F : Fr g L h' m) (N : News g L h' news) (hk0 : 0 ≤ kind) (hk1 : kind < 10)
    {D0 D1 D2 D3 D4 D5 D6 D7 D8 D9 l0 l1 l2 l3 l4 l5 l6 l7 l8 l9 a4 a5 a6 a7 a8 a9 li dx i9 : Addr} {o6 : Obj} {kvs : List (Str × Value)} {vx vy : Value} {hs : Int} {p : Nat} {c5 c8 : Nat} {us dv : List Value} {es : Array (Int × Value)} {ep : Nat} {tb : SetTable}
    {ta tb0 tc td te tf tg th ti tj tk' tl tm tn to' tp tq tr ts tt : Tok}
    (hv : #[Value.ref D0, .ref D1, .ref D2, .ref D3, .ref D4, .ref D5, .ref D6, .ref D7, .ref D8, .ref D9][kind.toNat]? = some v)
    (m0 : (D0, tupO (.int n ta) l0 false) ∈ news) (n0 : (l0, listOf #[.int n tb0] 0) ∈ news)
    (m1 : (D1, tupO (.str (Str.ofString "ab") tc) l1 false) ∈ news) (n1 : (l1, listOf #[.str (Str.ofString "ab") td] 0) ∈ news)
    (m2 : (D2, tupO (.str (Str.ofString "") te) l2 false) ∈ news) (n2 : (l2, listOf #[.str (Str.ofString "") tf] 0) ∈ news)
    (m3 : (D3, tupO (.bytes #[97, 98] tg) l3 false) ∈ news) (n3 : (l3, listOf #[.bytes #[97, 98] th] 0) ∈ news)
    (m4 : (D4, tupO (.ref a4) l4 true) ∈ news) (n4 : (l4, listOf #[.int n ti, .int 1 tj] 0) ∈ news) (q4 : (a4, (⟨.type "tuple", none, .seq #[.int n tk', .int 1 tl] 0, #[]⟩ : Obj)) ∈ news)
    (m5 : (D5, tupO (.ref a5) l5 true) ∈ news) (n5 : (l5, listOf #[] 0) ∈ news) (q5 : (a5, (⟨.type "tuple", none, .seq #[] c5, #[]⟩ : Obj)) ∈ news)
    (m6 : (D6, tupO (.ref a6) l6 true) ∈ news) (n6 : (l6, listOf #[.str (Str.ofString "k") tm, .str (Str.ofString "j") tn] 0) ∈ news) (q6 : (a6, o6) ∈ news) (hd6 : o6.IsDictOf (PySem.strKind PR w) kvs) (hk6 : kvs = [(Str.ofString "k", vx), (Str.ofString "j", vy)]) (lo6 : (a6 == sysModules) = false)
    (m7 : (D7, tupO (.ref a7) l7 true) ∈ news) (n7 : (l7, listOf #[.int n to'] 0) ∈ news) (q7 : (a7, set1 hs (.int n tp) 1 p (ledOf PR w)) ∈ news)
    (m8 : (D8, tupO (.ref a8) l8 true) ∈ news) (n8 : (l8, listOf dv.toArray c8) ∈ news) (q8 : (a8, osObj dx li es ep tb) ∈ news) (r8 : (dx, emptyDict) ∈ news) {cl : Nat} (s8 : (li, listOf us.toArray cl) ∈ news) (hus : IntsAre us (ded n)) (hdv : IntsAre dv (ded n)) (hf : tb.fits es.size = true) (h8 : es.size ≤ 8)
    (m9 : (D9, tupO (.ref a9) l9 true) ∈ news) (n9 : (l9, listOf #[.int n tq, .int 7 tr] 0) ∈ news) (q9 : (a9, itO i9 0) ∈ news) (r9 : (i9, listOf #[.int n ts, .int 7 tt] 0) ∈ news) :
    R (.ok (.ret v)) { s with heap := h', toks := tk } := by
  have hd8 : dv.length ≤ 8 := by
    rw [hdv.length]; unfold ded; split <;> simp
  rcases ten hk0 hk1 with rfl | rfl | rfl | rfl | rfl | rfl | rfl | rfl | rfl | rfl
  · obtain rfl : Value.ref D0 = v := Option.some.inj hv
    exact thing_fin (wr := []) (dv := [_]) hR hk F N m0 n0 (fun b hb => nomatch hb) (fun a e => nomatch e) (fun p e => nomatch e) (by simp) ok_int
  · obtain rfl : Value.ref D1 = v := Option.some.inj hv
    exact thing_fin (wr := []) (dv := [_]) hR hk F N m1 n1 (fun b hb => nomatch hb) (fun a e => nomatch e) (fun p e => nomatch e) (by simp) ok_str
  · obtain rfl : Value.ref D2 = v := Option.some.inj hv
    exact thing_fin (wr := []) (dv := [_]) hR hk F N m2 n2 (fun b hb => nomatch hb) (fun a e => nomatch e) (fun p e => nomatch e) (by simp) ok_str
  · obtain rfl : Value.ref D3 = v := Option.some.inj hv
    exact thing_fin (wr := []) (dv := [_]) hR hk F N m3 n3 (fun b hb => nomatch hb) (fun a e => nomatch e) (fun p e => nomatch e) (by simp) ok_bytes
  · obtain rfl : Value.ref D4 = v := Option.some.inj hv
    exact thing_fin (wr := []) (dv := [_, _]) hR hk F N m4 n4 (fun b hb => nomatch hb) (fun a e => by cases e; exact ⟨_, q4⟩) (fun p e => nomatch e) (by simp) (ok_tup2 q4)
  · obtain rfl : Value.ref D5 = v := Option.some.inj hv
    exact thing_fin (wr := []) (dv := []) hR hk F N m5 n5 (fun b hb => nomatch hb) (fun a e => by cases e; exact ⟨_, q5⟩) (fun p e => nomatch e) (by simp) (ok_tup0 q5)
  · obtain rfl : Value.ref D6 = v := Option.some.inj hv
    exact thing_fin (wr := []) (dv := [_, _]) hR hk F N m6 n6 (fun b hb => nomatch hb) (fun a e => by cases e; exact ⟨_, q6⟩) (fun p e => nomatch e) (by simp) (ok_dict hk6 q6 hd6 lo6)
  · obtain rfl : Value.ref D7 = v := Option.some.inj hv
    exact thing_fin (wr := []) (dv := [_]) hR hk F N m7 n7 (fun b hb => nomatch hb) (fun a e => by cases e; exact ⟨_, q7⟩) (fun p e => nomatch e) (by simp) (ok_set q7)
  · obtain rfl : Value.ref D8 = v := Option.some.inj hv
    exact thing_fin (wr := []) (dv := dv) hR hk F N m8 n8 (fun b hb => nomatch hb) (fun a e => by cases e; exact ⟨_, q8⟩) (fun p e => nomatch e) hd8 (ok_os rfl hus hdv hf h8 q8 r8 s8)
  · obtain rfl : Value.ref D9 = v := Option.some.inj hv
    exact thing_fin (wr := [a9]) (dv := [_, _]) hR hk F N m9 n9 (fun b hb => by cases List.mem_singleton.mp hb; exact ⟨_, _, q9⟩) (fun a e => by cases e; exact ⟨_, q9⟩) (fun p e => nomatch e) (by simp) (ok_iter q9 r9)
end
end Mine

namespace Mine
open PySem PySem.W PyProof.Rows PySem.Calls
set_option maxRecDepth 100000
set_option maxHeartbeats 8000000
theorem top_off_Thing : True := by
  w_top off
  exact trivial
local macro_rules | `(tactic| walk_at "call ref") => `(tactic| (k_here; (with_reducible show wpAny _ _ (call (Value.ref _) [Value.ref _] _) _ _ _); k_dflt (refine' os_r ?X ?T ?F ?N ?l ?hg ?h0 ?hd ?hu ?_; (case X => k_asm); (case T => k_asm); (case F => k_asm); (case N => k_asm); (case l => k_mem); (case hg => assumption); (case h0 => exact rfl); (case hd => exact Nat.le_of_ble_eq_true rfl); (case hu => exact Nat.le_of_ble_eq_true rfl)); intro li' a' dx' h' tk' c' us' es' ep' tb' F' N' ne' iu' ft' sz'; (try k_sweep)))
local macro_rules | `(tactic| walk_at "eval Set") => `(tactic| (k_here; k_dflt (refine' set1_eval ?F ?N ?X ?c ?r ?u ?p ?_; (case F => k_asm); (case N => k_asm); (case X => k_asm); (case c => first | k_is | kernel_rfl!); (case r => kds_road); (case u => kds_road); (case p => kds_road)); intro d' h' F' N' l1; (try k_lt l1)))
local macro_rules | `(tactic| walk_at "setAdd int") => `(tactic| (k_here; refine stop_here ?_))
local macro_rules | `(tactic| walk_at "subscriptTail") => `(tactic| (k_here; refine stop_here ?_))
local macro_rules | `(tactic| walk_at "call builtin:iter") => `(tactic| (k_here; (with_reducible show wpAny _ _ (call (Value.builtin "iter") [Value.ref _]) _ _ _); refine stop_here ?_))
theorem ded_ne {n : Int} (h : n ≠ 2) (h' : n ≠ 9) : ded n = [2, n, 9] := if_neg (by omega)
theorem ded_2 {n : Int} (h : n = 2) : ded n = [2, 9] := if_pos (.inl h)
theorem ded_9 {n : Int} (h : n = 9) : ded n = [2, 9] := if_pos (.inr h)
theorem thing_c {w : World} {mg mb : Str → Option Value} {mean : ExcName → Option Value} {G₀ : Heap} (X : (Mine.hd.heap_39 w.params).In G₀) (T : Top Mine.hd.view_39 LO mean mg mb G₀)
    {s : Shared} {kind n : Int} {tk tn : Tok} (hG : ∀ b o, G₀.get? b = some o → s.heap.get? b = some o) (hk0 : 0 ≤ kind) (hk1 : kind < 10) (hn0 : 0 ≤ n) (hn1 : n < 1000)
    (hgens : s.gens = #[]) {R : Result → Shared → Prop} (hR : ThingR w s R) :
    codeAny (model PR w) (ar 880 4800) (.call (.ref 279) ⟨[.int kind tk, .int n tn], []⟩) R s := by
  refine' own_call (binds := [(Str.ofString "kind", .int kind tk), (Str.ofString "number", .int n tn)]) [] X T hG ?hx ?ho ?hcd ?hroom ?hbind ?hloc ?_ ?c2 ?c3 ?c4 ?c5
  case ho => k_is
  case hcd => k_is
  case hroom => decide
  case hbind => exact BindsTo.of_eq rfl
  case hloc => exact locs rfl
  case c5 => decide
  case c2 => exact rfl
  case c3 => exact rfl
  case c4 => exact rfl
  case hx => intro q hq; cases hq
  intro g L h₁ tk₁ F N Xg Tg hGg hk
  have hk' : ∀ b o, s.heap.get? b = some o → g.get? b = some o := fun b o e => hk b o e (by simp)
  clear hGg hG X T hk
  (try dsimp only)
  (try k_fold)
  k_steps
  refine stop_out ?_
  with_reducible rename (News g L _ _) => N8
  with_reducible rename (Fr g L _ _) => F8
  refine add_one F8 N8 ?_ fun h9 hs9 p9 b9 F9 N9 => ?_
  · k_all
  clear F8 N8
  k_steps
  all_goals (refine stop_out ?_)
  all_goals (k_dflt (refine' iter_r ?F ?N ?l ?_; (case F => k_asm); (case N => k_asm); (case l => k_mem)))
  all_goals (intro I' h' F' N' l1)
  all_goals k_steps
  all_goals (refine stop_out ?_)
  all_goals (k_dflt (refine' item_r ?N ?l ?a ?b ?c ?_ ?d; (case N => k_asm); (case l => k_mem); (case a => with_reducible assumption); (case c => (show 10 < 2 ^ 62); decide); (case b => (show _ < ((10 : Nat) : Int)); exact hk1); (case d => with_unfolding_all rfl)))
  all_goals (intro v hv)
  all_goals k_steps
  all_goals (with_reducible rename (News g L _ _) => N11)
  all_goals (with_reducible rename (Fr g L _ _) => F11)
  all_goals (refine' thing_all (w := w) (s := s) (R := R) hR hk' F11 N11 hk0 hk1 hv ?m0 ?n0 ?m1 ?n1 ?m2 ?n2 ?m3 ?n3 ?m4 ?n4 ?q4 ?m5 ?n5 ?q5 ?m6 ?n6 ?q6 ?hd6 ?hk6 ?lo6 ?m7 ?n7 ?q7 ?m8 ?n8 ?q8 ?r8 ?s8 ?hus ?hdv ?hf ?h8 ?m9 ?n9 ?q9 ?r9; (case m0 => repeat (first | (with_reducible exact List.mem_cons_self) | (with_reducible apply List.mem_cons_of_mem))); (case n0 => repeat (first | (with_reducible exact List.mem_cons_self) | (with_reducible apply List.mem_cons_of_mem))); (case m1 => repeat (first | (with_reducible exact List.mem_cons_self) | (with_reducible apply List.mem_cons_of_mem))); (case n1 => repeat (first | (with_reducible exact List.mem_cons_self) | (with_reducible apply List.mem_cons_of_mem))); (case m2 => repeat (first | (with_reducible exact List.mem_cons_self) | (with_reducible apply List.mem_cons_of_mem))); (case n2 => repeat (first | (with_reducible exact List.mem_cons_self) | (with_reducible apply List.mem_cons_of_mem))); (case m3 => repeat (first | (with_reducible exact List.mem_cons_self) | (with_reducible apply List.mem_cons_of_mem))); (case n3 => repeat (first | (with_reducible exact List.mem_cons_self) | (with_reducible apply List.mem_cons_of_mem))); (case m4 => repeat (first | (with_reducible exact List.mem_cons_self) | (with_reducible apply List.mem_cons_of_mem))); (case n4 => repeat (first | (with_reducible exact List.mem_cons_self) | (with_reducible apply List.mem_cons_of_mem))); (case q4 => repeat (first | (with_reducible exact List.mem_cons_self) | (with_reducible apply List.mem_cons_of_mem))); (case m5 => repeat (first | (with_reducible exact List.mem_cons_self) | (with_reducible apply List.mem_cons_of_mem))); (case n5 => repeat (first | (with_reducible exact List.mem_cons_self) | (with_reducible apply List.mem_cons_of_mem))); (case q5 => repeat (first | (with_reducible exact List.mem_cons_self) | (with_reducible apply List.mem_cons_of_mem))); (case m6 => repeat (first | (with_reducible exact List.mem_cons_self) | (with_reducible apply List.mem_cons_of_mem))); (case n6 => repeat (first | (with_reducible exact List.mem_cons_self) | (with_reducible apply List.mem_cons_of_mem))); (case q6 => repeat (first | (with_reducible exact List.mem_cons_self) | (with_reducible apply List.mem_cons_of_mem))); (case m7 => repeat (first | (with_reducible exact List.mem_cons_self) | (with_reducible apply List.mem_cons_of_mem))); (case n7 => repeat (first | (with_reducible exact List.mem_cons_self) | (with_reducible apply List.mem_cons_of_mem))); (case q7 => repeat (first | (with_reducible exact List.mem_cons_self) | (with_reducible apply List.mem_cons_of_mem))); (case m8 => repeat (first | (with_reducible exact List.mem_cons_self) | (with_reducible apply List.mem_cons_of_mem))); (case n8 => repeat (first | (with_reducible exact List.mem_cons_self) | (with_reducible apply List.mem_cons_of_mem))); (case q8 => repeat (first | (with_reducible exact List.mem_cons_self) | (with_reducible apply List.mem_cons_of_mem))); (case r8 => repeat (first | (with_reducible exact List.mem_cons_self) | (with_reducible apply List.mem_cons_of_mem))); (case s8 => repeat (first | (with_reducible exact List.mem_cons_self) | (with_reducible apply List.mem_cons_of_mem))); (case m9 => repeat (first | (with_reducible exact List.mem_cons_self) | (with_reducible apply List.mem_cons_of_mem))); (case n9 => repeat (first | (with_reducible exact List.mem_cons_self) | (with_reducible apply List.mem_cons_of_mem))); (case q9 => repeat (first | (with_reducible exact List.mem_cons_self) | (with_reducible apply List.mem_cons_of_mem))); (case r9 => repeat (first | (with_reducible exact List.mem_cons_self) | (with_reducible apply List.mem_cons_of_mem))); (case hd6 => with_reducible assumption); (case hk6 => exact rfl); (case lo6 => with_reducible assumption); (case hus => with_reducible assumption); (case hf => with_reducible assumption); (case h8 => with_reducible assumption); (case hdv => first | (rw [ded_ne (by with_reducible assumption) (by with_reducible assumption)]; exact .cons _ _ (.cons _ _ (.cons _ _ .nil))) | (rw [ded_9 (by with_reducible assumption)]; exact .cons _ _ (.cons _ _ .nil)) | (rw [ded_2 (by with_reducible assumption)]; exact .cons _ _ (.cons _ _ .nil))))
end Mine

namespace Mine
open PySem PySem.W PyProof.Rows PySem.Calls
set_option maxRecDepth 100000
set_option maxHeartbeats 8000000
theorem top_off_EqL : True := by
  w_top off
  exact trivial
section
variable {prog : Program} {w : World} {A : Around} {E : Value → Shared → Prop} {s : Shared}
theorem EqV.at {u d : Value} (h : EqV u d) : SeqAt.EqAt A s u d true := by
  cases h with
  | int k t t' => have := SeqAt.EqAt.int_int (A := A) (s := s) k t k t'; rwa [beq_self_eq_true] at this
  | str x t t' => have := SeqAt.EqAt.str_str (A := A) (s := s) x t x t'; rwa [beq_self_eq_true] at this
  | bytes b t t' =>
    intro prog w E Q h
    unfold eqBool
    refine wpAny_holding ?_
    refine wpAny_ite_split (fun _ => wpAny_bind (wpAny_rule (wpAny_pure h))) (fun _ => ?_)
    exact wpAny_bind (eq_bytes (wpAny_truthy_bool (by simpa using h)))
theorem EqVs.get {us ds : List Value} (h : EqVs us ds) : us.length = ds.length ∧ ∀ (j : Nat) (u d : Value), us[j]? = some u → ds[j]? = some d → EqV u d := by
  induction h with
  | nil => exact ⟨rfl, fun j u d e => by simp at e⟩
  | cons h _ ih =>
    refine ⟨by simp [ih.1], fun j u d e e' => ?_⟩
    cases j with
    | zero => simp at e e'; subst e e'; exact h
    | succ j => simp at e e'; exact ih.2 j u d e e'
theorem ne_told {x d : Addr} {us dv : List Value} {Q : Value → Shared → Prop} (hx : s.heap.IsList x us.toArray) (hd : s.heap.IsList d dv.toArray) (he : EqVs us dv) (hu : A.units < cLine) (h : Q (.bool false) s) :
    wpAny (model prog w) A (compareOp .NotEq (.ref x) (.ref d)) Q E s := by
  obtain ⟨hl, hj⟩ := he.get
  refine SeqAt.RcNeAt.lists (e := fun _ => true) hx hd (by simpa using hl) hu (fun j h1 h2 => ?_) prog w E Q ?_
  · have h1' : j < us.length := by simpa using h1
    have h2' : j < dv.length := by simpa using h2
    have := (hj j us[j] dv[j] (List.getElem?_eq_getElem h1') (List.getElem?_eq_getElem h2')).at (A := A.in1) (s := s)
    simpa using this
  · rw [show (List.range us.toArray.size).all (fun _ => true) = true from by simp]; exact h
end
end Mine

namespace Mine
open PySem PySem.W PyProof.Rows PySem.Calls
set_option maxRecDepth 100000
set_option maxHeartbeats 8000000
theorem top_off_Lists : True := by
  w_top off
  exact trivial
local macro_rules | `(tactic| walk_at "call ref") => `(tactic| (k_here; refine stop_here ?_))
local macro_rules | `(tactic| walk_at "call ref") => `(tactic| (k_here; (with_reducible show wpAny _ _ (call (Value.ref _) [Value.ref _, Value.int _ _] _) _ _ _); k_dflt (refine' next_r ?X ?T ?F ?N ?U ?sl ?I ?len ?B ?m0 ?m1 ?h0 ?hd ?hu ?_; (case X => k_asm); (case T => k_asm); (case F => k_asm); (case N => k_asm); (case U => k_updF); (case sl => k_asm); (case I => k_asm); (case len => k_asm); (case B => k_asm); (case m0 => decide); (case m1 => decide); (case h0 => exact rfl); (case hd => exact Nat.le_of_ble_eq_true rfl); (case hu => exact Nat.le_of_ble_eq_true rfl)); intro v' t' h' tk' i' sd' ti' td' B' v0' v1' F' N'; (try dsimp only at N'); (try k_sweep)))
section
variable {w : World} {g : Heap} {L a b : Addr} {m : Str → Option Value} {news : List (Addr × Obj)} {A : Around} {s : Shared} {its : Array Value} {c : Nat} {t : Tok} {Q E : Value → Shared → Prop} (X : (Mine.hd.heap_39 w.params).In g) (F : Fr g L s.heap m) (N : News g L s.heap news) (hg : s.gens = #[])
  (h0 : A.handled = none) (hd : A.depth ≤ 900) (hu : A.units ≤ 5000)
include X F N hg h0 hd hu
theorem tl1_r (hm : (a, listOf its c) ∈ news) (h : ∀ h' tk, Fr g L h' m → News g L h' news → Q (.ref a) ⟨h', #[], s.drawn, tk, s.os⟩) : wpAny (model PR w) A (call (.ref 250) [.ref a] []) Q E s :=
  wpAny_wk (tll1 (X.keeps F.keep) hg (N _ hm).1 fun h' tk k => h h' tk (F.keeps k) (N.grown k)) h0 hd hu
theorem tl2_r (hm : (a, listOf its c) ∈ news) (h : ∀ h' tk, Fr g L h' m → News g L h' news → Q (.ref a) ⟨h', #[], s.drawn, tk, s.os⟩) : wpAny (model PR w) A (call (.ref 250) [.ref a, .ref b] []) Q E s :=
  wpAny_wk (tll2 (X.keeps F.keep) hg (N _ hm).1 fun h' tk k => h h' tk (F.keeps k) (N.grown k)) h0 hd hu
theorem tn0_r (h : ∀ h' tk, Fr g L h' m → News g L h' news → Q .none ⟨h', #[], s.drawn, tk, s.os⟩) : wpAny (model PR w) A (call (.ref 250) [.none] []) Q E s :=
  wpAny_wk (tln0 (X.keeps F.keep) hg fun h' tk k => h h' tk (F.keeps k) (N.grown k)) h0 hd hu
theorem tn1_r (h : ∀ h' tk, Fr g L h' m → News g L h' news → Q (.ref b) ⟨h', #[], s.drawn, tk, s.os⟩) : wpAny (model PR w) A (call (.ref 250) [.none, .ref b] []) Q E s :=
  wpAny_wk (tln1 (X.keeps F.keep) hg fun h' tk k => h h' tk (F.keeps k) (N.grown k)) h0 hd hu
theorem tn2_r (h : ∀ h' tk, Fr g L h' m → News g L h' news → Q (.int 0 t) ⟨h', #[], s.drawn, tk, s.os⟩) : wpAny (model PR w) A (call (.ref 250) [.none, .int 0 t] []) Q E s :=
  wpAny_wk (tln2 (X.keeps F.keep) hg fun h' tk k => h h' tk (F.keeps k) (N.grown k)) h0 hd hu
end
local macro_rules | `(tactic| walk_at "call ref") => `(tactic| (k_here; (with_reducible show wpAny _ _ (call (Value.ref _) [Value.ref _] _) _ _ _); k_dflt (refine' tl1_r ?X ?F ?N ?hg ?h0 ?hd ?hu ?l ?_; (case X => k_asm); (case F => k_asm); (case N => k_asm); (case hg => exact rfl); (case h0 => exact rfl); (case hd => exact Nat.le_of_ble_eq_true rfl); (case hu => exact Nat.le_of_ble_eq_true rfl); (case l => k_mem)); intro h' tk' F' N'; (try k_sweep)))
local macro_rules | `(tactic| walk_at "call ref") => `(tactic| (k_here; (with_reducible show wpAny _ _ (call (Value.ref _) [Value.ref _, Value.ref _] _) _ _ _); k_dflt (refine' tl2_r ?X ?F ?N ?hg ?h0 ?hd ?hu ?l ?_; (case X => k_asm); (case F => k_asm); (case N => k_asm); (case hg => exact rfl); (case h0 => exact rfl); (case hd => exact Nat.le_of_ble_eq_true rfl); (case hu => exact Nat.le_of_ble_eq_true rfl); (case l => k_mem)); intro h' tk' F' N'; (try k_sweep)))
local macro_rules | `(tactic| walk_at "call ref") => `(tactic| (k_here; (with_reducible show wpAny _ _ (call (Value.ref _) [Value.none] _) _ _ _); k_dflt (refine' tn0_r ?X ?F ?N ?hg ?h0 ?hd ?hu ?_; (case X => k_asm); (case F => k_asm); (case N => k_asm); (case hg => exact rfl); (case h0 => exact rfl); (case hd => exact Nat.le_of_ble_eq_true rfl); (case hu => exact Nat.le_of_ble_eq_true rfl)); intro h' tk' F' N'; (try k_sweep)))
local macro_rules | `(tactic| walk_at "call ref") => `(tactic| (k_here; (with_reducible show wpAny _ _ (call (Value.ref _) [Value.none, Value.ref _] _) _ _ _); k_dflt (refine' tn1_r ?X ?F ?N ?hg ?h0 ?hd ?hu ?_; (case X => k_asm); (case F => k_asm); (case N => k_asm); (case hg => exact rfl); (case h0 => exact rfl); (case hd => exact Nat.le_of_ble_eq_true rfl); (case hu => exact Nat.le_of_ble_eq_true rfl)); intro h' tk' F' N'; (try k_sweep)))
local macro_rules | `(tactic| walk_at "call ref") => `(tactic| (k_here; (with_reducible show wpAny _ _ (call (Value.ref _) [Value.none, Value.int _ _] _) _ _ _); k_dflt (refine' tn2_r ?X ?F ?N ?hg ?h0 ?hd ?hu ?_; (case X => k_asm); (case F => k_asm); (case N => k_asm); (case hg => exact rfl); (case h0 => exact rfl); (case hd => exact Nat.le_of_ble_eq_true rfl); (case hu => exact Nat.le_of_ble_eq_true rfl)); intro h' tk' F' N'; (try k_sweep)))
local macro_rules | `(tactic| walk_at "call builtin:isinstance") => `(tactic| (k_here; refine stop_here ?_))
local macro_rules | `(tactic| walk_at "compareOp NotEq ref ref") => `(tactic| (k_here; refine stop_here ?_))
local macro_rules | `(tactic| walk_at "compareOp Is") => `(tactic| (k_here; refine stop_here ?_))
theorem fresh_L {g h : Heap} {L a : Addr} {m : Str → Option Value} (F : Fr g L h m) (e : h.get? a = none) : a ≠ L ∧ g.get? a = none := by
  refine ⟨fun q => ?_, ?_⟩
  · obtain ⟨o, _, _, eL, _⟩ := F.ns
    rw [q] at e; exact absurd (e.symm.trans eL) (by intro h; cases h)
  · cases q : g.get? a with
    | none => rfl
    | some o => exact absurd (e.symm.trans (F.keep _ _ q)) (by intro h; cases h)
theorem news_more {g h h' : Heap} {L : Addr} {m : Str → Option Value} {st tup due : Addr} {o o1 o2 : Obj} {tn : List (Addr × Obj)} (F : Fr g L h m) (N : News g L h' [(st, o)]) (ht : ∀ p ∈ tn, h'.get? p.1 = some p.2 ∧ h.get? p.1 = none)
    (h1 : (tup, o1) ∈ tn) (h2 : (due, o2) ∈ tn) : News g L h' ((tup, o1) :: (due, o2) :: (st, o) :: tn) := by
  have z : News g L h' tn := fun p hp => ⟨(ht p hp).1, fresh_L F (ht p hp).2⟩
  intro p hp
  rcases List.mem_cons.mp hp with rfl | hp
  · exact z _ h1
  · rcases List.mem_cons.mp hp with rfl | hp
    · exact z _ h2
    · rcases List.mem_cons.mp hp with rfl | hp
      · exact N _ (.head _)
      · exact z _ hp
theorem apart_more {g h h' : Heap} {L : Addr} {st tup due : Addr} {o o1 o2 : Obj} {tn : List (Addr × Obj)} (ht : ∀ p ∈ tn, h'.get? p.1 = some p.2 ∧ h.get? p.1 = none)
    (h1 : (tup, o1) ∈ tn) (h2 : (due, o2) ∈ tn) (N : News g L h [(st, o)]) : (@Ne Nat tup st) ∧ (@Ne Nat due st) := by
  have z := (N _ (.head _)).1
  refine ⟨fun e => ?_, fun e => ?_⟩
  · have q := (ht _ h1).2
    have e' : tup = st := e
    rw [e'] at q
    exact absurd (q.symm.trans z) (by intro h; cases h)
  · have q := (ht _ h2).2
    have e' : due = st := e
    rw [e'] at q
    exact absurd (q.symm.trans z) (by intro h; cases h)
theorem told_led {g h h' : Heap} {L : Addr} {m : Str → Option Value} {st tup due x : Addr} {tv : Value} {o1 : Obj} {ds us : Array Value} {c c' : Nat} {sl : Addr} {i sd : Int} {ti td : Tok} {wr : List Addr} {tn : List (Addr × Obj)} (F : Fr g L h m)
    (N : News g L h ((tup, o1) :: (due, listOf ds c) :: (st, stO sl i sd ti td) :: tn)) (hw : ∀ b ∈ wr, ∃ i l, (b, itO l i) ∈ tn) (ha : ∀ a, tv = .ref a → ∃ o, (a, o) ∈ tn)
    (k : ∀ b o, b ∉ wr → h.get? b = some o → h'.get? b = some o) (hx : h'.get? x = some ⟨.type "list", none, .seq us c', #[]⟩) (hx0 : h.get? x = none) (kw : ∀ b ∈ wr, ∃ o, h'.get? b = some o) :
    ∃ tl, Fr g L h' m ∧ News g L h' ((x, listOf us c') :: (due, listOf ds c) :: (st, stO sl i sd ti td) :: tl) ∧ ((@Ne Nat x due) ∧ (@Ne Nat x st)) ∧ (∀ a, tv = .ref a → x ≠ a ∧ ∃ o, (a, o) ∈ tl) := by
  have tl : ∀ p ∈ tn, h.get? p.1 = some p.2 ∧ p.1 ≠ L ∧ g.get? p.1 = none := fun p hp => N p (.tail _ (.tail _ (.tail _ hp)))
  have nw : ∀ b o, h.get? b = some o → o.cls ≠ .type "list_iterator" → b ∉ wr := fun b o e hc hb => by
    obtain ⟨i, l, hm⟩ := hw b hb
    have := (tl _ hm).1
    dsimp only at this
    rw [e] at this
    cases this
    exact hc rfl
  have fx := fresh_L F hx0
  obtain ⟨oL, es, ep, eL, r⟩ := id F.ns
  have hL : L ∉ wr := fun hb => by
    obtain ⟨i, l, hm⟩ := hw L hb
    exact (tl _ hm).2.1 rfl
  have ne : ∀ b o, h.get? b = some o → x ≠ b := fun b o e q => by rw [q] at hx0; exact absurd (hx0.symm.trans e) (by intro h; cases h)
  have alive : ∀ a, tv = .ref a → ∃ o, h'.get? a = some o := fun a e => by
    obtain ⟨o, hm⟩ := ha a e
    by_cases hb : a ∈ wr
    · exact kw a hb
    · exact ⟨o, k _ _ hb (tl _ hm).1⟩
  have F' : Fr g L h' m := ⟨⟨oL, es, ep, k _ _ hL eL, r⟩, fun b o e => k b o (fun hb => by
    obtain ⟨i, l, hm⟩ := hw b hb
    exact absurd ((tl _ hm).2.2.symm.trans e) (by intro h; cases h)) (F.keep b o e), F.above⟩
  have N' : ∀ tl', (∀ p ∈ tl', h'.get? p.1 = some p.2 ∧ p.1 ≠ L ∧ g.get? p.1 = none) → News g L h' ((x, listOf us c') :: (due, listOf ds c) :: (st, stO sl i sd ti td) :: tl') := fun tl' h' p hp => by
    rcases List.mem_cons.mp hp with rfl | hp
    · exact ⟨hx, fx.1, fx.2⟩
    · rcases List.mem_cons.mp hp with rfl | hp
      · have z := N _ (.tail _ (.head _))
        exact ⟨k _ _ (nw _ _ z.1 (by intro q; injection q with q; exact absurd q (by decide))) z.1, z.2⟩
      · rcases List.mem_cons.mp hp with rfl | hp
        · have z := N _ (.tail _ (.tail _ (.head _)))
          exact ⟨k _ _ (nw _ _ z.1 (by intro q; injection q with q; exact absurd q (by decide))) z.1, z.2⟩
        · exact h' p hp
  have nes : (@Ne Nat x due) ∧ (@Ne Nat x st) := ⟨ne _ _ (N _ (.tail _ (.head _))).1, ne _ _ (N _ (.tail _ (.tail _ (.head _)))).1⟩
  by_cases hr : ∃ a, tv = .ref a
  · obtain ⟨a, rfl⟩ := hr
    obtain ⟨o, ho⟩ := alive a rfl
    obtain ⟨o', hm⟩ := ha a rfl
    refine ⟨[(a, o)], F', N' _ (fun p hp => by cases List.mem_singleton.mp hp; exact ⟨ho, (tl _ hm).2⟩), nes, fun b e => ?_⟩
    cases e
    exact ⟨ne _ _ (tl _ hm).1, o, .head _⟩
  · exact ⟨[], F', N' _ (fun p hp => nomatch hp), nes, fun b e => absurd ⟨b, e⟩ hr⟩
theorem ne_told_l {prog : Program} {w : World} {A : Around} {E : Value → Shared → Prop} {s : Shared} {g : Heap} {L x d : Addr} {news : List (Addr × Obj)} {us dv : List Value} {c c' : Nat} {Q : Value → Shared → Prop} (N : News g L s.heap news) (hx : (x, listOf us.toArray c) ∈ news) (hd : (d, listOf dv.toArray c') ∈ news) (he : EqVs us dv) (hu : A.units < cLine) (h : Q (.bool false) s) :
    wpAny (model prog w) A (compareOp .NotEq (.ref x) (.ref d)) Q E s := ne_told ⟨_, (N _ hx).1, rfl, _, rfl⟩ ⟨_, (N _ hd).1, rfl, _, rfl⟩ he hu h
theorem news_cut3 {g h : Heap} {L : Addr} {a b c : Addr × Obj} {tl : List (Addr × Obj)} (N : News g L h (a :: b :: c :: tl)) : News g L h [a, b, c] := fun p hp => N p (by
  rcases List.mem_cons.mp hp with rfl | hp
  · exact .head _
  · rcases List.mem_cons.mp hp with rfl | hp
    · exact .tail _ (.head _)
    · cases List.mem_singleton.mp hp; exact .tail _ (.tail _ (.head _)))
theorem is_told {M : Model} {A : Around} {E : Value → Shared → Prop} {s : Shared} {x : Addr} {tv : Value} {us : Array Value} {c : Nat} {Q : Value → Shared → Prop} (hx : s.heap.get? x = some (listOf us c)) (ha : ∀ a, tv = .ref a → x ≠ a ∧ ∃ o, s.heap.get? a = some o) (hb : ∀ p, tv ≠ .builtin p)
    (h : Q (.bool false) s) : wpAny M A (compareOp .Is (.ref x) tv) Q E s := by
  show wpAny M A (isSame (.ref x) tv >>= fun x => pure (.bool x)) Q E s
  refine wpAny_bind ?_
  unfold isSame
  cases tv with
  | ref a =>
    obtain ⟨hne, o, ho⟩ := ha a rfl
    dsimp only
    rw [if_neg (by simpa using hne)]
    refine wpAny_bind (wpAny_load hx (wpAny_bind (wpAny_load ho ?_)))
    exact wpAny_pure (wpAny_pure h)
  | builtin p => exact absurd rfl (hb p)
  | _ => exact wpAny_pure (wpAny_pure h)
theorem bne_self2 (b : Bool) : ¬ ((b != b) = true) := by cases b <;> decide
theorem lists_c {w : World} : RoundC w 286 := by
  intro mg mb mean G₀ X T s st sl vs ns i sd ti td hgens hG hst hf hsl hne hI hlen hB R hR
  obtain ⟨hp0, gs0, d0, t0, os0⟩ := s
  dsimp only at hgens hG hst hsl hR
  subst hgens
  refine' own_call (binds := [(Str.ofString "state", .ref st)]) [(st, stO sl i sd ti td)] X T hG ?hx ?ho ?hcd ?hroom ?hbind ?hloc ?_ ?c2 ?c3 ?c4 ?c5
  case ho => k_is
  case hcd => k_is
  case hroom => decide
  case hbind => exact BindsTo.of_eq rfl
  case hloc => exact locs rfl
  case c5 => decide
  case c2 => exact rfl
  case c3 => exact rfl
  case c4 => exact rfl
  case hx => intro q hq; cases List.mem_singleton.mp hq; exact ⟨hst, hf⟩
  intro g L h₁ tk₁ F N Xg Tg hGg hk
  have hslg : g.IsList sl vs.toArray := by
    obtain ⟨o, ho, r⟩ := hsl
    exact ⟨o, hk _ _ ho (by simpa using hne), r⟩
  have hR' : ∀ (h' : Heap) (tk : Nat) (i' sd' : Int) (ti' td' : Tok) (L' : Addr) (m' : Str → Option Value), Fr g L' h' m' → h'.get? st = some (stO sl i' sd' ti' td') →
      Bd i' sd' → R (.ok (.ret (.bool true))) ⟨h', #[], d0, tk, os0⟩ := fun h' tk i' sd' ti' td' L' m' F' hs =>
    hR h' tk i' sd' ti' td' (fun b o e hb => F'.keep b o (hk b o e (by simpa using hb))) hs
  clear hk hGg hG hst hf hsl X T hR
  (try dsimp only)
  (try k_fold)
  k_steps
  refine stop_out ?_
  with_reducible rename (Fr g L _ _) => F1
  with_reducible rename (News g L _ _) => N1
  refine' wpAny_call (codeAny_wk (thing_c Xg Tg F1.keep ?a ?b ?c ?d ?hg ?_) ?e1 ?e2 ?e3)
  case a => assumption
  case b => assumption
  case c => assumption
  case d => assumption
  case hg => exact rfl
  case e1 => exact rfl
  case e2 => exact Nat.le_of_ble_eq_true rfl
  case e3 => exact Nat.le_of_ble_eq_true rfl
  intro h2 tk2 tup due tv dv c many wr tn2 hk2 ht2 hm1 hm2 hw ha hnb hd8 ok2
  have F2 := F1.keeps hk2
  have N2 := news_more F1 (N1.grown hk2) ht2 hm1 hm2
  have ap2 := apart_more ht2 hm1 hm2 N1
  clear F1 N1
  k_steps
  refine stop_out ?_
  with_reducible rename (Fr g L _ _) => F3
  with_reducible rename (News g L _ _) => N3
  refine' wpAny_wk (ok2.nsi _ _ _ (Xg.keeps F3.keep) ?hg (fun p hp => (N3 p (.tail _ (.tail _ (.tail _ hp)))).1) fun h4 tk4 k4 => ?_) ?e1 ?e2 ?e3
  case hg => exact rfl
  case e1 => exact rfl
  case e2 => exact Nat.le_of_ble_eq_true rfl
  case e3 => exact Nat.le_of_ble_eq_true rfl
  have F4 := F3.keeps k4
  have N4 := N3.grown k4
  clear F3 N3 k4
  k_steps
  · exact absurd (by assumption) (bne_self2 _)
  refine stop_out ?_
  with_reducible rename (Fr g L _ _) => F5
  with_reducible rename (News g L _ _) => N5
  refine' wpAny_wk (ok2.tl _ _ _ _ _ _ _ _ Xg Tg F5.keep ?hg (fun p hp => (N5 p (.tail _ (.tail _ (.tail _ hp)))).1) fun x h6 tk6 us c6 k6 kw6 hx6 hx60 he6 => ?_) ?e1 ?e2 ?e3
  case hg => exact rfl
  case e1 => exact rfl
  case e2 => exact Nat.le_of_ble_eq_true rfl
  case e3 => exact Nat.le_of_ble_eq_true rfl
  obtain ⟨tl6, F6, N6, ne6, na6⟩ := told_led F5 N5 hw ha k6 hx6 hx60 kw6
  clear F5 N5 k6 kw6 hx6 hx60 hw ht2 hm1 hm2 ha
  k_steps
  refine stop_out ?_
  with_reducible rename (News g L _ _) => N7
  refine' ne_told ⟨_, (N7 (x, _) (by k_mem)).1, rfl, _, rfl⟩ ⟨_, (N7 (due, _) (by k_mem)).1, rfl, _, rfl⟩ he6 ?hu ?_
  case hu => exact Nat.lt_of_lt_of_le (Nat.le_of_ble_eq_true rfl) (Nat.le_refl _)
  k_steps
  refine stop_out ?_
  with_reducible rename (News g L _ _) => N8
  with_reducible rename (Fr g L _ _) => F8
  refine' isl_list (Xg.keeps F8.keep) ?hg (N8 (x, _) (by k_mem)).1 fun h9 tk9 k9 => ?_
  case hg => exact rfl
  have F9 := F8.keeps k9
  have N9 := N8.grown k9
  clear F8 N8 k9
  k_steps
  refine stop_out ?_
  with_reducible rename (News g L _ _) => N10
  refine' is_told (N10 (x, _) (by k_mem)).1 (fun a e => ?ha) hnb ?_
  case ha =>
    obtain ⟨z1, o, z2⟩ := na6 a e
    exact ⟨z1, o, (N10 _ (.tail _ (.tail _ (.tail _ z2)))).1⟩
  have N11 := news_cut3 N10
  clear N10 na6 hnb
  k_steps
  refine stop_out ?_
  k_dflt (refine' ne_told_l ?N ?l ?l2 ?he ?hu ?_; (case N => k_asm); (case l => k_mem); (case l2 => k_mem); (case he => exact .cons (.int _ _ _) (.cons (.str _ _ _) .nil)); (case hu => exact Nat.lt_of_lt_of_le (Nat.le_of_ble_eq_true rfl) (Nat.le_refl _)))
  k_steps
  with_reducible rename (News g L _ _) => N12
  rw [show ((0 : Int) == 0) = true from rfl]
  refine' hR' _ _ _ _ _ _ _ _ ?hf (N12 (st, _) ?hm).1 ?hB
  case hm => k_mem
  case hf => k_asm
  case hB => assumption
end Mine

namespace Mine
open PySem PySem.W PyProof.Rows PySem.Calls
set_option maxRecDepth 100000
set_option maxHeartbeats 4000000
theorem top_off_UMap : True := by
  w_top off
  exact trivial
section
variable {prog : Program} {w : World} {A : Around} {E : Value → Shared → Prop} {s : Shared}
abbrev SK (prog : Program) (w : World) := PySem.strKind prog w
theorem put_pairs {d : Addr} {kvs : List (Str × Value)} {k : Str} {key v : Value} {Q : Unit → Shared → Prop} (hkey : (SK prog w).is k key = true) (hm : s.heap.DictOf (SK prog w) d kvs)
    (hQ : ∀ h', h'.DictOf (SK prog w) d (stored kvs k v) → Heap.SameBut d s.heap h' → Q () { s with heap := h' })
    (hsz : kvs.length ≤ sizeLine) :
    wpAny (model prog w) A (dictPut d ((SK prog w).hash k) key v) Q E s := by
  obtain ⟨o, es, ep, ho, hc, hd, hk, hp, hn⟩ := hm
  have hes : es.size ≤ sizeLine := by have e1 := hp.length; have e2 : es.toList.length = es.size := by simp
                                      omega
  unfold dictPut
  refine wpAny_bind (wpAny_dictFind_of hkey ho hd hk ?_)
  have hidx : (es.findIdx? fun e => (SK prog w).is k e.key) = kvs.findIdx? fun kv => decide (kv.1 = k) := by
    rw [← hp.findIdx k]; obtain ⟨l⟩ := es; simp
  cases hi : es.findIdx? fun e => (SK prog w).is k e.key with
  | some i =>
    refine wpAny_updateDict ho hd (hQ _ ⟨_, _, ep, Heap.get?_update_self _ ho (Obj.isFreed_of_dict (Obj.data_mapDict hd _)),
      hc.mapDict _, Obj.data_mapDict hd _, hk.modify _ _, ?_, ?_⟩ (Heap.SameBut.update ..))
    · rw [stored, if_pos (any_of_findIdx_some (hidx ▸ hi))]
      have hl : (es.toList.findIdx? fun e => (SK prog w).is k e.key) = some i := by rw [← hi]; obtain ⟨l⟩ := es; simp
      have := hp.modify hn hl v
      obtain ⟨l⟩ := es
      simpa using this
    · rw [stored, if_pos (any_of_findIdx_some (hidx ▸ hi)), keys_map_store]; exact hn
  | none =>
    have hnot : k ∉ kvs.map (·.1) := not_mem_of_findIdx_none (hidx ▸ hi)
    have hany : ¬ (kvs.any fun kv => decide (kv.1 = k)) = true := by
      rw [List.any_eq_true]; rintro ⟨kv, hkv, he⟩
      exact hnot (List.mem_map.mpr ⟨kv, hkv, of_decide_eq_true he⟩)
    refine wpAny_updateDictKeys (hz := hes) ho hd (hQ _ ⟨_, _, ep + 1, Heap.get?_update_self _ ho (Obj.isFreed_of_dict (Obj.data_mapDictKeys hd _)),
      hc.mapDictKeys _, Obj.data_mapDictKeys hd _, hk.push hkey _, ?_, ?_⟩ (Heap.SameBut.update ..))
    · rw [stored, if_neg hany]
      have := hp.append hkey ((SK prog w).hash k) v
      obtain ⟨l⟩ := es
      simpa using this
    · rw [stored, if_neg hany, List.map_append, List.nodup_append]
      refine ⟨hn, by simp, ?_⟩
      intro a ha b hb
      simp only [List.map_cons, List.map_nil, List.mem_singleton] at hb
      subst hb
      exact fun e => hnot (e ▸ ha)
theorem take_fresh {more : List (Str × Value)} {x : Nat} {k : Str} {v : Value} (hn : (more.map (·.1)).Nodup) (h : more[x]? = some (k, v)) : (more.take x).findIdx? (fun kv => decide (kv.1 = k)) = none := by
  obtain ⟨hx, e⟩ := List.getElem?_eq_some_iff.mp h
  have t := List.take_append_drop x more
  rw [List.drop_eq_getElem_cons hx, e] at t
  rw [← t, List.map_append, List.nodup_append] at hn
  rw [List.findIdx?_eq_none_iff]
  intro kv hkv
  have := hn.2.2 kv.1 (List.mem_map_of_mem hkv) k (by simp)
  simpa using this
theorem merge_map {d a : Addr} {kvs more : List (Str × Value)} {u : Bool} {Q : Unit → Shared → Prop} (hda : d ≠ a) (haS : (a == sysModules) = false) (hu : u = true → kvs = [])
    (hd : s.heap.DictOf (SK prog w) d kvs) (ha : s.heap.DictOf (SK prog w) a more)
    (hQ : ∀ h', h'.DictOf (SK prog w) d (merged kvs more) → Heap.SameBut d s.heap h' → Q () { s with heap := h' })
    (hsz : kvs.length + more.length ≤ sizeLine) :
    wpAny (model prog w) A (mergeMapping d (.ref a) u) Q E s := by
  obtain ⟨od, esd, epd, hod, hcd, hdd, hkd, hpd, hnd⟩ := id hd
  obtain ⟨oo, eso, epo, hoo, hco, hdo', hko, hpo, hno⟩ := id ha
  unfold mergeMapping
  have hlen : more.length = eso.size := by rw [← hpo.length]; simp
  refine wpAny_bind (wpAny_isInstance ha.typeIs isSubtype_dict_dict ?_)
  dsimp only
  rw [if_pos rfl]
  refine wpAny_bind (wpAny_specialOf ha.typeIs F.slot_dict_iter.lookup (wpAny_bind (wpAny_pure ?_)))
  simp only [beq_self_eq_true]
  rw [if_neg (by rw [haS]; exact Bool.false_ne_true)]
  refine wpAny_bind (wpAny_dictEntries hod hdd ?_)
  have loop : wpAny (model prog w) A (do
      let __do_lift ← dictEntries a
      let epoch ← dictEpoch a
      forIn (List.range __do_lift.size) PUnit.unit fun i (__s : PUnit) => (do
        let __do_lift ← dictEntries a
        match __do_lift[i]? with
          | some e => do
            holding [e.key, e.val]
                (if u = true then do
                  let __do_lift ← dictFind d e.key e.hash
                  if __do_lift.isSome = true then do
                      rule "dict.merge.duplicate-key"
                      let __do_lift ← newExc (Value.type "KeyError") [e.key]
                      let __r ← raiseNew __do_lift
                      (fun (__r : Unit) => dictPut d e.hash e.key e.val) __r
                    else dictPut d e.hash e.key e.val
                else dictPut d e.hash e.key e.val)
            let __do_lift ← dictEpoch a
            if (__do_lift != epoch) = true then do
                (unsupported "dict.changed-during-merge" : Sem PUnit)
                pure (ForInStep.yield PUnit.unit)
              else pure (ForInStep.yield PUnit.unit)
          | _ => do
            (unsupported "dict.changed-during-merge" : Sem PUnit)
            pure (ForInStep.yield PUnit.unit) : Sem (ForInStep PUnit))
      pure ()) Q E s := by
    refine wpAny_bind (wpAny_dictEntries hoo hdo' ?_)
    refine wpAny_bind (wpAny_dictEpoch hoo hdo' ?_)
    refine wpAny_bind ?_
    rw [List.range_eq_range']
    refine wpAny_forIn_list _
      (fun rest _ s' => ∃ h' i, s' = { s with heap := h' } ∧ rest = List.range' i (eso.size - i) ∧ i ≤ eso.size ∧ h'.DictOf (SK prog w) d (merged kvs (more.take i)) ∧ h'.get? a = some oo ∧ Heap.SameBut d s.heap h')
      _ ?_ ?_ _ _ ⟨s.heap, 0, rfl, by simp, Nat.zero_le _, by simpa [merged] using hd, hoo, Heap.SameBut.refl _ _⟩
    · rintro x rest b s' ⟨h', i, rfl, hr, hi, hd', hoo', hs'⟩
      have hlt : i < eso.size := by
        rcases Nat.lt_or_ge i eso.size with h | h
        · exact h
        · rw [Nat.sub_eq_zero_of_le h] at hr; simp at hr
      obtain ⟨rfl, hrest⟩ : x = i ∧ rest = List.range' (i + 1) (eso.size - (i + 1)) := by
        have e : eso.size - i = (eso.size - (i + 1)) + 1 := by omega
        rw [e, List.range'_succ] at hr
        injection hr with h1 h2
        exact ⟨h1, h2⟩
      refine wpAny_bind (wpAny_dictEntries hoo' hdo' ?_)
      rw [Array.getElem?_eq_getElem hlt]
      obtain ⟨kv, hkv⟩ : ∃ kv, more[x]? = some kv := ⟨more[x]'(by rw [hlen]; exact hlt), List.getElem?_eq_getElem _⟩
      obtain ⟨k, v⟩ := kv
      obtain ⟨hkey, hval⟩ := hpo.get? (e := eso[x]) (by simp [hlt]) hkv
      obtain ⟨k', hkey', hhash⟩ := hko eso[x] (Array.getElem_mem hlt)
      obtain rfl : k' = k := (SK prog w).inj _ _ _ hkey' hkey
      have hmx : (merged kvs (more.take x)).length ≤ sizeLine := by
        have e1 := merged_length_le kvs (more.take x)
        have e2 : (more.take x).length ≤ more.length := by rw [List.length_take]; omega
        omega
      have put : ∀ Q' : Unit → Shared → Prop, (∀ h'', h''.DictOf (SK prog w) d (merged kvs (more.take (x + 1))) → h''.get? a = some oo → Heap.SameBut d s.heap h'' → Q' () { s with heap := h'' }) →
          wpAny (model prog w) A (dictPut d eso[x].hash eso[x].key eso[x].val) Q' E { s with heap := h' } := fun Q' hQ' => by
        rw [hhash, hval]
        refine put_pairs (s := { s with heap := h' }) hkey hd' (fun h'' hd'' hs'' => ?_) hmx
        exact hQ' h'' (by rw [merged_take_succ kvs more x (k', v) hkv]; exact hd'') ((hs''.2 a (Ne.symm hda)).trans hoo') (hs'.trans hs'')
      dsimp only
      refine wpAny_bind (wpAny_holding ?_)
      cases u with
      | false => 
        rw [if_neg Bool.false_ne_true]
        refine put _ fun h'' hd'' hoo'' hs'' => ?_
        refine wpAny_bind (wpAny_dictEpoch (s := { s with heap := h'' }) hoo'' hdo' ?_)
        rw [if_neg (by simp)]
        exact wpAny_pure ⟨h'', x + 1, rfl, hrest, hlt, hd'', hoo'', hs''⟩
      | true =>
        rw [if_pos rfl]
        have hkv0 := hu rfl
        subst hkv0
        obtain ⟨o3, es3, ep3, ho3, hc3, hd3, hk3, hp3, hn3⟩ := id hd'
        simp only [hhash] at put ⊢
        refine wpAny_bind (wpAny_dictFind_of (s := { s with heap := h' }) hkey ho3 hd3 hk3 ?_)
        have hidx : (es3.findIdx? fun e => (SK prog w).is k' e.key) = none := by
          have e1 := hp3.findIdx k'
          rw [merged_nil_of_nodup _ (List.Sublist.nodup (List.Sublist.map _ (List.take_sublist _ _)) hno), take_fresh hno hkv] at e1
          obtain ⟨l⟩ := es3
          simpa using e1
        rw [hidx]
        refine put _ fun h'' hd'' hoo'' hs'' => ?_
        refine wpAny_bind (wpAny_dictEpoch (s := { s with heap := h'' }) hoo'' hdo' ?_)
        rw [if_neg (by simp)]
        exact wpAny_pure ⟨h'', x + 1, rfl, hrest, hlt, hd'', hoo'', hs''⟩
    · rintro b s' ⟨h', i, rfl, hr, hi, hd', hoo', hs'⟩
      have hin : i = eso.size := by
        rcases Nat.lt_or_ge i eso.size with h | h
        · have e : eso.size - i = (eso.size - (i + 1)) + 1 := by omega
          rw [e, List.range'_succ] at hr; exact nomatch hr
        · exact Nat.le_antisymm hi h
      refine wpAny_pure (hQ h' ?_ hs')
      rw [hin, ← hlen, List.take_length] at hd'; exact hd'
  split
  · refine wpAny_bind (wpAny_dictEntries hoo hdo' ?_)
    refine wpAny_bind (wpAny_of_eq (a := PUnit.unit) ?_ ?_)
    · rw [← Array.forIn_toList]
      refine forIn_yield_id _ fun e he c => ?_
      obtain ⟨k, hkey, _⟩ := hko e (Array.mem_toList_iff.mp he)
      obtain ⟨t, ht⟩ := Value.isStrOf_shape hkey
      rw [ht]
    · exact loop
  · exact loop
end
end Mine

namespace Mine
open PySem PySem.W PyProof.Rows PySem.Calls
set_option maxRecDepth 100000
set_option maxHeartbeats 4000000
theorem top_off_UKw : True := by
  w_top off
  exact trivial
section
variable {prog : Program} {w : World} {A : Around} {E : Value → Shared → Prop} {s : Shared}
theorem forIn_keys {F : DictEntry → List (Str × Value) → Sem (ForInStep (List (Str × Value)))} (hF : ∀ e kw k t, e.key = .str k t → F e kw = pure (.yield (kw ++ [(k, e.val)]))) :
    ∀ (l : List DictEntry) (more acc : List (Str × Value)), Pairs (SK prog w) l more → forIn l acc F = pure (acc ++ more)
  | [], _, acc, .nil => by rw [List.forIn_nil, List.append_nil]
  | e :: l, _, acc, .cons (kv := kv) (kvs := kvs) h1 h2 h3 => by
    obtain ⟨t, ht⟩ := Value.isStrOf_shape h1
    rw [List.forIn_cons, hF e acc kv.1 t ht, h2]
    show forIn l (acc ++ [kv]) F = _
    rw [forIn_keys hF l kvs (acc ++ [kv]) h3, List.append_assoc]; rfl
theorem keys_in {f : Value} {d : Addr} {more : List (Str × Value)} {Q : List (Str × Value) → Shared → Prop} (hd : s.heap.DictOf (SK prog w) d more) (h : Q more s) : wpAny (model prog w) A (keywordsIn f d) Q E s := by
  obtain ⟨o, es, ep, ho, hc, hdt, hk, hp, hn⟩ := id hd
  unfold keywordsIn
  refine wpAny_bind (wpAny_dictEntries ho hdt ?_)
  refine wpAny_bind (wpAny_of_eq (a := more) ?_ (wpAny_pure h))
  rw [← Array.forIn_toList]
  refine (forIn_keys (prog := prog) (w := w) (fun e kw k t ht => ?_) es.toList more [] hp).trans (by rw [List.nil_append])
  rw [ht]
theorem merged_kw {f : Value} {x : Sem Value} {Q : Addr → Shared → Prop}
    (h : ∀ E' : Value → Shared → Prop, wpAny (model prog w) A x (fun v s₁ => ∃ a more, v = .ref a ∧ (a == sysModules) = false ∧ a ≠ s.heap.objs.size ∧ (∀ b o, (s.heap.push { cls := .type "dict", data := .dict #[] }).get? b = some o → s₁.heap.get? b = some o) ∧ s₁.heap.DictOf (SK prog w) a more ∧ more.length ≤ 1000 ∧
      ∀ h', (∀ b o, b ≠ s.heap.objs.size → s₁.heap.get? b = some o → h'.get? b = some o) → h'.DictOf (SK prog w) s.heap.objs.size more → Q s.heap.objs.size { s₁ with heap := h' }) E' { s with heap := s.heap.push { cls := .type "dict", data := .dict #[] } }) :
    wpAny (model prog w) A (mergedKeywords f [(none, x)]) Q E s := by
  unfold mergedKeywords
  refine wpAny_bind (wpAny_alloc ?_)
  refine wpAny_bind (wpAny_holding ?_)
  dsimp only
  rw [List.forIn_cons]
  refine wpAny_bind (wpAny_bind ?_)
  dsimp only
  refine wpAny_bind ?_
  refine wpAny_ite_split (fun _ => wpAny_pure ?_) (fun hab => absurd rfl hab)
  refine wpAny_bind (wpAny_mono (h _) (fun v s₁ h₁ => ?_) fun _ _ e => e)
  obtain ⟨a, more, rfl, haS, hne, hk, hd, hl, hQ⟩ := h₁
  have hnew : s₁.heap.DictOf (SK prog w) s.heap.objs.size [] := (Heap.DictOf.new (knd := SK prog w) s.heap).keep hk
  refine wpAny_bind (wpAny_onRaise (wpAny_holding (wpAny_tryCatch (wpAny_onRaise (merge_map (Ne.symm hne) haS (fun _ => rfl) hnew hd (fun h' hd' hs => ?_) ?sz)))))
  case sz => rw [sizeLine_eq]; simp; omega
  refine wpAny_pure ?_
  dsimp only
  rw [List.forIn_nil]
  refine wpAny_pure ?_
  refine wpAny_ite_split (fun _ => ?_) (fun hab => absurd rfl hab)
  refine wpAny_pure (wpAny_pure (hQ h' (fun b o hb e => hs.extBut b o hb e) ?_))
  rwa [merged_nil_of_nodup more (let ⟨_, _, _, _, _, _, _, _, hn⟩ := hd; hn)] at hd'
end
/-- the arguments of a call that ends in **x -/
theorem args_kw0 {prog : Program} {w : World} {A : Around} {E : Value → Shared → Prop} {s : Shared} {f : Value} {x : Sem Value} {Q : Args → Shared → Prop}
    (h : wpAny (model prog w) A (spliced []) (fun vs s₁ => ∀ E' : Value → Shared → Prop, wpAny (model prog w) A x (fun v s₂ => ∃ a more, v = .ref a ∧ (a == sysModules) = false ∧ a ≠ s₁.heap.objs.size ∧ (∀ b o, (s₁.heap.push { cls := .type "dict", data := .dict #[] }).get? b = some o → s₂.heap.get? b = some o) ∧ s₂.heap.DictOf (SK prog w) a more ∧ more.length ≤ 1000 ∧
      ∀ h', (∀ b o, b ≠ s₁.heap.objs.size → s₂.heap.get? b = some o → h'.get? b = some o) → Q ⟨vs, more⟩ { s₂ with heap := h' }) E' { s₁ with heap := s₁.heap.push { cls := .type "dict", data := .dict #[] } }) E s) :
    wpAny (model prog w) A (evalArgs f true [] [(none, x)]) Q E s := by
  unfold evalArgs
  show wpAny _ A (spliced [] >>= _) Q E s
  refine wpAny_bind (wpAny_mono h (fun vs s₁ h₁ => ?_) fun _ _ e => e)
  refine wpAny_bind (wpAny_pure ?_)
  dsimp only
  refine wpAny_holding ?_
  rw [if_neg (by simp)]
  refine wpAny_bind (merged_kw fun E' => wpAny_mono (h₁ E') (fun v s₂ h₂ => ?_) fun _ _ e => e)
  obtain ⟨a, more, rfl, haS, hne, hk, hd, hl, hQ⟩ := h₂
  refine ⟨a, more, rfl, haS, hne, hk, hd, hl, fun h' hk' hd' => ?_⟩
  refine wpAny_bind (wpAny_pure ?_)
  refine wpAny_bind (wpAny_holding (keys_in (s := { s₂ with heap := h' }) hd' ?_))
  exact wpAny_pure (hQ h' hk')
/-- the arguments of a call that ends in **x -/
theorem args_kw1 {prog : Program} {w : World} {A : Around} {E : Value → Shared → Prop} {s : Shared} {f : Value} {x0 : Sem Value} {rest : List (Bool × Sem Value)} {x : Sem Value} {Q : Args → Shared → Prop}
    (h : wpAny (model prog w) A (spliced ((false, x0) :: rest)) (fun vs s₁ => ∀ E' : Value → Shared → Prop, wpAny (model prog w) A x (fun v s₂ => ∃ a more, v = .ref a ∧ (a == sysModules) = false ∧ a ≠ s₁.heap.objs.size ∧ (∀ b o, (s₁.heap.push { cls := .type "dict", data := .dict #[] }).get? b = some o → s₂.heap.get? b = some o) ∧ s₂.heap.DictOf (SK prog w) a more ∧ more.length ≤ 1000 ∧
      ∀ h', (∀ b o, b ≠ s₁.heap.objs.size → s₂.heap.get? b = some o → h'.get? b = some o) → Q ⟨vs, more⟩ { s₂ with heap := h' }) E' { s₁ with heap := s₁.heap.push { cls := .type "dict", data := .dict #[] } }) E s) :
    wpAny (model prog w) A (evalArgs f true ((false, x0) :: rest) [(none, x)]) Q E s := by
  unfold evalArgs
  show wpAny _ A (spliced ((false, x0) :: rest) >>= _) Q E s
  refine wpAny_bind (wpAny_mono h (fun vs s₁ h₁ => ?_) fun _ _ e => e)
  refine wpAny_bind (wpAny_pure ?_)
  dsimp only
  refine wpAny_holding ?_
  rw [if_neg (by simp)]
  refine wpAny_bind (merged_kw fun E' => wpAny_mono (h₁ E') (fun v s₂ h₂ => ?_) fun _ _ e => e)
  obtain ⟨a, more, rfl, haS, hne, hk, hd, hl, hQ⟩ := h₂
  refine ⟨a, more, rfl, haS, hne, hk, hd, hl, fun h' hk' hd' => ?_⟩
  refine wpAny_bind (wpAny_pure ?_)
  refine wpAny_bind (wpAny_holding (keys_in (s := { s₂ with heap := h' }) hd' ?_))
  exact wpAny_pure (hQ h' hk')
end Mine

namespace Mine
open PySem PySem.W PyProof.Rows PySem.Calls PyProof.V
set_option maxRecDepth 100000
set_option maxHeartbeats 4000000
theorem top_off_URul : True := by
  w_top off
  exact trivial
section
variable {prog : Program} {w : World} {A : Around} {E : Value → Shared → Prop} {s : Shared}
/-- the values of a drawn dict are ints -/
def IntVals (kvs : List (Str × Value)) : Prop := ∀ kv ∈ kvs, ∃ (p : Int) (t : Tok), kv.2 = .int p t
theorem flat_of : ∀ {kvs : List (Str × Value)}, IntVals kvs → ∃ D, FlatPairs PyData.str kvs D
  | [], _ => ⟨[], .nil⟩
  | kv :: r, h => by
    obtain ⟨p, t, e⟩ := h kv (.head _)
    obtain ⟨D, hD⟩ := flat_of (kvs := r) fun x hx => h x (.tail _ hx)
    obtain ⟨k, v⟩ := kv
    dsimp only at e
    subst e
    exact ⟨_, .cons (fun h => Reads.int p t) hD⟩
theorem tab_of {h : Heap} {d : Addr} {kvs : List (Str × Value)} (lo : (d == sysModules) = false) (hd : h.DictOf (SK prog w) d kvs) (hI : IntVals kvs) : ∃ D, TabAt (SK prog w) PyData.str h d D := by
  obtain ⟨D, hD⟩ := flat_of hI
  exact ⟨D, lo, kvs, hd, hD⟩
theorem gm_d {d : Addr} {kvs : List (Str × Value)} {name : Str} {id : String} {pl : Sem Bool} {Q : Value × List Value → Shared → Prop} (hid : dictMethodId name = some id) (lo : (d == sysModules) = false) (hd : s.heap.DictOf (SK prog w) d kvs) (hI : IntVals kvs) (h : Q (.builtin id, [.ref d]) s) :
    wpAny (model prog w) A (getMethod (.ref d) name pl) Q E s := by
  obtain ⟨D, T⟩ := tab_of lo hd hI
  exact getMethod_tab_any hid T h
theorem copy_d {d : Addr} {kvs : List (Str × Value)} {Q : Value → Shared → Prop} (lo : (d == sysModules) = false) (hd : s.heap.DictOf (SK prog w) d kvs) (hsz : kvs.length ≤ sizeLine)
    (h : ∀ h', h'.DictOf (SK prog w) s.heap.objs.size kvs → (∀ b o, s.heap.get? b = some o → h'.get? b = some o) → Q (.ref s.heap.objs.size) { s with heap := h' }) :
    wpAny (model prog w) A (call (.builtin "dict.copy") [.ref d] []) Q E s :=
  call_meetsIn PySem.F.slot_dict_copy hd.typeIs PySem.F.entry_dict_copy (PySem.F.args_dict_copy_1 _) (meets_dict_copy (SK prog w) d lo) ⟨kvs, hd, hsz, fun h' a _ k => h h' a k⟩
theorem upd_d {d o : Addr} {kvs more : List (Str × Value)} {Q : Value → Shared → Prop} (hdo : d ≠ o) (lo : (o == sysModules) = false) (hd : s.heap.DictOf (SK prog w) d kvs) (ho : s.heap.DictOf (SK prog w) o more) (hsz : kvs.length + more.length ≤ sizeLine)
    (h : ∀ h', h'.DictOf (SK prog w) d (merged kvs more) → Heap.SameBut d s.heap h' → Q .none { s with heap := h' }) :
    wpAny (model prog w) A (call (.builtin "dict.update") [.ref d, .ref o] []) Q E s :=
  call_meetsIn PySem.F.slot_dict_update hd.typeIs PySem.F.entry_dict_update (PySem.F.args_dict_update_2 _ _) (meets_dict_update (SK prog w) d o hdo lo) ⟨kvs, more, hd, ho, hsz, fun h' a _ k => h h' a k⟩
theorem args_upd_kw (a : Value) (kw : List (Str × Value)) : argsOk "dict.update" ⟨[a], kw⟩ := by
  unfold argsOk; rw [signature?_of (id := "dict.update") (n := ['e', 't', 'a', 'd', 'p', 'u']) (o := ['t', 'c', 'i', 'd']) (by kernel_rfl) PySem.F.owner_dict]; cases kw <;> kernel_rfl
theorem forIn_add {d : Addr} {Q : PUnit → Shared → Prop} {F : Str × Value → PUnit → Sem (ForInStep PUnit)} (hF : ∀ k v u, F (k, v) u = (mkStr k >>= fun kk => dictSet d kk v >>= fun _ => pure (.yield PUnit.unit))) (ex : List (Str × Value)) : (∀ kv ∈ ex, kv.1.length ≤ sizeLine) → ∀ (kvs : List (Str × Value)) (s : Shared), s.heap.DictOf (SK prog w) d kvs → kvs.length + ex.length ≤ sizeLine →
    (∀ h' tk, h'.DictOf (SK prog w) d (merged kvs ex) → Heap.SameBut d s.heap h' → Q PUnit.unit { s with heap := h', toks := tk }) →
    wpAny (model prog w) A (forIn ex PUnit.unit F) Q E s := by
  induction ex with
  | nil =>
    intro _ kvs s hd _ h
    rw [List.forIn_nil]
    exact wpAny_pure (h s.heap s.toks hd (Heap.SameBut.refl _ _))
  | cons kv r ih =>
    intro hw kvs s hd hsz h
    obtain ⟨k, v⟩ := kv
    rw [List.length_cons] at hsz
    rw [List.forIn_cons, hF]
    refine wpAny_bind (wpAny_bind ?_)
    unfold mkStr
    rw [if_neg (Nat.not_lt.mpr (hw (k, v) (.head _)))]
    refine wpAny_bind (wpAny_fresh (wpAny_pure (wpAny_bind ?_)))
    refine wpAny_dictSet_pairs (hsz := by omega) (strKind_is prog w k s.toks) hd fun h1 hd1 hs1 => ?_
    refine wpAny_pure ?_
    refine ih (fun x hx => hw x (.tail _ hx)) (stored kvs k v) { s with heap := h1, toks := s.toks + 1 + 1 } hd1 ?_ fun h' tk hd' hs' => h h' tk hd' (hs1.trans hs')
    have := stored_length_le kvs k v
    omega
theorem add_kw {d : Addr} {Q : Unit → Shared → Prop} {ex : List (Str × Value)} (hw : ∀ kv ∈ ex, kv.1.length ≤ sizeLine) {kvs : List (Str × Value)} {s : Shared} (hd : s.heap.DictOf (SK prog w) d kvs) (hsz : kvs.length + ex.length ≤ sizeLine)
    (h : ∀ h' tk, h'.DictOf (SK prog w) d (merged kvs ex) → Heap.SameBut d s.heap h' → Q () { s with heap := h', toks := tk }) :
    wpAny (model prog w) A (Builtin.Dict.addKeywords d ex) Q E s := by
  unfold Builtin.Dict.addKeywords
  exact wpAny_bind (forIn_add (fun k v u => rfl) ex hw kvs s hd hsz fun h' tk a b => wpAny_pure (h h' tk a b))
theorem upd_kw {d : Addr} {kvs ex : List (Str × Value)} {Q : Value → Shared → Prop} (hw : ∀ kv ∈ ex, kv.1.length ≤ sizeLine) (hd : s.heap.DictOf (SK prog w) d kvs) (hsz : kvs.length + ex.length ≤ sizeLine)
    (h : ∀ h' tk, h'.DictOf (SK prog w) d (merged kvs ex) → Heap.SameBut d s.heap h' → Q .none { s with heap := h', toks := tk }) :
    wpAny (model prog w) A (call (.builtin "dict.update") [.ref d] ex) Q E s := by
  refine wpAny_call_entry_kw PySem.F.slot_dict_update hd.typeIs PySem.F.entry_dict_update ?_ (args_upd_kw _ _)
  unfold Builtin.«dict.update»
  refine wpAny_bind ?_
  unfold Builtin.Dict.selfAndRest
  refine wpAny_bind (wpAny_notOrdered_dict hd.typeIs ?_)
  show wpAny _ _ (pure (d, ([] : List Value))) _ _ s
  refine wpAny_pure ?_
  show wpAny _ _ (Builtin.Dict.addKeywords d ex >>= _) _ _ s
  exact wpAny_bind (add_kw hw hd hsz fun h' tk a b => wpAny_pure ⟨_, rfl, h h' tk a b⟩)
/-- a built-in called with **x -/
theorem call_b_kw {id : String} {first : List Value} {pos : Pos} {x : Sem Value} {Q : Value → Shared → Prop}
    (h : wpAny (model prog w) A (evalArgs (.builtin id) true [] [(none, x)]) (fun a s₁ => wpAny (model prog w) A (call (.builtin id) (first ++ a.pos) a.kw) Q E s₁) E s) : wpAny (model prog w) A (callWith pos (.builtin id) first [] [(none, x)]) Q E s := by
  unfold callWith
  refine wpAny_bind (wpAny_holding (wpAny_mono h (fun a s₁ h₁ => wpAny_bind (wpAny_standAt ?_)) fun _ _ x => x))
  refine wpAny_bind (m := keeperOf (.builtin id)) (wpAny_pure ?_)
  dsimp only
  exact wpAny_bind (wpAny_mono (wpAny_operating h₁) (fun r s₂ hr => wpAny_bind (wpAny_holding (wpAny_point (wpAny_pure hr)))) fun _ _ x => x)
end
end Mine

namespace Mine
open PySem PySem.W PyProof.Rows PySem.Calls PyProof.V
set_option maxRecDepth 100000
set_option maxHeartbeats 8000000
theorem top_off_UOwn : True := by
  w_top off
  exact trivial
section
variable {prog : Program} {w : World} {A : Around} {s : Shared} {K : Frag} {G₀ : Heap} {mg mb : Str → Option Value} {p : Program} {loose : List Str} {mean : ExcName → Option Value}
  {R : Result → Shared → Prop} {name qual : Str} {params : Arguments} {body : List Stmt} {scope : Scope} {dV kV doc pm cdv ct oc : Value} {an od : Option Addr} {osl : Array (Option Value)} {f : Addr} {args : Args} {binds : Addr → List (Str × Value)} {ex : List (Str × Value)}
theorem ns_put {E : Value → Shared → Prop} {d : Addr} {es : List DictEntry} {n : Nat} {k : Str} {v : Value} {Q : Unit → Shared → Prop} (D : s.heap.get? d = some (dictOf es n)) (hs : ∀ e ∈ es, e.key.isStr k = false) (hr : ∀ e ∈ es, e.refKey = false)
    (h : ∀ h', Heap.SameBut d s.heap h' → h'.get? d = some (dictOf (es ++ [⟨PyData.keyHash w.params k, .str k s.toks, v⟩]) (n + 1)) → Q () { s with heap := h', toks := s.toks + 1 }) :
    wpAny (model prog w) A (nsSet d k v) Q E s := by
  have e1 : es.any (·.key.isStr k) = false := by
    cases q : es.any (·.key.isStr k) with
    | false => rfl
    | true => obtain ⟨e, he, z⟩ := List.any_eq_true.mp q; rw [hs e he] at z; cases z
  have e2 : es.any (·.refKey) = false := by
    cases q : es.any (·.refKey) with
    | false => rfl
    | true => obtain ⟨e, he, z⟩ := List.any_eq_true.mp q; rw [hr e he] at z; cases z
  have e : Obj.putName k (PyData.keyHash w.params k) (.str k s.toks) v (dictOf es n) = dictOf (es ++ [⟨PyData.keyHash w.params k, .str k s.toks, v⟩]) (n + 1) := by
    rw [putName_dict, putL_new hs]
    show dictOf _ (if es.any (·.key.isStr k) then n else n + 1) = _
    rw [e1, if_neg Bool.false_ne_true]
  have c : aRefKeyMayBeTheName k es.toArray = false := by
    rw [aRefKeyMayBeTheName_at, ← Array.any_toList, ← Array.any_toList]
    show (!es.any (·.key.isStr k) && es.any (·.refKey)) = false
    rw [e2, Bool.and_false]
  unfold nsSet
  refine wpAny_bind (wpAny_bind (wpAny_askSetting (wpAny_pure (wpAny_bind (wpAny_mkText (wpAny_bind (wpAny_loadPart D ?_)))))))
  dsimp only
  rw [c]
  refine wpAny_updatePart (s := { s with toks := s.toks + 1 }) D (h _ (Heap.SameBut.update ..) ?_)
  exact (Heap.get?_update_self (Obj.putName k (PyData.keyHash w.params k) (.str k s.toks) v) D (by rw [e]; rfl)).trans (congrArg some e)
theorem ns_fill {E : Value → Shared → Prop} {d : Addr} {Q : PUnit → Shared → Prop} {F : Str × Value → PUnit → Sem (ForInStep PUnit)} (hF : ∀ k v u, F (k, v) u = (nsSet d k v >>= fun _ => pure (.yield PUnit.unit))) :
    ∀ (ex : List (Str × Value)) (s : Shared) (es : List DictEntry) (n : Nat), s.heap.get? d = some (dictOf es n) → (∀ e ∈ es, ∀ x ∈ ex, e.key.isStr x.1 = false) → (∀ e ∈ es, e.refKey = false) → (ex.map (·.1)).Nodup →
    (∀ h' tk, Heap.SameBut d s.heap h' → h'.get? d = some (dictOf (es ++ kwEs w.params s.toks ex) (n + ex.length)) → Q PUnit.unit { s with heap := h', toks := tk }) →
    wpAny (model prog w) A (forIn ex PUnit.unit F) Q E s
  | [], s, es, n, D, _, _, _, h => by
    rw [List.forIn_nil]
    refine wpAny_pure (h s.heap s.toks (Heap.SameBut.refl _ _) ?_)
    show s.heap.get? d = some (dictOf (es ++ []) n)
    rw [List.append_nil]; exact D
  | x :: r, s, es, n, D, hs, hr, hn, h => by
    obtain ⟨hn1, hn2⟩ := List.nodup_cons.mp (show (x.1 :: r.map (·.1)).Nodup from hn)
    obtain ⟨k, v⟩ := x
    rw [List.forIn_cons, hF]
    refine wpAny_bind (wpAny_bind (ns_put D (fun e he => hs e he (k, v) (.head _)) hr fun h' hs' D' => wpAny_pure ?_))
    refine ns_fill hF r { s with heap := h', toks := s.toks + 1 } _ _ D' (fun e he y hy => ?_) (fun e he => ?_) hn2 fun h2 tk2 hs2 D2 => ?_
    · rcases List.mem_append.mp he with he | he
      · exact hs e he y (.tail _ hy)
      · obtain rfl := List.mem_singleton.mp he
        show (k == y.1) = false
        exact beq_eq_false_iff_ne.mpr fun q => hn1 (by show k ∈ _; rw [q]; exact List.mem_map_of_mem hy)
    · rcases List.mem_append.mp he with he | he
      · exact hr e he
      · obtain rfl := List.mem_singleton.mp he
        rfl
    · refine h h2 tk2 (hs'.trans hs2) ?_
      have t2 : n + 1 + r.length = n + (r.length + 1) := by omega
      rw [D2, t2, List.append_assoc]; rfl
/-- a def of the text that has a **kw is called -/
theorem own_callKw (X : K.In G₀) (T : Top p loose mean mg mb G₀) (hG : ∀ b o, G₀.get? b = some o → s.heap.get? b = some o)
    (ho : K.lookup f = some ⟨oc, od, .func (fnOf name qual params body scope dV kV doc pm an cdv ct), osl⟩) (hcd : codeIn K cdv qual = true) (hroom : A.depth < recursionLimit)
    (hbind : ∀ (E : Value → Shared → Prop) (Q : List (Str × Value) → Shared → Prop), (∀ D h' tk, (∀ b o, s.heap.get? b = some o → h'.get? b = some o) → s.heap.get? D = none → h'.DictOf (SK prog w) D ex → Q (binds D) { s with heap := h', toks := tk }) → wpAny (model prog w) A.in1 (bindArgs (fnOf name qual params body scope dV kV doc pm an cdv ct) args) Q E s)
    (hlo : ∀ D, s.heap.get? D = none → (D == sysModules) = false) (hloc : ∀ D, ∀ y ∈ binds D, scope.names.lookup y.1 = some .local)
    (h : ∀ D g L' h₁ tk, (D == sysModules) = false → g.DictOf (SK prog w) D ex → Fr g L' h₁ (fun y => (binds D).reverse.lookup y) → News g L' h₁ [] → K.In g → Top p loose mean mg mb g → (∀ b o, G₀.get? b = some o → g.get? b = some o) →
      (∀ b o, s.heap.get? b = some o → g.get? b = some o) →
      wpAny (model prog w) (A.deeper (envOf qual scope L' f cdv)) (execs body (envOf qual scope L' f cdv))
        (fun fl s' => R (.ok (.ret (match fl with | .ret v => v | _ => .none))) s')
        (fun e s' => wpAny (model prog w) (A.deeper (envOf qual scope L' f cdv)) (leaving (envOf qual scope L' f cdv) e) (fun _ s'' => R (.error e) s'') (fun e' s'' => R (.error e') s'') s')
        { s with heap := h₁, toks := tk })
    (hco : scope.isCoroutine = false) (hgen : scope.isGenerator = false) (hk : scope.kind = .function)
    (hcell : ∀ x ∈ scope.names, x.2 ≠ .cell) : codeAny (model prog w) A (.call (.ref f) args) R s := by
  refine codeAny_call_function (fd := fnX name qual params body scope [] dV kV doc pm an cdv ct) (body := body) hroom (hG _ _ (X _ _ ho)) rfl hco hgen rfl (codeRec_of (X.keeps hG) hcd) ?_
  refine hbind _ _ fun D h' tk hk0 hD0 hD => ?_
  have hG' : ∀ b o, G₀.get? b = some o → h'.get? b = some o := fun b o e => hk0 b o (hG b o e)
  refine wpAny_newFunctionEnv hcell (hloc D) (fun h₁ hns hsb => ?_) hk
  have hk1 : ∀ b o, h'.get? b = some o → h₁.get? b = some o := fun b o e => hsb.extBut b o (Nat.ne_of_lt (Heap.lt_size e)) (Heap.get?_push_of_some _ e)
  refine ⟨((T.nolimit.keeps hG').keeps hk1), codeAny_func ?_⟩
  exact h D h' h'.objs.size h₁ _ (hlo D hD0) hD ⟨hns, hk1, Nat.le_refl _⟩ (fun _ hp => nomatch hp) (X.keeps hG') (T.keeps hG') hG' hk0
end
end Mine

namespace Mine
open PySem PySem.W PyProof.Rows PySem.Calls PySem.W.X
set_option maxRecDepth 100000
set_option maxHeartbeats 8000000
theorem top_off_UGa : True := by
  w_top off
  exact trivial
local macro_rules | `(tactic| x_close) => `(tactic| (refine' NewQ.use ?ka ?kb; (case ka => assumption); (case kb => assumption)))
abbrev bmObj (x : Addr) : Obj := ⟨.type "builtin_function_or_method", none, .fields #[.builtin "dict.update", .ref x], #[]⟩
theorem dga {w : World} {A : Around} {s : Shared} {x : Addr} {es : Array DictEntry} {ep : Nat} {tk : Tok} {Q E : Value → Shared → Prop} (X : (Mine.hd.heap_39 w.params).In s.heap) (hg : s.gens = #[]) (hx : s.heap.get? x = some ⟨.type "dict", none, .dict es ep, #[]⟩) (h : NewQ s (bmObj x) Q) :
    wpAny (model PR w) A (call (.builtin "dict.__getattribute__") [.ref x, .str (Str.ofString "update") tk]) Q E s := by
  x_run
theorem bind_dga (self : Value) : bindSpecial (.builtin "dict.__getattribute__") self = pure (.builtin "dict.__getattribute__", [self]) :=
  (Slot.of (T := "dict") (name := "__getattribute__") (owner := "dict") (n := "__getattribute__") (by rw [typeLookup_type, builtinLookup_eq_fast]; kernel_rfl) (by decide +kernel) (by decide +kernel) (by decide +kernel)
    (.inl (by decide +kernel)) (by rw [isSubtype_type]; kernel_rfl)).bind self
theorem tl_dga : typeLookup (.type "dict") "__getattribute__" = pure (some (.builtin "dict.__getattribute__")) := by rw [typeLookup_type, builtinLookup_eq_fast]; kernel_rfl
theorem tl_dgt : typeLookup (.type "dict") "__getattr__" = pure none := by rw [typeLookup_type, builtinLookup_eq_fast]; kernel_rfl
theorem ga_upd {w : World} {A : Around} {s : Shared} {x : Addr} {es : Array DictEntry} {ep : Nat} {Q E : Value → Shared → Prop} (X : (Mine.hd.heap_39 w.params).In s.heap) (hg : s.gens = #[]) (hx : s.heap.get? x = some ⟨.type "dict", none, .dict es ep, #[]⟩)
    (h : ∀ b h' tk, (∀ b o, s.heap.get? b = some o → h'.get? b = some o) → h'.get? b = some (bmObj x) → s.heap.get? b = none → Q (.ref b) { s with heap := h', toks := tk }) :
    wpAny (model PR w) A (getAttr (.ref x) "update" true) Q E s := by
  obtain ⟨hh, g, d, t, os⟩ := s
  dsimp only at hg X hx h
  subst hg
  have hT : (Shared.mk hh #[] d (t + 1) os).TypeIs (.ref x) "dict" := ⟨_, hx, rfl⟩
  unfold getAttr getAttrBy
  refine wpAny_bind (wpAny_mkText (wpAny_holding (wpAny_bind (wpAny_typeOf hT (wpAny_bind (wpAny_of_eq tl_dga ?_))))))
  show wpAny _ _ (getAttrByItsOwn _ _ _ _ _ _) _ _ _
  unfold getAttrByItsOwn hookBefore
  refine wpAny_bind (wpAny_of_eq tl_dgt (wpAny_bind (wpAny_attempt (wpAny_holding ?_))))
  have e : callGetattribute (.ref x) (.str "update" t) (.builtin "dict.__getattribute__") true = call (.builtin "dict.__getattribute__") [.ref x, .str "update" t] := by
    unfold callGetattribute boundAndCalled
    rw [bind_dga]
    rfl
  rw [e]
  refine dga (s := ⟨hh, #[], d, t + 1, os⟩) X rfl hx fun b h' tk k hb hb0 => ?_
  show wpAny _ _ (handedOut (.ref b)) _ _ _
  rw [handedOut_of (by rfl)]
  exact wpAny_pure (h b h' tk k hb hb0)
theorem chk_upd {w : World} {A : Around} {s : Shared} {x : Addr} {ex : List (Str × Value)} {Q : Unit → Shared → Prop} {E : Value → Shared → Prop} (hT : s.TypeIs (.ref x) "dict") (hda : ∀ o, s.heap.get? x = some o → ∃ es ep, o.data = .dict es ep) (h : Q () s) :
    wpAny (model PR w) A (checkBoundCall "dict.update" ⟨[.ref x], ex⟩) Q E s := by
  have sig : Manifest.signature? "dict.update" = List.lookup (String.ofList ['e', 't', 'a', 'd', 'p', 'u'].reverse) Manifest.sig_dict := signature?_of (id := "dict.update") (n := ['e', 't', 'a', 'd', 'p', 'u']) (o := ['t', 'c', 'i', 'd']) (by kernel_rfl) PySem.F.owner_dict
  have lk : List.lookup (String.ofList ['e', 't', 'a', 'd', 'p', 'u'].reverse) Manifest.sig_dict = some ⟨.positional, "dict.update", "update", .self, [⟨"other", .posOnly, false⟩, ⟨"kwargs", .varKw, false⟩]⟩ := by kernel_rfl
  unfold checkBoundCall
  rw [sig, lk, show builtinKind "dict.update" = some .method by decide +kernel]
  dsimp only
  rw [if_neg (by decide)]
  refine wpAny_bind (wpAny_isInstance (b := false) hT (by rw [isSubtype_type]; kernel_rfl) ?_)
  rw [show Manifest.varargsMethods.contains "dict.update" = false by decide +kernel]
  rw [if_neg (by decide)]
  obtain ⟨o, ho, hc⟩ := id hT
  unfold isType
  refine wpAny_bind (wpAny_bind (wpAny_loadPart ho ?_))
  obtain ⟨es, ep, hdt⟩ := hda o ho
  rw [hdt]
  refine wpAny_pure ?_
  rw [if_neg Bool.false_ne_true]
  refine wpAny_bind (wpAny_typeOf hT (wpAny_bind (wpAny_pure ?_)))
  refine wpAny_of_eq (a := ()) ?_ h
  cases ex <;> kernel_rfl
/-- d.update(**kw) by the method as it was got -/
theorem upd_bound {w : World} {A : Around} {s : Shared} {bm d : Addr} {kvs ex : List (Str × Value)} {Q E : Value → Shared → Prop} (hbm : s.heap.get? bm = some (bmObj d)) (hw : ∀ kv ∈ ex, kv.1.length ≤ sizeLine) (hd : s.heap.DictOf (SK PR w) d kvs) (hsz : kvs.length + ex.length ≤ sizeLine)
    (h : ∀ h' tk, h'.DictOf (SK PR w) d (merged kvs ex) → Heap.SameBut d s.heap h' → Q .none { s with heap := h', toks := tk }) :
    wpAny (model PR w) A (call (.ref bm) [] ex) Q E s := by
  refine wpAny_call (codeAny_of_tree ?_)
  show wpAny _ A.in1 (callAny (.ref bm) ⟨[], ex⟩) _ _ s
  simp only [callAny]
  refine wpAny_bind (wpAny_load hbm ?_)
  simp only [show (Value.type "builtin_function_or_method" == Value.type "method" || Value.type "builtin_function_or_method" == Value.type "builtin_function_or_method" || Value.type "builtin_function_or_method" == Value.type "method-wrapper") = true by decide, if_true]
  refine wpAny_ite_split (fun _ => ?_) (fun hab => absurd (by decide) hab)
  refine wpAny_bind (chk_upd hd.typeIs (fun o ho => ?_) ?_)
  · obtain ⟨o', es, ep, ho', _, hda, _⟩ := hd
    rw [ho'] at ho; cases ho
    exact ⟨es, ep, hda⟩
  refine wpAny_bind (wpAny_pure (wpAny_pure ?_))
  refine ⟨plainId_quiet PySem.F.slot_dict_update.plain _, codeAny_builtin PySem.F.entry_dict_update ?_⟩
  rw [Around.under_plainId PySem.F.slot_dict_update.plain _]
  unfold Builtin.«dict.update»
  refine wpAny_bind ?_
  unfold Builtin.Dict.selfAndRest
  refine wpAny_bind (wpAny_notOrdered_dict hd.typeIs ?_)
  show wpAny _ _ (pure (d, ([] : List Value))) _ _ s
  refine wpAny_pure ?_
  show wpAny _ _ (Builtin.Dict.addKeywords d ex >>= _) _ _ s
  exact wpAny_bind (add_kw hw hd hsz fun h' tk a b => wpAny_pure (h h' tk a b))
/-- such a method called with **x -/
theorem bound_kw {w : World} {A : Around} {s : Shared} {bm d : Addr} {first : List Value} {pos : Pos} {x : Sem Value} {Q E : Value → Shared → Prop} {hp : Heap} (_hb : hp.get? bm = some (bmObj d))
    (h : wpAny (model PR w) A (evalArgs (.ref bm) true [] [(none, x)]) (fun a s₁ => s₁.heap.get? bm = some (bmObj d) ∧ wpAny (model PR w) A (call (.ref bm) (first ++ a.pos) a.kw) Q E s₁) E s) : wpAny (model PR w) A (callWith pos (.ref bm) first [] [(none, x)]) Q E s := by
  unfold callWith
  refine wpAny_bind (wpAny_holding (wpAny_mono h (fun a s₁ h₁ => wpAny_bind (wpAny_standAt ?_)) fun _ _ x => x))
  refine wpAny_bind (m := keeperOf (.ref bm)) ?_
  unfold keeperOf
  refine wpAny_bind (wpAny_load h₁.1 ?_)
  dsimp only
  refine wpAny_ite_split (fun _ => ?_) (fun hab => absurd (by decide) hab)
  refine wpAny_pure ?_
  rw [if_pos (by decide)]
  exact wpAny_bind (wpAny_mono (wpAny_operating h₁.2) (fun r s₂ hr => wpAny_bind (wpAny_holding (wpAny_point (wpAny_pure hr)))) fun _ _ x => x)
theorem methodCall_star {M : Model} {A : Around} {E : Value → Shared → Prop} {s : Shared} {env : Env} {o e : PySem.Expr} {name : Str} {apos pos kp : Pos} {Q : Value → Shared → Prop}
    (h : wpAny M A (eval o env) (fun ov s₁ => wpAny M A (getAttr ov name true) (fun f s₂ => wpAny M A (callWith pos f [] [] [(none, do let v ← eval e env; standAt pos; pure v)]) Q E s₂) E s₁) E s)
    (he : eval (.Call (.Attribute o name apos) [] [⟨none, e, kp⟩] pos) env = (do
      let ov ← eval o env
      standAt apos.atName
      let (f, first) ← holding [ov] (do pure (← getAttr ov name true, []))
      callWith pos f first [] [(none, do let v ← eval e env; standAt pos; pure v)]) := by rfl) :
    wpAny M A (eval (.Call (.Attribute o name apos) [] [⟨none, e, kp⟩] pos) env) Q E s := by
  rw [he]
  refine wpAny_bind (wpAny_mono h (fun ov s₁ h₁ => wpAny_bind (wpAny_standAt (wpAny_bind (wpAny_holding (wpAny_bind (wpAny_mono h₁ (fun fx s₂ h₂ => wpAny_pure ?_) fun _ _ x => x)))))) fun _ _ x => x)
  exact h₂
end Mine

namespace Mine
open PySem PySem.W PyProof.Rows PySem.Calls
set_option maxRecDepth 100000
set_option maxHeartbeats 8000000
theorem top_off_UCall : True := by
  w_top off
  exact trivial
local macro_rules | `(tactic| walk_at "getMethod ref") => `(tactic| (k_here; refine stop_here ?_))
local macro_rules | `(tactic| walk_at "callWith") => `(tactic| (k_here; (with_reducible show wpAny _ _ (callWith _ (Value.builtin _) _ (backTo _ (starEach [] _)) (backToKw _ (keywordEach [_] _))) _ _ _); refine stop_here ?_))
local macro_rules | `(tactic| walk_at "call builtin:dict.copy") => `(tactic| (k_here; refine stop_here ?_))
local macro_rules | `(tactic| walk_at "call builtin:dict.update") => `(tactic| (k_here; refine stop_here ?_))
local macro_rules | `(tactic| walk_at "getAttr ref") => `(tactic| (k_here; refine stop_here ?_))
local macro_rules | `(tactic| walk_at "getAttr") => `(tactic| (k_here; refine stop_here ?_))
local macro_rules | `(tactic| walk_at "truthy ref") => `(tactic| (k_here; refine stop_here ?_))
local macro_rules | `(tactic| walk_at "call ref") => `(tactic| (k_here; refine stop_here ?_))
theorem forIn_extra {α : Type} {F : Str × Value → List (Str × Value) × List (Str × Value) → Sem (ForInStep (List (Str × Value) × List (Str × Value)))} {sl : List (Str × Value)} {ok : Str → Prop} (hF : ∀ kv ext, ok kv.1 → F kv (sl, ext) = pure (.yield (sl, ext ++ [kv]))) :
    ∀ (ex ext : List (Str × Value)), (∀ kv ∈ ex, ok kv.1) → forIn ex (sl, ext) F = pure (sl, ext ++ ex)
  | [], ext, _ => by rw [List.forIn_nil, List.append_nil]
  | kv :: r, ext, h => by
    rw [List.forIn_cons, hF kv ext (h kv (.head _))]
    show forIn r (sl, ext ++ [kv]) F = _
    rw [forIn_extra (α := α) hF r (ext ++ [kv]) fun x hx => h x (.tail _ hx), List.append_assoc]; rfl
theorem IntVals.stored {kvs : List (Str × Value)} (h : IntVals kvs) {k : Str} {v : Value} (hv : ∃ (p : Int) (t : Tok), v = .int p t) : IntVals (stored kvs k v) := by
  unfold PySem.stored
  split
  · intro kv hkv
    obtain ⟨x, hx, rfl⟩ := List.mem_map.mp hkv
    split
    · exact hv
    · exact h x hx
  · intro kv hkv
    rcases List.mem_append.mp hkv with hkv | hkv
    · exact h kv hkv
    · cases List.mem_singleton.mp hkv; exact hv
theorem IntVals.merged {more : List (Str × Value)} : ∀ {kvs : List (Str × Value)}, IntVals kvs → IntVals more → IntVals (merged kvs more) := by
  induction more with
  | nil => intro kvs h _; exact h
  | cons kv r ih => intro kvs h hm; exact ih (h.stored (hm kv (.head _))) fun x hx => hm x (.tail _ hx)
section
variable {g h h' : Heap} {L x : Addr} {m : Str → Option Value} {prog : Program} {w : World}
theorem dictF_new {kvs : List (Str × Value)} (F : Fr g L h m) (hd : h'.DictOf (SK prog w) x kvs) (hx : h.get? x = none) (k : ∀ b o, h.get? b = some o → h'.get? b = some o) :
    ∃ o, Fr g L h' m ∧ News g L h' [(x, o)] ∧ o.IsDictOf (SK prog w) kvs := by
  obtain ⟨o, ho, hk⟩ := Heap.dictOf_iff.mp hd
  refine ⟨o, F.keeps k, fun p hp => ?_, hk⟩
  cases List.mem_singleton.mp hp
  refine ⟨ho, fun q => ?_, ?_⟩
  · obtain ⟨oL, _, _, eL, _⟩ := F.ns
    have q' : x = L := q
    rw [q'] at hx; exact absurd (hx.symm.trans eL) (by intro h; cases h)
  · cases q : g.get? x with
    | none => rfl
    | some o => exact absurd (hx.symm.trans (F.keep _ _ q)) (by intro h; cases h)
theorem dictF_upd {kvs : List (Str × Value)} {o : Obj} (F : Fr g L h m) (N : News g L h [(x, o)]) (hd : h'.DictOf (SK prog w) x kvs) (k : Heap.SameBut x h h') :
    ∃ o, Fr g L h' m ∧ News g L h' [(x, o)] ∧ o.IsDictOf (SK prog w) kvs := by
  have z := N _ (.head _)
  obtain ⟨o, ho, hk⟩ := Heap.dictOf_iff.mp hd
  refine ⟨o, F.change k z.2.1 z.2.2, fun p hp => ?_, hk⟩
  cases List.mem_singleton.mp hp
  exact ⟨ho, z.2⟩
theorem dictF_at {kvs : List (Str × Value)} {o : Obj} (N : News g L h [(x, o)]) (hk : o.IsDictOf (SK prog w) kvs) : h.DictOf (SK prog w) x kvs := Heap.dictOf_iff.mpr ⟨o, (N _ (.head _)).1, hk⟩
end
theorem dict_form {o : Obj} {es : Array DictEntry} {ep : Nat} (h : o.ExactDict) (hd : o.data = .dict es ep) : o = ⟨.type "dict", none, .dict es ep, #[]⟩ := by
  obtain ⟨a, b, c, d⟩ := o
  obtain ⟨h1, h2, h3⟩ := h
  dsimp only at h1 h2 h3 hd
  subst h1 h2 h3 hd
  rfl
theorem lo_n {w : World} {g h : Heap} {L x : Addr} {o : Obj} (X : (Mine.hd.heap_39 w.params).In g) (N : News g L h [(x, o)]) : (x == sysModules) = false := lo_of X (N _ (.head _)).2.2
theorem upc_n {w : World} {mg mb : Str → Option Value} {mean : ExcName → Option Value} {G₀ : Heap} (X : (Mine.hd.heap_39 w.params).In G₀) (T : Top Mine.hd.view_39 LO mean mg mb G₀)
    {s : Shared} {d1 d2 : Addr} {nv : Value} {ex kvs1 kvs2 : List (Str × Value)} (hgens : s.gens = #[]) (hG : ∀ b o, G₀.get? b = some o → s.heap.get? b = some o) {R : Result → Shared → Prop} {pos : List Value} (hex : ∀ kv ∈ ex, kv.1 ≠ Str.ofString "d" ∧ kv.1 ≠ Str.ofString "_new") (hw : ∀ kv ∈ ex, kv.1.length ≤ sizeLine)
    (hnd : (ex.map (·.1)).Nodup) (hxl : ex.length ≤ 1000) (hpos : pos = [.ref d1, nv] ∨ (pos = [.ref d1] ∧ nv = .none)) (hnv : nv = .none) (lo1 : (d1 == sysModules) = false) (hd1 : s.heap.DictOf (SK PR w) d1 kvs1) (hI1 : IntVals kvs1) (hl1 : kvs1.length ≤ 1000) 
    (hR : ∀ h' tk x, (∀ b o, s.heap.get? b = some o → h'.get? b = some o) → s.heap.get? x = none → h'.DictOf (SK PR w) x (merged (kvs1) ex) → R (.ok (.ret (.ref x))) { s with heap := h', toks := tk }) :
    codeAny (model PR w) (ar 880 4800) (.call (.ref 258) ⟨pos, ex⟩) R s := by
  subst hnv
  refine' own_callKw (ex := ex) (binds := fun D => [(Str.ofString "d", .ref d1), (Str.ofString "_new", .none), (Str.ofString "kw", .ref D)]) X T hG ?ho ?hcd ?hroom ?hbind ?hlo ?hloc ?_ ?c2 ?c3 ?c4 ?c5
  case ho => k_is
  case hcd => k_is
  case hroom => decide
  case hlo => intro D hD; exact lo_of (X.keeps hG) hD
  case hbind =>
    intro E Q hQ
    unfold bindArgs
    rcases hpos with rfl | ⟨rfl, hq⟩
    · dsimp only
      refine wpAny_bind (wpAny_of_eq (forIn_extra (α := Nat) (ok := fun k => k ≠ Str.ofString "d" ∧ k ≠ Str.ofString "_new") (fun kv ext hk => ?hF) ex [] hex) ?_)
      case hF =>
        obtain ⟨k, v⟩ := kv
        dsimp only at hk ⊢
        rw [if_neg (by simp [hk.1, hk.2])]
        rfl
      dsimp only
      refine wpAny_bind (wpAny_seqItems (X.keeps hG 251 _ (by k_is)) rfl ?_)
      refine wpAny_ite_split (fun hab => absurd (show false = true from hab) Bool.false_ne_true) (fun _ => ?_)
      refine wpAny_ite_split (fun hab => absurd (show false = true from hab) Bool.false_ne_true) (fun _ => ?_)
      refine wpAny_bind (wpAny_of_eq (a := [(Str.ofString "d", Value.ref d1), (Str.ofString "_new", Value.none)]) rfl ?_)
      refine wpAny_bind (wpAny_of_eq (a := ([(Str.ofString "d", Value.ref d1), (Str.ofString "_new", Value.none)], ([] : List Str))) rfl ?_)
      refine wpAny_ite_split (fun hab => absurd (show false = true from hab) Bool.false_ne_true) (fun _ => ?_)
      refine wpAny_ite_split (fun hab => absurd (show ex.length > sizeLine + 1 from hab) (by rw [sizeLine_eq]; omega)) (fun _ => ?_)
      refine wpAny_bind (wpAny_alloc ?_)
      refine wpAny_bind (ns_fill (fun k v u => rfl) ([] ++ ex) _ [] 0 (Heap.get?_push_size _ rfl) (fun e he => nomatch he) (fun e he => nomatch he) hnd fun h' tk' hs' D' => ?_)
      refine wpAny_pure (hQ s.heap.objs.size h' tk' (fun b o e => hs'.extBut b o (Nat.ne_of_lt (Heap.lt_size e)) (Heap.get?_push_of_some _ e)) ?_ (Heap.dictOf_iff.mpr ⟨_, D', kp_isDict _ _ hnd⟩))
      exact Heap.get?_none_of_le (Nat.le_refl _)
    · dsimp only
      refine wpAny_bind (wpAny_of_eq (forIn_extra (α := Nat) (ok := fun k => k ≠ Str.ofString "d" ∧ k ≠ Str.ofString "_new") (fun kv ext hk => ?hF) ex [] hex) ?_)
      case hF =>
        obtain ⟨k, v⟩ := kv
        dsimp only at hk ⊢
        rw [if_neg (by simp [hk.1, hk.2])]
        rfl
      dsimp only
      refine wpAny_bind (wpAny_seqItems (X.keeps hG 251 _ (by k_is)) rfl ?_)
      refine wpAny_ite_split (fun hab => absurd (show false = true from hab) Bool.false_ne_true) (fun _ => ?_)
      refine wpAny_ite_split (fun hab => absurd (show false = true from hab) Bool.false_ne_true) (fun _ => ?_)
      refine wpAny_bind (wpAny_of_eq (a := [(Str.ofString "d", Value.ref d1), (Str.ofString "_new", Value.none)]) rfl ?_)
      refine wpAny_bind (wpAny_of_eq (a := ([(Str.ofString "d", Value.ref d1), (Str.ofString "_new", Value.none)], ([] : List Str))) rfl ?_)
      refine wpAny_ite_split (fun hab => absurd (show false = true from hab) Bool.false_ne_true) (fun _ => ?_)
      refine wpAny_ite_split (fun hab => absurd (show ex.length > sizeLine + 1 from hab) (by rw [sizeLine_eq]; omega)) (fun _ => ?_)
      refine wpAny_bind (wpAny_alloc ?_)
      refine wpAny_bind (ns_fill (fun k v u => rfl) ([] ++ ex) _ [] 0 (Heap.get?_push_size _ rfl) (fun e he => nomatch he) (fun e he => nomatch he) hnd fun h' tk' hs' D' => ?_)
      refine wpAny_pure (hQ s.heap.objs.size h' tk' (fun b o e => hs'.extBut b o (Nat.ne_of_lt (Heap.lt_size e)) (Heap.get?_push_of_some _ e)) ?_ (Heap.dictOf_iff.mpr ⟨_, D', kp_isDict _ _ hnd⟩))
      exact Heap.get?_none_of_le (Nat.le_refl _)
  case hloc => intro D; exact locs rfl
  case c5 => decide
  case c2 => exact rfl
  case c3 => exact rfl
  case c4 => exact rfl
  intro D g L h₁ tk₁ lo hD F N Xg Tg hGg hk
  have hd1g : g.DictOf (SK PR w) d1 kvs1 := hd1.keep hk
  skip
  have hR' : ∀ h' tk x L' m' o, Fr g L' h' m' → News g L' h' [(x, o)] → o.IsDictOf (SK PR w) (merged (kvs1) ex) → R (.ok (.ret (.ref x))) { s with heap := h', toks := tk } := fun h' tk x L' m' o F' N' ho => by
    have z := N' _ (.head _)
    refine hR h' tk x (fun b o e => F'.keep b o (hk b o e)) ?_ (dictF_at N' ho)
    cases q : s.heap.get? x with
    | none => rfl
    | some o' => exact absurd (z.2.2.symm.trans (hk _ _ q)) (by intro h; cases h)
  clear hk hGg hG X T hR hd1 hpos
  (try dsimp only)
  (try k_fold)
  k_steps
  refine stop_out ?_
  with_reducible rename (Fr g L _ _) => F1
  refine gm_d (id := "dict.copy") rfl lo1 (hd1g.keep F1.keep) hI1 ?_
  k_steps
  refine stop_out ?_
  with_reducible rename (Fr g L _ _) => F2
  refine copy_d lo1 (hd1g.keep F2.keep) (by rw [sizeLine_eq]; omega) fun h3 hx3 k3 => ?_
  obtain ⟨o3, F3, N3, ho3⟩ := dictF_new F2 hx3 (Heap.get?_none_of_le (Nat.le_refl _)) k3
  clear F2 hx3 k3
  k_steps
  refine methodCall_star ?_
  k_steps
  refine stop_out ?_
  with_reducible rename (Fr g L _ _) => F7
  with_reducible rename (News g L _ _) => N7
  obtain ⟨es7, ep7, hex7, hda7, rest7⟩ := id ho3
  refine' ga_upd (es := es7) (ep := ep7) (Xg.keeps F7.keep) ?hg ?hx ?_
  case hg => exact hgens
  case hx => exact (N7 _ (.head _)).1.trans (congrArg some (dict_form hex7 hda7))
  clear hex7 hda7 rest7
  intro bm h8 tk8 k8 hbm hbm0
  have F8 := F7.keeps k8
  have N8 := N7.grown k8
  clear F7 N7 k8 hbm0
  refine bound_kw hbm (args_kw0 ?_)
  refine Calls.spliced_nil ?_
  intro E'
  have F9 := F8.push ({ cls := .type "dict", data := .dict #[] } : Obj)
  have lt9 : ∀ b o, h8.get? b = some o → b ≠ h8.objs.size := fun b o e => Nat.ne_of_lt (Heap.lt_size e)
  refine wpAny_bind ?_
  k_steps
  refine wpAny_bind (wpAny_standAt (wpAny_pure ⟨D, ex, rfl, lo, lt9 _ _ (F8.keep _ _ (hD.choose_spec).choose_spec.choose_spec.1), fun _ _ e => e, hD.keep F9.keep, hxl, fun h' k' => ⟨k' _ _ (Nat.ne_of_lt (Heap.lt_size hbm)) (Heap.get?_push_of_some _ hbm), ?_⟩⟩))
  have F10 := F8.keeps fun b o e => k' b o (Nat.ne_of_lt (Heap.lt_size e)) (Heap.get?_push_of_some _ e)
  have N10 := N8.grown fun b o e => k' b o (Nat.ne_of_lt (Heap.lt_size e)) (Heap.get?_push_of_some _ e)
  clear F9 lt9
  refine' upd_bound (k' _ _ (Nat.ne_of_lt (Heap.lt_size hbm)) (Heap.get?_push_of_some _ hbm)) hw ?hd ?sz ?_
  case hd => exact dictF_at N10 ho3
  case sz => (try dsimp only); rw [sizeLine_eq]; omega
  intro h' tk hd' hs'
  obtain ⟨o11, F11, N11, ho11⟩ := dictF_upd F10 N10 hd' hs'
  clear F8 N8 F10 N10 hd' hs'
  k_steps
  exact hR' _ _ _ _ _ _ (by assumption) (by assumption) ho11
theorem upc_d {w : World} {mg mb : Str → Option Value} {mean : ExcName → Option Value} {G₀ : Heap} (X : (Mine.hd.heap_39 w.params).In G₀) (T : Top Mine.hd.view_39 LO mean mg mb G₀)
    {s : Shared} {d1 d2 : Addr} {nv : Value} {ex kvs1 kvs2 : List (Str × Value)} (hgens : s.gens = #[]) (hG : ∀ b o, G₀.get? b = some o → s.heap.get? b = some o) {R : Result → Shared → Prop} {pos : List Value} (hex : ∀ kv ∈ ex, kv.1 ≠ Str.ofString "d" ∧ kv.1 ≠ Str.ofString "_new") (hw : ∀ kv ∈ ex, kv.1.length ≤ sizeLine)
    (hnd : (ex.map (·.1)).Nodup) (hxl : ex.length ≤ 1000) (hpos : pos = [.ref d1, nv] ∨ (pos = [.ref d1] ∧ nv = .none)) (hnv : nv = .ref d2) (lo1 : (d1 == sysModules) = false) (hd1 : s.heap.DictOf (SK PR w) d1 kvs1) (hI1 : IntVals kvs1) (hl1 : kvs1.length ≤ 1000) (lo2 : (d2 == sysModules) = false) (hd2 : s.heap.DictOf (SK PR w) d2 kvs2) (hI2 : IntVals kvs2) (hl2 : kvs2.length ≤ 1000)
    (hR : ∀ h' tk x, (∀ b o, s.heap.get? b = some o → h'.get? b = some o) → s.heap.get? x = none → h'.DictOf (SK PR w) x (merged (merged kvs1 kvs2) ex) → R (.ok (.ret (.ref x))) { s with heap := h', toks := tk }) :
    codeAny (model PR w) (ar 880 4800) (.call (.ref 258) ⟨pos, ex⟩) R s := by
  subst hnv
  refine' own_callKw (ex := ex) (binds := fun D => [(Str.ofString "d", .ref d1), (Str.ofString "_new", .ref d2), (Str.ofString "kw", .ref D)]) X T hG ?ho ?hcd ?hroom ?hbind ?hlo ?hloc ?_ ?c2 ?c3 ?c4 ?c5
  case ho => k_is
  case hcd => k_is
  case hroom => decide
  case hlo => intro D hD; exact lo_of (X.keeps hG) hD
  case hbind =>
    intro E Q hQ
    unfold bindArgs
    rcases hpos with rfl | ⟨rfl, hq⟩
    · dsimp only
      refine wpAny_bind (wpAny_of_eq (forIn_extra (α := Nat) (ok := fun k => k ≠ Str.ofString "d" ∧ k ≠ Str.ofString "_new") (fun kv ext hk => ?hF) ex [] hex) ?_)
      case hF =>
        obtain ⟨k, v⟩ := kv
        dsimp only at hk ⊢
        rw [if_neg (by simp [hk.1, hk.2])]
        rfl
      dsimp only
      refine wpAny_bind (wpAny_seqItems (X.keeps hG 251 _ (by k_is)) rfl ?_)
      refine wpAny_ite_split (fun hab => absurd (show false = true from hab) Bool.false_ne_true) (fun _ => ?_)
      refine wpAny_ite_split (fun hab => absurd (show false = true from hab) Bool.false_ne_true) (fun _ => ?_)
      refine wpAny_bind (wpAny_of_eq (a := [(Str.ofString "d", Value.ref d1), (Str.ofString "_new", Value.ref d2)]) rfl ?_)
      refine wpAny_bind (wpAny_of_eq (a := ([(Str.ofString "d", Value.ref d1), (Str.ofString "_new", Value.ref d2)], ([] : List Str))) rfl ?_)
      refine wpAny_ite_split (fun hab => absurd (show false = true from hab) Bool.false_ne_true) (fun _ => ?_)
      refine wpAny_ite_split (fun hab => absurd (show ex.length > sizeLine + 1 from hab) (by rw [sizeLine_eq]; omega)) (fun _ => ?_)
      refine wpAny_bind (wpAny_alloc ?_)
      refine wpAny_bind (ns_fill (fun k v u => rfl) ([] ++ ex) _ [] 0 (Heap.get?_push_size _ rfl) (fun e he => nomatch he) (fun e he => nomatch he) hnd fun h' tk' hs' D' => ?_)
      refine wpAny_pure (hQ s.heap.objs.size h' tk' (fun b o e => hs'.extBut b o (Nat.ne_of_lt (Heap.lt_size e)) (Heap.get?_push_of_some _ e)) ?_ (Heap.dictOf_iff.mpr ⟨_, D', kp_isDict _ _ hnd⟩))
      exact Heap.get?_none_of_le (Nat.le_refl _)
    · exact absurd hq (by intro h; cases h)
  case hloc => intro D; exact locs rfl
  case c5 => decide
  case c2 => exact rfl
  case c3 => exact rfl
  case c4 => exact rfl
  intro D g L h₁ tk₁ lo hD F N Xg Tg hGg hk
  have hd1g : g.DictOf (SK PR w) d1 kvs1 := hd1.keep hk
  have hd2g : g.DictOf (SK PR w) d2 kvs2 := hd2.keep hk
  have hR' : ∀ h' tk x L' m' o, Fr g L' h' m' → News g L' h' [(x, o)] → o.IsDictOf (SK PR w) (merged (merged kvs1 kvs2) ex) → R (.ok (.ret (.ref x))) { s with heap := h', toks := tk } := fun h' tk x L' m' o F' N' ho => by
    have z := N' _ (.head _)
    refine hR h' tk x (fun b o e => F'.keep b o (hk b o e)) ?_ (dictF_at N' ho)
    cases q : s.heap.get? x with
    | none => rfl
    | some o' => exact absurd (z.2.2.symm.trans (hk _ _ q)) (by intro h; cases h)
  clear hk hGg hG X T hR hd1 hpos hd2
  (try dsimp only)
  (try k_fold)
  k_steps
  refine stop_out ?_
  with_reducible rename (Fr g L _ _) => F1
  refine gm_d (id := "dict.copy") rfl lo1 (hd1g.keep F1.keep) hI1 ?_
  k_steps
  refine stop_out ?_
  with_reducible rename (Fr g L _ _) => F2
  refine copy_d lo1 (hd1g.keep F2.keep) (by rw [sizeLine_eq]; omega) fun h3 hx3 k3 => ?_
  obtain ⟨o3, F3, N3, ho3⟩ := dictF_new F2 hx3 (Heap.get?_none_of_le (Nat.le_refl _)) k3
  clear F2 hx3 k3
  k_steps
  refine stop_out ?_
  with_reducible rename (Fr g L _ _) => F4
  with_reducible rename (News g L _ _) => N4
  refine wpAny_truthy_dict lo2 (hd2g.keep F4.keep) (by omega) ?_
  by_cases hk2 : kvs2 = []
  · subst hk2
    simp only [List.isEmpty_nil, Bool.not_true, Bool.false_eq_true, if_false]
    k_steps
    refine methodCall_star ?_
    k_steps
    refine stop_out ?_
    with_reducible rename (Fr g L _ _) => F7
    with_reducible rename (News g L _ _) => N7
    obtain ⟨es7, ep7, hex7, hda7, rest7⟩ := id ho3
    refine' ga_upd (es := es7) (ep := ep7) (Xg.keeps F7.keep) ?hg ?hx ?_
    case hg => exact hgens
    case hx => exact (N7 _ (.head _)).1.trans (congrArg some (dict_form hex7 hda7))
    clear hex7 hda7 rest7
    intro bm h8 tk8 k8 hbm hbm0
    have F8 := F7.keeps k8
    have N8 := N7.grown k8
    clear F7 N7 k8 hbm0
    refine bound_kw hbm (args_kw0 ?_)
    refine Calls.spliced_nil ?_
    intro E'
    have F9 := F8.push ({ cls := .type "dict", data := .dict #[] } : Obj)
    have lt9 : ∀ b o, h8.get? b = some o → b ≠ h8.objs.size := fun b o e => Nat.ne_of_lt (Heap.lt_size e)
    refine wpAny_bind ?_
    k_steps
    refine wpAny_bind (wpAny_standAt (wpAny_pure ⟨D, ex, rfl, lo, lt9 _ _ (F8.keep _ _ (hD.choose_spec).choose_spec.choose_spec.1), fun _ _ e => e, hD.keep F9.keep, hxl, fun h' k' => ⟨k' _ _ (Nat.ne_of_lt (Heap.lt_size hbm)) (Heap.get?_push_of_some _ hbm), ?_⟩⟩))
    have F10 := F8.keeps fun b o e => k' b o (Nat.ne_of_lt (Heap.lt_size e)) (Heap.get?_push_of_some _ e)
    have N10 := N8.grown fun b o e => k' b o (Nat.ne_of_lt (Heap.lt_size e)) (Heap.get?_push_of_some _ e)
    clear F9 lt9
    refine' upd_bound (k' _ _ (Nat.ne_of_lt (Heap.lt_size hbm)) (Heap.get?_push_of_some _ hbm)) hw ?hd ?sz ?_
    case hd => exact dictF_at N10 ho3
    case sz => (try dsimp only); rw [sizeLine_eq]; omega
    intro h' tk hd' hs'
    obtain ⟨o11, F11, N11, ho11⟩ := dictF_upd F10 N10 hd' hs'
    clear F8 N8 F10 N10 hd' hs'
    k_steps
    exact hR' _ _ _ _ _ _ (by assumption) (by assumption) ho11
  · rw [show (!kvs2.isEmpty) = true from by cases kvs2 with | nil => exact absurd rfl hk2 | cons _ _ => rfl, if_pos rfl]
    k_steps
    refine stop_out ?_
    with_reducible rename (Fr g L _ _) => F5
    with_reducible rename (News g L _ _) => N5
    refine' gm_d (id := "dict.update") ?hid ?lo ?hd hI1 ?_
    case hid => exact rfl
    case lo => exact lo_n Xg N5
    case hd => exact dictF_at N5 ho3
    k_steps
    refine stop_out ?_
    with_reducible rename (Fr g L _ _) => F6
    with_reducible rename (News g L _ _) => N6
    refine upd_d (fun q => ?ne) lo2 (dictF_at N6 ho3) (hd2g.keep F6.keep) (by rw [sizeLine_eq]; omega) fun h7 hx7 k7 => ?_
    case ne =>
      obtain ⟨o, es, ep, ho, _⟩ := hd2g
      have z := (N6 _ (.head _)).2.2
      dsimp only at z
      rw [q, ho] at z
      cases z
    obtain ⟨o7, F7, N7, ho7⟩ := dictF_upd F6 N6 hx7 k7
    clear F6 N6 hx7 k7
    k_steps
    refine methodCall_star ?_
    k_steps
    refine stop_out ?_
    with_reducible rename (Fr g L _ _) => F7
    with_reducible rename (News g L _ _) => N7
    obtain ⟨es7, ep7, hex7, hda7, rest7⟩ := id ho7
    refine' ga_upd (es := es7) (ep := ep7) (Xg.keeps F7.keep) ?hg ?hx ?_
    case hg => exact hgens
    case hx => exact (N7 _ (.head _)).1.trans (congrArg some (dict_form hex7 hda7))
    clear hex7 hda7 rest7
    intro bm h8 tk8 k8 hbm hbm0
    have F8 := F7.keeps k8
    have N8 := N7.grown k8
    clear F7 N7 k8 hbm0
    refine bound_kw hbm (args_kw0 ?_)
    refine Calls.spliced_nil ?_
    intro E'
    have F9 := F8.push ({ cls := .type "dict", data := .dict #[] } : Obj)
    have lt9 : ∀ b o, h8.get? b = some o → b ≠ h8.objs.size := fun b o e => Nat.ne_of_lt (Heap.lt_size e)
    refine wpAny_bind ?_
    k_steps
    refine wpAny_bind (wpAny_standAt (wpAny_pure ⟨D, ex, rfl, lo, lt9 _ _ (F8.keep _ _ (hD.choose_spec).choose_spec.choose_spec.1), fun _ _ e => e, hD.keep F9.keep, hxl, fun h' k' => ⟨k' _ _ (Nat.ne_of_lt (Heap.lt_size hbm)) (Heap.get?_push_of_some _ hbm), ?_⟩⟩))
    have F10 := F8.keeps fun b o e => k' b o (Nat.ne_of_lt (Heap.lt_size e)) (Heap.get?_push_of_some _ e)
    have N10 := N8.grown fun b o e => k' b o (Nat.ne_of_lt (Heap.lt_size e)) (Heap.get?_push_of_some _ e)
    clear F9 lt9
    refine' upd_bound (k' _ _ (Nat.ne_of_lt (Heap.lt_size hbm)) (Heap.get?_push_of_some _ hbm)) hw ?hd ?sz ?_
    case hd => exact dictF_at N10 ho7
    case sz => (try dsimp only); rw [sizeLine_eq]; (have := merged_length_le kvs1 kvs2); omega
    intro h' tk hd' hs'
    obtain ⟨o11, F11, N11, ho11⟩ := dictF_upd F10 N10 hd' hs'
    clear F8 N8 F10 N10 hd' hs'
    k_steps
    exact hR' _ _ _ _ _ _ (by assumption) (by assumption) ho11
end Mine

namespace Mine
open PySem PySem.W PyProof.Rows PySem.Calls PyProof.V
set_option maxRecDepth 100000
set_option maxHeartbeats 4000000
theorem top_off_ULaw : True := by
  w_top off
  exact trivial
abbrev hitK (kvs : List (Str × Value)) (k : Str) (i : Nat) : Bool := decide ((kvs[i]?).map (·.1) = some k)
theorem stored_new {kvs : List (Str × Value)} {k : Str} {v : Value} (h : ∀ kv ∈ kvs, kv.1 ≠ k) : stored kvs k v = kvs ++ [(k, v)] := by
  unfold stored
  rw [if_neg]
  rw [List.any_eq_true]
  rintro ⟨kv, hkv, e⟩
  exact h kv hkv (of_decide_eq_true e)
theorem stored_at {k : Str} {v v0 : Value} : ∀ {kvs : List (Str × Value)} {i : Nat}, (kvs.map (·.1)).Nodup → kvs[i]? = some (k, v0) → stored kvs k v = kvs.take i ++ [(k, v)] ++ kvs.drop (i + 1)
  | [], i, _, h => by simp at h
  | kv :: r, i, hn, h => by
    rw [List.map_cons, List.nodup_cons] at hn
    have hany : ((kv :: r).any fun x => decide (x.1 = k)) = true := by
      rw [List.any_eq_true]
      exact ⟨(k, v0), List.mem_of_getElem? h, by simp⟩
    unfold stored
    rw [if_pos hany, List.map_cons]
    cases i with
    | zero =>
      simp only [List.getElem?_cons_zero, Option.some.injEq] at h
      subst h
      rw [if_pos rfl, map_store_of_not_mem r k v hn.1]
      rfl
    | succ i =>
      simp only [List.getElem?_cons_succ] at h
      have hm : k ∈ r.map (·.1) := List.mem_map.mpr ⟨(k, v0), List.mem_of_getElem? h, rfl⟩
      have hne : ¬ kv.1 = k := fun e => hn.1 (e ▸ hm)
      have ih := stored_at (v := v) hn.2 h
      unfold stored at ih
      rw [if_pos (by rw [List.any_eq_true]; exact ⟨(k, v0), List.mem_of_getElem? h, by simp⟩)] at ih
      rw [if_neg hne, ih]
      rfl
theorem nodup_stored {kvs : List (Str × Value)} {k : Str} {v : Value} (hn : (kvs.map (·.1)).Nodup) : ((stored kvs k v).map (·.1)).Nodup := by
  unfold stored
  split
  · rw [keys_map_store]; exact hn
  · rename_i h
    rw [List.map_append, List.nodup_append]
    refine ⟨hn, by simp, ?_⟩
    intro a ha b hb e
    simp only [List.map_cons, List.map_nil, List.mem_singleton] at hb
    subst hb
    obtain ⟨kv, hkv, rfl⟩ := List.mem_map.mp ha
    exact h (List.any_eq_true.mpr ⟨kv, hkv, by simpa using e⟩)
theorem mem_idx {q : Nat → Bool} {n : Nat} {p : Int} : p ∈ idx q n ↔ ∃ i : Nat, i < n ∧ q i = true ∧ p = (i : Int) := by
  unfold idx
  rw [List.mem_map]
  constructor
  · rintro ⟨i, hi, rfl⟩
    rw [List.mem_filter, List.mem_range] at hi
    exact ⟨i, hi.1, hi.2, rfl⟩
  · rintro ⟨i, h1, h2, rfl⟩
    exact ⟨i, List.mem_filter.mpr ⟨List.mem_range.mpr h1, h2⟩, rfl⟩
theorem idx_none {kvs : List (Str × Value)} {k : Str} (h : idx (hitK kvs k) kvs.length = []) : ∀ kv ∈ kvs, kv.1 ≠ k := by
  intro kv hkv e
  obtain ⟨i, hi⟩ := List.mem_iff_getElem?.mp hkv
  have hlt : i < kvs.length := by
    by_cases c : i < kvs.length
    · exact c
    · rw [List.getElem?_eq_none (by omega)] at hi; cases hi
  have : ((i : Nat) : Int) ∈ idx (hitK kvs k) kvs.length := mem_idx.mpr ⟨i, hlt, by unfold hitK; rw [hi]; simp [e], rfl⟩
  rw [h] at this; cases this
theorem idx_first {kvs : List (Str × Value)} {k : Str} {p : Int} (h : p ∈ idx (hitK kvs k) kvs.length) : ∃ (i : Nat) (v0 : Value), p = (i : Int) ∧ kvs[i]? = some (k, v0) ∧ i < kvs.length := by
  obtain ⟨i, hi, hq, rfl⟩ := mem_idx.mp h
  refine ⟨i, (kvs[i]).2, rfl, ?_, hi⟩
  unfold hitK at hq
  rw [List.getElem?_eq_getElem hi] at hq ⊢
  have : (kvs[i]).1 = k := by simpa using hq
  rw [← this]
theorem merged_append {a b c : List (Str × Value)} : merged a (b ++ c) = merged (merged a b) c := by
  unfold merged; rw [List.foldl_append]
theorem law_due {kvs1 kvs2 kvs3 : List (Str × Value)} (hn : (kvs1.map (·.1)).Nodup) : merged [] (kvs1 ++ kvs2 ++ kvs3) = merged (merged kvs1 kvs2) kvs3 := by
  rw [merged_append, merged_append, merged_nil_of_nodup _ hn]

abbrev pairObj (k v : Value) : Obj := { cls := .type "tuple", data := .seq #[k, v] }
/-- the tuples of a ledger that tell the rows -/
inductive PairsIn (tl : List (Addr × Obj)) : List Addr → List (Str × Value) → Prop
  | nil : PairsIn tl [] []
  | cons {a : Addr} {k : Str} {t : Tok} {v : Value} {as : List Addr} {kvs : List (Str × Value)} : (a, pairObj (.str k t) v) ∈ tl → PairsIn tl as kvs → PairsIn tl (a :: as) ((k, v) :: kvs)
theorem PairsIn.length {tl : List (Addr × Obj)} {as : List Addr} {kvs : List (Str × Value)} (h : PairsIn tl as kvs) : as.length = kvs.length := by
  induction h with
  | nil => rfl
  | cons _ _ ih => simp [ih]
theorem PairsIn.more {tl tl' : List (Addr × Obj)} {as : List Addr} {kvs : List (Str × Value)} (h : PairsIn tl as kvs) (k : ∀ p ∈ tl, p ∈ tl') : PairsIn tl' as kvs := by
  induction h with
  | nil => exact .nil
  | cons m _ ih => exact .cons (k _ m) ih
theorem PairsIn.append {tl : List (Addr × Obj)} {as bs : List Addr} {xs ys : List (Str × Value)} (h : PairsIn tl as xs) (h' : PairsIn tl bs ys) : PairsIn tl (as ++ bs) (xs ++ ys) := by
  induction h with
  | nil => exact h'
  | cons m _ ih => exact .cons m ih
theorem PairsIn.take {tl : List (Addr × Obj)} {as : List Addr} {kvs : List (Str × Value)} (h : PairsIn tl as kvs) : ∀ i, PairsIn tl (as.take i) (kvs.take i) := by
  induction h with
  | nil => intro i; simp; exact .nil
  | cons m _ ih =>
    intro i
    cases i with
    | zero => exact .nil
    | succ i => exact .cons m (ih i)
theorem PairsIn.drop {tl : List (Addr × Obj)} {as : List Addr} {kvs : List (Str × Value)} (h : PairsIn tl as kvs) : ∀ i, PairsIn tl (as.drop i) (kvs.drop i) := by
  induction h with
  | nil => intro i; simp; exact .nil
  | cons m h' ih =>
    intro i
    cases i with
    | zero => exact .cons m h'
    | succ i => exact ih i
theorem PairsIn.get {tl : List (Addr × Obj)} {as : List Addr} {kvs : List (Str × Value)} (h : PairsIn tl as kvs) : ∀ (i : Nat) (a : Addr), as[i]? = some a → ∃ k t v, kvs[i]? = some (k, v) ∧ (a, pairObj (.str k t) v) ∈ tl := by
  induction h with
  | nil => intro i a e; simp at e
  | cons m _ ih =>
    intro i a e
    cases i with
    | zero => simp at e; subst e; exact ⟨_, _, _, rfl, m⟩
    | succ i => simpa using ih i a (by simpa using e)
end Mine

namespace Mine
open PySem PySem.W PyProof.Rows PySem.Calls PyProof.V
set_option maxRecDepth 100000
set_option maxHeartbeats 4000000
theorem top_off_UPair : True := by
  w_top off
  exact trivial
section
variable {prog : Program} {w : World} {A : Around} {E : Value → Shared → Prop} {s : Shared} {g : Heap} {L : Addr} {m : Str → Option Value} {news : List (Addr × Obj)} {Q : Value → Shared → Prop}
theorem pairs_of {h : Heap} {lo : Addr} : ∀ (as : List Addr) (kvs : List (Str × Value)), as.length = kvs.length →
    (∀ (j : Nat) (a : Addr), as[j]? = some a → ∃ key k x, kvs[j]? = some (k, x) ∧ (SK prog w).is k key = true ∧ h.get? a = some (pairObj key x)) → (∀ a ∈ as, lo < a) →
    ∃ tl : List (Addr × Obj), (∀ p ∈ tl, h.get? p.1 = some p.2 ∧ lo < p.1) ∧ PairsIn tl as kvs
  | [], [], _, _, _ => ⟨[], (fun _ hp => nomatch hp), .nil⟩
  | [], _ :: _, hl, _, _ => by simp at hl
  | _ :: _, [], hl, _, _ => by simp at hl
  | a :: as, (k, v) :: kvs, hl, hj, ha => by
    obtain ⟨tl, h1, h2⟩ := pairs_of as kvs (by simpa using hl) (fun j b e => by simpa using hj (j + 1) b (by simpa using e)) fun b hb => ha b (.tail _ hb)
    obtain ⟨key, k', x, e, hk, ho⟩ := hj 0 a rfl
    simp only [List.getElem?_cons_zero, Option.some.injEq, Prod.mk.injEq] at e
    obtain ⟨rfl, rfl⟩ := e
    obtain ⟨t, rfl⟩ := Value.isStrOf_shape hk
    refine ⟨(a, pairObj (.str k t) v) :: tl, fun p hp => ?_, .cons (.head _) (h2.more fun p hp => .tail _ hp)⟩
    rcases List.mem_cons.mp hp with rfl | hp
    · exact ⟨ho, ha a (.head _)⟩
    · exact h1 p hp
theorem fresh_of {h : Heap} {a : Addr} (F : Fr g L h m) (ha : h.objs.size ≤ a) : a ≠ L ∧ g.get? a = none := by
  refine ⟨fun q => ?_, ?_⟩
  · exact absurd F.ns.lt (Nat.not_lt.mpr (q ▸ ha))
  · cases e : g.get? a with
    | none => rfl
    | some o => exact absurd (Heap.lt_size (F.keep _ _ e)) (Nat.not_lt.mpr ha)
/-- list(d.items()) -/
theorem items_r {v d : Addr} {od : Obj} {kvs : List (Str × Value)} (hh : A.handled = none) (F : Fr g L s.heap m) (N : News g L s.heap news) (hvw : (v, { cls := .type "dict_items", data := .fields #[.ref d] }) ∈ news) (hmd : (d, od) ∈ news) (hod : od.IsDictOf (SK prog w) kvs) (hn : kvs.length ≤ 100)
    (h : ∀ S as tl c h' tk, Fr g L h' m → News g L h' ((S, listOf (refs as).toArray c) :: (news ++ tl)) → PairsIn tl as kvs → (∀ p ∈ news, p.1 < S) → Q (.ref S) { s with heap := h', toks := tk }) :
    wpAny (model prog w) A (call (.type "list") [.ref v]) Q E s := by
  obtain ⟨ep, hK⟩ := KdkAt.of hod
  refine kdx_call (knd := SK prog w) (kvs := kvs) (ep := ep) hh ⟨_, (N _ hvw).1, rfl, rfl⟩ (hK.dictAt (N _ hmd).1) (by rw [sizeLine_eq]; omega) fun h' tk acc c as k hS hl hG hacc => ?_
  obtain ⟨tl, ht, hP⟩ := pairs_of (prog := prog) (w := w) as kvs hl hG.pairs hG.above
  have ea : acc = (refs as).toArray := by
    have := congrArg List.toArray hacc
    simpa using this
  subst ea
  refine h s.heap.objs.size as tl c h' tk (F.keeps k) (fun p hp => ?_) hP fun p hp => Heap.lt_size (N p hp).1
  rcases List.mem_cons.mp hp with rfl | hp
  · exact ⟨hS, fresh_of F (Nat.le_refl _)⟩
  · rcases List.mem_append.mp hp with hp | hp
    · exact ⟨k _ _ (N p hp).1, (N p hp).2⟩
    · exact ⟨(ht p hp).1, fresh_of F (Nat.le_of_lt (ht p hp).2)⟩
theorem add_r {a b : Addr} {as bs : List Addr} {c c' : Nat} (F : Fr g L s.heap m) (N : News g L s.heap news) (ha : (a, listOf (refs as).toArray c) ∈ news) (hb : (b, listOf (refs bs).toArray c') ∈ news) (hz : as.length + bs.length ≤ 1000)
    (h : ∀ x h', Fr g L h' m → News g L h' ((x, listOf (refs (as ++ bs)).toArray 0) :: news) → (∀ p ∈ news, p.1 < x) → Q (.ref x) { s with heap := h' }) :
    wpAny (model prog w) A (binaryOp .Add (.ref a) (.ref b)) Q E s := by
  refine P.add_list (N _ ha).1 (N _ hb).1 ?_ (by rw [sizeLine_eq]; simp; omega)
  have e : (refs as).toArray ++ (refs bs).toArray = (refs (as ++ bs)).toArray := by simp
  rw [e]
  exact h _ _ (F.push _) (News.push F N _ rfl) fun p hp => Heap.lt_size (N p hp).1
theorem add_one_r {a b T : Addr} {as : List Addr} {c c' : Nat} (F : Fr g L s.heap m) (N : News g L s.heap news) (ha : (a, listOf (refs as).toArray c) ∈ news) (hb : (b, listOf #[.ref T] c') ∈ news) (hz : as.length ≤ 900)
    (h : ∀ x h', Fr g L h' m → News g L h' ((x, listOf (refs (as ++ [T])).toArray 0) :: news) → (∀ p ∈ news, p.1 < x) → Q (.ref x) { s with heap := h' }) :
    wpAny (model prog w) A (binaryOp .Add (.ref a) (.ref b)) Q E s := add_r (bs := [T]) F N ha hb (by simp; omega) h
theorem slice_to {value slice : PySem.Expr} {l : Addr} {as : List Addr} {c : Nat} {i : Nat} {t : Tok} (F : Fr g L s.heap m) (N : News g L s.heap news) (hl : (l, listOf (refs as).toArray c) ∈ news) (hz : as.length ≤ 1000)
    (h : ∀ D h', Fr g L h' m → News g L h' ((D, listOf (refs (as.take i)).toArray 0) :: news) → (∀ p ∈ news, p.1 < D) → Q (.ref D) { s with heap := h' })
    (hs : subscripted slice false (.ref l) (.ref s.heap.objs.size) = operate [.ref s.heap.objs.size, .ref l] (getItem (.ref l) (.ref s.heap.objs.size))) (ht : ∀ r, letTemporaryGo value (.ref l) r = pure ()) :
    wpAny (model prog w) A (subscriptTail value slice (.ref l) (.ref s.heap.objs.size)) Q E { s with heap := s.heap.push { cls := .type "slice", data := .fields #[.none, .int (i : Int) t, .none] } } := by
  refine kmk_slice F N ⟨_, (N _ hl).1, rfl, _, rfl⟩ .none (.int _ _) (fun D h' F' N' l1 => h D h' F' ?_ l1) hs ht (by rw [sizeLine_eq]; simp; omega)
  rw [slicePick_upto'] at N'
  simpa using N'
theorem slice_fr {value slice : PySem.Expr} {l : Addr} {as : List Addr} {c : Nat} {i : Nat} {t : Tok} (F : Fr g L s.heap m) (N : News g L s.heap news) (hl : (l, listOf (refs as).toArray c) ∈ news) (hz : as.length ≤ 1000)
    (h : ∀ D h', Fr g L h' m → News g L h' ((D, listOf (refs (as.drop (i + 1))).toArray 0) :: news) → (∀ p ∈ news, p.1 < D) → Q (.ref D) { s with heap := h' })
    (hs : subscripted slice false (.ref l) (.ref s.heap.objs.size) = operate [.ref s.heap.objs.size, .ref l] (getItem (.ref l) (.ref s.heap.objs.size))) (ht : ∀ r, letTemporaryGo value (.ref l) r = pure ()) :
    wpAny (model prog w) A (subscriptTail value slice (.ref l) (.ref s.heap.objs.size)) Q E { s with heap := s.heap.push { cls := .type "slice", data := .fields #[.int ((i : Int) + 1) t, .none, .none] } } := by
  refine kmk_slice F N ⟨_, (N _ hl).1, rfl, _, rfl⟩ (.int _ _) .none (fun D h' F' N' l1 => h D h' F' ?_ l1) hs ht (by rw [sizeLine_eq]; simp; omega)
  rw [show ((i : Int) + 1) = ((i + 1 : Nat) : Int) by omega, slicePick_from'] at N'
  simpa using N'
/-- two lists of rows that tell the same are equal -/
theorem ne_pairs {a b : Addr} {as bs : List Addr} {c c' : Nat} {kvs : List (Str × Value)} (N : News g L s.heap news) (ha : (a, listOf (refs as).toArray c) ∈ news) (hb : (b, listOf (refs bs).toArray c') ∈ news) (hA : PairsIn news as kvs) (hB : PairsIn news bs kvs) (hI : IntVals kvs) (hu : A.units + 10 < cLine)
    (h : Q (.bool false) s) : wpAny (model prog w) A (compareOp .NotEq (.ref a) (.ref b)) Q E s := by
  have hl : as.length = bs.length := hA.length.trans hB.length.symm
  refine SeqAt.RcNeAt.lists (e := fun _ => true) ⟨_, (N _ ha).1, rfl, _, rfl⟩ ⟨_, (N _ hb).1, rfl, _, rfl⟩ (by simpa using hl) (by omega) (fun j h1 h2 => ?_) prog w E Q ?_
  · have h1' : j < as.length := by simpa using h1
    have h2' : j < bs.length := by simpa using h2
    obtain ⟨k, t, v, e, m1⟩ := hA.get j as[j] (List.getElem?_eq_getElem h1')
    obtain ⟨k', t', v', e', m2⟩ := hB.get j bs[j] (List.getElem?_eq_getElem h2')
    rw [e] at e'
    simp only [Option.some.injEq, Prod.mk.injEq] at e'
    obtain ⟨rfl, rfl⟩ := e'
    have key : SeqAt.EqAt A.in1 s (.ref as[j]) (.ref bs[j]) true := by
      by_cases q : as[j] = bs[j]
      · rw [q]; exact SeqAt.EqAt.same _
      · refine SeqAt.EqAt.of_refs q ?_
        have := SeqAt.RcAt.tuples (A := A.in1) (e := fun _ => true) (items := #[.str k t, v]) (items2 := #[.str k t', v]) ⟨_, (N _ m1).1, rfl, _, rfl⟩ ⟨_, (N _ m2).1, rfl, _, rfl⟩ (by show A.units + 1 < cLine; omega) (fun i i1 i2 => ?_)
        · exact this
        · have hi : i = 0 ∨ i = 1 := by
            have : i < 2 := i1
            omega
          rcases hi with rfl | rfl
          · exact (EqV.str k t t').at
          · exact SeqAt.EqAt.same _
    simpa using key
  · rw [show (List.range (refs as).toArray.size).all (fun _ => true) = true from by simp]; exact h
/-- dict(d) -/
theorem dcopy_r {d : Addr} {od : Obj} {kvs : List (Str × Value)} (F : Fr g L s.heap m) (N : News g L s.heap news) (hm : (d, od) ∈ news) (hod : od.IsDictOf (SK prog w) kvs) (lo : (d == sysModules) = false) (hn : kvs.length ≤ 100)
    (h : ∀ x o h', Fr g L h' m → News g L h' ((x, o) :: news) → o.IsDictOf (SK prog w) kvs → (∀ p ∈ news, p.1 < x) → Q (.ref x) { s with heap := h' }) :
    wpAny (model prog w) A (call (.type "dict") [.ref d]) Q E s := by
  refine kt_call_dict (knd := SK prog w) lo (kda_dict N hm hod) (by rw [sizeLine_eq]; omega) fun h' hd hs => ?_
  obtain ⟨o, ho, hk⟩ := Heap.dictOf_iff.mp hd
  have k : ∀ b o, s.heap.get? b = some o → h'.get? b = some o := fun b o e => hs.extBut b o (Nat.ne_of_lt (Heap.lt_size e)) (Heap.get?_push_of_some _ e)
  refine h _ o h' (F.keeps k) (fun p hp => ?_) hk fun p hp => Heap.lt_size (N p hp).1
  rcases List.mem_cons.mp hp with rfl | hp
  · exact ⟨ho, fresh_of F (Nat.le_refl _)⟩
  · exact (N.grown k) p hp
theorem gm_n {d : Addr} {od : Obj} {kvs : List (Str × Value)} {name : Str} {id : String} {pl : Sem Bool} {Q : Value × List Value → Shared → Prop} (N : News g L s.heap news) (hm : (d, od) ∈ news) (hod : od.IsDictOf (SK prog w) kvs) (lo : (d == sysModules) = false) (hI : IntVals kvs) (hid : dictMethodId name = some id) (h : Q (.builtin id, [.ref d]) s) :
    wpAny (model prog w) A (getMethod (.ref d) name pl) Q E s := gm_d hid lo (kda_dict N hm hod) hI h
end
end Mine

namespace Mine
open PySem PySem.W PyProof.Rows PySem.Calls PyProof.V
set_option maxRecDepth 100000
set_option maxHeartbeats 4000000
theorem top_off_ULoop : True := by
  w_top off
  exact trivial
abbrev um (m0 : Str → Option Value) (due : Value) (vv fv : Option Value) : Str → Option Value := fun y => if y = Str.ofString "due" then some due else if y = Str.ofString "value" then vv else if y = Str.ofString "found" then fv else m0 y
theorem news_consx {g h : Heap} {L a : Addr} {o : Obj} {r : List (Addr × Obj)} (z : h.get? a = some o ∧ a ≠ L ∧ g.get? a = none) (N : News g L h r) : News g L h ((a, o) :: r) := fun p hp => by
  rcases List.mem_cons.mp hp with rfl | hp
  · exact z
  · exact N p hp
theorem news_nilx {g h : Heap} {L : Addr} : News g L h [] := fun _ hp => nomatch hp
theorem um_self {m : Str → Option Value} {d : Value} (h1 : m (Str.ofString "due") = some d) (h2 : m (Str.ofString "value") = none) (h3 : m (Str.ofString "found") = none) (y : Str) : um m d none none y = m y := by
  unfold um
  by_cases e : y = Str.ofString "due"
  · rw [if_pos e, e, h1]
  · rw [if_neg e]
    by_cases e1 : y = Str.ofString "value"
    · rw [if_pos e1, e1, h2]
    · rw [if_neg e1]
      by_cases e2 : y = Str.ofString "found"
      · rw [if_pos e2, e2, h3]
      · rw [if_neg e2]
theorem um_end {m0 : Str → Option Value} {d d' v : Value} {fv : Option Value} {f' : Value} (y : Str) : (if y = Str.ofString "due" then some d' else if y = Str.ofString "found" then some f' else um m0 d (some v) fv y) = um m0 d' (some v) (some f') y := by
  unfold um
  by_cases e : y = Str.ofString "due"
  · simp only [if_pos e]
  · by_cases e1 : y = Str.ofString "value"
    · have e2 : ¬ y = Str.ofString "found" := by rw [e1]; decide
      simp only [if_neg e, if_pos e1, if_neg e2]
    · by_cases e2 : y = Str.ofString "found"
      · simp only [if_neg e, if_neg e1, if_pos e2]
      · simp only [if_neg e, if_neg e1, if_neg e2]
/-- where a turn of the due loop ends -/
def DueEnd (g : Heap) (L I W : Addr) (oI : Obj) (m0 : Str → Option Value) (bt : List (Addr × Obj)) (kvs : List (Str × Value)) (s₂ : Shared) (f : Flow) (s' : Shared) : Prop :=
  f = .next ∧ ∃ h' tk m' due das c vv fv oW ov ld, s' = { s₂ with heap := h', toks := tk } ∧ Fr g L h' m' ∧ (∀ y, m' y = um m0 (.ref due) vv fv y) ∧ News g L h' ld ∧ (W, oW) ∈ ld ∧ oW.data = .cell ov ∧ (due, listOf (refs das).toArray c) ∈ ld ∧ (I, oI) ∈ ld ∧ (∀ p ∈ bt, p ∈ ld) ∧ PairsIn ld das kvs
theorem DueEnd.intro {g : Heap} {L I W : Addr} {oI : Obj} {m0 : Str → Option Value} {bt : List (Addr × Obj)} {kvs : List (Str × Value)} {s₂ : Shared} {h' : Heap} {tk : Nat} {m' : Str → Option Value} {due : Addr} {das : List Addr} {c : Nat} {vv fv : Option Value} {oW : Obj} {ov : Option Value} {ld : List (Addr × Obj)}
    (F : Fr g L h' m') (N : News g L h' ld) (hd : (due, listOf (refs das).toArray c) ∈ ld) (hm : ∀ y, m' y = um m0 (.ref due) vv fv y) (hW : (W, oW) ∈ ld) (hW' : oW.data = .cell ov) (hI : (I, oI) ∈ ld) (hb : ∀ p ∈ bt, p ∈ ld) (hP : PairsIn ld das kvs) : DueEnd g L I W oI m0 bt kvs s₂ .next { s₂ with heap := h', toks := tk } :=
  ⟨rfl, h', tk, m', due, das, c, vv, fv, oW, ov, ld, rfl, F, hm, N, hW, hW', hd, hI, hb, hP⟩
def IsPair (o : Obj) : Prop := ∃ k t v, o = pairObj (.str k t) v
theorem PairsIn.own {tl : List (Addr × Obj)} {as : List Addr} {kvs : List (Str × Value)} (h : PairsIn tl as kvs) : ∃ tl2, (∀ p ∈ tl2, p ∈ tl ∧ IsPair p.2) ∧ PairsIn tl2 as kvs := by
  induction h with
  | nil => exact ⟨[], (fun _ hp => nomatch hp), .nil⟩
  | @cons a k t v as kvs hm _ ih =>
    obtain ⟨tl2, h1, h2⟩ := ih
    refine ⟨(a, pairObj (.str k t) v) :: tl2, fun p hp => ?_, .cons (.head _) (h2.more fun p hp => .tail _ hp)⟩
    rcases List.mem_cons.mp hp with rfl | hp
    · exact ⟨hm, _, _, _, rfl⟩
    · exact h1 p hp
theorem um_start (m0 : Str → Option Value) (due : Value) (y : Str) (h1 : m0 (Str.ofString "value") = none) (h2 : m0 (Str.ofString "found") = none) : um m0 due none none y = (if y = Str.ofString "due" then some due else m0 y) := by
  unfold um
  by_cases e : y = Str.ofString "due"
  · rw [if_pos e, if_pos e]
  · rw [if_neg e, if_neg e]
    by_cases e1 : y = Str.ofString "value"
    · rw [if_pos e1, e1, h1]
    · rw [if_neg e1]
      by_cases e2 : y = Str.ofString "found"
      · rw [if_pos e2, e2, h2]
      · rw [if_neg e2]
theorem dict_nocell {prog : Program} {w : World} {o : Obj} {kvs : List (Str × Value)} (h : o.IsDictOf (SK prog w) kvs) (ov : Option Value) : o.data ≠ .cell ov := fun e => by
  obtain ⟨es, ep, _, hd, _⟩ := h
  rw [hd] at e; cases e
theorem nocell {prog : Program} {w : World} {x6 xb D3 D2 D1 st : Addr} {ob o3 o2 o1 : Obj} {a b : Array Value} {c d : Nat} {kb k3 k2 k1 : List (Str × Value)} {tlp : List (Addr × Obj)} (hb : ob.IsDictOf (SK prog w) kb) (h3 : o3.IsDictOf (SK prog w) k3) (h2 : o2.IsDictOf (SK prog w) k2) (h1 : o1.IsDictOf (SK prog w) k1) (hp : ∀ p ∈ tlp, IsPair p.2) :
    ∀ p ∈ ((x6, listOf a c) :: (xb, ob) :: (D3, o3) :: (D2, o2) :: (D1, o1) :: (st, listOf b d) :: tlp), ∀ ov, p.2.data ≠ .cell ov := fun p hp' ov => by
  rcases List.mem_cons.mp hp' with rfl | hp'
  · intro e; cases e
  rcases List.mem_cons.mp hp' with rfl | hp'
  · exact dict_nocell hb ov
  rcases List.mem_cons.mp hp' with rfl | hp'
  · exact dict_nocell h3 ov
  rcases List.mem_cons.mp hp' with rfl | hp'
  · exact dict_nocell h2 ov
  rcases List.mem_cons.mp hp' with rfl | hp'
  · exact dict_nocell h1 ov
  rcases List.mem_cons.mp hp' with rfl | hp'
  · intro e; cases e
  · obtain ⟨k, t, v, e⟩ := hp p hp'
    intro e'; rw [e] at e'; cases e'
theorem IntVals.append {a b : List (Str × Value)} (h : IntVals a) (h' : IntVals b) : IntVals (a ++ b) := fun kv hkv => by
  rcases List.mem_append.mp hkv with hkv | hkv
  · exact h kv hkv
  · exact h' kv hkv
theorem news_far {g h : Heap} {L : Addr} {news : List (Addr × Obj)} (N : News g L h news) : ∀ p ∈ news, p.1 ≠ h.objs.size := fun p hp => Nat.ne_of_lt (Heap.lt_size (N p hp).1)
section
variable {prog : Program} {w : World} {A : Around} {s : Shared} {g : Heap} {L : Addr}
theorem due_loop {I ls W due0 : Addr} {xs : List Addr} {rows : List (Str × Value)} {c cd0 : Nat} {base : List (Addr × Obj)} {oW0 : Obj} {ov0 : Option Value} {m0 : Str → Option Value} {vv0 fv0 : Option Value} {env : Env} {body : List Stmt} {p1 p2 tp : Pos} {kk : Nat} {R : Result → Shared → Prop} (hh : A.handled = none)
    (hL : env.locals = L) (hk : env.scope.kind = .function) (hword : env.kindOf (Str.ofString "word") = some .cell) (hcl : env.cells.lookup (Str.ofString "word") = some W) (hval : env.kindOf (Str.ofString "value") = some .local) (hdw : (Str.ofString "word" == ("__debug__" : Str)) = false) (hpp : (env.scope.kind == .class || (env.scope.kind == .module && env.locals != env.globals)) = false)
    (hr : rows.length ≤ 12) (hIr : IntVals rows)
    (hturn : ∀ (k : Str) (t : Tok) (v : Value) (kvs : List (Str × Value)) (das : List Addr) (due : Addr) (cd : Nat) (fv : Option Value) (bt : List (Addr × Obj)) (oI oW : Obj) (s₂ : Shared), s₂.gens = s.gens → (kvs.map (·.1)).Nodup → kvs.length ≤ 12 → das.length = kvs.length → PairsIn bt das kvs → oW.data = .cell (some (.str k t)) →
      Fr g L s₂.heap (um m0 (.ref due) (some v) fv) → News g L s₂.heap ((W, oW) :: (due, listOf (refs das).toArray cd) :: (I, oI) :: bt) →
      wpAny (model prog w) A (execs body env) (DueEnd g L I W oI m0 bt (stored kvs k v) s₂) (notedBy (model prog w) A env fun e s' => R (.error e) s') s₂)
    (F : Fr g L s.heap (um m0 (.ref due0) vv0 fv0)) (N : News g L s.heap ((W, oW0) :: (due0, listOf (refs []).toArray cd0) :: base)) (hoW : oW0.data = .cell ov0) (hls : (ls, listOf (refs xs).toArray c) ∈ base) (hx : PairsIn base xs rows)
    (hbW : ∀ p ∈ base, ∀ ov, p.2.data ≠ .cell ov) (hI0 : ∀ p ∈ base, p.1 ≠ I) (hIg : g.get? I = none) (hIL : I ≠ L) (hIW : I ≠ W) (hId : I ≠ due0) (hit : s.heap.IsListIter I ls 0)
    (hR : ∀ h' tk due das cd vv fv oW bt, Fr g L h' (um m0 (.ref due) vv fv) → News g L h' ((due, listOf (refs das).toArray cd) :: (W, oW) :: bt) → (∀ p ∈ base, p ∈ bt) → PairsIn bt das (merged [] rows) → R (.ok .next) { s with heap := h', toks := tk }) :
    codeAny (model prog w) A (.forLoop (.Tuple [.Name (Str.ofString "word") p1, .Name (Str.ofString "value") p2] kk tp) (.ref I) body [] env) R s := by
  subst hL
  have hLI : ∀ b o, g.get? b = some o → b ≠ I := fun b o e q => by rw [q, hIg] at e; cases e
  refine codeAny_forLoop_any (fun k s' => ∃ h' tk i due das cd vv fv oW ov tl2, s' = { s with heap := h', toks := tk } ∧ i ≤ rows.length ∧ k = rows.length - i ∧ h'.IsListIter I ls i ∧ Fr g env.locals h' (um m0 (.ref due) vv fv) ∧
      News g env.locals h' ((W, oW) :: (due, listOf (refs das).toArray cd) :: (base ++ tl2)) ∧ oW.data = .cell ov ∧ (∀ p ∈ tl2, IsPair p.2) ∧ PairsIn (base ++ tl2) das (merged [] (rows.take i)) ∧ ((merged [] (rows.take i)).map (·.1)).Nodup) ?_ rows.length
    ⟨s.heap, s.toks, 0, due0, [], cd0, vv0, fv0, oW0, ov0, [], rfl, Nat.zero_le _, rfl, hit, F, by rw [List.append_nil]; exact N, hoW, (fun _ hp => nomatch hp), by simpa [merged] using PairsIn.nil, by simp [merged]⟩
  rintro k s' ⟨h', tk, i, due, das, cd, vv, fv, oW, ov, tl2, rfl, hi, rfl, hit', F', N', hoW', hp2, hP, hnd⟩
  have hlsm : (ls, listOf (refs xs).toArray c) ∈ base ++ tl2 := List.mem_append_left _ hls
  have hIl : h'.IsList ls (refs xs).toArray := ⟨_, (N' _ (.tail _ (.tail _ hlsm))).1, rfl, _, rfl⟩
  have hlsI : ls ≠ I := hI0 _ hls
  have hxl : xs.length = rows.length := hx.length
  have kinds : ∀ p ∈ tl2, p.1 ≠ I := fun p hp q => by
    obtain ⟨o, ho, hc, _⟩ := id hit'
    obtain ⟨k, t, v, e⟩ := hp2 p hp
    have z := (N' p (.tail _ (.tail _ (List.mem_append_right _ hp)))).1
    rw [q, ho, e] at z
    have := congrArg Obj.cls (Option.some.inj z)
    rw [hc] at this
    exact absurd this (by intro h; injection h with h; exact absurd h (by decide))
  have hWI : W ≠ I := Ne.symm hIW
  have hdI : due ≠ I := fun q => by
    obtain ⟨o, ho, hc, _⟩ := id hit'
    have z := (N' _ (.tail _ (.head _))).1
    dsimp only at z
    rw [q, ho] at z
    have := congrArg Obj.cls (Option.some.inj z)
    rw [hc] at this
    exact absurd this (by intro h; injection h with h; exact absurd h (by decide))
  have ldI : ∀ p ∈ ((W, oW) :: (due, listOf (refs das).toArray cd) :: (base ++ tl2)), p.1 ≠ I := fun p hp => by
    rcases List.mem_cons.mp hp with rfl | hp
    · exact hWI
    · rcases List.mem_cons.mp hp with rfl | hp
      · exact hdI
      · rcases List.mem_append.mp hp with hp | hp
        · exact hI0 p hp
        · exact kinds p hp
  by_cases hlt : i < rows.length
  · have hx1 : (refs xs).toArray[i]? = some (.ref (xs[i]'(by omega))) := by simp [hxl, hlt]
    refine wpAny_pyNext_list_item hit' hIl hx1 fun h₂ hit₂ hs₂ => ?_
    obtain ⟨kw, tw, vw, hrow, hmT⟩ := hx.get i (xs[i]'(by omega)) (List.getElem?_eq_getElem _)
    refine wpAny_letOwnedTupleGo_listiter hit₂ ?_
    have keep2 : ∀ b o, b ≠ I → h'.get? b = some o → h₂.get? b = some o := fun b o hb e => hs₂.extBut b o hb e
    have N₂ : News g env.locals h₂ ((W, oW) :: (due, listOf (refs das).toArray cd) :: (base ++ tl2)) := fun p hp => ⟨keep2 _ _ (ldI p hp) (N' p hp).1, (N' p hp).2⟩
    have F₂ : Fr g env.locals h₂ (um m0 (.ref due) vv fv) := ⟨F'.ns.at' fun o e => keep2 _ o (Ne.symm hIL) e, fun b o e => keep2 b o (hLI b o e) (F'.keep b o e), F'.above⟩
    have hT : h₂.IsTuple (xs[i]'(by omega)) #[.str kw tw, vw] := ⟨_, (N₂ _ (.tail _ (.tail _ (List.mem_append_left _ hmT)))).1, rfl, _, rfl⟩
    refine wpAny_assign_Tuple hh hT rfl rfl fun h₃ he₃ => ?_
    have up₃ : ∀ b o, h₂.get? b = some o → h₃.get? b = some o := fun b o e => he₃ b o (Nat.ne_of_lt (Heap.lt_size e)) e
    show wpAny _ _ (assignInOrder [assign (.Name (Str.ofString "word") p1) env, assign (.Name (Str.ofString "value") p2) env] [.str kw tw, vw]) _ _ _
    refine assignInOrder_cons (wpAny_assign_Name (wpAny_storeName_cell hk hword hcl ⟨_, up₃ _ _ (N₂ _ (.head _)).1, hoW'⟩ fun h₄ hc₄ hs₄ => ?_))
    obtain ⟨oW4, eW4, dW4⟩ := hc₄
    have hWL : W ≠ env.locals := (N' _ (.head _)).2.1
    have hWg : g.get? W = none := (N' _ (.head _)).2.2
    refine assignInOrder_cons (wpAny_assign_Name (wpAny_storeName_local hval (F₂.ns.at' fun o e => hs₄.extBut _ o (Ne.symm hWL) (up₃ _ o e)) (fun h₅ hn₅ hs₅ => ?_) hpp))
    refine assignInOrder_nil ?_
    have hL₀ : g.get? env.locals = none := Heap.get?_none_of_le F'.above
    have keep5 : ∀ b o, b ≠ W → b ≠ env.locals → h₂.get? b = some o → h₅.get? b = some o := fun b o h1 h2 e => hs₅.extBut b o h2 (hs₄.extBut b o h1 (up₃ b o e))
    have F₅ : Fr g env.locals h₅ (um m0 (.ref due) (some vw) fv) := by
      refine ⟨?_, fun b o e => keep5 b o (fun q => by rw [q, hWg] at e; cases e) (fun q => by rw [q, hL₀] at e; cases e) (F₂.keep b o e), F'.above⟩
      have : (fun y => if y = Str.ofString "value" then some vw else um m0 (.ref due) vv fv y) = um m0 (.ref due) (some vw) fv := by
        funext y
        unfold um
        by_cases e1 : y = Str.ofString "due"
        · subst e1; rw [if_neg (by decide), if_pos rfl, if_pos rfl]
        · rw [if_neg e1, if_neg e1]
          by_cases e2 : y = Str.ofString "value"
          · rw [if_pos e2, if_pos e2]
          · rw [if_neg e2, if_neg e2, if_neg e2]
      rw [← this]; exact hn₅
    obtain ⟨oI, eI, _⟩ := id hit₂
    have eI5 : h₅.get? I = some oI := keep5 I oI hIW hIL eI
    have sameW : ∀ p ∈ ((due, listOf (refs das).toArray cd) :: (base ++ tl2)), p.1 ≠ W := fun p hp q => by
      have zW := (N' _ (.head _)).1
      dsimp only at zW
      have z := (N' p (.tail _ hp)).1
      rw [q, zW] at z
      cases z
      rcases List.mem_cons.mp hp with e | hp
      · rw [e] at hoW'; cases hoW'
      · rcases List.mem_append.mp hp with hp | hp
        · exact hbW p hp _ hoW'
        · obtain ⟨k, t, v, e⟩ := hp2 p hp
          rw [e] at hoW'; cases hoW'
    have N₅ : News g env.locals h₅ ((W, oW4) :: (due, listOf (refs das).toArray cd) :: (I, oI) :: (base ++ tl2)) := fun p hp => by
      rcases List.mem_cons.mp hp with rfl | hp
      · exact ⟨hs₅.extBut _ _ hWL eW4, hWL, hWg⟩
      · rcases List.mem_cons.mp hp with rfl | hp
        · have z := N₂ _ (.tail _ (.head _)); exact ⟨keep5 _ _ (sameW _ (.head _)) z.2.1 z.1, z.2⟩
        · rcases List.mem_cons.mp hp with rfl | hp
          · exact ⟨eI5, hIL, hIg⟩
          · have z := N₂ p (.tail _ (.tail _ hp)); exact ⟨keep5 _ _ (sameW p (.tail _ hp)) z.2.1 z.1, z.2⟩
    have hdl : das.length = (merged [] (rows.take i)).length := hP.length
    have hml : (merged [] (rows.take i)).length ≤ 12 := by
      have := merged_length_le [] (rows.take i)
      rw [List.length_take] at this
      simp at this
      omega
    refine wpAny_mono (hturn kw tw vw (merged [] (rows.take i)) das due cd fv (base ++ tl2) oI oW4 { s with heap := h₅, toks := _ } rfl hnd hml hdl hP dW4 F₅ N₅) (fun f s₃ hf => ?_) fun _ _ e => e
    obtain ⟨rfl, h₆, tk₆, m', due6, das6, c6, vv6, fv6, oW6, ov6, ld, rfl, F₆, hm6, N₆, hW6, hoW6, hd6, hI6, hbt, hP6⟩ := hf
    obtain rfl : m' = um m0 (.ref due6) vv6 fv6 := funext hm6
    obtain ⟨tl3, h3a, h3b⟩ := hP6.own
    refine ⟨rows.length - (i + 1), by omega, h₆, tk₆, i + 1, due6, das6, c6, vv6, fv6, oW6, ov6, tl3, rfl, hlt, rfl, ?_, F₆, fun p hp => ?_, hoW6, fun p hp => (h3a p hp).2, ?_, ?_⟩
    · obtain ⟨o, ho, r⟩ := hit₂
      rw [eI] at ho; cases ho
      exact ⟨_, (N₆ _ hI6).1, r⟩
    · rcases List.mem_cons.mp hp with rfl | hp
      · exact N₆ _ hW6
      · rcases List.mem_cons.mp hp with rfl | hp
        · exact N₆ _ hd6
        · rcases List.mem_append.mp hp with hp | hp
          · exact N₆ _ (hbt _ (List.mem_append_left _ hp))
          · exact N₆ _ (h3a p hp).1
    · rw [merged_take_succ [] rows i (kw, vw) hrow]
      exact h3b.more fun p hp => List.mem_append_right _ hp
    · rw [merged_take_succ [] rows i (kw, vw) hrow]
      exact nodup_stored hnd
  · obtain rfl : i = rows.length := Nat.le_antisymm hi (Nat.not_lt.mp hlt)
    refine wpAny_pyNext_list_end hh hit' hIl (by simp [hxl]) fun h₂ he₂ => ?_
    have keep2 : ∀ b o, b ≠ I → h'.get? b = some o → h₂.get? b = some o := fun b o hb e => he₂ b o hb e
    refine wpAny_execs_nil ?_
    rw [List.take_length] at hP
    refine hR h₂ tk due das cd vv fv oW (base ++ tl2) ⟨F'.ns.at' fun o e => keep2 _ o (Ne.symm hIL) e, fun b o e => keep2 b o (hLI b o e) (F'.keep b o e), F'.above⟩ (fun p hp => ?_) (fun p hp => List.mem_append_left _ hp) hP
    have hp' : p ∈ ((W, oW) :: (due, listOf (refs das).toArray cd) :: (base ++ tl2)) := by
      rcases List.mem_cons.mp hp with rfl | hp
      · exact .tail _ (.head _)
      · rcases List.mem_cons.mp hp with rfl | hp
        · exact .head _
        · exact .tail _ (.tail _ hp)
    exact ⟨keep2 _ _ (ldI p hp') (N' p hp').1, (N' p hp').2⟩
end
end Mine

namespace Mine
open PySem PySem.W PyProof.Rows PySem.Calls PyProof.V
set_option maxRecDepth 100000
set_option maxHeartbeats 4000000
theorem top_off_UTell : True := by
  w_top off
  exact trivial
/-- the words of the law -/
def Wd (k : Str) : Prop := k = Str.ofString "a" ∨ k = Str.ofString "b" ∨ k = Str.ofString "c" ∨ k = Str.ofString "e"
theorem wd_ne {k : Str} (h : Wd k) : k ≠ Str.ofString "d" ∧ k ≠ Str.ofString "_new" := by
  rcases h with rfl | rfl | rfl | rfl <;> exact ⟨by decide, by decide⟩
theorem wd_len {k : Str} (h : Wd k) : k.length ≤ sizeLine := by
  rw [sizeLine_eq]
  rcases h with rfl | rfl | rfl | rfl <;> decide
section
variable {w : World} {mg mb : Str → Option Value} {mean : ExcName → Option Value} {g : Heap} {L : Addr} {m : Str → Option Value} {news : List (Addr × Obj)} {A : Around} {s : Shared} {Q E : Value → Shared → Prop}
theorem dict_led {h h' : Heap} {x : Addr} {kvs : List (Str × Value)} (F : Fr g L h m) (N : News g L h news) (k : ∀ b o, h.get? b = some o → h'.get? b = some o) (hx : h.get? x = none) (hd : h'.DictOf (SK PR w) x kvs) :
    ∃ o, Fr g L h' m ∧ News g L h' ((x, o) :: news) ∧ o.IsDictOf (SK PR w) kvs ∧ (∀ p ∈ news, p.1 ≠ x) := by
  obtain ⟨o, ho, hk⟩ := Heap.dictOf_iff.mp hd
  have ne : ∀ b o, h.get? b = some o → b ≠ x := fun b o e q => by rw [q] at e; exact absurd (e.symm.trans hx) (by intro h; cases h)
  refine ⟨o, F.keeps k, fun p hp => ?_, hk, fun p hp => ne _ _ (N p hp).1⟩
  rcases List.mem_cons.mp hp with rfl | hp
  · refine ⟨ho, fun q => ?_, ?_⟩
    · obtain ⟨oL, _, _, eL, _⟩ := F.ns
      exact ne _ _ eL q.symm
    · cases q : g.get? x with
      | none => rfl
      | some o => exact absurd rfl (ne _ _ (F.keep _ _ q))
  · exact (N.grown k) p hp
theorem upd_call {D1 D2 : Addr} {o1 o2 : Obj} {kvs1 kvs2 ex : List (Str × Value)} (X : (Mine.hd.heap_39 w.params).In g) (T : Top Mine.hd.view_39 LO mean mg mb g) (F : Fr g L s.heap m) (N : News g L s.heap news) (hgens : s.gens = #[]) (m1 : (D1, o1) ∈ news) (m2 : (D2, o2) ∈ news) (h1 : o1.IsDictOf (SK PR w) kvs1) (h2 : o2.IsDictOf (SK PR w) kvs2)
    (lo1 : (D1 == sysModules) = false) (lo2 : (D2 == sysModules) = false) (hI1 : IntVals kvs1) (hI2 : IntVals kvs2) (hl1 : kvs1.length ≤ 100) (hl2 : kvs2.length ≤ 100) (hw : ∀ kv ∈ ex, Wd kv.1) (hn : (ex.map (·.1)).Nodup) (hxl : ex.length ≤ 100) (h0 : A.handled = none) (hd : A.depth ≤ 880) (hu : A.units ≤ 4800)
    (h : ∀ x o h' tk, Fr g L h' m → News g L h' ((x, o) :: news) → o.IsDictOf (SK PR w) (merged (merged kvs1 kvs2) ex) → (∀ p ∈ news, p.1 ≠ x) → Q (.ref x) { s with heap := h', toks := tk }) :
    wpAny (model PR w) A (call (.ref 258) [.ref D1, .ref D2] ex) Q E s := by
  refine wpAny_call (codeAny_wk (upc_d X T hgens F.keep (fun kv hkv => wd_ne (hw kv hkv)) (fun kv hkv => wd_len (hw kv hkv)) hn (by omega) (.inl rfl) rfl lo1 (kda_dict N m1 h1) hI1 (by omega) lo2 (kda_dict N m2 h2) hI2 (by omega) fun h' tk x k hx hdx => ?_) h0 hd hu)
  obtain ⟨o, F', N', ho, ne⟩ := dict_led F N k hx hdx
  exact h x o h' tk F' N' ho ne
theorem upd_call_n {D1 : Addr} {o1 : Obj} {kvs1 ex : List (Str × Value)} {pos : List Value} (hpos : pos = [.ref D1, .none] ∨ pos = [.ref D1]) (X : (Mine.hd.heap_39 w.params).In g) (T : Top Mine.hd.view_39 LO mean mg mb g) (F : Fr g L s.heap m) (N : News g L s.heap news) (hgens : s.gens = #[]) (m1 : (D1, o1) ∈ news) (h1 : o1.IsDictOf (SK PR w) kvs1)
    (lo1 : (D1 == sysModules) = false) (hI1 : IntVals kvs1) (hl1 : kvs1.length ≤ 100) (hw : ∀ kv ∈ ex, Wd kv.1) (hn : (ex.map (·.1)).Nodup) (hxl : ex.length ≤ 100) (h0 : A.handled = none) (hd : A.depth ≤ 880) (hu : A.units ≤ 4800)
    (h : ∀ x o h' tk, Fr g L h' m → News g L h' ((x, o) :: news) → o.IsDictOf (SK PR w) (merged kvs1 ex) → (∀ p ∈ news, p.1 ≠ x) → Q (.ref x) { s with heap := h', toks := tk }) :
    wpAny (model PR w) A (call (.ref 258) pos ex) Q E s := by
  refine wpAny_call (codeAny_wk (upc_n (d2 := D1) (nv := .none) (kvs2 := []) X T hgens F.keep (fun kv hkv => wd_ne (hw kv hkv)) (fun kv hkv => wd_len (hw kv hkv)) hn (by omega) (by rcases hpos with h | h; exact .inl h; exact .inr ⟨h, rfl⟩) rfl lo1 (kda_dict N m1 h1) hI1 (by omega) fun h' tk x k hx hdx => ?_) h0 hd hu)
  obtain ⟨o, F', N', ho, ne⟩ := dict_led F N k hx hdx
  exact h x o h' tk F' N' ho ne

/-- the keys of a dict, told as a list -/
def KeysAre (us : List Value) (kvs : List (Str × Value)) : Prop := us.length = kvs.length ∧ ∀ (j : Nat) (v : Value), us[j]? = some v → ∃ k z t, kvs[j]? = some (k, z) ∧ v = .str k t
theorem eqvs_of : ∀ {us ds : List Value}, us.length = ds.length → (∀ (j : Nat) (u d : Value), us[j]? = some u → ds[j]? = some d → EqV u d) → EqVs us ds
  | [], [], _, _ => .nil
  | [], _ :: _, h, _ => by simp at h
  | _ :: _, [], h, _ => by simp at h
  | u :: us, d :: ds, h, hj => .cons (hj 0 u d rfl rfl) (eqvs_of (by simpa using h) fun j a b e e' => hj (j + 1) a b (by simpa using e) (by simpa using e'))
theorem KeysAre.eqv {us ds : List Value} {kvs : List (Str × Value)} (h : KeysAre us kvs) (h' : KeysAre ds kvs) : EqVs us ds :=
  eqvs_of (h.1.trans h'.1.symm) fun j u d e e' => by
    obtain ⟨k, z, t, e1, rfl⟩ := h.2 j u e
    obtain ⟨k', z', t', e2, rfl⟩ := h'.2 j d e'
    rw [e1] at e2
    cases e2
    exact .str _ _ _
theorem keys_r {d : Addr} {od : Obj} {kvs : List (Str × Value)} (hh : A.handled = none) (hgens : s.gens = #[]) (F : Fr g L s.heap m) (N : News g L s.heap news) (hm : (d, od) ∈ news) (hd : od.IsDictOf (SK PR w) kvs) (lo : (d == sysModules) = false) (hn : kvs.length ≤ 100)
    (h : ∀ x us c h' tk, Fr g L h' m → News g L h' ((x, listOf us.toArray c) :: news) → KeysAre us kvs → (∀ p ∈ news, p.1 ≠ x) → Q (.ref x) { s with heap := h', toks := tk }) :
    wpAny (model PR w) A (call (.type "list") [.ref d]) Q E s := by
  obtain ⟨es, ep, hex, hda, hko, hpa, hnd⟩ := id hd
  refine ls_call (src_of_kdl (h0 := s.heap) (kdl_dict (prog := PR) (w := w) (knd := PySem.strKind PR w) (d := d) (kvs := kvs) (ep := ep) lo) (fun h k' => ⟨_, es, k' _ _ (N _ hm).1, hex, hda, hko, hpa, hnd⟩) ⟨_, (N _ hm).1⟩ ⟨_, (N _ hm).1⟩) hh hgens (by rw [sizeLine_eq]; omega) fun x h' tk us c k hw hx0 hx hl hP => ?_
  have k' : ∀ b o, s.heap.get? b = some o → h'.get? b = some o := fun b o e => k b o (by simp) e
  have ne : ∀ b o, s.heap.get? b = some o → b ≠ x := fun b o e q => by rw [q] at e; exact absurd (e.symm.trans hx0) (by intro h; cases h)
  refine h x us c h' tk (F.keeps k') (fun p hp => ?_) ⟨hl, fun j v e => ?_⟩ (fun p hp => ne _ _ (N p hp).1)
  · rcases List.mem_cons.mp hp with rfl | hp
    · refine ⟨hx, fun q => ?_, ?_⟩
      · obtain ⟨oL, _, _, eL, _⟩ := F.ns
        exact ne _ _ eL q.symm
      · cases q : g.get? x with
        | none => rfl
        | some o => exact absurd rfl (ne _ _ (F.keep _ _ q))
    · exact (N.grown k') p hp
  · obtain ⟨k1, z1, e1, q1⟩ := hP j v e
    obtain ⟨t, rfl⟩ := Value.isStrOf_shape q1
    exact ⟨k1, z1, t, e1, rfl⟩
theorem hits_self {kb : List (Str × Value)} (hn : (kb.map (·.1)).Nodup) (hI : IntVals kb) : ∀ ka : List (Str × Value), (∀ kv ∈ ka, kv ∈ kb) → KeqHits A s kb ka true
  | [], _ => .nil
  | (k, v) :: r, h => by
    obtain ⟨i, hi⟩ := List.mem_iff_getElem?.mp (h _ (.head _))
    have e := valueAt_of_get hn hi
    obtain ⟨p, t, hv⟩ := hI _ (h _ (.head _))
    have := KeqHits.hit (A := A) (s := s) e (SeqAt.EqAt.same v) (hits_self hn hI r fun kv hkv => h kv (.tail _ hkv))
    simpa using this
theorem eq_dict {a b : Addr} {oa ob : Obj} {kvs : List (Str × Value)} (N : News g L s.heap news) (ma : (a, oa) ∈ news) (mb' : (b, ob) ∈ news) (ha : oa.IsDictOf (SK PR w) kvs) (hb : ob.IsDictOf (SK PR w) kvs) (la : (a == sysModules) = false) (lb : (b == sysModules) = false) (hI : IntVals kvs) (hu : A.units < cLine)
    (h : Q (.bool true) s) : wpAny (model PR w) A (compareOp .Eq (.ref a) (.ref b)) Q E s :=
  keq_pairs (knd := SK PR w) N ma mb' ha hb la lb rfl hu (hits_self (let ⟨_, _, _, _, _, _, hn⟩ := ha; hn) hI kvs fun _ x => x) h
theorem ne_dict {a b : Addr} {oa ob : Obj} {kvs : List (Str × Value)} (N : News g L s.heap news) (ma : (a, oa) ∈ news) (mb' : (b, ob) ∈ news) (ha : oa.IsDictOf (SK PR w) kvs) (hb : ob.IsDictOf (SK PR w) kvs) (la : (a == sysModules) = false) (lb : (b == sysModules) = false) (hI : IntVals kvs) (hu : A.units < cLine)
    (h : Q (.bool false) s) : wpAny (model PR w) A (compareOp .NotEq (.ref a) (.ref b)) Q E s :=
  kne_pairs (knd := SK PR w) N ma mb' ha hb la lb rfl hu (hits_self (let ⟨_, _, _, _, _, _, hn⟩ := ha; hn) hI kvs fun _ x => x) h
theorem same_dict {M : Model} {a b : Addr} {oa ob : Obj} {kvs : List (Str × Value)} {Q : Bool → Shared → Prop} (N : News g L s.heap news) (ma : (a, oa) ∈ news) (mb' : (b, ob) ∈ news) (ha : oa.IsDictOf (SK PR w) kvs) (hne : a ≠ b) (h : Q false s) : wpAny M A (isSame (.ref a) (.ref b)) Q E s := by
  obtain ⟨es, ep, ⟨hc, _, _⟩, hda, _⟩ := ha
  unfold isSame
  dsimp only
  rw [if_neg (by simpa using hne)]
  refine wpAny_bind (wpAny_load (N _ ma).1 (wpAny_bind (wpAny_load (N _ mb').1 ?_)))
  rw [hc]
  exact wpAny_pure h
theorem is_dict {M : Model} {a b : Addr} {oa ob : Obj} {kvs : List (Str × Value)} (N : News g L s.heap news) (ma : (a, oa) ∈ news) (mb' : (b, ob) ∈ news) (ha : oa.IsDictOf (SK PR w) kvs) (hne : a ≠ b) (h : Q (.bool false) s) : wpAny M A (compareOp .Is (.ref a) (.ref b)) Q E s := by
  show wpAny M A (isSame (.ref a) (.ref b) >>= fun x => pure (.bool x)) Q E s
  exact wpAny_bind (same_dict N ma mb' ha hne (wpAny_pure h))
theorem isnot_dict {M : Model} {a b : Addr} {oa ob : Obj} {kvs : List (Str × Value)} (N : News g L s.heap news) (ma : (a, oa) ∈ news) (mb' : (b, ob) ∈ news) (ha : oa.IsDictOf (SK PR w) kvs) (hne : a ≠ b) (h : Q (.bool true) s) : wpAny M A (compareOp .IsNot (.ref a) (.ref b)) Q E s := by
  show wpAny M A (isSame (.ref a) (.ref b) >>= fun x => pure (.bool (!x))) Q E s
  exact wpAny_bind (same_dict N ma mb' ha hne (wpAny_pure h))
end
end Mine

namespace Mine
open PySem PySem.W PyProof.Rows PySem.Calls PyProof.V
set_option maxRecDepth 100000
set_option maxHeartbeats 8000000
theorem top_off_UDisp : True := by
  w_top off
  exact trivial
theorem uc_in {w : World} {G : Heap} (X : (Mine.hd.heap_39 w.params).In G) : ∃ o fd, (Mine.hd.heap_39 w.params).lookup 258 = some o ∧ o.data = .func fd :=
  ⟨⟨_, _, .func (fnOf _ _ _ _ _ _ _ _ _ _ _ _), _⟩, _, by k_is, rfl⟩
theorem uc_kw {w : World} {G : Heap} {A : Around} {E : Value → Shared → Prop} {s : Shared} {pos : Pos} {x0 x : Sem Value} {args rest : List (Bool × Sem Value)} {kws : List (Option Str × Sem Value)} {Q : Value → Shared → Prop} (X : (Mine.hd.heap_39 w.params).In G) (he : args = (false, x0) :: rest) (hk : kws = [(none, x)])
    (h : wpAny (model PR w) A (spliced args) (fun vs s₁ => ∀ E' : Value → Shared → Prop, wpAny (model PR w) A x (fun v s₂ => ∃ a more, v = .ref a ∧ (a == sysModules) = false ∧ a ≠ s₁.heap.objs.size ∧ (∀ b o, (s₁.heap.push { cls := .type "dict", data := .dict #[] }).get? b = some o → s₂.heap.get? b = some o) ∧ s₂.heap.DictOf (SK PR w) a more ∧ more.length ≤ 1000 ∧
      ∀ h', (∀ b o, b ≠ s₁.heap.objs.size → s₂.heap.get? b = some o → h'.get? b = some o) → (∀ b o, G.get? b = some o → h'.get? b = some o) ∧ wpAny (model PR w) A (call (.ref 258) vs more) Q E { s₂ with heap := h' }) E' { s₁ with heap := s₁.heap.push { cls := .type "dict", data := .dict #[] } }) E s) :
    wpAny (model PR w) A (callWith pos (.ref 258) [] args kws) Q E s := by
  subst he hk
  obtain ⟨o, fd, ho, hd⟩ := uc_in X
  refine callWith_function_kw (o := o) (fd := fd) (args_kw1 (wpAny_mono h (fun vs s₁ h₁ E' => wpAny_mono (h₁ E') (fun v s₂ h₂ => ?_) fun _ _ e => e) fun _ _ e => e))
  obtain ⟨a, more, e, lo, ne, k, hd', hl, hQ⟩ := h₂
  exact ⟨a, more, e, lo, ne, k, hd', hl, fun h' k' => ⟨⟨(hQ h' k').1 _ _ (X _ _ ho), hd⟩, (hQ h' k').2⟩⟩
section
variable {prog : Program} {w : World} {A : Around} {E : Value → Shared → Prop} {s : Shared}
theorem disp2 {x y : Sem Value} {a b : Addr} {ka kb : List (Str × Value)} {Q : Value → Shared → Prop} (loa : (a == sysModules) = false) (lob : (b == sysModules) = false)
    (hx : ∀ (s' : Shared) (Q' : Value → Shared → Prop) (E' : Value → Shared → Prop), (∀ b o, s.heap.get? b = some o → s'.heap.get? b = some o) → Q' (.ref a) s' → wpAny (model prog w) A x Q' E' s')
    (hy : ∀ (s' : Shared) (Q' : Value → Shared → Prop) (E' : Value → Shared → Prop), (∀ b o, s.heap.get? b = some o → s'.heap.get? b = some o) → Q' (.ref b) s' → wpAny (model prog w) A y Q' E' s')
    (ha : s.heap.DictOf (SK prog w) a ka) (hb : s.heap.DictOf (SK prog w) b kb) (hla : ka.length ≤ 100) (hlb : kb.length ≤ 100)
    (h : ∀ d h', s.heap.get? d = none → (∀ b o, s.heap.get? b = some o → h'.get? b = some o) → h'.DictOf (SK prog w) d (merged ka kb) → Q (.ref d) { s with heap := h' }) :
    wpAny (model prog w) A (dictDisplay [(none, x), (none, y)]) Q E s := by
  have lt : ∀ b o, s.heap.get? b = some o → b ≠ s.heap.objs.size := fun b o e => Nat.ne_of_lt (Heap.lt_size e)
  have neA : s.heap.objs.size ≠ a := fun q => by obtain ⟨o, es, ep, ho, _⟩ := ha; exact lt _ _ ho q.symm
  have neB : s.heap.objs.size ≠ b := fun q => by obtain ⟨o, es, ep, ho, _⟩ := hb; exact lt _ _ ho q.symm
  have k0 : ∀ b o, s.heap.get? b = some o → (s.heap.push { cls := .type "dict", data := .dict #[] }).get? b = some o := fun b o e => Heap.get?_push_of_some _ e
  unfold dictDisplay
  dsimp only
  rw [List.forIn_cons]
  refine wpAny_bind (wpAny_bind ?_)
  dsimp only
  refine wpAny_bind (wpAny_ite_split (fun _ => wpAny_pure ?_) (fun hab => absurd rfl hab))
  refine wpAny_bind (wpAny_alloc ?_)
  refine wpAny_bind (wpAny_holding (hx _ _ _ k0 ?_))
  refine wpAny_bind (wpAny_onRaise (wpAny_tryCatch (wpAny_onRaise (wpAny_holding (merge_map neA loa (fun q => nomatch q) (Heap.DictOf.new s.heap) (ha.keep k0) (fun h1 hd1 hs1 => ?_) ?sz)))))
  case sz => rw [sizeLine_eq]; simp; omega
  have k1 : ∀ b o, s.heap.get? b = some o → h1.get? b = some o := fun b o e => hs1.extBut b o (lt b o e) (k0 b o e)
  refine wpAny_pure ?_
  dsimp only
  rw [List.forIn_cons]
  refine wpAny_bind (wpAny_bind ?_)
  refine wpAny_ite_split (fun _ => wpAny_pure ?_) (fun hab => absurd rfl hab)
  refine wpAny_bind (wpAny_pure ?_)
  refine wpAny_bind (wpAny_holding (hy _ _ _ k1 ?_))
  refine wpAny_bind (wpAny_onRaise (wpAny_tryCatch (wpAny_onRaise (wpAny_holding (merge_map neB lob (fun q => nomatch q) hd1 (hb.keep k1) (fun h2 hd2 hs2 => ?_) ?sz2)))))
  case sz2 =>
    have := merged_length_le [] ka
    rw [sizeLine_eq]; simp at this; omega
  have k2 : ∀ b o, s.heap.get? b = some o → h2.get? b = some o := fun b o e => hs2.extBut b o (lt b o e) (k1 b o e)
  refine wpAny_pure ?_
  dsimp only
  rw [List.forIn_nil]
  refine wpAny_pure ?_
  dsimp only
  refine wpAny_bind (wpAny_ite_split (fun _ => wpAny_pure ?_) (fun hab => absurd rfl hab))
  refine wpAny_pure (h _ h2 (Heap.get?_none_of_le (Nat.le_refl _)) k2 ?_)
  rwa [merged_nil_of_nodup ka (let ⟨_, _, _, _, _, _, _, _, hn⟩ := ha; hn)] at hd2
end
end Mine

namespace Mine
open PySem PySem.W PyProof.Rows PySem.Calls PyProof.V
set_option maxRecDepth 100000
set_option maxHeartbeats 8000000
theorem top_off_UComp : True := by
  w_top off
  exact trivial
section
variable {prog : Program} {w : World} {A : Around} {E : Value → Shared → Prop} {s : Shared} {h₀ : Heap} {L : Addr} {m : Str → Option Value} {env : Env}
/-- where a drawing step of a dict's comprehension ends -/
def StepEnd (h₀ : Heap) (L : Addr) (m : Str → Option Value) (s₂ : Shared) (sl : Addr) (mk : Obj → List (Addr × Obj)) (P : Value → Prop) (y : Value) (s' : Shared) : Prop :=
  ∃ h' tk' i'' sd'' ti'' td'', P y ∧ s' = { s₂ with heap := h', toks := tk' } ∧ Bd i'' sd'' ∧ Fr h₀ L h' m ∧ News h₀ L h' (mk (stO sl i'' sd'' ti'' td''))
theorem StepEnd.intro {s₂ : Shared} {sl : Addr} {mk : Obj → List (Addr × Obj)} {P : Value → Prop} {y : Value} {h' : Heap} {tk' : Nat} {i'' sd'' : Int} {ti'' td'' : Tok} (p : P y) (B : Bd i'' sd'') (F : Fr h₀ L h' m) (N : News h₀ L h' (mk (stO sl i'' sd'' ti'' td''))) :
    StepEnd h₀ L m s₂ sl mk P y { s₂ with heap := h', toks := tk' } := ⟨h', tk', i'', sd'', ti'', td'', p, rfl, B, F, N⟩
/-- a step of the comprehension: from every state, it ends so -/
def StepW (prog : Program) (w : World) (A : Around) (h₀ : Heap) (L : Addr) (m : Str → Option Value) (ce : Addr → Env) (s₁ : Shared) (sl : Addr) (nf : Obj → List (Addr × Obj)) (ex : PySem.Expr) (P : Value → Prop) : Prop :=
  ∀ i' sd' ti' td', Bd i' sd' → ∀ s₂ : Shared, s₂.gens = s₁.gens → ∀ I oI C oC D oD m₂ (E' : Value → Shared → Prop), LCg.NsObj oC m₂ → Fr h₀ L s₂.heap m → News h₀ L s₂.heap ((I, oI) :: (C, oC) :: (D, oD) :: nf (stO sl i' sd' ti' td')) →
    LCg.Off3 I C D (nf (stO sl i' sd' ti' td')) → ((@Ne Nat I C) ∧ (@Ne Nat I D) ∧ (@Ne Nat C D)) →
    wpAny (model prog w) A (eval ex (ce C)) (StepEnd h₀ L m s₂ sl (fun o => (I, oI) :: (C, oC) :: (D, oD) :: nf o) P) E' s₂
/-- the source of a drawing dict's comprehension -/
def DictSrc (prog : Program) (w : World) (A : Around) (h₀ : Heap) (L : Addr) (m : Str → Option Value) (env : Env) (scope : Scope) (cl : List (Str × Addr)) (kx vx : PySem.Expr) (y : Str) (W : Str → Prop) (Q : Flow → Shared → Prop) (xv : Value) (s₁ : Shared) : Prop :=
  ∃ (r : Addr) (b : Nat) (t u v : Tok) (news : List (Addr × Obj)) (st sl : Addr) (i sd : Int) (ti td : Tok) (nf : Obj → List (Addr × Obj)), xv = .ref r ∧ A.handled = none ∧ Fr h₀ L s₁.heap m ∧ News h₀ L s₁.heap news ∧
      IsRange s₁.heap r 0 (b : Int) 1 t u v ∧ b ≤ 8 ∧ UpdF st (stO sl i sd ti td) news nf ∧ Bd i sd ∧
      StepW prog w A h₀ L m (fun C => compEnvC scope cl C env) s₁ sl nf kx (fun y => ∃ k, (SK prog w).is k y = true ∧ W k) ∧
      StepW prog w A h₀ L m (fun C => compEnvC scope cl C env) s₁ sl nf vx (fun y => ∃ (p : Int) (t : Tok), y = .int p t) ∧
      (∀ kvs D oD tk h' i' sd' ti' td', oD.IsDictOf (SK prog w) kvs → kvs.length ≤ b → (∀ kv ∈ kvs, W kv.1) → IntVals kvs → Bd i' sd' → Fr h₀ L h' (fun z => if z = y then some (.ref D) else m z) → News h₀ L h' ((D, oD) :: nf (stO sl i' sd' ti' td')) →
        LCg.Off1 D (nf (stO sl i' sd' ti' td')) → Q .next { s₁ with heap := h', toks := tk })
theorem asg_dict {kx vx iter : PySem.Expr} {x y : Str} {px py : Pos} {scope : Scope} {cl : List (Str × Addr)} {pos spos : Pos} {Q : Flow → Shared → Prop} (W : Str → Prop) (_F₀ : Fr h₀ L s.heap m) (hLe : env.locals = L)
    (hsw : swapsWith (.DictComp kx vx [⟨.Name x px, iter, [], 0⟩] scope pos) (some (.Name y py)) spos.line env = pure true)
    (hclos : closureFor scope env = pure cl) (hcell : ∀ z ∈ scope.names, z.2 ≠ .cell) (hkind : scope.kind = .function)
    (hnames : ∀ z ∈ scope.names, z.2 = .local → scope.names.lookup z.1 = some .local) (hx : scope.names.lookup x = some .local)
    (hy : env.kindOf y = some .local) (hp : (env.scope.kind == .class || (env.scope.kind == .module && env.locals != env.globals)) = false)
    (h : wpAny (model prog w) A (eval iter env) (DictSrc prog w A h₀ L m env scope cl kx vx y W Q) E s)
    (hs : ∀ x, foldedSetIterable iter env x = pure x := by intro _; rfl) :
    wpAny (model prog w) A (exec (.Assign [.Name y py] (.DictComp kx vx [⟨.Name x px, iter, [], 0⟩] scope pos) spos) env) Q E s := by
  subst hLe
  rw [exec_Assign_Name_used _ _ _ _ hsw]
  refine wpAny_bind (wpAny_standAt (wpAny_bind ?_))
  show wpAny _ A (do let _ ← comprehension (.DictComp kx vx [⟨.Name x px, iter, [], 0⟩] scope pos) scope env _ newDict false (eval iter env) (some (assign (.Name y py) env))) _ _ s
  refine wpAny_bind (wpAny_mono (wpAny_comprehension_free (use := some (assign (.Name y py) env)) (Q := fun _ s' => Q .next s') rfl hs hclos hkind hnames
    (wpAny_mono h (fun xv s₁ h₁ => ?_) fun _ _ e => e)) (fun _ s' hq => wpAny_pure (wpAny_pure hq)) fun _ _ e => e)
  obtain ⟨r, b, t, u, v, news, st, sl, i, sd, ti, td, nf, rfl, hh, F, N, hr, hb8, U, hB, KX, VX, hfin⟩ := h₁
  have hrn : Builtin.Range.rangeSize 0 (b : Int) 1 = ((b : Nat) : Int) := by rw [rangeSize_one]; split <;> omega
  refine wpAny_pyIter_range hr (small_one (by decide) (by decide) (by omega) (by omega)) ?_
  rw [hrn]
  generalize hoI : ({ cls := _, dict := _, data := _, slots := _ } : Obj) = oI0
  have hIg : (s₁.heap.push oI0).get? s₁.heap.objs.size = some oI0 := Heap.get?_push_size _ (by rw [← hoI]; rfl)
  have old1 : ∀ b o, s₁.heap.get? b = some o → (s₁.heap.push oI0).get? b = some o := fun b o q => Heap.get?_push_of_some _ q
  have hI1 : (s₁.heap.push oI0).objs.size = s₁.heap.objs.size + 1 := Heap.size_push ..
  have st₁ : IsRangeIter (s₁.heap.push oI0) s₁.heap.objs.size (0 + ((0 : Nat) : Int) * 1) ((b : Int) - ((0 : Nat) : Int)) 1 := by
    show (s₁.heap.push oI0).get? _ = some _
    rw [hIg, ← hoI]; simp
  have F1 := F.keeps old1
  have N1 := N.grown old1
  have offI : ∀ p ∈ news, p.1 ≠ s₁.heap.objs.size := fun p hp => Nat.ne_of_lt (Heap.lt_size (N p hp).1)
  have hILt := F.ns.lt
  have hI₀ : h₀.get? s₁.heap.objs.size = none := by
    cases q : h₀.get? s₁.heap.objs.size with
    | none => rfl
    | some o' => exact absurd (Heap.lt_size (F.keep _ o' q)) (Nat.lt_irrefl _)
  generalize s₁.heap.push oI0 = H1 at hIg old1 hI1 st₁ F1 N1 ⊢
  generalize s₁.heap.objs.size = I at hIg hI1 st₁ offI hILt hI₀ ⊢
  refine wpAny_newObj_type (wpAny_newFunctionEnv hcell (by intro z hz; simp at hz) (fun h₁ hns₁ hsb₁ => ?_) hkind)
  dsimp only at hns₁ hsb₁ ⊢
  generalize hH2 : H1.push { cls := .type "dict", dict := none, data := .dict #[] } = H2 at hns₁ hsb₁ ⊢
  have hC : H2.objs.size = H1.objs.size + 1 := by rw [← hH2, Heap.size_push]
  have hDC : H1.objs.size ≠ H2.objs.size := by rw [hC]; exact Nat.ne_of_lt (Nat.lt_succ_self _)
  have below : ∀ b, b < H1.objs.size → b ≠ H2.objs.size ∧ b ≠ H1.objs.size := fun b hb => ⟨by rw [hC]; exact Nat.ne_of_lt (Nat.lt_succ_of_lt hb), Nat.ne_of_lt hb⟩
  have old : ∀ b o, H1.get? b = some o → h₁.get? b = some o := fun b o q => hsb₁.extBut b o (below b (Heap.lt_size q)).1 (Heap.get?_push_of_some _ (hH2 ▸ Heap.get?_push_of_some _ q))
  have hacc : h₁.get? H1.objs.size = some { cls := .type "dict", dict := none, data := .dict #[] } := hsb₁.extBut _ _ hDC (Heap.get?_push_of_some _ (hH2 ▸ Heap.get?_push_size _ rfl))
  have fresh₀ : ∀ a, H1.objs.size ≤ a → h₀.get? a = none := fun a ha => by
    cases q : h₀.get? a with
    | none => rfl
    | some o' => exact absurd (Heap.lt_size (F1.keep a o' q)) (Nat.not_lt.mpr ha)
  have hD₀ : h₀.get? H1.objs.size = none := fresh₀ _ (Nat.le_refl _)
  have hC₀ : h₀.get? H2.objs.size = none := fresh₀ _ (by rw [hC]; exact Nat.le_succ _)
  have hLlt : env.locals < H1.objs.size := F1.ns.lt
  have hDL : H1.objs.size ≠ env.locals := Ne.symm (below _ hLlt).2
  have hCL : H2.objs.size ≠ env.locals := Ne.symm (below _ hLlt).1
  have hIlt : I < H1.objs.size := by rw [hI1]; exact Nat.lt_succ_self _
  have hIC : I ≠ H2.objs.size := (below I hIlt).1
  have hID : I ≠ H1.objs.size := (below I hIlt).2
  have hIL : I ≠ env.locals := Ne.symm (Nat.ne_of_lt hILt)
  have W0 := LCg.range_walks (prog := prog) (w := w) (A := A) (I := I) hh 0 b
  have off : LCg.Off3 I H2.objs.size H1.objs.size news := LCg.Off3.of fun p hp => ⟨offI p hp, below _ (Heap.lt_size (N1 p hp).1)⟩
  generalize hCe : H2.objs.size = C at hns₁ hsb₁ hDC below hC₀ hCL hIC off ⊢
  generalize hDe : H1.objs.size = D at hDC hacc hD₀ hDL hID hLlt off ⊢
  have hCs : (compEnvC scope cl C env).locals = C := rfl
  have nfi : nf (stO sl i sd ti td) = news := by
    obtain ⟨pre, post, e1, hnf, _, _⟩ := U.split
    rw [hnf, e1]
  have offn : ∀ o', LCg.Off3 I C D (nf o') := fun o' => off3_upd U o' off
  have cst : ∀ h' h'' o, h'.get? I = some o → h''.get? I = some o → ∀ j : Nat, IsRangeIter h' I (0 + (j : Int) * 1) ((b : Int) - (j : Int)) 1 → IsRangeIter h'' I (0 + (j : Int) * 1) ((b : Int) - (j : Int)) 1 := fun h' h'' o e1 e2 j st =>
    W0.frame j h' h'' st fun a ha o' e => by
      obtain rfl := List.mem_singleton.mp ha
      rw [e1] at e; cases e; exact e2
  have loop : ∀ s₃ : Shared, s₃ = { s₁ with heap := h₁, toks := s₁.toks + ([] : List (Str × Value)).length } →
      codeAny (model prog w) A (.compLoop (.DictComp kx vx [⟨.Name x px, iter, [], 0⟩] scope pos) 0 (.ref I) (.ref D) (compEnvC scope cl C env))
        (compPost (model prog w) A E (some (assign (.Name y py) env)) (fun _ s' => Q .next s') (.ref D) C) s₃ := by
    rintro s₃ rfl
    refine codeAny_compLoop_testsD
      (fun k s' => ∃ h' tk j kvs oD m' i' sd' ti' td', s' = { s₁ with heap := h', toks := tk } ∧ j ≤ b ∧ k = b + 1 - j ∧ IsRangeIter h' I (0 + (j : Nat) * 1) ((b : Int) - (j : Nat)) 1 ∧ Fr h₀ env.locals h' m ∧ h'.Ns C m' ∧
        News h₀ env.locals h' ((D, oD) :: nf (stO sl i' sd' ti' td')) ∧ oD.IsDictOf (SK prog w) kvs ∧ kvs.length ≤ j ∧ (∀ kv ∈ kvs, W kv.1) ∧ IntVals kvs ∧ Bd i' sd') ?_ (b + 1)
      ⟨h₁, _, 0, [], { cls := .type "dict", dict := none, data := .dict #[] }, _, i, sd, ti, td, rfl, Nat.zero_le _, rfl, cst H1 h₁ oI0 hIg (old _ _ hIg) 0 st₁, F1.keeps old, hns₁, fun p hp => ?_, ⟨#[], 0, ⟨rfl, rfl, rfl⟩, rfl, fun _ he => by simp at he, Pairs.nil, List.nodup_nil⟩, Nat.le_refl _, (fun _ hk => nomatch hk), (fun _ hk => nomatch hk), hB⟩
    · rintro k s' ⟨h', tk, j, kvs, oD, m', i', sd', ti', td', rfl, hj, rfl, hst', F', hn', N', hoD, hkl, hW, hIv, hB'⟩
      by_cases hlt : j < b
      · refine W0.item j _ _ _ hlt hst' fun v h₂ tk₂ hPv hst₂ hk₂ => ?_
        have keep2 : ∀ a o, a ≠ I → h'.get? a = some o → h₂.get? a = some o := fun a o ha q => hk₂ a o (by simpa using ha) q
        refine wpAny_assign_Name (wpAny_storeName_local (lookup_relabel_local hx) (hn'.at' fun o q => keep2 _ o (Ne.symm hIC) q) (fun h₃ hn₃ hs₃ => ?_) (by simp [compEnvC, relabel, hkind]))
        have keep3 : ∀ a o, a ≠ I → a ≠ C → h'.get? a = some o → h₃.get? a = some o := fun a o ha hc q => hs₃.extBut a o hc (keep2 a o ha q)
        refine wpAny_of_eq (a := true) rfl ?_
        rw [if_pos rfl]
        have F₃ : Fr h₀ env.locals h₃ m := ⟨F'.ns.at' fun o q => keep3 _ o (Ne.symm hIL) (Ne.symm hCL) q, fun a o q => keep3 a o (fun z => by rw [z, hI₀] at q; cases q) (fun z => by rw [z, hC₀] at q; cases q) (F'.keep a o q), F'.above⟩
        obtain ⟨oC, heC, hoC⟩ := LCg.ns_obj hn₃
        obtain ⟨oI, heI₂⟩ : ∃ oI, h₂.get? I = some oI := ⟨_, hst₂⟩
        have heI : h₃.get? I = some oI := hs₃.extBut I oI hIC heI₂
        have hst₃ := cst h₂ h₃ oI heI₂ heI (j + 1) hst₂
        have N₃ : News h₀ env.locals h₃ ((I, oI) :: (C, oC) :: (D, oD) :: nf (stO sl i' sd' ti' td')) := fun p hp => by
          rcases List.mem_cons.mp hp with rfl | hp
          · exact ⟨heI, hIL, hI₀⟩
          · rcases List.mem_cons.mp hp with rfl | hp
            · exact ⟨heC, hCL, hC₀⟩
            · have z := N' p hp
              refine ⟨keep3 _ _ ?_ ?_ z.1, z.2⟩
              · rcases List.mem_cons.mp hp with rfl | hp
                · exact Ne.symm hID
                · exact ((offn _).mem p hp).1
              · rcases List.mem_cons.mp hp with rfl | hp
                · exact hDC
                · exact ((offn _).mem p hp).2.1
        refine wpAny_mono (KX i' sd' ti' td' hB' { s₁ with heap := h₃, toks := _ } rfl I oI C oC D oD _ _ hoC F₃ N₃ (offn _) ⟨hIC, hID, Ne.symm hDC⟩) (fun key s₄ h₄ => ?_) fun _ _ e => e
        obtain ⟨h₄, tk₄, i₄, sd₄, ti₄, td₄, ⟨kk, hkk, hWk⟩, rfl, hB₄, F₄, N₄⟩ := h₄
        refine wpAny_mono (VX i₄ sd₄ ti₄ td₄ hB₄ { s₁ with heap := h₄, toks := tk₄ } rfl I oI C oC D oD _ _ hoC F₄ N₄ (offn _) ⟨hIC, hID, Ne.symm hDC⟩) (fun val s₅ h₅ => ?_) fun _ _ e => e
        obtain ⟨h₅, tk₅, i₅, sd₅, ti₅, td₅, hval, rfl, hB₅, F₅, N₅⟩ := h₅
        have zI := (N₅ _ (.head _)).1
        have zC := (N₅ _ (.tail _ (.head _))).1
        have zD := (N₅ _ (.tail _ (.tail _ (.head _)))).1
        refine wpAny_dictSet_pairs (hsz := by rw [sizeLine_eq]; omega) (s := { s₁ with heap := h₅, toks := tk₅ }) hkk (Heap.dictOf_iff.mpr ⟨oD, zD, hoD⟩) fun h₆ hl₆ hs₆ => ?_
        obtain ⟨oD', hoD', hdD'⟩ := Heap.dictOf_iff.mp hl₆
        refine ⟨b + 1 - (j + 1), by omega, h₆, _, j + 1, stored kvs kk val, oD', _, i₅, sd₅, ti₅, td₅, rfl, hlt, rfl, cst h₃ h₆ oI heI (hs₆.extBut _ _ hID zI) (j + 1) hst₃, F₅.change hs₆ hDL hD₀, hoC.ns (hs₆.extBut _ _ (Ne.symm hDC) zC), fun p hp => ?_, hdD', ?_, ?_, ?_, hB₅⟩
        · rcases List.mem_cons.mp hp with rfl | hp
          · exact ⟨hoD', hDL, hD₀⟩
          · have z := N₅ p (.tail _ (.tail _ (.tail _ hp)))
            exact ⟨hs₆.extBut _ _ ((offn _).mem p hp).2.2 z.1, z.2⟩
        · have := stored_length_le kvs kk val; omega
        · intro kv hkv
          unfold stored at hkv
          split at hkv
          · obtain ⟨x', hx', rfl⟩ := List.mem_map.mp hkv
            split
            · exact hW x' hx'
            · exact hW x' hx'
          · rcases List.mem_append.mp hkv with hkv | hkv
            · exact hW kv hkv
            · cases List.mem_singleton.mp hkv; exact hWk
        · exact hIv.stored hval
      · obtain rfl : j = b := Nat.le_antisymm hj (Nat.not_lt.mp hlt)
        refine W0.done _ _ _ hst' fun h₂ tk₂ hk₂ => ?_
        have keep2 : ∀ a o, a ≠ I → h'.get? a = some o → h₂.get? a = some o := fun a o ha q => hk₂ a o (by simpa using ha) q
        have F₂ : Fr h₀ env.locals h₂ m := ⟨F'.ns.at' fun o q => keep2 _ o (Ne.symm hIL) q, fun a o q => keep2 a o (fun z => by rw [z, hI₀] at q; cases q) (F'.keep a o q), F'.above⟩
        have N₂ : News h₀ env.locals h₂ ((D, oD) :: nf (stO sl i' sd' ti' td')) := fun p hp => by
          have z := N' p hp
          refine ⟨keep2 _ _ ?_ z.1, z.2⟩
          rcases List.mem_cons.mp hp with rfl | hp
          · exact Ne.symm hID
          · exact ((offn _).mem p hp).1
        show wpAny _ A (assign (.Name y py) env (.ref D)) _ _ _
        refine wpAny_assign_Name (wpAny_storeName_local hy F₂.ns (fun h₃ hn₃ hs₃ => ?_) hp)
        have hL₀ : h₀.get? env.locals = none := Heap.get?_none_of_le F'.above
        have F₃ : Fr h₀ env.locals h₃ (fun z => if z = y then some (.ref D) else m z) := ⟨hn₃, fun a o q => hs₃.extBut a o (fun z => by rw [z, hL₀] at q; cases q) (F₂.keep a o q), F'.above⟩
        have hnC : h₂.Ns C m' := hn'.at' fun o q => keep2 _ o (Ne.symm hIC) q
        refine ⟨m', hnC.sameBut hs₃ hCL, fun h'' hs'' => hfin kvs D oD _ h'' i' sd' ti' td' hoD hkl hW hIv hB' (F₃.change hs'' hCL hC₀) (fun p hp => ?_) (offn _).one⟩
        have z := N₂ p hp
        refine ⟨hs''.extBut _ _ ?_ (hs₃.extBut _ _ z.2.1 z.1), z.2⟩
        rcases List.mem_cons.mp hp with rfl | hp
        · exact hDC
        · exact ((offn _).mem p hp).2.1
    · rcases List.mem_cons.mp hp with rfl | hp
      · exact ⟨hacc, hDL, hD₀⟩
      · rw [nfi] at hp
        exact ⟨old _ _ (N1 p hp).1, (N1 p hp).2⟩
  exact codeAny_compStart_dict (loop _ rfl) (W0.self 0 _ _ _ (cst H1 h₁ oI0 hIg (old _ _ hIg) 0 st₁) (loop _ rfl))
theorem dict_src {kx vx : PySem.Expr} {y : Str} {scope : Scope} {cl : List (Str × Addr)} {Q : Flow → Shared → Prop} {W : Str → Prop} {s₁ : Shared} {r st sl : Addr} {b i sd : Int} {t u v ti td : Tok} {news : List (Addr × Obj)} {nf : Obj → List (Addr × Obj)}
    (hh : A.handled = none) (F : Fr h₀ L s₁.heap m) (N : News h₀ L s₁.heap news) (hr : IsRange s₁.heap r 0 b 1 t u v) (hb0 : 0 ≤ b) (hb1 : b < 5) (U : UpdF st (stO sl i sd ti td) news nf) (hB : Bd i sd)
    (KX : StepW prog w A h₀ L m (fun C => compEnvC scope cl C env) s₁ sl nf kx (fun y => ∃ k, (SK prog w).is k y = true ∧ W k))
    (VX : StepW prog w A h₀ L m (fun C => compEnvC scope cl C env) s₁ sl nf vx (fun y => ∃ (p : Int) (t : Tok), y = .int p t))
    (fin : ∀ kvs D oD tk h' i' sd' ti' td', oD.IsDictOf (SK prog w) kvs → kvs.length ≤ 4 → (∀ kv ∈ kvs, W kv.1) → IntVals kvs → Bd i' sd' → Fr h₀ L h' (fun z => if z = y then some (.ref D) else m z) → News h₀ L h' ((D, oD) :: nf (stO sl i' sd' ti' td')) →
        LCg.Off1 D (nf (stO sl i' sd' ti' td')) → Q .next { s₁ with heap := h', toks := tk }) :
    DictSrc prog w A h₀ L m env scope cl kx vx y W Q (.ref r) s₁ := by
  obtain ⟨n, rfl⟩ := Int.eq_ofNat_of_zero_le hb0
  exact ⟨r, n, t, u, v, news, st, sl, i, sd, ti, td, nf, rfl, hh, F, N, hr, by omega, U, hB, KX, VX, fun kvs D oD tk h' i' sd' ti' td' a b c d e f g h => fin kvs D oD tk h' i' sd' ti' td' a (by omega) c d e f g h⟩
end
end Mine

namespace Mine
open PySem PySem.W PyProof.Rows PySem.Calls PyProof.V
set_option maxRecDepth 100000
set_option maxHeartbeats 8000000
theorem top_off_Upd : True := by
  w_top off
  exact trivial
local macro_rules | `(tactic| walk_at "exec Assign cons DictComp") => `(tactic| (k_here; refine stop_here ?_))
local macro_rules | `(tactic| walk_at "DictSrc") => `(tactic| (k_here; refine stop_here ?_))
local macro_rules | `(tactic| walk_at "call ref") => `(tactic| (k_here; refine stop_here ?_))
local macro_rules | `(tactic| walk_at "call ref") => `(tactic| (k_here; (with_reducible show wpAny _ _ (call (Value.ref _) [Value.ref _, Value.int _ _] _) _ _ _); k_dflt (refine' next_r ?X ?T ?F ?N ?U ?sl ?I ?len ?B ?m0 ?m1 ?h0 ?hd ?hu ?_; (case X => k_asm); (case T => k_asm); (case F => k_asm); (case N => k_asm); (case U => k_updF); (case sl => k_asm); (case I => k_asm); (case len => k_asm); (case B => k_asm); (case m0 => decide); (case m1 => decide); (case h0 => exact rfl); (case hd => exact Nat.le_of_ble_eq_true rfl); (case hu => exact Nat.le_of_ble_eq_true rfl)); intro v' t' h' tk' i' sd' ti' td' B' v0' v1' F' N'; (try dsimp only at N'); (try k_sweep)))
local macro_rules | `(tactic| walk_at "eval Name") => `(tactic| (k_here; (with_reducible show wpAny _ _ (eval (Expr.Name _ _) (compEnvC _ _ _ _)) _ _ _); k_dflt (refine' ld_cell ?N ?c ?m ?d ?_ ?k ?l ?b; (case N => k_asm); (case c => rfl); (case m => k_mem); (case d => k_asm); (case k => rfl); (case l => rfl); (case b => decide))))
local macro_rules | `(tactic| walk_at "subscriptTail") => `(tactic| (k_here; refine stop_here ?_))
local macro_rules | `(tactic| walk_at "call type:dict") => `(tactic| (k_here; (with_reducible show wpAny _ _ (call (Value.type "dict") [Value.ref _]) _ _ _); k_dflt (refine' dcopy_r ?F ?N ?m ?o ?lo ?hn ?_; (case F => k_asm); (case N => k_asm); (case m => k_mem); (case o => k_asm); (case lo => with_reducible assumption); (case hn => omega)); intro x' o' h' F' N' d' l1; (try k_lt l1)))
local macro_rules | `(tactic| walk_at "getMethod ref") => `(tactic| (k_here; k_dflt (refine' gm_n (id := "dict.items") ?N ?m ?o ?lo ?I ?id ?_; (case N => k_asm); (case m => k_mem); (case o => k_asm); (case lo => with_reducible assumption); (case I => with_reducible assumption); (case id => exact rfl))))
local macro_rules | `(tactic| walk_at "call builtin:dict.items") => `(tactic| (k_here; k_dflt (refine' kdx_view ?F ?N ?m ?o ?lo ?_; (case F => k_asm); (case N => k_asm); (case m => k_mem); (case o => k_asm); (case lo => with_reducible assumption)); intro D' h' F' N' l1; (try k_lt l1)))
local macro_rules | `(tactic| walk_at "call type:list") => `(tactic| (k_here; refine stop_here ?_))
local macro_rules | `(tactic| walk_at "call type:list") => `(tactic| (k_here; (with_reducible show wpAny _ _ (call (Value.type "list") [Value.ref _]) _ _ _); k_dflt (refine' items_r ?h ?F ?N ?v ?m ?o ?hn ?_; (case h => exact rfl); (case F => k_asm); (case N => k_asm); (case v => k_mem); (case m => k_mem); (case o => k_asm); (case hn => omega)); intro S' as' tl' c' h' tk' F' N' P' l1; (try simp only [List.cons_append, List.nil_append] at N'); (try k_lt l1)))
local macro_rules | `(tactic| walk_at "binaryOp Add ref ref") => `(tactic| (k_here; refine stop_here ?_))
local macro_rules | `(tactic| walk_at "pyIter") => `(tactic| (k_here; refine stop_here ?_))
local macro_rules | `(tactic| walk_at "exec For") => `(tactic| (k_here; refine stop_here ?_))
local macro_rules | `(tactic| walk_at "exec Assign cons ListComp") => `(tactic| (k_here; refine stop_here ?_))
local macro_rules | `(tactic| walk_at "call type:enumerate") => `(tactic| (k_here; refine stop_here ?_))
local macro_rules | `(tactic| walk_at "subscriptTail Name Constant ref int") => `(tactic| (k_here; refine stop_here ?_))
local macro_rules | `(tactic| walk_at "subscriptTail Name Slice ref ref") => `(tactic| (k_here; refine stop_here ?_))
local macro_rules | `(tactic| walk_at "compareOp NotEq ref ref") => `(tactic| (k_here; refine stop_here ?_))
local macro_rules | `(tactic| walk_at "compareOp Is ref ref") => `(tactic| (k_here; refine stop_here ?_))
local macro_rules | `(tactic| walk_at "compareOp IsNot ref ref") => `(tactic| (k_here; refine stop_here ?_))
local macro_rules | `(tactic| walk_at "eval Dict") => `(tactic| (k_here; refine stop_here ?_))
local macro_rules | `(tactic| walk_at "compareOp Eq ref ref") => `(tactic| (k_here; (with_reducible show wpAny _ _ (compareOp CmpOp.Eq (Value.ref _) (Value.ref _)) _ _ _); k_dflt (refine' eq_dict ?qN ?qa ?qb ?qha ?qhb ?qla ?qlb ?qI ?qu ?_; (case qN => k_asm); (case qa => k_mem); (case qb => k_mem); (case qha => with_reducible assumption); (case qhb => with_reducible assumption); (case qla => with_reducible assumption); (case qlb => with_reducible assumption); (case qI => with_reducible assumption); (case qu => exact Nat.lt_of_lt_of_le (Nat.le_of_ble_eq_true rfl) (Nat.le_refl _)))))
theorem word_of {w : World} {p : Int} {t1 t2 t3 t4 : Tok} {v : Value} (h0 : 0 ≤ p) (h1 : p < 4) (hv : #[Value.str (Str.ofString "a") t1, .str (Str.ofString "b") t2, .str (Str.ofString "c") t3, .str (Str.ofString "e") t4][p.toNat]? = some v) : ∃ k, (SK PR w).is k v = true ∧ Wd k := by
  have hp : p = 0 ∨ p = 1 ∨ p = 2 ∨ p = 3 := by omega
  rcases hp with rfl | rfl | rfl | rfl
  · cases Option.some.inj hv; exact ⟨_, strKind_is _ _ _ _, .inl rfl⟩
  · cases Option.some.inj hv; exact ⟨_, strKind_is _ _ _ _, .inr (.inl rfl)⟩
  · cases Option.some.inj hv; exact ⟨_, strKind_is _ _ _ _, .inr (.inr (.inl rfl))⟩
  · cases Option.some.inj hv; exact ⟨_, strKind_is _ _ _ _, .inr (.inr (.inr rfl))⟩
theorem upd_c {w : World} : RoundC w 296 := by
  intro mg mb mean G₀ X T s st sl vs ns i sd ti td hgens hG hst hf hsl hne hI hlen hB R hR
  obtain ⟨hp0, gs0, d0, t0, os0⟩ := s
  dsimp only at hgens hG hst hsl hR
  subst hgens
  refine' own_callC (binds := [(Str.ofString "state", .ref st)]) [(st, stO sl i sd ti td)] X T hG ?hx ?ho ?hcd ?hroom ?hbind ?hkind ?hnd ?_ ?c2 ?c3 ?c4
  case ho => k_is
  case hcd => k_is
  case hroom => decide
  case hbind => exact BindsTo.of_eq rfl
  case hkind => exact rfl
  case hnd => decide +kernel
  case c2 => exact rfl
  case c3 => exact rfl
  case c4 => exact rfl
  case hx => intro q hq; cases List.mem_singleton.mp hq; exact ⟨hst, hf⟩
  intro g L h₁ tk₁ cells F N Y Xg Tg hGg hk l1
  k_lt l1
  k_cells Y
  simp only [List.cons_append, List.nil_append] at N
  have hslg : g.IsList sl vs.toArray := by
    obtain ⟨o, ho, r⟩ := hsl
    exact ⟨o, hk _ _ ho (by simpa using hne), r⟩
  have hR' : ∀ (h' : Heap) (tk : Nat) (i' sd' : Int) (ti' td' : Tok) (L' : Addr) (m' : Str → Option Value), Fr g L' h' m' → h'.get? st = some (stO sl i' sd' ti' td') →
      Bd i' sd' → R (.ok (.ret (.bool true))) ⟨h', #[], d0, tk, os0⟩ := fun h' tk i' sd' ti' td' L' m' F' hs =>
    hR h' tk i' sd' ti' td' (fun b o e hb => F'.keep b o (hk b o e (by simpa using hb))) hs
  clear hk hGg hG hst hf hsl X T hR
  (try dsimp only)
  (try k_fold)
  k_steps
  refine stop_out ?_
  refine' asg_dict Wd ?hF ?hLe ?hsw ?hclos ?hcell ?hkind ?hnames ?hx ?hy ?hp ?_
  case hF => k_asm
  case hLe => rfl
  case hsw => with_unfolding_all rfl
  case hclos => with_unfolding_all rfl
  case hcell => decide
  case hkind => rfl
  case hnames => decide
  case hx => rfl
  case hy => rfl
  case hp => rfl
  k_steps
  refine stop_out ?_
  refine' dict_src (st := st) (sl := sl) ?hh ?F ?N ?r ?b0 ?b1 ?U ?B ?kx ?vx ?fin
  case hh => exact rfl
  case F => k_asm
  case N => k_asm
  case r => assumption
  case b0 => omega
  case b1 => omega
  case U => k_updF
  case B => assumption
  case kx =>
    intro i' sd' ti' td' B' s₂ hg2 I oI C oC D oD m₂ E' hC F' N' off ne
    (try dsimp only at N' off)
    (try simp only [LCg.Off3, and_true] at off)
    k_steps
    refine stop_out ?_
    k_dflt (refine' item_r ?N ?l ?a ?b ?c ?_ ?d; (case N => k_asm); (case l => k_mem); (case a => with_reducible assumption); (case c => (show 4 < 2 ^ 62); decide); (case b => (show _ < (4 : Int)); with_reducible assumption); (case d => with_unfolding_all rfl))
    intro v hv
    exact StepEnd.intro (word_of (by assumption) (by assumption) hv) (by assumption) (by assumption) (by assumption)
  case vx =>
    intro i' sd' ti' td' B' s₂ hg2 I oI C oC D oD m₂ E' hC F' N' off ne
    (try dsimp only at N' off)
    (try simp only [LCg.Off3, and_true] at off)
    k_steps
    exact StepEnd.intro ⟨_, _, rfl⟩ (by assumption) (by assumption) (by assumption)
  case fin =>
    intro kvs1 D1 oD1 tkD1 hp1 i1 sd1 ti1 td1 hd1 hl1 hw1 hi1 B1 F1 N1 off1
    (try dsimp only at N1 off1)
    (try simp only [LCg.Off1, and_true] at off1)
    have lo1 : (D1 == sysModules) = false := lo_of Xg (N1 _ (.head _)).2.2
    k_steps
    refine stop_out ?_
    refine' asg_dict Wd ?hF ?hLe ?hsw ?hclos ?hcell ?hkind ?hnames ?hx ?hy ?hp ?_
    case hF => k_asm
    case hLe => rfl
    case hsw => with_unfolding_all rfl
    case hclos => with_unfolding_all rfl
    case hcell => decide
    case hkind => rfl
    case hnames => decide
    case hx => rfl
    case hy => rfl
    case hp => rfl
    k_steps
    refine stop_out ?_
    refine' dict_src (st := st) (sl := sl) ?hh ?F ?N ?r ?b0 ?b1 ?U ?B ?kx ?vx ?fin
    case hh => exact rfl
    case F => k_asm
    case N => k_asm
    case r => assumption
    case b0 => omega
    case b1 => omega
    case U => k_updF
    case B => assumption
    case kx =>
      intro i' sd' ti' td' B' s₂ hg2 I oI C oC D oD m₂ E' hC F' N' off ne
      (try dsimp only at N' off)
      (try simp only [LCg.Off3, and_true] at off)
      k_steps
      refine stop_out ?_
      k_dflt (refine' item_r ?N ?l ?a ?b ?c ?_ ?d; (case N => k_asm); (case l => k_mem); (case a => with_reducible assumption); (case c => (show 4 < 2 ^ 62); decide); (case b => (show _ < (4 : Int)); with_reducible assumption); (case d => with_unfolding_all rfl))
      intro v hv
      exact StepEnd.intro (word_of (by assumption) (by assumption) hv) (by assumption) (by assumption) (by assumption)
    case vx =>
      intro i' sd' ti' td' B' s₂ hg2 I oI C oC D oD m₂ E' hC F' N' off ne
      (try dsimp only at N' off)
      (try simp only [LCg.Off3, and_true] at off)
      k_steps
      exact StepEnd.intro ⟨_, _, rfl⟩ (by assumption) (by assumption) (by assumption)
    case fin =>
      intro kvs2 D2 oD2 tkD2 hp2 i2 sd2 ti2 td2 hd2 hl2 hw2 hi2 B2 F2 N2 off2
      (try dsimp only at N2 off2)
      (try simp only [LCg.Off1, and_true] at off2)
      have lo2 : (D2 == sysModules) = false := lo_of Xg (N2 _ (.head _)).2.2
      k_steps
      refine stop_out ?_
      refine' asg_dict Wd ?hF ?hLe ?hsw ?hclos ?hcell ?hkind ?hnames ?hx ?hy ?hp ?_
      case hF => k_asm
      case hLe => rfl
      case hsw => with_unfolding_all rfl
      case hclos => with_unfolding_all rfl
      case hcell => decide
      case hkind => rfl
      case hnames => decide
      case hx => rfl
      case hy => rfl
      case hp => rfl
      k_steps
      refine stop_out ?_
      refine' dict_src (st := st) (sl := sl) ?hh ?F ?N ?r ?b0 ?b1 ?U ?B ?kx ?vx ?fin
      case hh => exact rfl
      case F => k_asm
      case N => k_asm
      case r => assumption
      case b0 => omega
      case b1 => omega
      case U => k_updF
      case B => assumption
      case kx =>
        intro i' sd' ti' td' B' s₂ hg2 I oI C oC D oD m₂ E' hC F' N' off ne
        (try dsimp only at N' off)
        (try simp only [LCg.Off3, and_true] at off)
        k_steps
        refine stop_out ?_
        k_dflt (refine' item_r ?N ?l ?a ?b ?c ?_ ?d; (case N => k_asm); (case l => k_mem); (case a => with_reducible assumption); (case c => (show 4 < 2 ^ 62); decide); (case b => (show _ < (4 : Int)); with_reducible assumption); (case d => with_unfolding_all rfl))
        intro v hv
        exact StepEnd.intro (word_of (by assumption) (by assumption) hv) (by assumption) (by assumption) (by assumption)
      case vx =>
        intro i' sd' ti' td' B' s₂ hg2 I oI C oC D oD m₂ E' hC F' N' off ne
        (try dsimp only at N' off)
        (try simp only [LCg.Off3, and_true] at off)
        k_steps
        exact StepEnd.intro ⟨_, _, rfl⟩ (by assumption) (by assumption) (by assumption)
      case fin =>
        intro kvs3 D3 oD3 tkD3 hp3 i3 sd3 ti3 td3 hd3 hl3 hw3 hi3 B3 F3 N3 off3
        (try dsimp only at N3 off3)
        (try simp only [LCg.Off1, and_true] at off3)
        have lo3 : (D3 == sysModules) = false := lo_of Xg (N3 _ (.head _)).2.2
        k_steps
        have hnd1 : (kvs1.map (·.1)).Nodup := (let ⟨_, _, _, _, _, _, hn⟩ := hd1; hn)
        refine stop_out ?_
        rename_i xb ob _ hdb _ ld _ _ Dt _ _ _ _ hcur Fcur Ncur
        have lob : (xb == sysModules) = false := lo_of Xg (Ncur (xb, ob) (by k_mem)).2.2
        obtain ⟨oW, hmW, ovW, hdW⟩ : ∃ oW : Obj, (hcur.get? (L + 1 + 1 + 1) = some oW ∧ (@Ne Nat (L + 1 + 1 + 1) L) ∧ g.get? (L + 1 + 1 + 1) = none) ∧ ∃ ov : Option Value, oW.data = Data.cell ov := ⟨_, Ncur (L + 1 + 1 + 1, _) (by k_mem), _, by with_reducible assumption⟩
        have Nb : News g L hcur [(ld, listOf #[] 0), (xb, ob), (D3, oD3), (D2, oD2), (D1, oD1), (L + 1 + 1 + 1, oW), (st, stO sl i3 sd3 ti3 td3)] := news_consx (Ncur (ld, _) (by k_mem)) (news_consx (Ncur (xb, _) (by k_mem)) (news_consx (Ncur (D3, _) (by k_mem)) (news_consx (Ncur (D2, _) (by k_mem)) (news_consx (Ncur (D1, _) (by k_mem)) (news_consx hmW (news_consx (Ncur (st, _) (by k_mem)) news_nilx))))))
        clear Ncur hmW
        refine wpAny_For ?_
        k_steps
        refine stop_out ?_
        with_reducible rename (PairsIn _ _ kvs1) => P1
        with_reducible rename (PairsIn _ _ kvs2) => P2
        k_dflt (refine' add_r ?F ?N ?a ?b ?z ?_; (case F => k_asm); (case N => k_asm); (case a => k_mem); (case b => k_mem); (case z => (have q1 := P1.length); (have q2 := P2.length); omega))
        intro x5 h5 F5 N5 lx5
        (try k_lt lx5)
        k_steps
        refine stop_out ?_
        with_reducible rename (PairsIn _ _ kvs3) => P3
        k_dflt (refine' add_r ?F ?N ?a ?b ?z ?_; (case F => k_asm); (case N => k_asm); (case a => k_mem); (case b => k_mem); (case z => (have q1 := P1.length); (have q2 := P2.length); (have q3 := P3.length); simp only [List.length_append]; omega))
        intro x6 h6 F6 N6 lx6
        (try k_lt lx6)
        k_steps
        refine stop_out ?_
        refine wpAny_pyIter_list ⟨_, (N6 (x6, _) (by k_mem)).1, rfl, _, rfl⟩ ?_
        generalize htl : (_ ++ _ ++ _ : List (Addr × Obj)) = tlx at N6
        have PX : PairsIn tlx _ (kvs1 ++ kvs2 ++ kvs3) := htl ▸ ((P1.more fun p hp => List.mem_append_left _ (List.mem_append_left _ hp)).append (P2.more fun p hp => List.mem_append_left _ (List.mem_append_right _ hp))).append (P3.more fun p hp => List.mem_append_right _ hp)
        clear htl P1 P2 P3
        generalize (_ ++ _ ++ _ : List Addr) = asx at N6 PX
        obtain ⟨tlp, hp1, PY⟩ := PX.own
        have N7 : News g L h6 ((L + 1 + 1 + 1, oW) :: (ld, listOf (refs []).toArray 0) :: (x6, listOf (refs asx).toArray 0) :: (xb, ob) :: (D3, oD3) :: (D2, oD2) :: (D1, oD1) :: (st, stO sl i3 sd3 ti3 td3) :: tlp) := news_consx (N6 (L + 1 + 1 + 1, _) (by k_mem)) (news_consx (N6 (ld, _) (by k_mem)) (news_consx (N6 (x6, _) (by k_mem)) (news_consx (N6 (xb, _) (by k_mem)) (news_consx (N6 (D3, _) (by k_mem)) (news_consx (N6 (D2, _) (by k_mem)) (news_consx (N6 (D1, _) (by k_mem)) (news_consx (N6 (st, _) (by k_mem)) (fun p hp => N6 p (by repeat (first | exact (hp1 p hp).1 | apply List.mem_cons_of_mem)))))))))) 
        with_reducible rename (Fr g L h6 _) => F7
        have far := news_far N7
        refine' due_loop (rows := kvs1 ++ kvs2 ++ kvs3) ?hh ?hL ?hk ?hword ?hcl ?hval ?hdw ?hpp ?hr ?hIr ?hturn (fr_as (F7.push _) (um_self rfl rfl rfl)) (N7.grown fun _ _ e => Heap.get?_push_of_some _ e) hdW ?hls ?hx (nocell hdb hd3 hd2 hd1 fun p hp => (hp1 p hp).2) ?hI0 ?hIg ?hIL ?hIW ?hId ⟨_, Heap.get?_push_size _ rfl, rfl, rfl⟩ ?hR
        case hh => exact rfl
        case hL => rfl
        case hk => rfl
        case hword => rfl
        case hcl => rfl
        case hval => rfl
        case hdw => decide
        case hpp => rfl
        case hr => simp only [List.length_append]; omega
        case hIr => exact (hi1.append hi2).append hi3
        case hls => exact .head _
        case hx => exact PY.more fun p hp => by repeat (first | exact hp | apply List.mem_cons_of_mem)
        case hI0 => exact fun p hp => far p (.tail _ (.tail _ hp))
        case hIg => exact (fresh_of F7 (Nat.le_refl _)).2
        case hIL => exact (fresh_of F7 (Nat.le_refl _)).1
        case hIW => exact Ne.symm (far _ (.head _))
        case hId => exact Ne.symm (far _ (.tail _ (.head _)))
        case hturn =>
          intro k t v kvs das due cd fv bt oI oWt s₂ hg2 hnd hkl hdl hP hWt Ft Nt
          k_steps
          refine stop_out ?_
          k_dflt (refine asg_enum (by k_asm) (by rfl) (by with_unfolding_all rfl) (by with_unfolding_all rfl) (by decide) (by rfl) (by decide) (by rfl) (by rfl) (by decide) (by decide) (by rfl) (by rfl) ?_)
          k_steps
          refine stop_out ?_
          k_dflt (refine' enum_call ?eF ?eN ?el ?_)
          case eF => k_asm
          case eN => k_asm
          case el => k_mem
          intro e it h4 F4 N4 hen hit hei hoff hge hgi hLe hLi
          refine ⟨e, it, _, _, _, hitK kvs k, _, rfl, rfl, F4, N4, by k_mem, ?_, hen, hit, hei, hoff, hge, hgi, hLe, hLi, ?_, ?_⟩
          · rw [List.size_toArray, List.length_map, sizeLine_eq]; omega
          · intro i va hva s₃ C oC m₂ E' hg3 hC hx F' N' off
            obtain ⟨a, ha, rfl⟩ : ∃ a, das[i]? = some a ∧ Value.ref a = va := by simpa using hva
            obtain ⟨kr, tr, vr, ekv, hmT⟩ := hP.get i a ha
            k_steps
            refine stop_out ?_
            with_reducible rename (News g L _ _) => Nq
            refine' item_tuple (items := #[.str kr tr, vr]) (x := .str kr tr) (j := 0) ⟨_, (Nq (a, _) (.tail _ (.tail _ (.tail _ (.tail _ hmT))))).1, rfl, _, rfl⟩ (by decide) (by decide) rfl rfl ?_ ?hs ?hg
            case hs => with_unfolding_all rfl
            case hg => intro _; with_unfolding_all rfl
            k_steps
            refine TestEnd.intro (tk' := s₃.toks + 1) ?_
            show (kr == k) = hitK kvs k i
            unfold hitK
            rw [ekv]
            show (kr == k) = decide (some kr = some k)
            by_cases q : kr = k
            · simp [q]
            · simp [q]
          · intro g4 zs hz
            rw [show (refs das).toArray.size = kvs.length by simp [hdl]] at hz
            k_steps
            · refine stop_out ?_
              with_reducible rename (decide (_ = _) = true) => hq
              k_dflt (refine' add_one_r ?aF ?aN ?aa ?ab ?az ?_; (case aF => k_asm); (case aN => k_asm); (case aa => k_mem); (case ab => k_mem); (case az => omega))
              intro x9 h9 F9 N9 lx9
              (try k_lt lx9)
              k_steps
              refine' DueEnd.intro ?dF ?dN ?dd ?dm ?dW hWt ?dI ?dbt ?dP
              case dF => k_asm
              case dN => k_asm
              case dd => k_mem
              case dm => exact fun y => um_end y
              case dW => k_mem
              case dI => k_mem
              case dbt => exact fun p hp => by repeat (first | exact hp | apply List.mem_cons_of_mem)
              case dP =>
                exact (stored_new (idx_none (of_decide_eq_true hq))) ▸ (hP.more fun p hp => by repeat (first | exact hp | apply List.mem_cons_of_mem)).append (.cons (by k_mem) .nil)
            · refine stop_out ?_
              with_reducible rename (decide (_ = _) = false) => hq
              have hzl : 0 < zs.length := by
                rw [hz.length]
                exact List.length_pos_iff.mpr (of_decide_eq_false hq)
              k_dflt (refine' item_r ?bN ?bl ?ba ?bb ?bc ?_ ?bd; (case bN => k_asm); (case bl => k_mem); (case ba => decide); (case bc => (rw [List.size_toArray, hz.length]; have := idx_le (hitK kvs k) kvs.length; omega)); (case bb => (rw [List.size_toArray]; omega)); (case bd => with_unfolding_all rfl))
              intro v9 hv9
              obtain ⟨p9, t9, hp9, rfl⟩ := ints_get hz 0 v9 (by simpa using hv9)
              obtain ⟨i9, v0, rfl, hkv9, hi9⟩ := idx_first (List.mem_of_getElem? hp9)
              k_steps
              refine stop_out ?_
              k_dflt (refine' slice_to ?cF ?cN ?cl ?cz ?_ ?cs ?ct; (case cF => k_asm); (case cN => k_asm); (case cl => k_mem); (case cz => omega); (case cs => with_unfolding_all rfl); (case ct => intro _; with_unfolding_all rfl))
              intro d10 h10 F10 N10 lx10
              (try k_lt lx10)
              k_steps
              refine stop_out ?_
              k_dflt (refine' add_one_r ?aF ?aN ?aa ?ab ?az ?_; (case aF => k_asm); (case aN => k_asm); (case aa => k_mem); (case ab => k_mem); (case az => (rw [List.length_take]; omega)))
              intro x11 h11 F11 N11 lx11
              (try k_lt lx11)
              k_steps
              refine stop_out ?_
              k_dflt (refine' item_r ?bN ?bl ?ba ?bb ?bc ?_ ?bd; (case bN => k_asm); (case bl => k_mem); (case ba => decide); (case bc => (rw [List.size_toArray, hz.length]; have := idx_le (hitK kvs k) kvs.length; omega)); (case bb => (rw [List.size_toArray]; omega)); (case bd => with_unfolding_all rfl))
              intro v12 hv12
              rw [hv9] at hv12
              obtain rfl := Option.some.inj hv12
              k_steps
              refine stop_out ?_
              k_dflt (refine' slice_fr ?cF ?cN ?cl ?cz ?_ ?cs ?ct; (case cF => k_asm); (case cN => k_asm); (case cl => k_mem); (case cz => omega); (case cs => with_unfolding_all rfl); (case ct => intro _; with_unfolding_all rfl))
              intro d13 h13 F13 N13 lx13
              (try k_lt lx13)
              k_steps
              refine stop_out ?_
              k_dflt (refine' add_r ?aF ?aN ?aa ?ab ?az ?_; (case aF => k_asm); (case aN => k_asm); (case aa => k_mem); (case ab => k_mem); (case az => (simp only [List.length_append, List.length_take, List.length_drop, List.length_cons, List.length_nil]; omega)))
              intro x14 h14 F14 N14 lx14
              (try k_lt lx14)
              k_steps
              refine' DueEnd.intro ?dF ?dN ?dd ?dm ?dW hWt ?dI ?dbt ?dP
              case dF => k_asm
              case dN => k_asm
              case dd => k_mem
              case dm => exact fun y => um_end y
              case dW => k_mem
              case dI => k_mem
              case dbt => exact fun p hp => by repeat (first | exact hp | apply List.mem_cons_of_mem)
              case dP => exact (stored_at hnd hkv9) ▸ (((hP.take i9).more fun p hp => by repeat (first | exact hp | apply List.mem_cons_of_mem)).append (.cons (by k_mem) .nil)).append ((hP.drop (i9 + 1)).more fun p hp => by repeat (first | exact hp | apply List.mem_cons_of_mem))
        case hR =>
          intro h8 tk8 due das cd8 vv fv oW8 bt F8 N8 hbt PB
          rw [law_due hnd1] at PB
          have N9 : News g L h8 ((due, listOf (refs das).toArray cd8) :: (xb, ob) :: (D3, oD3) :: (D2, oD2) :: (D1, oD1) :: (st, stO sl i3 sd3 ti3 td3) :: bt) := news_consx (N8 _ (.head _)) (news_consx (N8 (xb, _) (.tail _ (.tail _ (hbt _ (by k_mem))))) (news_consx (N8 (D3, _) (.tail _ (.tail _ (hbt _ (by k_mem))))) (news_consx (N8 (D2, _) (.tail _ (.tail _ (hbt _ (by k_mem))))) (news_consx (N8 (D1, _) (.tail _ (.tail _ (hbt _ (by k_mem))))) (news_consx (N8 (st, _) (.tail _ (.tail _ (hbt _ (by k_mem))))) (fun p hp => N8 p (.tail _ (.tail _ hp))))))))
          clear N8 hbt
          k_steps
          refine uc_kw Xg rfl rfl ?_
          k_steps
          with_reducible rename (Fr g L _ _) => F10
          with_reducible rename (News g L _ _) => N10
          with_reducible rename (Obj.IsDictOf _ _ kvs2) => hd2c
          have far10 := news_far N10
          have F11 := F10.push ({ cls := .type "dict", data := .dict #[] } : Obj)
          have N11 := N10.grown (fun b o e => Heap.get?_push_of_some ({ cls := .type "dict", data := .dict #[] } : Obj) e)
          refine wpAny_bind ?_
          k_steps
          refine wpAny_bind (wpAny_standAt (wpAny_pure ⟨D3, kvs3, rfl, lo3, far10 (D3, oD3) (by k_mem), fun _ _ e => e, kda_dict (knd := SK PR w) N11 (d := D3) (o := oD3) (by k_mem) hd3, by omega, fun h12 k12 => ?_⟩))
          have F12 := F10.keeps (fun b o e => k12 b o (Nat.ne_of_lt (Heap.lt_size e)) (Heap.get?_push_of_some _ e))
          have N12 := N10.grown (fun b o e => k12 b o (Nat.ne_of_lt (Heap.lt_size e)) (Heap.get?_push_of_some _ e))
          refine ⟨F12.keep, ?_⟩
          clear F10 N10 F11 N11 far10 k12
          refine' upd_call (kvs1 := kvs1) (kvs2 := kvs2) Xg Tg F12 N12 ?hg ?m1 ?m2 hd1 hd2c lo1 ?lo2 hi1 hi2 ?l1 ?l2 hw3 ?nd ?l3 ?h0 ?hd ?hu ?_
          case hg => exact rfl
          case m1 => k_mem
          case m2 => k_mem
          case lo2 => exact lo_of Xg (N12 (_, _) (by k_mem)).2.2
          case l1 => omega
          case l2 => omega
          case nd => exact (let ⟨_, _, _, _, _, _, hn⟩ := hd3; hn)
          case l3 => omega
          case h0 => exact rfl
          case hd => exact Nat.le_of_ble_eq_true rfl
          case hu => exact Nat.le_of_ble_eq_true rfl
          intro xT oT hT tkT FT NT hdT neT
          have loT : (xT == sysModules) = false := lo_of Xg (NT (xT, oT) (.head _)).2.2
          have hIT : IntVals (merged (merged kvs1 kvs2) kvs3) := (hi1.merged hi2).merged hi3
          have hlT : (merged (merged kvs1 kvs2) kvs3).length ≤ 100 := by
            have a := merged_length_le (merged kvs1 kvs2) kvs3
            have b := merged_length_le kvs1 kvs2
            omega
          have neT1 : xT ≠ D1 := Ne.symm (neT (D1, oD1) (by k_mem))
          clear neT
          k_steps
          refine stop_out ?_
          with_reducible rename (PairsIn _ _ (merged (merged kvs1 kvs2) kvs3)) => PT
          k_dflt (refine' ne_pairs (kvs := merged (merged kvs1 kvs2) kvs3) ?q21N ?q21a ?q21b ?q21pa ?q21pb hIT ?q21u ?_; (case q21N => k_asm); (case q21a => k_mem); (case q21b => k_mem); (case q21u => exact Nat.lt_of_lt_of_le (Nat.le_of_ble_eq_true rfl) (Nat.le_refl _)); (case q21pa => exact PT.more (fun p hp => by repeat (first | exact List.mem_append_right _ hp | apply List.mem_cons_of_mem))); (case q21pb => exact PB.more (fun p hp => by repeat (first | exact List.mem_append_left _ hp | apply List.mem_cons_of_mem))))
          k_steps
          refine stop_out ?_
          k_dflt (refine' is_dict ?q22N ?q22a ?q22b hdT neT1 ?_; (case q22N => k_asm); (case q22a => k_mem); (case q22b => k_mem))
          k_steps
          refine stop_out ?_
          k_dflt (refine' ne_dict ?q23N ?q23a ?q23b hd1 hdb lo1 lob hi1 ?q23u ?_; (case q23N => k_asm); (case q23a => k_mem); (case q23b => k_mem); (case q23u => exact Nat.lt_of_lt_of_le (Nat.le_of_ble_eq_true rfl) (Nat.le_refl _)))
          k_steps
          refine stop_out ?_
          k_dflt (refine' keys_r ?q24hh ?q24hg ?q24F ?q24N ?q24m hd1 lo1 ?q24hn ?_; (case q24hh => exact rfl); (case q24hg => exact rfl); (case q24F => k_asm); (case q24N => k_asm); (case q24m => k_mem); (case q24hn => omega))
          intro x30 us30 c30 h30 tk30 F30 N30 K30 ne30
          clear ne30
          k_steps
          refine stop_out ?_
          k_dflt (refine' keys_r ?q25hh ?q25hg ?q25F ?q25N ?q25m hdb lob ?q25hn ?_; (case q25hh => exact rfl); (case q25hg => exact rfl); (case q25F => k_asm); (case q25N => k_asm); (case q25m => k_mem); (case q25hn => omega))
          intro x31 us31 c31 h31 tk31 F31 N31 K31 ne31
          clear ne31
          k_steps
          refine stop_out ?_
          k_dflt (refine' ne_told_l (us := us30) (dv := us31) ?q26N ?q26l ?q26l2 (K30.eqv K31) ?q26hu ?_; (case q26N => k_asm); (case q26l => k_mem); (case q26l2 => k_mem); (case q26hu => exact Nat.lt_of_lt_of_le (Nat.le_of_ble_eq_true rfl) (Nat.le_refl _)))
          k_steps
          refine stop_out ?_
          k_dflt (refine' upd_call_n (ex := []) (.inr rfl) Xg Tg ?q40F ?q40N ?q40g ?q40m hd1 lo1 hi1 ?q40l (fun _ hk => nomatch hk) List.nodup_nil ?q40x ?q40h0 ?q40hd ?q40hu ?_; (case q40F => k_asm); (case q40N => k_asm); (case q40g => exact rfl); (case q40m => k_mem); (case q40l => omega); (case q40x => exact Nat.zero_le _); (case q40h0 => exact rfl); (case q40hd => exact Nat.le_of_ble_eq_true rfl); (case q40hu => exact Nat.le_of_ble_eq_true rfl))
          intro xA oA hA tkA FA NA hdA' neA
          have hdA : oA.IsDictOf (SK PR w) kvs1 := hdA'
          have loA : (xA == sysModules) = false := lo_of Xg (NA (xA, oA) (.head _)).2.2
          have neA1 : xA ≠ D1 := Ne.symm (neA (D1, oD1) (by k_mem))
          clear neA hdA'
          k_steps
          refine stop_out ?_
          k_dflt (refine' isnot_dict ?q41N ?q41a ?q41b hdA neA1 ?_; (case q41N => k_asm); (case q41a => k_mem); (case q41b => k_mem))
          k_steps
          refine uc_kw Xg rfl rfl ?_
          k_steps
          with_reducible rename (Fr g L _ _) => F50
          with_reducible rename (News g L _ _) => N50
          have far50 := news_far N50
          have F51 := F50.push ({ cls := .type "dict", data := .dict #[] } : Obj)
          have N51 := N50.grown (fun b o e => Heap.get?_push_of_some ({ cls := .type "dict", data := .dict #[] } : Obj) e)
          refine wpAny_bind ?_
          k_steps
          refine wpAny_bind (wpAny_standAt (wpAny_pure ⟨D3, kvs3, rfl, lo3, far50 (D3, oD3) (by k_mem), fun _ _ e => e, kda_dict (knd := SK PR w) N51 (d := D3) (o := oD3) (by k_mem) hd3, by omega, fun h52 k52 => ?_⟩))
          have F52 := F50.keeps (fun b o e => k52 b o (Nat.ne_of_lt (Heap.lt_size e)) (Heap.get?_push_of_some _ e))
          have N52 := N50.grown (fun b o e => k52 b o (Nat.ne_of_lt (Heap.lt_size e)) (Heap.get?_push_of_some _ e))
          refine ⟨F52.keep, ?_⟩
          clear F50 N50 F51 N51 far50 k52
          k_dflt (refine' upd_call_n (ex := kvs3) (.inl rfl) Xg Tg ?q42F ?q42N ?q42g ?q42m hd1 lo1 hi1 ?q42l hw3 ?q42nd ?q42x ?q42h0 ?q42hd ?q42hu ?_; (case q42F => k_asm); (case q42N => k_asm); (case q42g => exact rfl); (case q42m => k_mem); (case q42l => omega); (case q42nd => exact (let ⟨_, _, _, _, _, _, hn⟩ := hd3; hn)); (case q42x => omega); (case q42h0 => exact rfl); (case q42hd => exact Nat.le_of_ble_eq_true rfl); (case q42hu => exact Nat.le_of_ble_eq_true rfl))
          intro xB oB hB5 tkB FB NB hdB neB
          have loB : (xB == sysModules) = false := lo_of Xg (NB (xB, oB) (.head _)).2.2
          have hI13 : IntVals (merged kvs1 kvs3) := hi1.merged hi3
          clear neB
          k_steps
          refine stop_out ?_
          with_reducible rename (Fr g L _ _) => F60
          with_reducible rename (News g L _ _) => N60
          rw [arm_eval_Dict]
          refine wpAny_bind (wpAny_standAt ?_)
          show wpAny _ _ (dictDisplay [(none, _), (none, _)]) _ _ _
          refine' disp2 (ka := kvs1) (kb := kvs3) lo1 lo3 ?q60x ?q60y (kda_dict (knd := SK PR w) N60 (d := D1) (o := oD1) (by k_mem) hd1) (kda_dict (knd := SK PR w) N60 (d := D3) (o := oD3) (by k_mem) hd3) ?q60l ?q60m ?_
          case q60l => omega
          case q60m => omega
          case q60x =>
            intro s' Q' E' k' hq
            have F61 := F60.keeps k'
            have N61 := N60.grown k'
            clear F60 N60
            refine wpAny_bind ?_
            k_steps
            exact wpAny_bind (wpAny_standAt (wpAny_pure hq))
          case q60y =>
            intro s' Q' E' k' hq
            have F61 := F60.keeps k'
            have N61 := N60.grown k'
            clear F60 N60
            refine wpAny_bind ?_
            k_steps
            exact wpAny_bind (wpAny_standAt (wpAny_pure hq))
          intro dD hD hD0 kD hdD
          obtain ⟨oD, FD, ND, hdD', neD⟩ := dict_led F60 N60 kD hD0 hdD
          have loD : (dD == sysModules) = false := lo_of Xg (ND (dD, oD) (.head _)).2.2
          clear F60 N60 kD hD0 hdD neD
          k_steps
          with_reducible rename (News g L _ _) => NZ
          refine' hR' _ _ _ _ _ _ _ _ ?zf (NZ (st, _) ?zm).1 ?zB
          case zm => k_mem
          case zf => k_asm
          case zB => exact B3
end Mine

namespace Mine
open PySem PySem.W PyProof.Rows PySem.Calls
set_option maxRecDepth 100000
set_option maxHeartbeats 8000000
theorem top_off_Law : True := by
  w_top off
  exact trivial
local macro_rules | `(tactic| walk_at "call ref") => `(tactic| (k_here; (with_reducible show wpAny _ _ (call (Value.ref _) [Value.ref _] _) _ _ _); k_dflt ( (first | refine' round_r (lists_c) ?X ?T ?F ?N ?U ?g ?sl ?ne ?I ?len ?B ?h0 ?hd ?hu ?_ | refine' round_r (rep_c) ?X ?T ?F ?N ?U ?g ?sl ?ne ?I ?len ?B ?h0 ?hd ?hu ?_ | refine' round_r (upd_c) ?X ?T ?F ?N ?U ?g ?sl ?ne ?I ?len ?B ?h0 ?hd ?hu ?_); (case X => k_asm); (case T => k_asm); (case F => k_asm); (case N => k_asm); (case U => k_updF); (case g => k_asm); (case sl => k_mem); (case ne => k_ne); (case I => k_asm); (case len => omega); (case B => first | with_reducible assumption | exact ⟨by decide, by decide, by decide, by decide⟩); (case h0 => exact rfl); (case hd => exact Nat.le_of_ble_eq_true rfl); (case hu => exact Nat.le_of_ble_eq_true rfl)); intro h' tk' i' sd' ti' td' B' F' N'; (try dsimp only at N'); (try k_sweep)))
theorem holds0 : PySem.Challenge.rw_bq5035_01.Holds := Mine.hd (by
  k_go0
  k_steps)
end Mine

set_option maxRecDepth 100000 in
set_option maxHeartbeats 8000000 in
theorem PySem.Challenge.cw_bq5035_01_holds : PySem.Challenge.rw_bq5035_01.Holds := by
  exact Mine.holds0
