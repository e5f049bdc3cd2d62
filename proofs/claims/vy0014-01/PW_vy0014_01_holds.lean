import PyProof.Rows.All
import Wide.All
import OpenK.AllK
import Wide.FinOn
import Lean
import PySem.Challenge.RW_vy0014_01
open PySem PySem.W PyProof.Rows
set_option Elab.async false
set_option maxRecDepth 100000
set_option maxHeartbeats 8000000
namespace Mine
open_top hd for PySem.Challenge.rw_vy0014_01
end Mine
section
open PySem PySem.W PyProof.Rows PySem.Calls PySem.Spec
set_option maxRecDepth 100000
namespace Mine
theorem rs0 : True := by
  w_top off
  trivial
abbrev ar (dp un : Nat) (gd : Option (List Code)) (fr : List Env) : Around := { handled := none, depth := dp, frames := some fr, guards := gd, units := un }

/-- the addresses of the frames below -/
def frs (fr : List Env) : List Addr := fr.filterMap (·.frame)
theorem mem_frs {fr : List Env} {a : Addr} : a ∈ frs fr ↔ ∃ env ∈ fr, env.frame = some a := by
  unfold frs; rw [List.mem_filterMap]

/-- all that stands in h, less what stands in g and less the addresses of off -/
def others (g h : Heap) (off : List Addr) : List (Addr × Obj) :=
  (List.range h.objs.size).filterMap fun a => if off.contains a || (g.get? a).isSome then none else (h.get? a).map fun o => (a, o)
theorem mem_others {g h : Heap} {off : List Addr} {a : Addr} {o : Obj} : (a, o) ∈ others g h off ↔ h.get? a = some o ∧ a ∉ off ∧ g.get? a = none := by
  unfold others
  rw [List.mem_filterMap]
  constructor
  · rintro ⟨b, _, e⟩
    split at e
    · cases e
    · rename_i hc
      obtain ⟨o', ho, e⟩ := Option.map_eq_some_iff.mp e
      cases e
      simp only [Bool.or_eq_true, List.contains_iff_mem, not_or, Bool.not_eq_true, Option.isSome_eq_false_iff, Option.isNone_iff_eq_none] at hc
      exact ⟨ho, hc.1, hc.2⟩
  · rintro ⟨ho, hf, hg⟩
    refine ⟨a, List.mem_range.mpr (Heap.lt_size ho), ?_⟩
    rw [if_neg (by simp [hf, hg]), ho]; rfl

/-- what is old, or holds a frame of the stack -/
def ground (H0 h : Heap) (fr : List Env) : Heap := hideAll h ((List.range h.objs.size).filter fun a => (H0.get? a).isNone && !(frs fr).contains a)
theorem ground_size (H0 h : Heap) (fr : List Env) : (ground H0 h fr).objs.size = h.objs.size := hideAll_size _ _
theorem ground_get {H0 h : Heap} {fr : List Env} {a : Addr} {o : Obj} : (ground H0 h fr).get? a = some o ↔ h.get? a = some o ∧ ((H0.get? a).isSome = true ∨ a ∈ frs fr) := by
  unfold ground
  constructor
  · intro e
    have e1 := of_hideAll _ e
    refine ⟨e1, ?_⟩
    apply Classical.byContradiction
    intro hn
    rw [not_or] at hn
    have : (hideAll h ((List.range h.objs.size).filter fun a => (H0.get? a).isNone && !(frs fr).contains a)).get? a = none := by
      refine hideAll_none _ (List.mem_filter.mpr ⟨List.mem_range.mpr (Heap.lt_size e1), ?_⟩)
      have h1 : H0.get? a = none := by simpa using hn.1
      rw [h1]; simpa using hn.2
    rw [this] at e; cases e
  · rintro ⟨e, hc⟩
    refine hideAll_get _ e fun hm => ?_
    have := (List.mem_filter.mp hm).2
    simp only [Bool.and_eq_true, Bool.not_eq_true', Option.isNone_iff_eq_none] at this
    rcases hc with hc | hc
    · rw [this.1] at hc; cases hc
    · have h2 := this.2; rw [List.contains_eq_mem, decide_eq_false_iff_not] at h2; exact h2 hc

/-- the facts of the law's start that every state keeps -/
structure Old (w : World) (p : Program) (loose : List Str) (mean : ExcName → Option Value) (mg mb : Str → Option Value) (H0 : Heap) : Prop where
  X : (_root_.Mine.hd.heap_39 w.params).In H0
  T : Top p loose mean mg mb H0

/-- the state at a call: what is old stands, the frames of the stack stand -/
structure Amb (H0 : Heap) (fr : List Env) (h : Heap) : Prop where
  keep : H0.StaysIn h
  frames : h.FunFrames H0 fr
  fdat : ∀ a ∈ frs fr, ∃ o es n, h.get? a = some o ∧ o.data = .dict es n
theorem Amb.notFr {H0 : Heap} {fr : List Env} {h : Heap} (M : Amb H0 fr h) {c : Addr} {o : Obj} (e : h.get? c = some o) (hd : ∀ es n, o.data ≠ .dict es n) : c ∉ frs fr := fun hm => by
  obtain ⟨o', es, n, e', d⟩ := M.fdat c hm
  rw [e] at e'; cases e'; exact hd _ _ d

theorem funFrames_sub {base h h' : Heap} : ∀ {l : List Env}, h.FunFrames base l → (∀ a ∈ frs l, ∀ o, h.get? a = some o → h'.get? a = some o) → h'.FunFrames base l
  | [], _, _ => trivial
  | env :: l, ⟨hk, ⟨L, o, hf, hn, ho, hd⟩, hr⟩, hs => ⟨hk, ⟨L, o, hf, hn, hs L (mem_frs.mpr ⟨env, .head _, hf⟩) o ho, hd⟩,
      funFrames_sub hr fun a ha => hs a (by obtain ⟨e, he, q⟩ := mem_frs.mp ha; exact mem_frs.mpr ⟨e, .tail _ he, q⟩)⟩
theorem frs_off {base h : Heap} : ∀ {l : List Env}, h.FunFrames base l → ∀ a ∈ frs l, base.get? a = none
  | env :: l, ⟨hk, ⟨L, o, hf, hn, ho, hd⟩, hr⟩, a, ha => by
    obtain ⟨e, he, q⟩ := mem_frs.mp ha
    cases he with
    | head => rw [hf] at q; cases q; exact hn
    | tail _ he => exact frs_off hr a (mem_frs.mpr ⟨e, he, q⟩)

theorem frs_lt {base h : Heap} : ∀ {l : List Env}, h.FunFrames base l → ∀ a ∈ frs l, a < h.objs.size
  | env :: l, ⟨hk, ⟨L, o, hf, hn, ho, hd⟩, hr⟩, a, ha => by
    obtain ⟨e, he, q⟩ := mem_frs.mp ha
    cases he with
    | head => rw [hf] at q; cases q; exact Heap.lt_size ho
    | tail _ he => exact frs_lt hr a (mem_frs.mpr ⟨e, he, q⟩)

theorem Amb.sub {H0 : Heap} {fr : List Env} {h h' : Heap} (M : Amb H0 fr h) (k : h.StaysIn h') : Amb H0 fr h' :=
  ⟨fun b o e => k b o (M.keep b o e), funFrames_sub M.frames fun a _ o e => k a o e, fun a ha => let ⟨o, es, n, e, d⟩ := M.fdat a ha; ⟨o, es, n, k _ _ e, d⟩⟩
theorem Amb.push {H0 g h : Heap} {fr : List Env} {L a : Addr} {m : Str → Option Value} {name : Str} {scope : Scope} {cd : Value} (M : Amb H0 fr g) (F : Fr g L h m) (hk : scope.kind = .function) : Amb H0 (envOf name scope L a cd :: fr) h := by
  have B : Below (ar 0 0 none fr) H0 fr g := ⟨rfl, M.keep, M.frames⟩
  have B' := B.push (name := name) (scope := scope) (a := a) (cd := cd) F hk
  refine ⟨B'.stays, B'.frames, fun b hb => ?_⟩
  obtain ⟨env, he, hf⟩ := mem_frs.mp hb
  cases he with
  | head =>
    obtain ⟨o, es, ep, ho, hd, _⟩ := F.ns
    have : L = b := Option.some.inj hf
    exact ⟨o, es, ep, this ▸ ho, hd⟩
  | tail _ he =>
    obtain ⟨o, es, n, e, d⟩ := M.fdat b (mem_frs.mpr ⟨env, he, hf⟩)
    exact ⟨o, es, n, F.keep _ _ e, d⟩
theorem frs_push {name : Str} {scope : Scope} {L a : Addr} {cd : Value} {fr : List Env} : frs (envOf name scope L a cd :: fr) = L :: frs fr := rfl

/-- tl covers all of hv that g does not hold -/
def Cov (g : Heap) (tl : List (Addr × Obj)) (hv : Heap) : Prop := ∀ b o, hv.get? b = some o → g.get? b = some o ∨ (b, o) ∈ tl
theorem Cov.now {g h hv : Heap} {L : Addr} {m : Str → Option Value} {news tl : List (Addr × Obj)} (C : Cov g tl hv) (F : Fr g L h m) (N : News g L h news) (hs : ∀ p ∈ tl, p ∈ news) : hv.StaysIn h :=
  fun b o e => (C b o e).elim (F.keep b o) fun hm => (N _ (hs _ hm)).1

section
variable {w : World} {p : Program} {loose : List Str} {mean : ExcName → Option Value} {mg mb : Str → Option Value} {H0 : Heap} {prog : Program}
/-- a def of the text is entered: the ledger of its frame is what is named, and all the rest unnamed -/
theorem enterH {dp un : Nat} {gd : Option (List Code)} {fr : List Env} {s : Shared} {R : Result → Shared → Prop} {name qual : Str} {params : Arguments} {body : List Stmt} {scope : Scope} {dV kV doc pm cdv ct oc : Value} {an od : Option Addr} {osl : Array (Option Value)} {f : Addr} {args : Args} {binds : List (Str × Value)}
    (O : Old w p loose mean mg mb H0) (M : Amb H0 fr s.heap) (imm cells : List (Addr × Obj)) (hi : ∀ c ∈ imm, s.heap.get? c.1 = some c.2 ∧ H0.get? c.1 = none ∧ c.1 ∉ frs fr) (hc : ∀ c ∈ cells, s.heap.get? c.1 = some c.2 ∧ H0.get? c.1 = none ∧ c.1 ∉ frs fr)
    (ho : (_root_.Mine.hd.heap_39 w.params).lookup f = some ⟨oc, od, .func (fnOf name qual params body scope dV kV doc pm an cdv ct), osl⟩) (hcd : codeIn (_root_.Mine.hd.heap_39 w.params) cdv qual = true) (hroom : dp < recursionLimit)
    (hbind : BindsTo s (fnOf name qual params body scope dV kV doc pm an cdv ct) args binds) (hloc : ∀ y ∈ binds, scope.names.lookup y.1 = some .local)
    (h : ∀ g L' h₁ tl hv, L' = s.heap.objs.size → Fr g L' h₁ (fun y => binds.reverse.lookup y) → News g L' h₁ (imm ++ (cells ++ tl)) → Amb H0 fr g → (∀ a, H0.get? a = none → a ∉ frs fr → g.get? a = none) → Below (ar dp un gd fr) H0 fr g → (_root_.Mine.hd.heap_39 w.params).In g → Top p loose mean mg mb g →
      Cov g tl hv → hv = hideAll s.heap (cells.map (·.1)) → g = ground H0 s.heap fr → (∀ q ∈ tl, q.1 < L') → (∀ c ∈ cells, c.1 < L' ∧ ∀ q ∈ tl, q.1 ≠ c.1) →
      wpAny (model prog w) ((ar dp un gd fr).deeper (envOf qual scope L' f cdv)) (execs body (envOf qual scope L' f cdv))
        (fun fl s' => R (.ok (.ret (match fl with | .ret v => v | _ => .none))) s')
        (fun e s' => wpAny (model prog w) ((ar dp un gd fr).deeper (envOf qual scope L' f cdv)) (leaving (envOf qual scope L' f cdv) e) (fun _ s'' => R (.error e) s'') (fun e' s'' => R (.error e') s'') s')
        { s with heap := h₁, toks := s.toks + binds.length })
    (hco : scope.isCoroutine = false) (hgen : scope.isGenerator = false) (hk : scope.kind = .function)
    (hcell : ∀ x ∈ scope.names, x.2 ≠ .cell) : codeAny (model prog w) (ar dp un gd fr) (.call (.ref f) args) R s := by
  have X := O.X.keeps M.keep
  refine codeAny_call_def (fd := fnOf name qual params body scope dV kV doc pm an cdv ct) (body := body) (binds := binds) hroom (X _ _ ho) rfl (O.T.nolimit.keeps M.keep) (codeRec_of X hcd) rfl hbind hcell hloc (fun h₁ hns hk₁ => ?_) hco hgen hk
  have g1 : H0.StaysIn (ground H0 s.heap fr) := fun b o e => ground_get.mpr ⟨M.keep b o e, .inl (by rw [e]; rfl)⟩
  have gn : ∀ q : Addr × Obj, H0.get? q.1 = none → q.1 ∉ frs fr → (ground H0 s.heap fr).get? q.1 = none := fun q h1 h2 => by
    cases e : (ground H0 s.heap fr).get? q.1 with
    | none => rfl
    | some o => rcases (ground_get.mp e).2 with h3 | h3
                · rw [h1] at h3; cases h3
                · exact absurd h3 h2
  have gf : (ground H0 s.heap fr).FunFrames H0 fr := funFrames_sub M.frames fun a ha o e => ground_get.mpr ⟨e, .inr ha⟩
  refine h (ground H0 s.heap fr) s.heap.objs.size h₁ (others (ground H0 s.heap fr) s.heap (cells.map (·.1))) (hideAll s.heap (cells.map (·.1))) rfl
    ⟨hns, fun b o e => hk₁ b o (ground_get.mp e).1, Nat.le_of_eq (ground_size _ _ _)⟩ ?_ ⟨g1, gf, fun a ha => ?_⟩ (fun a h1 h2 => gn (a, default) h1 h2) ⟨rfl, g1, gf⟩ (O.X.keeps g1) (O.T.keeps g1) ?_ rfl rfl ?_ ?_
  · intro q hq
    rcases List.mem_append.mp hq with hq | hq
    · obtain ⟨e1, e2, e3⟩ := hi q hq
      exact ⟨hk₁ _ _ e1, Nat.ne_of_lt (Heap.lt_size e1), gn q e2 e3⟩
    rcases List.mem_append.mp hq with hq | hq
    · obtain ⟨e1, e2, e3⟩ := hc q hq
      exact ⟨hk₁ _ _ e1, Nat.ne_of_lt (Heap.lt_size e1), gn q e2 e3⟩
    · obtain ⟨e1, e2, e3⟩ := mem_others.mp hq
      exact ⟨hk₁ _ _ e1, Nat.ne_of_lt (Heap.lt_size e1), e3⟩
  · obtain ⟨o, es, n, e, d⟩ := M.fdat a ha
    exact ⟨o, es, n, ground_get.mpr ⟨e, .inr ha⟩, d⟩
  · intro b o e
    have e1 := of_hideAll _ e
    cases q : (ground H0 s.heap fr).get? b with
    | some o' => left; have := (ground_get.mp q).1; rw [e1] at this; cases this; rfl
    | none => exact .inr (mem_others.mpr ⟨e1, (fun hm => by rw [hideAll_none _ hm] at e; cases e), q⟩)
  · intro q hq; exact Heap.lt_size (mem_others.mp hq).1
  · intro c hm
    exact ⟨Heap.lt_size (hc c hm).1, fun q hq e => (mem_others.mp hq).2.1 (List.mem_map.mpr ⟨c, hm, e.symm⟩)⟩

/-- behind a call that keeps all but Mut: the frame's facts again -/
theorem backH {g h h' : Heap} {L : Addr} {m : Str → Option Value} {Mut : Addr → Prop} (off : List Addr) (F : Fr g L h m) (kp : ∀ b o, h.get? b = some o → ¬ Mut b → h'.get? b = some o)
    (hL : ¬ Mut L) (hg : ∀ a, Mut a → g.get? a = none) :
    ∃ tl hv, Fr g L h' m ∧ (∀ cells : List (Addr × Obj), (∀ q ∈ cells, h'.get? q.1 = some q.2 ∧ q.1 ≠ L ∧ g.get? q.1 = none) → News g L h' (cells ++ tl)) ∧ Cov g tl hv ∧ hv = hideAll h' (L :: off) ∧ (∀ q ∈ tl, ∀ a ∈ off, q.1 ≠ a) := by
  refine ⟨others g h' (L :: off), hideAll h' (L :: off), ⟨?_, ?_, F.above⟩, ?_, ?_, rfl, ?_⟩
  · obtain ⟨o, es, ep, ho, r⟩ := F.ns
    exact ⟨o, es, ep, kp _ _ ho hL, r⟩
  · intro b o e
    refine kp b o (F.keep b o e) fun hm => ?_
    rw [hg b hm] at e; cases e
  · intro cells hc q hq
    rcases List.mem_append.mp hq with hq | hq
    · exact hc q hq
    · obtain ⟨e1, e2, e3⟩ := mem_others.mp hq
      exact ⟨e1, fun e => e2 (e ▸ .head _), e3⟩
  · intro b o e
    have e1 := of_hideAll _ e
    cases q : g.get? b with
    | some o' =>
      left
      have := kp b o' (F.keep b o' q) fun hm => by rw [hg b hm] at q; cases q
      rw [e1] at this; cases this; rfl
    | none => exact .inr (mem_others.mpr ⟨e1, (fun hm => by rw [hideAll_none _ hm] at e; cases e), q⟩)
  · intro q hq a ha e
    exact (mem_others.mp hq).2.1 (e ▸ .tail _ ha)
end
end Mine
end
section
open PySem PySem.W PyProof.Rows PySem.Calls PySem.Spec
set_option maxRecDepth 100000
set_option maxHeartbeats 8000000
namespace Mine
local macro_rules | `(tactic| walk_at "0") => `(tactic| skip)
local macro_rules | `(tactic| walk_at "0") => `(tactic| skip)
local macro_rules | `(tactic| walk_at "0") => `(tactic| skip)
local macro_rules | `(tactic| walk_at "0") => `(tactic| skip)
local macro_rules | `(tactic| walk_at "0") => `(tactic| skip)
local macro_rules | `(tactic| walk_at "0") => `(tactic| skip)
local macro_rules | `(tactic| walk_at "0") => `(tactic| skip)
local macro_rules | `(tactic| walk_at "0") => `(tactic| skip)
local macro_rules | `(tactic| walk_at "0") => `(tactic| skip)
local macro_rules | `(tactic| walk_at "0") => `(tactic| skip)
local macro_rules | `(tactic| walk_at "0") => `(tactic| skip)
local macro_rules | `(tactic| walk_at "0") => `(tactic| skip)
local macro_rules | `(tactic| walk_at "0") => `(tactic| skip)
local macro_rules | `(tactic| walk_at "0") => `(tactic| skip)
local macro_rules | `(tactic| walk_at "0") => `(tactic| skip)
local macro_rules | `(tactic| walk_at "0") => `(tactic| skip)
local macro_rules | `(tactic| walk_at "0") => `(tactic| skip)
local macro_rules | `(tactic| walk_at "0") => `(tactic| skip)
local macro_rules | `(tactic| walk_at "0") => `(tactic| skip)
local macro_rules | `(tactic| walk_at "0") => `(tactic| skip)
local macro_rules | `(tactic| walk_at "0") => `(tactic| skip)
local macro_rules | `(tactic| walk_at "0") => `(tactic| skip)
local macro_rules | `(tactic| walk_at "0") => `(tactic| skip)
local macro_rules | `(tactic| walk_at "0") => `(tactic| skip)
local macro_rules | `(tactic| walk_at "0") => `(tactic| skip)
local macro_rules | `(tactic| walk_at "0") => `(tactic| skip)
local macro_rules | `(tactic| walk_at "0") => `(tactic| skip)
local macro_rules | `(tactic| walk_at "0") => `(tactic| skip)
local macro_rules | `(tactic| walk_at "0") => `(tactic| skip)
local macro_rules | `(tactic| walk_at "0") => `(tactic| skip)
local macro_rules | `(tactic| walk_at "0") => `(tactic| skip)
local macro_rules | `(tactic| walk_at "0") => `(tactic| skip)
local macro_rules | `(tactic| walk_at "0") => `(tactic| skip)
local macro_rules | `(tactic| walk_at "0") => `(tactic| skip)
local macro_rules | `(tactic| walk_at "0") => `(tactic| skip)
local macro_rules | `(tactic| walk_at "0") => `(tactic| skip)
local macro_rules | `(tactic| walk_at "0") => `(tactic| skip)
local macro_rules | `(tactic| walk_at "0") => `(tactic| skip)
local macro_rules | `(tactic| walk_at "0") => `(tactic| skip)
local macro_rules | `(tactic| walk_at "0") => `(tactic| skip)
theorem rs1 : True := by
  w_top off
  trivial
theorem allLt_mem {d : Addr} {l : List (Addr × Obj)} : AllLt d l → ∀ q ∈ l, q.1 < d := by
  induction l with
  | nil => intro _ q hq; cases hq
  | cons a r ih =>
    intro h q hq
    rcases List.mem_cons.mp hq with rfl | hq
    · exact h.1
    · exact ih h.2 q hq
theorem allLt_ne {d x : Addr} {l : List (Addr × Obj)} (h : AllLt d l) (hx : d ≤ x) : ∀ q ∈ l, q.1 ≠ x := fun q hq e =>
  Nat.lt_irrefl _ (Nat.lt_of_lt_of_le (e ▸ allLt_mem h q hq) hx)
theorem lt_ne {d x : Addr} {l : List (Addr × Obj)} (h : ∀ q ∈ l, q.1 < d) (hx : d ≤ x) : ∀ q ∈ l, q.1 ≠ x := fun q hq e =>
  Nat.lt_irrefl _ (Nat.lt_of_lt_of_le (e ▸ h q hq) hx)
theorem isGuard_tc (a : Args) : (Code.builtin "type.__call__" a).isGuard = false := by
  show guardIds.contains "type.__call__" = false
  decide +kernel
theorem w_tc {C : Addr} {rest : List Value} {kw : List (Str × Value)} : (Code.builtin "type.__call__" ⟨.ref C :: rest, kw⟩).weight = 1 := rfl
theorem e_tc {C : Addr} {rest : List Value} {kw : List (Str × Value)} : (Code.builtin "type.__call__" ⟨.ref C :: rest, kw⟩).envs = [] := rfl
theorem u_tc {C : Addr} {rest : List Value} {kw : List (Str × Value)} : (Code.builtin "type.__call__" ⟨.ref C :: rest, kw⟩).cUnits = 1 := rfl
theorem g_tc (a : Args) : (Code.builtin "type.__call__" a).guards = [] := by
  unfold Code.guards; rw [isGuard_tc]; rfl
theorem under_make {dp un : Nat} {gd : Option (List Code)} {fr : List Env} {C : Addr} {rest : List Value} {kw : List (Str × Value)} :
    (ar dp un gd fr).under (.builtin "type.__call__" ⟨.ref C :: rest, kw⟩) = ar (dp + 1) (un + 1) gd fr := by
  unfold Around.under
  rw [w_tc, e_tc, g_tc, u_tc]
  rfl
theorem fill : PySem.Challenge.rw_vy0014_01 = PySem.Challenge.rw_vy0014_01 ∧ _root_.Mine.hd.heap_39 = _root_.Mine.hd.heap_39 := by
  k_fill
  exact ⟨rfl, rfl⟩
local macro_rules | `(tactic| k_room) => `(tactic| ktr_room)
local macro_rules | `(tactic| k_all) => `(tactic| first | assumption | (intro q9 hq9; (try dsimp only); first | exact allLt_ne (by assumption) (by omega) q9 hq9 | exact lt_ne (by assumption) (by omega) q9 hq9))

theorem truthy_listN {prog : Program} {w : World} {A : Around} {E : Value → Shared → Prop} {s : Shared} {h₀ : Heap} {L a : Addr} {news : List (Addr × Obj)} {its : Array Value} {n : Nat} {Q : Bool → Shared → Prop}
    (N : News h₀ L s.heap news) (hm : (a, listOf its n) ∈ news) (hz : its.size < 2 ^ 62) (h : Q (!its.isEmpty) { s with toks := s.toks + 1 + 1 }) : wpAny (model prog w) A (truthy (.ref a)) Q E s :=
  wpAny_truthy_list ⟨_, (N _ hm).1, rfl, n, rfl⟩ (by omega) h
theorem cons_notEmpty (v : Value) (r : List Value) : (!(v :: r).toArray.isEmpty) = true := by simp
theorem nil_isEmpty : (!([] : List Value).toArray.isEmpty) = false := by simp
local macro_rules | `(tactic| walk_at "truthy ref") => `(tactic| (k_here; (with_reducible show wpAny _ _ (truthy (Value.ref _)) _ _ _); k_dflt (refine' truthy_listN ?N ?m ?z ?_; (case N => k_asm); (case m => k_mem); (case z => (simp only [List.size_toArray] at *; omega)); k_whole); (try simp only [cons_notEmpty, nil_isEmpty, if_true, Bool.false_eq_true, if_false])))
/-- what stood stands, but for Mut -/
theorem stay_of {g h₁ h' hv : Heap} {L : Addr} {m : Str → Option Value} {news tl : List (Addr × Obj)} {addrs : List Addr} {Mut : Addr → Prop} (C : Cov g tl hv) (ev : hv = hideAll h₁ addrs) (F : Fr g L h' m) (N : News g L h' news) (hs : ∀ p ∈ tl, p ∈ news)
    (hc : ∀ a ∈ addrs, ∀ o, h₁.get? a = some o → ¬ Mut a → h'.get? a = some o) : ∀ b o, h₁.get? b = some o → ¬ Mut b → h'.get? b = some o := fun b o e hn => by
  by_cases hb : b ∈ addrs
  · exact hc b hb o e hn
  · exact C.now F N hs b o (ev ▸ hideAll_get _ e hb)
section
variable {w : World} {p : Program} {loose : List Str} {mean : ExcName → Option Value} {mg mb : Str → Option Value} {H0 : Heap}
/-- the class is called: a new object, its dict, and __init__ is run -/
theorem makeH {dp un : Nat} {gd : Option (List Code)} {fr : List Env} {s : Shared} {R : Result → Shared → Prop} {C fI : Addr} {rest : List Value} {kw : List (Str × Value)}
    (O : Old w p loose mean mg mb H0) (M : Amb H0 fr s.heap) (hm : makesIn (_root_.Mine.hd.heap_39 w.params) C = true) (hi : findIn (_root_.Mine.hd.heap_39 w.params) (.ref C) "__init__" = some (some (.ref fI))) (hf : isFn (_root_.Mine.hd.heap_39 w.params) (.ref fI) = true)
    (h : ∀ h₁, h₁ = (s.heap.push (dictOf [] 0)).push (instObj C s.heap.objs.size) → Amb H0 fr h₁ → h₁.get? (s.heap.objs.size + 1) = some (instObj C s.heap.objs.size) → h₁.get? s.heap.objs.size = some (dictOf [] 0) →
      s.heap.StaysIn h₁ → h₁.objs.size = s.heap.objs.size + 2 → codeAny (model PySem.Challenge.rw_vy0014_01.row.prog w) (ar (dp + 1) (un + 1) gd fr) (.call (.ref fI) ⟨.ref (s.heap.objs.size + 1) :: rest, kw⟩) (InitBack (s.heap.objs.size + 1) R) { s with heap := h₁ }) :
    codeAny (model PySem.Challenge.rw_vy0014_01.row.prog w) (ar dp un gd fr) (.call (.ref C) ⟨rest, kw⟩) R s := by
  obtain ⟨hh, g, d, t, os⟩ := s
  have X := O.X.keeps M.keep
  have k : hh.StaysIn ((hh.push (dictOf [] 0)).push (instObj C hh.objs.size)) := fun b o e => Heap.get?_push_of_some _ (Heap.get?_push_of_some _ e)
  refine make_core (makes_of X hm) (looks_findIn X hi) (fun self => bind_fn X self (beq_iff_eq.mp hf)) (.inl rfl) ?_
  rw [under_make]
  refine h _ rfl (M.sub k) ?_ ?_ k ?_
  · have := Heap.get?_push_size (hh.push (dictOf [] 0)) (o := instObj C hh.objs.size) rfl
    rwa [Heap.size_push] at this
  · exact Heap.get?_push_of_some _ (Heap.get?_push_size _ rfl)
  · show ((hh.push (dictOf [] 0)).push _).objs.size = _
    rw [Heap.size_push, Heap.size_push]

abbrev nodeObj (d : Addr) (ex : Addr) (t : Str) (tk : Tok) (i : Int) (tk1 : Tok) (j : Int) (tk2 : Tok) (c : Addr) : Obj :=
  { cls := .ref 212, dict := some d, data := .plain, slots := #[some (.ref c), some (.int j tk2), some (.ref ex), some (.str t tk), some (.int i tk1)] }


abbrev bindsNode (x : Addr) (ex : Addr) (t : Str) (tk : Tok) (i : Int) (tk1 : Tok) (j : Int) (tk2 : Tok) (cv : Value) : List (Str × Value) :=
  [("self", .ref x), ("expr", .ref ex), ("full_text", .str t tk), ("start", .int i tk1), ("end", .int j tk2), ("children", cv)]
/-- what a call of the class hands back -/
abbrev NodePost (s : Shared) (ex : Addr) (t : Str) (tk : Tok) (i : Int) (tk1 : Tok) (j : Int) (tk2 : Tok) (vs : List Value) (cOk : Addr → Prop) (Q : Value → Shared → Prop) : Prop :=
  ∀ x d c n' h' tk', s.heap.StaysIn h' → s.heap.objs.size ≤ x → s.heap.objs.size ≤ d → cOk c → h'.get? x = some (nodeObj d ex t tk i tk1 j tk2 c) → h'.get? c = some (listOf vs.toArray n') → (∃ od, h'.get? d = some od) → Q (.ref x) { s with heap := h', toks := tk' }

theorem node_list {dp un : Nat} {gd : Option (List Code)} {fr : List Env} {s : Shared} {Q E : Value → Shared → Prop} {ex : Addr} {t : Str} {tk tk1 tk2 : Tok} {i j : Int} {ch : Addr} {v : Value} {r : List Value} {n : Nat} {rest : List Value} {kw : List (Str × Value)}
    (O : Old w p loose mean mg mb H0) (M : Amb H0 fr s.heap) (hd : dp + 4 < recursionLimit) (hch : s.heap.get? ch = some (listOf (v :: r).toArray n)) (hc0 : H0.get? ch = none) (hn : (v :: r).length ≤ 1000)
    (hb : ∀ oc od fd osl x s', (_root_.Mine.hd.heap_39 w.params).lookup 150 = some ⟨oc, od, .func fd, osl⟩ → (_root_.Mine.hd.heap_39 w.params).In s'.heap → BindsTo s' fd ⟨.ref x :: rest, kw⟩ (bindsNode x ex t tk i tk1 j tk2 (.ref ch)))
    (hret : NodePost s ex t tk i tk1 j tk2 (v :: r) (fun c => c = ch) Q) :
    wpAny (model PySem.Challenge.rw_vy0014_01.row.prog w) (ar dp un gd fr) (call (.ref 212) rest kw) Q E s := by
  refine wpAny_call (makeH O M (by k_is) (by k_is) (by k_is) ?_)
  intro h₁ e1 M1 hx hdx k1 z1
  have fx : s.heap.objs.size + 1 ∉ frs fr := fun hm => by have := ltN (frs_lt M.frames _ hm); omega
  have fd : s.heap.objs.size ∉ frs fr := fun hm => by have := ltN (frs_lt M.frames _ hm); omega
  have ox : H0.get? (s.heap.objs.size + 1) = none := by
    cases q : H0.get? (s.heap.objs.size + 1) with
    | none => rfl
    | some o => have := ltN (Heap.lt_size (M.keep _ _ q)); omega
  have od : H0.get? s.heap.objs.size = none := M.keep.fresh
  refine' enterH O M1 [] [(s.heap.objs.size + 1, instObj 212 s.heap.objs.size), (s.heap.objs.size, dictOf [] 0), (ch, listOf (v :: r).toArray n)] ?hi ?hc ?ho ?hcd ?hr ?hb ?hl ?_ ?c1 ?c2 ?c3 ?c4
  case hi => exact List.forall_mem_nil _
  case ho => k_is
  case hcd => k_is
  case hr => omega
  case hb => exact hb _ _ _ _ _ _ (by k_is) (O.X.keeps M1.keep)
  case hl => exact locs rfl
  case c1 => exact rfl
  case c2 => exact rfl
  case c3 => exact rfl
  case c4 => decide
  case hc =>
    simp only [List.forall_mem_cons]
    exact ⟨⟨hx, ox, fx⟩, ⟨hdx, od, fd⟩, ⟨k1 _ _ hch, hc0, M.notFr hch (fun _ _ e => by cases e)⟩, List.forall_mem_nil _⟩
  intro g L' h₂ tl hv eL F N MG hgn B X T C ev eg htl hcl
  k_fold
  simp only [List.cons_append, List.nil_append] at N
  have l1 := ltN (Heap.lt_size hch)
  have t3 := (hcl _ (.tail _ (.tail _ (.head _)))).2
  have t1 := (hcl _ (.head _)).2
  have t2 := (hcl _ (.tail _ (.head _))).2
  dsimp only at t1 t2
  clear hcl
  k_steps
  (with_reducible rename News _ _ _ _ => N9)
  (with_reducible rename Fr _ _ _ _ => F9)
  have g1 := N9.get (.head _)
  have g3 := N9.get (.tail _ (.tail _ (.head _)))
  refine ⟨rfl, hret _ _ _ _ _ _ ?_ (Nat.le_succ _) (Nat.le_refl _) rfl g1 g3 ⟨_, N9.get (.tail _ (.head _))⟩⟩
  intro b o e
  have hb := ltN (Heap.lt_size e)
  refine stay_of (Mut := fun a => a = s.heap.objs.size + 1 ∨ a = s.heap.objs.size) C ev F9 N9 (fun q hq => .tail _ (.tail _ (.tail _ hq))) (fun a ha o' e' hn => ?_) b o (k1 b o e) (fun h => by rcases h with rfl | rfl <;> omega)
  simp only [List.map_cons, List.map_nil, List.mem_cons, List.not_mem_nil, or_false] at ha
  rcases ha with rfl | rfl | rfl
  · exact absurd (.inl rfl) hn
  · exact absurd (.inr rfl) hn
  · have e2 := k1 _ _ hch
    rw [show h₁.get? _ = some o' from e'] at e2; cases e2; exact g3

theorem node_nil {dp un : Nat} {gd : Option (List Code)} {fr : List Env} {s : Shared} {Q E : Value → Shared → Prop} {ex : Addr} {t : Str} {tk tk1 tk2 : Tok} {i j : Int} {ch : Addr} {n : Nat} {rest : List Value} {kw : List (Str × Value)}
    (O : Old w p loose mean mg mb H0) (M : Amb H0 fr s.heap) (hd : dp + 4 < recursionLimit) (hch : s.heap.get? ch = some (listOf ([] : List Value).toArray n)) (hc0 : H0.get? ch = none)
    (hb : ∀ oc od fd osl x s', (_root_.Mine.hd.heap_39 w.params).lookup 150 = some ⟨oc, od, .func fd, osl⟩ → (_root_.Mine.hd.heap_39 w.params).In s'.heap → BindsTo s' fd ⟨.ref x :: rest, kw⟩ (bindsNode x ex t tk i tk1 j tk2 (.ref ch)))
    (hret : NodePost s ex t tk i tk1 j tk2 [] (fun c => s.heap.objs.size ≤ c) Q) :
    wpAny (model PySem.Challenge.rw_vy0014_01.row.prog w) (ar dp un gd fr) (call (.ref 212) rest kw) Q E s := by
  refine wpAny_call (makeH O M (by k_is) (by k_is) (by k_is) ?_)
  intro h₁ e1 M1 hx hdx k1 z1
  have fx : s.heap.objs.size + 1 ∉ frs fr := fun hm => by have := ltN (frs_lt M.frames _ hm); omega
  have fd : s.heap.objs.size ∉ frs fr := fun hm => by have := ltN (frs_lt M.frames _ hm); omega
  have ox : H0.get? (s.heap.objs.size + 1) = none := by
    cases q : H0.get? (s.heap.objs.size + 1) with
    | none => rfl
    | some o => have := ltN (Heap.lt_size (M.keep _ _ q)); omega
  have od : H0.get? s.heap.objs.size = none := M.keep.fresh
  refine' enterH O M1 [] [(s.heap.objs.size + 1, instObj 212 s.heap.objs.size), (s.heap.objs.size, dictOf [] 0), (ch, listOf ([] : List Value).toArray n)] ?hi ?hc ?ho ?hcd ?hr ?hb ?hl ?_ ?c1 ?c2 ?c3 ?c4
  case hi => exact List.forall_mem_nil _
  case ho => k_is
  case hcd => k_is
  case hr => omega
  case hb => exact hb _ _ _ _ _ _ (by k_is) (O.X.keeps M1.keep)
  case hl => exact locs rfl
  case c1 => exact rfl
  case c2 => exact rfl
  case c3 => exact rfl
  case c4 => decide
  case hc =>
    simp only [List.forall_mem_cons]
    exact ⟨⟨hx, ox, fx⟩, ⟨hdx, od, fd⟩, ⟨k1 _ _ hch, hc0, M.notFr hch (fun _ _ e => by cases e)⟩, List.forall_mem_nil _⟩
  intro g L' h₂ tl hv eL F N MG hgn B X T C ev eg htl hcl
  k_fold
  simp only [List.cons_append, List.nil_append] at N
  have l1 := ltN (Heap.lt_size hch)
  have t3 := (hcl _ (.tail _ (.tail _ (.head _)))).2
  have t1 := (hcl _ (.head _)).2
  have t2 := (hcl _ (.tail _ (.head _))).2
  dsimp only at t1 t2
  clear hcl
  k_steps
  (with_reducible rename News _ _ _ _ => N9)
  (with_reducible rename Fr _ _ _ _ => F9)
  have g0 := N9.get (.head _)
  have g1 := N9.get (.tail _ (.head _))
  refine ⟨rfl, hret _ _ _ _ _ _ ?_ (Nat.le_succ _) (Nat.le_refl _) ?_ g1 g0 ⟨_, N9.get (.tail _ (.tail _ (.head _)))⟩⟩
  · intro b o e
    have hb := ltN (Heap.lt_size e)
    refine stay_of (Mut := fun a => a = s.heap.objs.size + 1 ∨ a = s.heap.objs.size) C ev F9 N9 (fun q hq => .tail _ (.tail _ (.tail _ (.tail _ hq)))) (fun a ha o' e' hn => ?_) b o (k1 b o e) (fun h => by rcases h with rfl | rfl <;> omega)
    simp only [List.map_cons, List.map_nil, List.mem_cons, List.not_mem_nil, or_false] at ha
    rcases ha with rfl | rfl | rfl
    · exact absurd (.inl rfl) hn
    · exact absurd (.inr rfl) hn
    · have e2 := k1 _ _ hch
      rw [show h₁.get? _ = some o' from e'] at e2; cases e2; exact N9.get (.tail _ (.tail _ (.tail _ (.head _))))
  · have q1 := (N9 _ (.tail _ (.tail _ (.head _)))).1
    omega

theorem node_none {dp un : Nat} {gd : Option (List Code)} {fr : List Env} {s : Shared} {Q E : Value → Shared → Prop} {ex : Addr} {t : Str} {tk tk1 tk2 : Tok} {i j : Int} {rest : List Value} {kw : List (Str × Value)}
    (O : Old w p loose mean mg mb H0) (M : Amb H0 fr s.heap) (hd : dp + 4 < recursionLimit) 
    (hb : ∀ oc od fd osl x s', (_root_.Mine.hd.heap_39 w.params).lookup 150 = some ⟨oc, od, .func fd, osl⟩ → (_root_.Mine.hd.heap_39 w.params).In s'.heap → BindsTo s' fd ⟨.ref x :: rest, kw⟩ (bindsNode x ex t tk i tk1 j tk2 .none))
    (hret : NodePost s ex t tk i tk1 j tk2 [] (fun c => s.heap.objs.size ≤ c) Q) :
    wpAny (model PySem.Challenge.rw_vy0014_01.row.prog w) (ar dp un gd fr) (call (.ref 212) rest kw) Q E s := by
  refine wpAny_call (makeH O M (by k_is) (by k_is) (by k_is) ?_)
  intro h₁ e1 M1 hx hdx k1 z1
  have fx : s.heap.objs.size + 1 ∉ frs fr := fun hm => by have := ltN (frs_lt M.frames _ hm); omega
  have fd : s.heap.objs.size ∉ frs fr := fun hm => by have := ltN (frs_lt M.frames _ hm); omega
  have ox : H0.get? (s.heap.objs.size + 1) = none := by
    cases q : H0.get? (s.heap.objs.size + 1) with
    | none => rfl
    | some o => have := ltN (Heap.lt_size (M.keep _ _ q)); omega
  have od : H0.get? s.heap.objs.size = none := M.keep.fresh
  refine' enterH O M1 [] [(s.heap.objs.size + 1, instObj 212 s.heap.objs.size), (s.heap.objs.size, dictOf [] 0)] ?hi ?hc ?ho ?hcd ?hr ?hb ?hl ?_ ?c1 ?c2 ?c3 ?c4
  case hi => exact List.forall_mem_nil _
  case ho => k_is
  case hcd => k_is
  case hr => omega
  case hb => exact hb _ _ _ _ _ _ (by k_is) (O.X.keeps M1.keep)
  case hl => exact locs rfl
  case c1 => exact rfl
  case c2 => exact rfl
  case c3 => exact rfl
  case c4 => decide
  case hc =>
    simp only [List.forall_mem_cons]
    exact ⟨⟨hx, ox, fx⟩, ⟨hdx, od, fd⟩, List.forall_mem_nil _⟩
  intro g L' h₂ tl hv eL F N MG hgn B X T C ev eg htl hcl
  k_fold
  simp only [List.cons_append, List.nil_append] at N
  have t1 := (hcl _ (.head _)).2
  have t2 := (hcl _ (.tail _ (.head _))).2
  dsimp only at t1 t2
  clear hcl
  k_steps
  (with_reducible rename News _ _ _ _ => N9)
  (with_reducible rename Fr _ _ _ _ => F9)
  have g0 := N9.get (.head _)
  have g1 := N9.get (.tail _ (.head _))
  refine ⟨rfl, hret _ _ _ _ _ _ ?_ (Nat.le_succ _) (Nat.le_refl _) ?_ g1 g0 ⟨_, N9.get (.tail _ (.tail _ (.head _)))⟩⟩
  · intro b o e
    have hb := ltN (Heap.lt_size e)
    refine stay_of (Mut := fun a => a = s.heap.objs.size + 1 ∨ a = s.heap.objs.size) C ev F9 N9 (fun q hq => .tail _ (.tail _ (.tail _ hq))) (fun a ha o' e' hn => ?_) b o (k1 b o e) (fun h => by rcases h with rfl | rfl <;> omega)
    simp only [List.map_cons, List.map_nil, List.mem_cons, List.not_mem_nil, or_false] at ha
    rcases ha with rfl | rfl
    · exact absurd (.inl rfl) hn
    · exact absurd (.inr rfl) hn
  · have q1 := (N9 _ (.tail _ (.tail _ (.head _)))).1
    omega

theorem node_b5 {w : World} {ex : Addr} {t : Str} {tk tk1 tk2 : Tok} {i j : Int} {cv : Value} : ∀ (oc : Value) (od : Option Addr) (fd : FuncData) (osl : Array (Option Value)) (x : Addr) (s' : Shared), (_root_.Mine.hd.heap_39 w.params).lookup 150 = some ⟨oc, od, .func fd, osl⟩ → (_root_.Mine.hd.heap_39 w.params).In s'.heap →
    BindsTo s' fd ⟨[.ref x, .ref ex, .str t tk, .int i tk1, .int j tk2, cv], []⟩ (bindsNode x ex t tk i tk1 j tk2 cv) := by
  intro oc od fd osl x s' hl X
  have key : ∀ o, (_root_.Mine.hd.heap_39 w.params).lookup 150 = some o → o = ⟨oc, od, .func fd, osl⟩ := fun o e => Option.some.inj (e.symm.trans hl)
  have e2 := key _ (by k_is)
  cases e2
  exact binds_K X rfl (by k_is) rfl rfl rfl
theorem node_b4 {w : World} {ex : Addr} {t : Str} {tk tk1 tk2 : Tok} {i j : Int} : ∀ (oc : Value) (od : Option Addr) (fd : FuncData) (osl : Array (Option Value)) (x : Addr) (s' : Shared), (_root_.Mine.hd.heap_39 w.params).lookup 150 = some ⟨oc, od, .func fd, osl⟩ → (_root_.Mine.hd.heap_39 w.params).In s'.heap →
    BindsTo s' fd ⟨[.ref x, .ref ex, .str t tk, .int i tk1, .int j tk2], []⟩ (bindsNode x ex t tk i tk1 j tk2 .none) := by
  intro oc od fd osl x s' hl X
  have key : ∀ o, (_root_.Mine.hd.heap_39 w.params).lookup 150 = some o → o = ⟨oc, od, .func fd, osl⟩ := fun o e => Option.some.inj (e.symm.trans hl)
  have e2 := key _ (by k_is)
  cases e2
  exact binds_K X rfl (by k_is) rfl rfl rfl
theorem node_bk {w : World} {ex : Addr} {t : Str} {tk tk1 tk2 : Tok} {i j : Int} {cv : Value} : ∀ (oc : Value) (od : Option Addr) (fd : FuncData) (osl : Array (Option Value)) (x : Addr) (s' : Shared), (_root_.Mine.hd.heap_39 w.params).lookup 150 = some ⟨oc, od, .func fd, osl⟩ → (_root_.Mine.hd.heap_39 w.params).In s'.heap →
    BindsTo s' fd ⟨[.ref x, .ref ex, .str t tk, .int i tk1, .int j tk2], [("children", cv)]⟩ (bindsNode x ex t tk i tk1 j tk2 cv) := by
  intro oc od fd osl x s' hl X
  have key : ∀ o, (_root_.Mine.hd.heap_39 w.params).lookup 150 = some o → o = ⟨oc, od, .func fd, osl⟩ := fun o e => Option.some.inj (e.symm.trans hl)
  have e2 := key _ (by k_is)
  cases e2
  exact binds_K X rfl (by k_is) rfl rfl rfl
end
end Mine
end
section
open PySem PySem.W PyProof.Rows PySem.Calls PySem.Spec
set_option maxRecDepth 100000
namespace Mine
theorem rs2 : True := by
  w_top off
  trivial
abbrev Pg : Program := PySem.Challenge.rw_vy0014_01.row.prog
/-- a step of the plan -/
inductive Stp where
  | word (x : Str)
  | both (i j : Nat)
  | either (i j : Nat)
  | look (i : Nat)
  | nay (i : Nat)
  | times (i : Nat) (least : Nat) (most : Int)

/-- how often and from where the inner one is matched: the places, and the end -/
def runs (E : Nat → Int) (most : Int) : Nat → Nat → Nat → List Nat × Nat
  | 0, _, p => ([], p)
  | f + 1, c, p => if (c : Int) ≠ most ∧ 0 ≤ E p then
      (p :: (runs E most f (c + 1) (E p).toNat).1, (runs E most f (c + 1) (E p).toNat).2) else ([], p)

/-- a text's piece is the word -/
def wordEnd (x text : Str) (pos : Nat) : Int := if (Str.mk (text.cps.extract pos (pos + x.length))) = x then (pos + x.length : Nat) else -1

def stepEnd (E : Nat → Nat → Int) (text : Str) (st : Stp) (pos : Nat) : Int := match st with
  | .word x => wordEnd x text pos
  | .both i j => if 0 ≤ E i pos then E j (E i pos).toNat else -1
  | .either i j => if 0 ≤ E i pos then E i pos else E j pos
  | .look i => if 0 ≤ E i pos then pos else -1
  | .nay i => if 0 ≤ E i pos then -1 else pos
  | .times i least most => if (runs (E i) most (text.length + 1) 0 pos).1.length ≥ least then ((runs (E i) most (text.length + 1) 0 pos).2 : Int) else -1

def stepDue (E : Nat → Nat → Int) (text : Str) (st : Stp) (pos : Nat) : List (Nat × Nat) := match st with
  | .both i j => [(i, pos), (j, (E i pos).toNat)]
  | .either i j => [(if 0 ≤ E i pos then i else j, pos)]
  | .times i _ most => (runs (E i) most (text.length + 1) 0 pos).1.map fun p => (i, p)
  | _ => []

/-- the parts of a step stand earlier -/
def stepRefs (k : Nat) : Stp → Prop
  | .word _ => True
  | .both i j => i < k ∧ j < k
  | .either i j => i < k ∧ j < k
  | .look i => i < k
  | .nay i => i < k
  | .times i least most => i < k ∧ (most = -1 ∨ (least : Int) ≤ most)

structure Cfg where
  text : Str
  tk : Tok
  plan : List Stp
  E : Nat → Nat → Int
  ea : Nat → Addr
  da : Nat → Addr
  ca : Addr
  err : Addr
  de : Addr
  olds : List Addr
  lo0 : Nat

/-- what the matcher may see of the heap: all but the caller's own unfinished objects -/
def Vw (hid : List Addr) (h : Heap) : Heap := hideAll h hid
theorem Cfg.vget {hid : List Addr} {h : Heap} {a : Addr} {o : Obj} (e : (Vw hid h).get? a = some o) : h.get? a = some o := of_hideAll _ e
theorem Cfg.vnot {hid : List Addr} {h : Heap} {a : Addr} {o : Obj} (e : (Vw hid h).get? a = some o) : a ∉ hid := fun hm => by
  have : (hideAll h hid).get? a = none := hideAll_none _ hm
  rw [show (hideAll h hid).get? a = some o from e] at this; cases this
theorem Cfg.vput {hid : List Addr} {h : Heap} {a : Addr} {o : Obj} (hn : a ∉ hid) (e : h.get? a = some o) : (Vw hid h).get? a = some o := hideAll_get _ e hn
theorem Cfg.vto {hid : List Addr} {h h' : Heap} {a : Addr} {o o' : Obj} (e : (Vw hid h).get? a = some o) (e' : h'.get? a = some o') : (Vw hid h').get? a = some o' := vput (vnot e) e'
theorem Cfg.vst {hid : List Addr} {h h' : Heap} (k : h.StaysIn h') : (Vw hid h).StaysIn (Vw hid h') := fun b o e => vto e (k b o (vget e))
abbrev Cfg.n (Γ : Cfg) : Nat := Γ.text.length
abbrev Cfg.N (Γ : Cfg) : Nat := Γ.plan.length
def Cfg.due (Γ : Cfg) (k pos : Nat) : List (Nat × Nat) := match Γ.plan[k]? with
  | some st => stepDue Γ.E Γ.text st pos
  | none => []

/-- the table's law -/
structure Cfg.Ok (Γ : Cfg) : Prop where
  refs : ∀ k st, Γ.plan[k]? = some st → stepRefs k st
  eq : ∀ k st pos, Γ.plan[k]? = some st → pos ≤ Γ.n → Γ.E k pos = stepEnd Γ.E Γ.text st pos
  lo : ∀ k pos, k < Γ.N → pos ≤ Γ.n → Γ.E k pos = -1 ∨ (pos : Int) ≤ Γ.E k pos
  hi : ∀ k pos, k < Γ.N → pos ≤ Γ.n → Γ.E k pos ≤ Γ.n
  grows : ∀ (k i least : Nat) (most : Int) (pos : Nat), Γ.plan[k]? = some (Stp.times i least most) → pos ≤ Γ.n → Γ.E i pos ≠ pos
  small : Γ.n ≤ 1000
  few : Γ.N ≤ 100

/-- a tree stands in the heap -/
inductive NodeRep (Γ : Cfg) (h : Heap) : Addr → Nat → Nat → Prop
  | mk {r : Addr} {k pos : Nat} {d : Addr} {tk1 tk2 : Tok} {c : Addr} {n : Nat} (ch : List Addr) :
      Γ.lo0 ≤ r → Γ.lo0 ≤ c → h.get? r = some (nodeObj d (Γ.ea k) Γ.text Γ.tk (pos : Int) tk1 (Γ.E k pos) tk2 c) → h.get? c = some (listOf (ch.map Value.ref).toArray n) →
      Γ.lo0 ≤ d → (∃ od, h.get? d = some od) → ch.length = (Γ.due k pos).length → (∀ (i : Nat) (q : Nat × Nat) (a : Addr), (Γ.due k pos)[i]? = some q → ch[i]? = some a → NodeRep Γ h a q.1 q.2) → NodeRep Γ h r k pos

/-- all but dicts stands -/
def KeepND (h h' : Heap) : Prop := (∀ b o, h.get? b = some o → (∀ es n, o.data ≠ .dict es n) → h'.get? b = some o) ∧ ∀ b o, h.get? b = some o → ∃ o', h'.get? b = some o'
theorem KeepND.of {h h' : Heap} {M : Addr → Prop} (kp : ∀ b o, h.get? b = some o → ¬ M b → h'.get? b = some o) (nd : ∀ b o, M b → h.get? b = some o → ∃ es n, o.data = .dict es n) (up : ∀ b o, M b → h.get? b = some o → ∃ o', h'.get? b = some o') : KeepND h h' :=
  ⟨fun b o e n => kp b o e fun m => let ⟨es, k, d⟩ := nd b o m e; n es k d, fun b o e => (Classical.em (M b)).elim (fun m => up b o m e) fun m => ⟨o, kp b o e m⟩⟩
theorem KeepND.trans {h h' h'' : Heap} (a : KeepND h h') (b : KeepND h' h'') : KeepND h h'' := ⟨fun c o e n => b.1 c o (a.1 c o e n) n, fun c o e => let ⟨o', e'⟩ := a.2 c o e; b.2 c o' e'⟩
theorem Cfg.vkn {hid : List Addr} {h h' : Heap} (k : KeepND h h') : KeepND (Vw hid h) (Vw hid h') := ⟨fun b o e n => vto e (k.1 b o (vget e) n), fun b o e => let ⟨o', e'⟩ := k.2 b o (vget e); ⟨o', vto e e'⟩⟩
theorem NodeRep.keep {Γ : Cfg} {h h' : Heap} (kp : KeepND h h') {r : Addr} {k pos : Nat} (x : NodeRep Γ h r k pos) : NodeRep Γ h' r k pos := by
  induction x with
  | mk ch l1 l2 h1 h2 ld hd h3 _ ih => exact .mk ch l1 l2 (kp.1 _ _ h1 (by intro _ _ e; cases e)) (kp.1 _ _ h2 (by intro _ _ e; cases e)) ld (let ⟨_, e⟩ := hd; kp.2 _ _ e) h3 ih

abbrev tupOf (vs : List Value) (n : Nat) : Obj := { cls := .type "tuple", data := .seq vs.toArray n }
/-- the object of an expression; its dict stands at d -/
def ExprObj (Γ : Cfg) (h : Heap) (d : Addr) (st : Stp) (o : Obj) : Prop := match st with
  | .word x => ∃ tx it nm tn, nm.length ≤ 10 ∧ o = { cls := .ref 336, dict := some d, data := .plain, slots := #[some (.str x tx), some (.ref it), some (.str nm tn)] }
  | .both i j => ∃ mt mn it nm tn, nm.length ≤ 10 ∧ o = { cls := .ref 394, dict := some d, data := .plain, slots := #[some (.ref mt), some (.ref it), some (.str nm tn)] } ∧ Γ.lo0 ≤ mt ∧ h.get? mt = some (tupOf [.ref (Γ.ea i), .ref (Γ.ea j)] mn)
  | .either i j => ∃ mt mn it nm tn, nm.length ≤ 10 ∧ o = { cls := .ref 420, dict := some d, data := .plain, slots := #[some (.ref mt), some (.ref it), some (.str nm tn)] } ∧ Γ.lo0 ≤ mt ∧ h.get? mt = some (tupOf [.ref (Γ.ea i), .ref (Γ.ea j)] mn)
  | .look i => ∃ mt mn it nm tn, nm.length ≤ 10 ∧ o = { cls := .ref 458, dict := some d, data := .plain, slots := #[some (.bool false), some (.ref mt), some (.ref it), some (.str nm tn)] } ∧ Γ.lo0 ≤ mt ∧ h.get? mt = some (tupOf [.ref (Γ.ea i)] mn)
  | .nay i => ∃ mt mn it nm tn, nm.length ≤ 10 ∧ o = { cls := .ref 458, dict := some d, data := .plain, slots := #[some (.bool true), some (.ref mt), some (.ref it), some (.str nm tn)] } ∧ Γ.lo0 ≤ mt ∧ h.get? mt = some (tupOf [.ref (Γ.ea i)] mn)
  | .times i least most => ∃ mx tl mt mn it nm tn, nm.length ≤ 10 ∧ o = { cls := .ref 504, dict := some d, data := .plain, slots := #[some mx, some (.int least tl), some (.ref mt), some (.ref it), some (.str nm tn)] } ∧ Γ.lo0 ≤ mt ∧ h.get? mt = some (tupOf [.ref (Γ.ea i)] mn) ∧
      ((most = -1 ∧ ∃ t, mx = .float 9218868437227405312 t) ∨ (0 ≤ most ∧ ∃ t, mx = .int most t))
def clsOf : Stp → Addr
  | .word _ => 336
  | .both .. => 394
  | .either .. => 420
  | .look _ => 458
  | .nay _ => 458
  | .times .. => 504
def umOf : Stp → Addr
  | .word _ => 325
  | .both .. => 384
  | .either .. => 410
  | .look _ => 447
  | .nay _ => 447
  | .times .. => 493

/-- what a match hands back -/
def Res (Γ : Cfg) (h : Heap) (k pos : Nat) (v : Value) : Prop := (Γ.E k pos = -1 ∧ v = .none) ∨ (0 ≤ Γ.E k pos ∧ ∃ r, v = .ref r ∧ NodeRep Γ h r k pos)
theorem Res.keep {Γ : Cfg} {h h' : Heap} (kp : KeepND h h') {k pos : Nat} {v : Value} (x : Res Γ h k pos v) : Res Γ h' k pos v :=
  x.imp id fun ⟨a, r, e, q⟩ => ⟨a, r, e, q.keep kp⟩

def dictAddrs (Γ : Cfg) (ecs : List Addr) : List Addr := Γ.ca :: Γ.de :: ((List.range Γ.N).map Γ.da ++ ecs)
def cachePairs (ecs : List Addr) : List (Int × Value) := ecs.zipIdx.map fun p => ((p.2 : Int), Value.ref p.1)

/-- a finished table of an expression -/
def EcClean (w : World) (Γ : Cfg) (h : Heap) (j : Nat) (ec : Addr) : Prop :=
  ∃ o kvs, h.get? ec = some o ∧ o.IsDictOf (intKind Pg w) kvs ∧ ∀ kv ∈ kvs, ∃ q : Nat, kv.1 = (q : Int) ∧ q ≤ Γ.n ∧ Res Γ h j q kv.2

abbrev oidsEntry (w : World) (t : Tok) (tp : Addr) : DictEntry := ⟨PyData.keyHash w.params "oids", .str "oids" t, .ref tp⟩
/-- an expression's own dict -/
def AttrSt (w : World) (Γ : Cfg) (h : Heap) (k : Nat) (r : Option Nat) (ecs : List Addr) : Prop := match r with
  | some oid => ∃ n t tp tn pr pn tk' rest ec, ecs[oid]? = some ec ∧ h.get? (Γ.da k) = some (dictOf [oidsEntry w t tp] n) ∧ Γ.lo0 ≤ tp ∧ Γ.lo0 ≤ pr ∧
      h.get? tp = some (tupOf (.ref pr :: rest) tn) ∧ h.get? pr = some (tupOf [.int (oid : Int) tk', .ref ec] pn) ∧ (Γ.olds = [] → rest = [])
  | none => (∃ n, h.get? (Γ.da k) = some (dictOf [] n)) ∨ (∃ (o : Nat), ∃ n t tp tn pr pn tk' ec, h.get? (Γ.da k) = some (dictOf [oidsEntry w t tp] n) ∧ Γ.lo0 ≤ tp ∧ Γ.lo0 ≤ pr ∧
      h.get? tp = some (tupOf [.ref pr] tn) ∧ h.get? pr = some (tupOf [.int (o : Int) tk', .ref ec] pn) ∧ ec ∈ Γ.olds)

structure Inv (w : World) (Γ : Cfg) (b : Nat) (h : Heap) (reg : Nat → Option Nat) (ecs : List Addr) : Prop where
  ex : ∀ k st, Γ.plan[k]? = some st → Γ.lo0 ≤ Γ.ea k ∧ ∃ o, h.get? (Γ.ea k) = some o ∧ ExprObj Γ h (Γ.da k) st o
  er : Γ.lo0 ≤ Γ.err ∧ ∃ oe, h.get? Γ.err = some oe ∧ oe.cls = .ref 94 ∧ oe.dict = some Γ.de ∧ notCls oe = true ∧ (∀ es n, oe.data ≠ .dict es n)
  ed : ∃ (p : Int), ∃ n t1 t2 t3 tx tp ev, h.get? Γ.de = some (dictOf [⟨PyData.keyHash w.params "text", .str "text" t1, tx⟩, ⟨PyData.keyHash w.params "pos", .str "pos" t2, .int p tp⟩, ⟨PyData.keyHash w.params "expr", .str "expr" t3, ev⟩] n) ∧
      (ev = .none ∨ ∃ j, j < Γ.N ∧ ev = .ref (Γ.ea j))
  cc : ∃ oc, h.get? Γ.ca = some oc ∧ oc.IsDictOf (intKind Pg w) (cachePairs ecs)
  nd : (dictAddrs Γ ecs).Nodup
  dl : ∀ a ∈ dictAddrs Γ ecs, Γ.lo0 ≤ a
  eb : ∀ a ∈ dictAddrs Γ ecs, a ∉ Γ.olds
  att : ∀ k, k < Γ.N → AttrSt w Γ h k (reg k) ecs
  inj : ∀ j j' o, reg j = some o → reg j' = some o → j = j'
  rl : ∀ j o, reg j = some o → j < Γ.N ∧ o < ecs.length
  sur : ∀ i, i < ecs.length → ∃ j, reg j = some i
  cl : ∀ j, j < b → ∀ o, reg j = some o → ∃ ec, ecs[o]? = some ec ∧ EcClean w Γ h j ec

/-- the tables stand, those of an earlier run too -/
structure Stand (Γ : Cfg) (h : Heap) (ecs : List Addr) : Prop where
  new : ∀ a ∈ ecs, ∃ o, h.get? a = some o ∧ o.cls = .type "dict"
  old : ∀ a ∈ Γ.olds, ∃ o, h.get? a = some o ∧ o.cls = .type "dict" ∧ Γ.lo0 ≤ a
theorem Stand.sub {Γ : Cfg} {h h' : Heap} {ecs : List Addr} (S : Stand Γ h ecs) (k : h.StaysIn h') : Stand Γ h' ecs :=
  ⟨fun a ha => let ⟨o, e, c⟩ := S.new a ha; ⟨o, k _ _ e, c⟩, fun a ha => let ⟨o, e, c⟩ := S.old a ha; ⟨o, k _ _ e, c⟩⟩
theorem vw_cons {hid : List Addr} {h1 : Heap} {a : Addr} (hn : h1.get? a = none) : (Vw hid h1).StaysIn (Vw (a :: hid) h1) := fun b o e => Cfg.vput (fun hm => by
  rcases List.mem_cons.mp hm with q | q
  · rw [← q, Cfg.vget e] at hn; cases hn
  · exact Cfg.vnot e q) (Cfg.vget e)
theorem vw_all {hid loc : List Addr} {h1 : Heap} : (Vw (loc ++ hid) h1).StaysIn (Vw hid h1) := fun _ _ e => Cfg.vput (fun hm => Cfg.vnot e (List.mem_append_right _ hm)) (Cfg.vget e)
theorem vw_one {hid : List Addr} {L : Addr} {h1 : Heap} : (Vw (L :: hid) h1).StaysIn (Vw hid h1) := vw_all (loc := [L])
theorem EcClean.sub {w : World} {Γ : Cfg} {h h' : Heap} {j : Nat} {ec : Addr} (x : EcClean w Γ h j ec) (e : ∀ o, h.get? ec = some o → h'.get? ec = some o) (k : KeepND h h') : EcClean w Γ h' j ec :=
  let ⟨o, kvs, ho, hd, hr⟩ := x
  ⟨o, kvs, e o ho, hd, fun kv hm => let ⟨q, a, b, r⟩ := hr kv hm; ⟨q, a, b, r.keep k⟩⟩
theorem AttrSt.sub {w : World} {Γ : Cfg} {h h' : Heap} {k : Nat} {r : Option Nat} {ecs ecs' : List Addr} (x : AttrSt w Γ h k r ecs) (e : ∀ o, h.get? (Γ.da k) = some o → h'.get? (Γ.da k) = some o) (kp : KeepND h h')
    (hx : ∀ (i : Nat) a, ecs[i]? = some a → ecs'[i]? = some a) : AttrSt w Γ h' k r ecs' := by
  cases r with
  | some oid =>
    obtain ⟨n, t, tp, tn, pr, pn, tk', rest, ec, h1, h2, h3, h4, h5, h6, h7⟩ := x
    exact ⟨n, t, tp, tn, pr, pn, tk', rest, ec, hx _ _ h1, e _ h2, h3, h4, kp.1 _ _ h5 (by intro _ _ e; cases e), kp.1 _ _ h6 (by intro _ _ e; cases e), h7⟩
  | none =>
    rcases x with ⟨n, h1⟩ | ⟨o, n, t, tp, tn, pr, pn, tk', ec, h2, h3, h4, h5, h6, h7⟩
    · exact .inl ⟨n, e _ h1⟩
    · exact .inr ⟨o, n, t, tp, tn, pr, pn, tk', ec, e _ h2, h3, h4, kp.1 _ _ h5 (by intro _ _ e; cases e), kp.1 _ _ h6 (by intro _ _ e; cases e), h7⟩
theorem ExprObj.sub {Γ : Cfg} {h h' : Heap} {d : Addr} {st : Stp} {o : Obj} (x : ExprObj Γ h d st o) (kp : KeepND h h') : ExprObj Γ h' d st o := by
  have kt : ∀ {a vs n}, h.get? a = some (tupOf vs n) → h'.get? a = some (tupOf vs n) := fun e => kp.1 _ _ e (by intro _ _ e; cases e)
  cases st with
  | word _ => exact x
  | both i j => obtain ⟨mt, mn, it, nm, tn, e0, e, l, q⟩ := x; exact ⟨mt, mn, it, nm, tn, e0, e, l, kt q⟩
  | either i j => obtain ⟨mt, mn, it, nm, tn, e0, e, l, q⟩ := x; exact ⟨mt, mn, it, nm, tn, e0, e, l, kt q⟩
  | look i => obtain ⟨mt, mn, it, nm, tn, e0, e, l, q⟩ := x; exact ⟨mt, mn, it, nm, tn, e0, e, l, kt q⟩
  | nay i => obtain ⟨mt, mn, it, nm, tn, e0, e, l, q⟩ := x; exact ⟨mt, mn, it, nm, tn, e0, e, l, kt q⟩
  | times i least most => obtain ⟨mx, tl, mt, mn, it, nm, tn, e0, e, l, q, r⟩ := x; exact ⟨mx, tl, mt, mn, it, nm, tn, e0, e, l, kt q, r⟩
theorem ExprObj.plain {Γ : Cfg} {h : Heap} {d : Addr} {st : Stp} {o : Obj} (x : ExprObj Γ h d st o) : o.data = .plain ∧ o.dict = some d ∧ o.cls = .ref (clsOf st) := by
  cases st with
  | word _ => obtain ⟨_, _, _, _, _, rfl⟩ := x; exact ⟨rfl, rfl, rfl⟩
  | both i j => obtain ⟨_, _, _, _, _, _, rfl, _⟩ := x; exact ⟨rfl, rfl, rfl⟩
  | either i j => obtain ⟨_, _, _, _, _, _, rfl, _⟩ := x; exact ⟨rfl, rfl, rfl⟩
  | look i => obtain ⟨_, _, _, _, _, _, rfl, _⟩ := x; exact ⟨rfl, rfl, rfl⟩
  | nay i => obtain ⟨_, _, _, _, _, _, rfl, _⟩ := x; exact ⟨rfl, rfl, rfl⟩
  | times i least most => obtain ⟨_, _, _, _, _, _, _, _, rfl, _⟩ := x; exact ⟨rfl, rfl, rfl⟩
theorem Heap.StaysIn.nd {h h' : Heap} (k : h.StaysIn h') : KeepND h h' := ⟨fun b o e _ => k b o e, fun b o e => ⟨o, k b o e⟩⟩

/-- what a call at level b may turn -/
def MutK (Γ : Cfg) (b : Nat) (reg : Nat → Option Nat) (ecs : List Addr) (a : Addr) : Prop :=
  a = Γ.ca ∨ a = Γ.de ∨ (∃ j, j < b ∧ j < Γ.N ∧ a = Γ.da j) ∨ ∃ j, j < b ∧ ∃ oid, reg j = some oid ∧ ecs[oid]? = some a
structure Ext (b : Nat) (reg : Nat → Option Nat) (ecs : List Addr) (reg' : Nat → Option Nat) (ecs' : List Addr) : Prop where
  pre : ∃ more, ecs' = ecs ++ more
  old : ∀ j o, reg j = some o → reg' j = some o
  out : ∀ j, b ≤ j → reg' j = reg j
theorem Ext.refl {b : Nat} {reg : Nat → Option Nat} {ecs : List Addr} : Ext b reg ecs reg ecs := ⟨⟨[], (List.append_nil _).symm⟩, fun _ _ e => e, fun _ _ => rfl⟩
theorem Ext.trans {b : Nat} {reg₁ reg₂ reg₃ : Nat → Option Nat} {ecs₁ ecs₂ ecs₃ : List Addr} (x : Ext b reg₁ ecs₁ reg₂ ecs₂) (y : Ext b reg₂ ecs₂ reg₃ ecs₃) : Ext b reg₁ ecs₁ reg₃ ecs₃ := by
  obtain ⟨m₁, rfl⟩ := x.pre
  obtain ⟨m₂, rfl⟩ := y.pre
  exact ⟨⟨m₁ ++ m₂, List.append_assoc _ _ _⟩, fun j o e => y.old j o (x.old j o e), fun j hj => (y.out j hj).trans (x.out j hj)⟩
theorem Ext.up {b b' : Nat} {reg reg' : Nat → Option Nat} {ecs ecs' : List Addr} (x : Ext b reg ecs reg' ecs') (hb : b ≤ b') : Ext b' reg ecs reg' ecs' := ⟨x.pre, x.old, fun j hj => x.out j (Nat.le_trans hb hj)⟩
theorem Ext.get {b : Nat} {reg reg' : Nat → Option Nat} {ecs ecs' : List Addr} (x : Ext b reg ecs reg' ecs') {i : Nat} {a : Addr} (e : ecs[i]? = some a) : ecs'[i]? = some a := by
  obtain ⟨m, rfl⟩ := x.pre
  rw [List.getElem?_append_left (List.getElem?_eq_some_iff.mp e).1]; exact e
theorem MutK.up {Γ : Cfg} {b b' : Nat} {reg : Nat → Option Nat} {ecs : List Addr} {a : Addr} (x : MutK Γ b reg ecs a) (hb : b ≤ b') : MutK Γ b' reg ecs a := by
  rcases x with x | x | ⟨j, x, y⟩ | ⟨j, x, y⟩
  · exact .inl x
  · exact .inr (.inl x)
  · exact .inr (.inr (.inl ⟨j, Nat.lt_of_lt_of_le x hb, y⟩))
  · exact .inr (.inr (.inr ⟨j, Nat.lt_of_lt_of_le x hb, y⟩))

section
variable {w : World} {Γ : Cfg} {b : Nat} {h h' : Heap} {reg : Nat → Option Nat} {ecs : List Addr}
theorem Inv.down (I : Inv w Γ b h reg ecs) {b' : Nat} (hb : b' ≤ b) : Inv w Γ b' h reg ecs := { I with cl := fun j hj => I.cl j (Nat.lt_of_lt_of_le hj hb) }
theorem Inv.mem_da (I : Inv w Γ b h reg ecs) {k : Nat} (hk : k < Γ.N) : Γ.da k ∈ dictAddrs Γ ecs := .tail _ (.tail _ (List.mem_append_left _ (List.mem_map.mpr ⟨k, List.mem_range.mpr hk, rfl⟩)))
theorem mem_ecs {a : Addr} (h : a ∈ ecs) : a ∈ dictAddrs Γ ecs := .tail _ (.tail _ (List.mem_append_right _ h))
theorem Inv.mut_mem (I : Inv w Γ b h reg ecs) {c : Nat} {a : Addr} (x : MutK Γ c reg ecs a) : a ∈ dictAddrs Γ ecs := by
  rcases x with rfl | rfl | ⟨j, _, hj, rfl⟩ | ⟨j, _, o, _, e⟩
  · exact .head _
  · exact .tail _ (.head _)
  · exact I.mem_da hj
  · exact mem_ecs (List.mem_of_getElem? e)
/-- every dict of the list stands and is a dict -/
theorem Inv.isDict (I : Inv w Γ b h reg ecs) {c : Nat} {a : Addr} (x : MutK Γ c reg ecs a) (hc : c ≤ b) {o : Obj} (e : h.get? a = some o) : ∃ es n, o.data = .dict es n := by
  rcases x with rfl | rfl | ⟨j, _, hj, rfl⟩ | ⟨j, hj, oid, hr, e'⟩
  · obtain ⟨oc, h1, _, _, _, h2, _⟩ := I.cc
    rw [h1] at e; cases e; exact ⟨_, _, h2⟩
  · obtain ⟨q, n, t1, t2, t3, tx, tp, ev, h1, _⟩ := I.ed
    rw [h1] at e; cases e; exact ⟨_, _, rfl⟩
  · have := I.att j hj
    cases hr : reg j with
    | some oid =>
      rw [hr] at this
      obtain ⟨n, t, tp, tn, pr, pn, tk', rest, ec, h1, h2, _⟩ := this
      rw [h2] at e; cases e; exact ⟨_, _, rfl⟩
    | none =>
      rw [hr] at this
      rcases this with ⟨n, h2⟩ | ⟨o', n, t, tp, tn, pr, pn, tk', ec, h2, _⟩
      · rw [h2] at e; cases e; exact ⟨_, _, rfl⟩
      · rw [h2] at e; cases e; exact ⟨_, _, rfl⟩
  · obtain ⟨ec, h1, o', kvs, h2, h3, _⟩ := I.cl j (Nat.lt_of_lt_of_le hj hc) oid hr
    rw [e'] at h1; cases h1
    rw [h2] at e; cases e
    obtain ⟨_, _, _, h4, _⟩ := h3; exact ⟨_, _, h4⟩
/-- what turns stands -/
theorem Inv.mutUp {c : Nat} {reg' : Nat → Option Nat} {ecs' : List Addr} (I : Inv w Γ c h' reg' ecs') (X : Ext c reg ecs reg' ecs') {a : Addr} (x : MutK Γ c reg ecs a) : ∃ o', h'.get? a = some o' := by
  rcases x with rfl | rfl | ⟨j, _, hj, rfl⟩ | ⟨j, hj, oid, hr, e'⟩
  · obtain ⟨oc, h1, _⟩ := I.cc; exact ⟨oc, h1⟩
  · obtain ⟨q, n, t1, t2, t3, tx, tp, ev, h1, _⟩ := I.ed; exact ⟨_, h1⟩
  · have := I.att j hj
    cases hr : reg' j with
    | some oid =>
      rw [hr] at this
      obtain ⟨n, t, tp, tn, pr, pn, tk', rest, ec, h1, h2, _⟩ := this
      exact ⟨_, h2⟩
    | none =>
      rw [hr] at this
      rcases this with ⟨n, h2⟩ | ⟨o', n, t, tp, tn, pr, pn, tk', ec, h2, _⟩
      · exact ⟨_, h2⟩
      · exact ⟨_, h2⟩
  · obtain ⟨ec, h1, o', kvs, h2, _⟩ := I.cl j hj oid (X.old _ _ hr)
    rw [X.get e'] at h1; cases h1
    exact ⟨o', h2⟩
theorem Inv.keepND (I : Inv w Γ b h reg ecs) {c : Nat} (hc : c ≤ b) {reg' : Nat → Option Nat} {ecs' : List Addr} (I' : Inv w Γ c h' reg' ecs') (X : Ext c reg ecs reg' ecs') (kp : ∀ a o, h.get? a = some o → ¬ MutK Γ c reg ecs a → h'.get? a = some o) : KeepND h h' :=
  .of kp (fun _ _ m e => I.isDict m hc e) fun _ _ m _ => I'.mutUp X m
theorem Stand.call {b' : Nat} {reg' : Nat → Option Nat} {ecs' : List Addr} (S : Stand Γ h ecs) (I : Inv w Γ b h reg ecs) (I' : Inv w Γ b' h' reg' ecs') (X : Ext b' reg ecs reg' ecs') (hb : b' ≤ b)
    (kp : ∀ a o, h.get? a = some o → ¬ MutK Γ b' reg ecs a → h'.get? a = some o) : Stand Γ h' ecs' := by
  refine ⟨fun a ha => ?_, fun a ha => ?_⟩
  · obtain ⟨i, hi, rfl⟩ := List.mem_iff_getElem.mp ha
    obtain ⟨j, hj⟩ := I'.sur i hi
    by_cases hjb : j < b'
    · obtain ⟨ec, h1, o, kvs, h2, h3, _⟩ := I'.cl j hjb i hj
      rw [List.getElem?_eq_getElem hi] at h1
      cases h1
      obtain ⟨_, _, h4, _⟩ := h3
      exact ⟨o, h2, h4.1⟩
    · have e1 := X.out j (Nat.le_of_not_lt hjb)
      rw [hj] at e1
      have hi' := (I.rl j i e1.symm).2
      obtain ⟨m, rfl⟩ := X.pre
      have e2 : (ecs ++ m)[i] = ecs[i] := List.getElem_append_left hi'
      rw [e2]
      obtain ⟨o, h1, h2⟩ := S.new ecs[i] (List.getElem_mem _)
      refine ⟨o, kp _ _ h1 fun hm => ?_, h2⟩
      have nd := I.nd
      unfold dictAddrs at nd
      rw [List.nodup_cons, List.nodup_cons, List.nodup_append] at nd
      obtain ⟨n1, n2, _, n3, n4⟩ := nd
      rcases hm with q | q | ⟨j', _, hj', q⟩ | ⟨j', hj', o', hr, e'⟩
      · exact n1 (q ▸ .tail _ (List.mem_append_right _ (List.getElem_mem _)))
      · exact n2 (q ▸ List.mem_append_right _ (List.getElem_mem _))
      · exact n4 _ (List.mem_map.mpr ⟨j', List.mem_range.mpr hj', rfl⟩) _ (List.getElem_mem hi') q.symm
      · obtain ⟨l1, e3⟩ := List.getElem?_eq_some_iff.mp e'
        have e4 := (List.getElem_inj n3).mp e3
        subst e4
        exact absurd (I.inj _ _ _ e1.symm hr) (fun q => hjb (q ▸ hj'))
  · obtain ⟨o, h1, h2⟩ := S.old a ha
    refine ⟨o, kp _ _ h1 fun hm => ?_, h2⟩
    exact I.eb _ (I.mut_mem hm) ha
end
end Mine
end
section
open PySem PySem.W PyProof.Rows PySem.Calls PySem.Spec Builtin Builtin.ObjectAttr
set_option maxRecDepth 100000
set_option maxHeartbeats 2000000
namespace Mine
local macro_rules | `(tactic| walk_at "0") => `(tactic| skip)
local macro_rules | `(tactic| walk_at "0") => `(tactic| skip)
local macro_rules | `(tactic| walk_at "0") => `(tactic| skip)
local macro_rules | `(tactic| walk_at "0") => `(tactic| skip)
local macro_rules | `(tactic| walk_at "0") => `(tactic| skip)
local macro_rules | `(tactic| walk_at "0") => `(tactic| skip)
local macro_rules | `(tactic| walk_at "0") => `(tactic| skip)
local macro_rules | `(tactic| walk_at "0") => `(tactic| skip)
local macro_rules | `(tactic| walk_at "0") => `(tactic| skip)
local macro_rules | `(tactic| walk_at "0") => `(tactic| skip)
local macro_rules | `(tactic| walk_at "0") => `(tactic| skip)
local macro_rules | `(tactic| walk_at "0") => `(tactic| skip)
local macro_rules | `(tactic| walk_at "0") => `(tactic| skip)
local macro_rules | `(tactic| walk_at "0") => `(tactic| skip)
local macro_rules | `(tactic| walk_at "0") => `(tactic| skip)
local macro_rules | `(tactic| walk_at "0") => `(tactic| skip)
local macro_rules | `(tactic| walk_at "0") => `(tactic| skip)
local macro_rules | `(tactic| walk_at "0") => `(tactic| skip)
local macro_rules | `(tactic| walk_at "0") => `(tactic| skip)
local macro_rules | `(tactic| walk_at "0") => `(tactic| skip)
local macro_rules | `(tactic| walk_at "0") => `(tactic| skip)
local macro_rules | `(tactic| walk_at "0") => `(tactic| skip)
local macro_rules | `(tactic| walk_at "0") => `(tactic| skip)
local macro_rules | `(tactic| walk_at "0") => `(tactic| skip)
local macro_rules | `(tactic| walk_at "0") => `(tactic| skip)
local macro_rules | `(tactic| walk_at "0") => `(tactic| skip)
local macro_rules | `(tactic| walk_at "0") => `(tactic| skip)
local macro_rules | `(tactic| walk_at "0") => `(tactic| skip)
local macro_rules | `(tactic| walk_at "0") => `(tactic| skip)
local macro_rules | `(tactic| walk_at "0") => `(tactic| skip)
local macro_rules | `(tactic| walk_at "0") => `(tactic| skip)
local macro_rules | `(tactic| walk_at "0") => `(tactic| skip)
local macro_rules | `(tactic| walk_at "0") => `(tactic| skip)
local macro_rules | `(tactic| walk_at "0") => `(tactic| skip)
local macro_rules | `(tactic| walk_at "0") => `(tactic| skip)
local macro_rules | `(tactic| walk_at "0") => `(tactic| skip)
local macro_rules | `(tactic| walk_at "0") => `(tactic| skip)
local macro_rules | `(tactic| walk_at "0") => `(tactic| skip)
local macro_rules | `(tactic| walk_at "0") => `(tactic| skip)
local macro_rules | `(tactic| walk_at "0") => `(tactic| skip)
theorem rs3 : True := by
  w_top off
  trivial
theorem args_getattr_3 (a b c : Value) : argsOk "getattr" ⟨[a, b, c], []⟩ := by unfold argsOk; kernel_rfl
section
variable {prog : Program} {w : World} {A : Around} {E : Value → Shared → Prop} {s : Shared} {K : Frag} {x C : Addr} {ox : Obj} {od : Option Obj} {name : Str} {t : Tok} {Q : Value → Shared → Prop} {dflt v : Value}
/-- a look at an attribute of an own object, no error filled in -/
theorem by_open (X : K.In s.heap) (I : InstAt s.heap x ox C od) (hga : findIn K (.ref C) "__getattribute__" = some (some (.builtin "object.__getattribute__")))
    (h : wpAny (model prog w) A.in1 (Builtin.«proto.getattr_hooked» ⟨[.ref x, .str name t], []⟩)
      (fun fin s' => match fin with | .done (.ret v) => wpAny (model prog w) A (handedOut v) Q E s' | _ => False) (fun e s' => E e s') s) :
    wpAny (model prog w) A (getAttrBy (.ref x) (.str name t) false) Q E s := by
  obtain ⟨hh, g, d, tk, os⟩ := s
  have L0 := I.type (M := model prog w)
  have L1 := looks_findIn (M := model prog w) X hga
  unfold getAttrBy
  refine wpAny_holding (wpAny_bind (L0.at (wpAny_bind (L1.at ?_))))
  show wpAny _ _ (getAttrEveryday _ _ _) _ _ _
  refine wpAny_bind (wpAny_onRaise (wpAny_runValue (codeAny_builtin F.plainObj_entry_getattr_hooked (wpAny_mono h (fun fin s' z => ?_) fun _ _ z => ?_))))
  · rcases fin with (_ | _ | _ | _) | _ <;> first | exact z | exact z.elim
  · exact wpAny_pure z
theorem by_value (X : K.In s.heap) (I : InstAt s.heap x ox C od) (hga : findIn K (.ref C) "__getattribute__" = some (some (.builtin "object.__getattribute__")))
    (hf : findObj K C od name = some (.value v)) (hh : handedIn v = true) (h : Q v s) : wpAny (model prog w) A (getAttrBy (.ref x) (.str name t) false) Q E s := by
  refine by_open X I hga ?_
  obtain ⟨hh', g, d, tk, os⟩ := s
  have L0 := I.type (M := model prog w)
  have L1 := looks_find (M := model prog w) X I hf
  refine wpAny_bind (wpAny_pure (wpAny_bind (L0.at (wpAny_bind (L1.at ?_)))))
  refine wpAny_pure ?_
  show wpAny _ _ (handedOut v) _ _ _
  rw [handedOut_of hh]; exact wpAny_pure h
theorem by_slot {gt a : Value} (X : K.In s.heap) (I : InstAt s.heap x ox C od) (hga : findIn K (.ref C) "__getattribute__" = some (some (.builtin "object.__getattribute__")))
    (hf : findObj K C od name = some (.bind gt a)) (hk : findIn K (.ref C) "__getattr__" = some none)
    (h : wpAny (model prog w) A.in1 (call gt [a, .ref x, .ref C]) (fun v s' => wpAny (model prog w) A (handedOut v) Q E s') E s) : wpAny (model prog w) A (getAttrBy (.ref x) (.str name t) false) Q E s := by
  refine by_open X I hga ?_
  obtain ⟨hh', gg, d, tk, os⟩ := s
  have L0 := I.type (M := model prog w)
  have L1 := looks_find (M := model prog w) X I hf
  have L2 := looks_findIn (M := model prog w) X hk
  refine wpAny_bind (wpAny_pure (wpAny_bind (L0.at (wpAny_bind (L1.at (wpAny_bind (L2.at ?_)))))))
  show wpAny _ _ (holding [a] (call gt [a, .ref x, .ref C]) >>= ret) _ _ _
  exact wpAny_bind (wpAny_holding (wpAny_mono h (fun v s' z => wpAny_pure z) fun _ _ z => z))
theorem by_miss {nm : String} (hh : A.handled = none) (X : K.In s.heap) (I : InstAt s.heap x ox C od) (hga : findIn K (.ref C) "__getattribute__" = some (some (.builtin "object.__getattribute__")))
    (hf : findObj K C od name = some .missing) (hk : findIn K (.ref C) "__getattr__" = some none) (hc : ∀ S, peek K S (typeNameCut 100 (.ref C)) = some nm) (hl : nm.length ≤ 60)
    (hn : name.length ≤ 1000) (h : ∀ h' tk e, Heap.NewAttrErr s.heap h' e (.ref x) name → E (.ref e) { s with heap := h', toks := tk }) : wpAny (model prog w) A (getAttrBy (.ref x) (.str name t) false) Q E s := by
  refine by_open X I hga ?_
  obtain ⟨hh', gg, d, tk, os⟩ := s
  have L0 := I.type (M := model prog w)
  have L1 := looks_find (M := model prog w) X I hf
  have L2 := looks_findIn (M := model prog w) X hk
  refine wpAny_bind (wpAny_pure (wpAny_bind (L0.at (wpAny_bind (L1.at (wpAny_bind (L2.at ?_)))))))
  show wpAny _ _ (noSuchAttribute _ _) _ _ _
  unfold noSuchAttribute typeNameOfCut shownTypeOf
  have L3 : Looks (model prog w) hh' (typeNameCut 100 (.ref C)) nm := Looks.of_peek X (hc _)
  refine wpAny_bind (wpAny_bind (wpAny_bind (L0.at ?_)))
  refine wpAny_pure (L3.at ?_)
  refine wpAny_raiseAttrError (by exact hh) (fun h' tk' e x => h h' tk' e x) ?_
  have e1 : Str.ofString (toString "'" ++ toString nm ++ toString "' object has no attribute '") ++ name ++ Str.ofString "'" = Str.ofString ("'" ++ nm ++ "' object has no attribute '") ++ name ++ Str.ofString "'" := rfl
  rw [e1]
  refine attrMsg_fits ?_ (by rw [sizeLine_eq]; omega)
  have e2 : "'".length = 1 := by decide
  have e3 : "' object has no attribute '".length = 27 := by decide
  simp only [String.length_append]
  omega

/-- getattr with a default: found -/
theorem ga3_open (hg : (name == ("get_source" : Str)) = false) (hm : Looks (model prog w) s.heap (isInstance (.ref x) (.type "module")) false)
    (h : wpAny (model prog w) A.in1 (getAttrBy (.ref x) (.str name t) false) Q (fun e s' => wpAny (model prog w) A.in1 (isInstance e (.type "AttributeError")) (fun b s'' => if b = true then Q dflt s'' else E e s'') E s') s) :
    wpAny (model prog w) A (call (.builtin "getattr") [.ref x, .str name t, dflt]) Q E s := by
  obtain ⟨hh', gg, d, tk, os⟩ := s
  refine Calls.call_function_entry KB.kind_getattr KB.plain_getattr KB.entry_getattr (args_getattr_3 _ _ _) ?_
  unfold Builtin.«getattr»
  refine wpAny_bind (wpAny_of_eq (a := [.ref x, .str name t, dflt]) (by first | rfl | kernel_rfl) ?_)
  dsimp only
  refine wpAny_bind (wpAny_of_eq (a := ()) (by first | rfl | kernel_rfl) ?_)
  have hg' : (name != ("get_source" : Str)) = true := by rw [bne, hg]; rfl
  have fin : ∀ Q' : Option Value → Shared → Prop, wpAny (model prog w) A.in1 (getAttrBy (.ref x) (.str name t) false) (fun v s' => Q' (some v) s') (fun e s' => wpAny (model prog w) A.in1 (isInstance e (.type "AttributeError")) (fun b s'' => if b = true then Q' none s'' else E e s'') E s') { heap := hh', gens := gg, drawn := d, toks := tk, os := os } →
      wpAny (model prog w) A.in1 (getAttrBy? (.ref x) (.str name t)) Q' E { heap := hh', gens := gg, drawn := d, toks := tk, os := os } := by
    intro Q' h'
    unfold getAttrBy?
    refine wpAny_bind (wpAny_attempt (wpAny_mono h' (fun v s' z => wpAny_pure z) fun e s' z => ?_))
    refine wpAny_bind (wpAny_mono z (fun b s'' y => ?_) fun _ _ y => y)
    cases b with
    | true => exact wpAny_pure y
    | false => exact wpAny_throw y
  lk
  lk
  lk
  rw [if_pos hg']
  refine wpAny_pure ?_
  dsimp only
  refine wpAny_bind ?_
  lk
  lk
  lk
  lk
  lk
  lk
  refine wpAny_bind (hm.at ?_)
  refine wpAny_pure ?_
  rw [if_neg (by decide)]
  refine wpAny_bind (fin _ ?_)
  refine wpAny_mono h (fun v s' z => ?_) fun e s' z => ?_
  · exact wpAny_pure ⟨_, rfl, z⟩
  · refine wpAny_mono z (fun b s'' y => ?_) fun _ _ y => y
    cases b with
    | true =>
      rw [if_pos rfl] at y ⊢
      exact wpAny_pure ⟨_, rfl, y⟩
    | false =>
      rw [if_neg (by decide)] at y ⊢
      exact y
end
theorem none_name : typeLookup (.type "NoneType") ("name" : Str) = pure none := am_miss_of_fast (by kernel_rfl)
/-- getattr(None, "name", d) is d -/
theorem ga3_none {prog : Program} {w : World} {A : Around} {E : Value → Shared → Prop} {s : Shared} {t : Tok} {Q : Value → Shared → Prop} {dflt : Value} (hA : A.handled = none)
    (h : ∀ h' tk, s.heap.StaysIn h' → Q dflt { s with heap := h', toks := tk }) : wpAny (model prog w) A (call (.builtin "getattr") [.none, .str "name" t, dflt]) Q E s := by
  obtain ⟨hh', gg, d, tk, os⟩ := s
  have hT : ∀ s' : Shared, s'.TypeIs (.none) "NoneType" := fun _ => rfl
  have f1 := sub_AttributeError
  have f3 := F.slot_NoneType_getattribute.lookup
  have f4 := F.slot_NoneType_getattribute.bind (.none)
  have f5 := am_none_getattr_none
  refine Calls.call_function_entry KB.kind_getattr KB.plain_getattr KB.entry_getattr (args_getattr_3 _ _ _) ?_
  unfold Builtin.«getattr»
  refine wpAny_bind (wpAny_of_eq (a := [.none, .str "name" t, dflt]) (by first | rfl | kernel_rfl) ?_)
  dsimp only
  refine wpAny_bind (wpAny_of_eq (a := ()) (by first | rfl | kernel_rfl) ?_)
  refine wpAny_bind (wpAny_of_eq (a := none) (by first | rfl | kernel_rfl) ?_)
  dsimp only
  refine wpAny_bind (wpAny_of_eq (a := 0) (by first | rfl | kernel_rfl) ?_)
  rw [if_neg (by decide)]
  refine wpAny_bind ?_
  unfold getAttrBy? getAttrBy
  repeat (any_goals (first | assumption | ((with_reducible show wpAny _ _ (call (Value.builtin "object.__getattribute__") _ _) _ _ _); refine call_meets F.slot_NoneType_getattribute (hT _) F.entry_object_getattribute (F.args_object_getattribute_2 _ _) (meets_getattribute_miss_none _ _ none_name (by rw [sizeLine_eq]; decide)) ⟨hA, fun h' tk' e hx => ?_⟩) | wp_step))
  obtain ⟨t', u', he⟩ := hx.there
  show wpAny _ _ (getattributeRaised _ _ _ _ _ _ _) _ _ _
  unfold getattributeRaised
  repeat (any_goals (first | assumption | wp_step))
  exact ⟨_, rfl, h _ _ hx.keeps⟩

structure ClsF (K : Frag) (C um : Addr) (ni : Nat) : Prop where
  pg0 : plainGet K C "" = true
  hd : hasDictIn K C = true
  ic : isClsIn K C = true
  oids : findIn K (.ref C) "oids" = some none
  mc : findIn K (.ref C) "match_core" = some (some (.ref 266))
  fm : findIn K (.ref C) "_uncached_match" = some (some (.ref um))
  umf : isFn K (.ref um) = true
  kp : keepIn K (.ref um) = true
  nm : findIn K (.ref C) "name" = some (some (.ref 298))
  ns : slotIn K 298 C = some ni
  sa : findIn K (.ref C) "__setattr__" = some (some (.builtin "object.__setattr__"))
  po : plainOver K C = true
  tk : takerIn K C "oids" = some none
  md : mroIn K C (.type "module") = some false
  cut : ∃ nm : String, nm.length ≤ 60 ∧ ∀ S, peek K S (typeNameCut 100 (.ref C)) = some nm
theorem ClsF.pg {K : Frag} {C um : Addr} {ni : Nat} (c : ClsF K C um ni) (n : Str) : plainGet K C n = true := c.pg0
def nameIx : Stp → Nat
  | .look _ => 3
  | .nay _ => 3
  | .times .. => 4
  | _ => 2
theorem clsF_lit (w : World) : ClsF (_root_.Mine.hd.heap_39 w.params) 336 325 2 :=
  ⟨by k_is, by k_is, by k_is, by k_is, by k_is, by k_is, by k_is, by k_is, by k_is, by k_is, by k_is, by k_is, by k_is, by k_is, ⟨"Literal", by decide, fun _ => by kernel_rfl⟩⟩
theorem clsF_seq (w : World) : ClsF (_root_.Mine.hd.heap_39 w.params) 394 384 2 :=
  ⟨by k_is, by k_is, by k_is, by k_is, by k_is, by k_is, by k_is, by k_is, by k_is, by k_is, by k_is, by k_is, by k_is, by k_is, ⟨"Sequence", by decide, fun _ => by kernel_rfl⟩⟩
theorem clsF_one (w : World) : ClsF (_root_.Mine.hd.heap_39 w.params) 420 410 2 :=
  ⟨by k_is, by k_is, by k_is, by k_is, by k_is, by k_is, by k_is, by k_is, by k_is, by k_is, by k_is, by k_is, by k_is, by k_is, ⟨"OneOf", by decide, fun _ => by kernel_rfl⟩⟩
theorem clsF_look (w : World) : ClsF (_root_.Mine.hd.heap_39 w.params) 458 447 3 :=
  ⟨by k_is, by k_is, by k_is, by k_is, by k_is, by k_is, by k_is, by k_is, by k_is, by k_is, by k_is, by k_is, by k_is, by k_is, ⟨"Lookahead", by decide, fun _ => by kernel_rfl⟩⟩
theorem clsF_times (w : World) : ClsF (_root_.Mine.hd.heap_39 w.params) 504 493 4 :=
  ⟨by k_is, by k_is, by k_is, by k_is, by k_is, by k_is, by k_is, by k_is, by k_is, by k_is, by k_is, by k_is, by k_is, by k_is, ⟨"Quantifier", by decide, fun _ => by kernel_rfl⟩⟩
theorem clsF (w : World) (st : Stp) : ClsF (_root_.Mine.hd.heap_39 w.params) (clsOf st) (umOf st) (nameIx st) := by
  cases st with
  | word x => exact clsF_lit w
  | both i j => exact clsF_seq w
  | either i j => exact clsF_one w
  | look i => exact clsF_look w
  | nay i => exact clsF_look w
  | times i l m => exact clsF_times w
theorem ExprObj.name {Γ : Cfg} {h : Heap} {d : Addr} {st : Stp} {o : Obj} (x : ExprObj Γ h d st o) : ∃ nm tn, nm.length ≤ 10 ∧ (o.slots[nameIx st]?).join = some (.str nm tn) := by
  cases st with
  | word _ => obtain ⟨_, _, nm, tn, l, rfl⟩ := x; exact ⟨nm, tn, l, rfl⟩
  | both i j => obtain ⟨_, _, _, nm, tn, l, rfl, _⟩ := x; exact ⟨nm, tn, l, rfl⟩
  | either i j => obtain ⟨_, _, _, nm, tn, l, rfl, _⟩ := x; exact ⟨nm, tn, l, rfl⟩
  | look i => obtain ⟨_, _, _, nm, tn, l, rfl, _⟩ := x; exact ⟨nm, tn, l, rfl⟩
  | nay i => obtain ⟨_, _, _, nm, tn, l, rfl, _⟩ := x; exact ⟨nm, tn, l, rfl⟩
  | times i l m => obtain ⟨_, _, _, _, _, nm, tn, l, rfl, _⟩ := x; exact ⟨nm, tn, l, rfl⟩
end Mine
end
section
open PySem PySem.W PyProof.Rows PySem.Calls PySem.Spec Builtin Builtin.ObjectAttr
set_option maxRecDepth 100000
set_option maxHeartbeats 2000000
namespace Mine
theorem rs4 : True := by
  w_top off
  trivial
theorem focus {g h : Heap} {L : Addr} {m : Str → Option Value} (off : List Addr) (F : Fr g L h m) :
    ∃ tl hv, (∀ cells : List (Addr × Obj), (∀ q ∈ cells, h.get? q.1 = some q.2 ∧ q.1 ≠ L ∧ g.get? q.1 = none) → News g L h (cells ++ tl)) ∧ Cov g tl hv ∧ hv = hideAll h (L :: off) ∧ (∀ q ∈ tl, ∀ a ∈ off, q.1 ≠ a) := by
  obtain ⟨tl, hv, _, a, b, c, d⟩ := backH (Mut := fun _ => False) off F (fun _ _ e _ => e) (fun h => h) (fun _ h => h.elim)
  exact ⟨tl, hv, a, b, c, d⟩
theorem frBack {g h h' : Heap} {L : Addr} {m : Str → Option Value} {Mut : Addr → Prop} (F : Fr g L h m) (kp : ∀ b o, h.get? b = some o → ¬ Mut b → h'.get? b = some o) (hL : ¬ Mut L) (hg : ∀ a, Mut a → g.get? a = none) : Fr g L h' m :=
  let ⟨_, _, a, _⟩ := backH [] F kp hL hg; a
theorem frDat {g h : Heap} {L : Addr} {m : Str → Option Value} (F : Fr g L h m) : ∃ o es n, h.get? L = some o ∧ o.data = .dict es n := let ⟨o, es, n, a, b, _⟩ := F.ns; ⟨o, es, n, a, b⟩
theorem knL {h h' : Heap} {L : Addr} (kp : ∀ b o, h.get? b = some o → b ≠ L → h'.get? b = some o) (d : ∃ o es n, h.get? L = some o ∧ o.data = .dict es n) (d' : ∃ o es n, h'.get? L = some o ∧ o.data = .dict es n) : KeepND h h' :=
  .of (M := fun b => b = L) kp (fun b o m e => by subst m; obtain ⟨o', es, n, e', h⟩ := d; rw [e'] at e; cases e; exact ⟨es, n, h⟩) fun b o m _ => by subst m; obtain ⟨o', es, n, e', _⟩ := d'; exact ⟨o', e'⟩
theorem knLC {h h' : Heap} {L c : Addr} {oc : Obj} (kp : ∀ b o, h.get? b = some o → b ≠ L → b ≠ c → h'.get? b = some o) (d : ∃ o es n, h.get? L = some o ∧ o.data = .dict es n) (d' : ∃ o es n, h'.get? L = some o ∧ o.data = .dict es n)
    (hc : ∀ o, h.get? c = some o → ∃ es n, o.data = .dict es n) (hc' : h'.get? c = some oc) : KeepND h h' :=
  .of (M := fun b => b = L ∨ b = c) (fun b o e n => kp b o e (fun q => n (.inl q)) fun q => n (.inr q)) (fun b o m e => by
    rcases m with m | m
    · subst m; obtain ⟨o', es, n, e', h⟩ := d; rw [e'] at e; cases e; exact ⟨es, n, h⟩
    · subst m; exact hc _ e) fun b o m _ => by
    rcases m with m | m
    · subst m; obtain ⟨o', es, n, e', _⟩ := d'; exact ⟨o', e'⟩
    · subst m; exact ⟨_, hc'⟩
/-- what is no dict is no frame -/
theorem Fr.neL {g h : Heap} {L c : Addr} {m : Str → Option Value} {o : Obj} (F : Fr g L h m) (e : h.get? c = some o) (hd : ∀ es n, o.data ≠ .dict es n) : c ≠ L := fun h => by
  obtain ⟨o', es, ep, ho, d, _⟩ := F.ns
  subst h
  rw [e] at ho; cases ho; exact hd _ _ d

section
variable {w : World} {p : Program} {loose : List Str} {mean : ExcName → Option Value} {mg mb : Str → Option Value} {H0 : Heap} {prog : Program}
theorem enterF {dp un : Nat} {gd : Option (List Code)} {fr : List Env} {s : Shared} {R : Result → Shared → Prop} {name qual : Str} {params : Arguments} {body : List Stmt} {scope : Scope} {dV kV doc pm cdv ct oc : Value} {an od : Option Addr} {osl : Array (Option Value)} {f : Addr} {args : Args} {binds : List (Str × Value)}
    (O : Old w p loose mean mg mb H0) (M : Amb H0 fr s.heap)
    (ho : (_root_.Mine.hd.heap_39 w.params).lookup f = some ⟨oc, od, .func (fnOf name qual params body scope dV kV doc pm an cdv ct), osl⟩) (hcd : codeIn (_root_.Mine.hd.heap_39 w.params) cdv qual = true) (hroom : dp < recursionLimit)
    (hbind : BindsTo s (fnOf name qual params body scope dV kV doc pm an cdv ct) args binds) (hloc : ∀ y ∈ binds, scope.names.lookup y.1 = some .local)
    (h : ∀ g L' h₁, L' = s.heap.objs.size → Fr g L' h₁ (fun y => binds.reverse.lookup y) → s.heap.StaysIn h₁ → Amb H0 fr g → (∀ a, H0.get? a = none → a ∉ frs fr → g.get? a = none) → Below (ar dp un gd fr) H0 fr g → (_root_.Mine.hd.heap_39 w.params).In g → Top p loose mean mg mb g →
      wpAny (model prog w) ((ar dp un gd fr).deeper (envOf qual scope L' f cdv)) (execs body (envOf qual scope L' f cdv))
        (fun fl s' => R (.ok (.ret (match fl with | .ret v => v | _ => .none))) s')
        (fun e s' => wpAny (model prog w) ((ar dp un gd fr).deeper (envOf qual scope L' f cdv)) (leaving (envOf qual scope L' f cdv) e) (fun _ s'' => R (.error e) s'') (fun e' s'' => R (.error e') s'') s')
        { s with heap := h₁, toks := s.toks + binds.length })
    (hco : scope.isCoroutine = false) (hgen : scope.isGenerator = false) (hk : scope.kind = .function)
    (hcell : ∀ x ∈ scope.names, x.2 ≠ .cell) : codeAny (model prog w) (ar dp un gd fr) (.call (.ref f) args) R s := by
  refine enterH O M [] [] (List.forall_mem_nil _) (List.forall_mem_nil _) ho hcd hroom hbind hloc (fun g L' h₁ tl hv eL F N MG hgn B X T C ev _ _ _ => ?_) hco hgen hk hcell
  exact h g L' h₁ eL F (fun b o e => C.now F N (fun q hq => hq) b o (by subst ev; exact e)) MG hgn B X T
end

theorem instOf {g h : Heap} {L x dx C : Addr} {news : List (Addr × Obj)} {ox od : Obj} (N : News g L h news) (hx : (x, ox) ∈ news) (hd : (dx, od) ∈ news) (e1 : ox.cls = .ref C) (e2 : ox.dict = some dx) (e3 : notCls ox = true) : InstAt h x ox C (some od) :=
  ⟨(N _ hx).1, e1, e3, by rw [e2]; exact (N _ hd).1⟩
theorem notCls_plain {o : Obj} (h : o.data = .plain) : notCls o = true := by unfold notCls; rw [h]

section
variable {prog : Program} {w : World} {A : Around} {E : Value → Shared → Prop} {s : Shared} {x C um : Addr} {ni : Nat} {ox od : Obj} {g : Heap} {L : Addr} {m : Str → Option Value} {news : List (Addr × Obj)} {t : Tok} {Q : Value → Shared → Prop} {dflt : Value}
theorem isModule (X : (_root_.Mine.hd.heap_39 w.params).In s.heap) (I : InstAt s.heap x ox C (some od)) (c : ClsF (_root_.Mine.hd.heap_39 w.params) C um ni) : Looks (model prog w) s.heap (isInstance (.ref x) (.type "module")) false :=
  I.type.andThen (looks_mroIn X c.md)
theorem oidsL (w : World) (u : Tok) (tp : Addr) : getL "oids" [oidsEntry w u tp] = some (some (.ref tp)) := by rfl
theorem kga_val {u : Tok} {tp : Addr} {n : Nat} (F : Fr g L s.heap m) (X : (_root_.Mine.hd.heap_39 w.params).In g) (I : InstAt s.heap x ox C (some (dictOf [oidsEntry w u tp] n))) (c : ClsF (_root_.Mine.hd.heap_39 w.params) C um ni)
    (h : Q (.ref tp) s) : wpAny (model prog w) A (call (.builtin "getattr") [.ref x, .str "oids" t, dflt]) Q E s :=
  ga3_open (by decide) (isModule (X.keeps F.keep) I c) (by_value (X.keeps F.keep) I (plainGet_of (c.pg "oids")).1 (findObj_own c.hd c.oids rfl (by show lookIn _ (dictOf _ _) = _; rw [lookIn_dict]; exact oidsL _ _ _)) rfl h)
theorem findObj_miss {K : Frag} {name : Str} (hh : hasDictIn K C = true) (ha : findIn K (.ref C) name = some none) (hl : lookIn name od = some none) (hc : copiedNames.contains name = false) : findObj K C (some od) name = some .missing := by
  obtain ⟨cd, hcd, hd⟩ := any_some (show (clsIn K C).any (·.hasDict) = true from hh)
  unfold findObj
  have ho : W.ownOf cd (some od) name = some none := by unfold W.ownOf; rw [if_pos hd]; exact hl
  rw [hcd, Option.bind_some, ha, Option.bind_some]
  simp only [Option.bind_some, ho, hc, Bool.false_and, Bool.false_eq_true, if_false]
theorem kga_miss {n : Nat} (F : Fr g L s.heap m) (N : News g L s.heap news) (X : (_root_.Mine.hd.heap_39 w.params).In g) (I : InstAt s.heap x ox C (some (dictOf [] n))) (c : ClsF (_root_.Mine.hd.heap_39 w.params) C um ni) (hA : A.handled = none)
    (h : ∀ h' tk, Fr g L h' m → News g L h' news → s.heap.StaysIn h' → Q dflt { s with heap := h', toks := tk }) : wpAny (model prog w) A (call (.builtin "getattr") [.ref x, .str "oids" t, dflt]) Q E s := by
  obtain ⟨nm, hl, hc⟩ := c.cut
  refine ga3_open (by decide) (isModule (X.keeps F.keep) I c) (by_miss hA (X.keeps F.keep) I (plainGet_of (c.pg "oids")).1 (findObj_miss c.hd c.oids (by show lookIn _ (dictOf _ _) = _; rw [lookIn_dict]; rfl) (by decide)) (plainGet_of (c.pg "oids")).2 hc hl (by decide) fun h' tk e z => ?_)
  obtain ⟨t1, u1, he⟩ := z.there
  refine wpAny_bind (wpAny_typeOf_ref he ?_)
  rw [sub_AttributeError]
  refine wpAny_pure ?_
  rw [if_pos rfl]
  obtain ⟨o, es, ep, ho, r⟩ := F.ns
  exact h h' tk ⟨⟨o, es, ep, z.keeps _ _ ho, r⟩, fun b o e => z.keeps _ _ (F.keep b o e), F.above⟩ (fun q hq => ⟨z.keeps _ _ (N q hq).1, (N q hq).2⟩) z.keeps
theorem kname {nm : Str} {tn : Tok} {expr : Bool} (F : Fr g L s.heap m) (X : (_root_.Mine.hd.heap_39 w.params).In g) (I : InstAt s.heap x ox C (some od)) (c : ClsF (_root_.Mine.hd.heap_39 w.params) C um ni) (hv : (ox.slots[ni]?).join = some (.str nm tn))
    (h : Q (.str nm tn) { s with toks := s.toks + 1 }) : wpAny (model prog w) A (getAttr (.ref x) "name" expr) Q E s :=
  get_slot F X I (c.pg _) c.ic c.nm (by k_is) (by k_is) c.ns hv rfl h
theorem kga_name {nm : Str} {tn : Tok} (F : Fr g L s.heap m) (X : (_root_.Mine.hd.heap_39 w.params).In g) (I : InstAt s.heap x ox C (some od)) (c : ClsF (_root_.Mine.hd.heap_39 w.params) C um ni) (hv : (ox.slots[ni]?).join = some (.str nm tn))
    (h : Q (.str nm tn) s) : wpAny (model prog w) A (call (.builtin "getattr") [.ref x, .str "name" t, dflt]) Q E s :=
  ga3_open (by decide) (isModule (X.keeps F.keep) I c) (by_slot (X.keeps F.keep) I (plainGet_of (c.pg "name")).1 (findObj_data c.ic c.nm (by k_is) (by k_is)) (plainGet_of (c.pg "name")).2
    (wpAny_call (slot_get (X.keeps F.keep) I c.ns hv (handed_on rfl h))))
theorem kum {pl : Sem Bool} {n : Nat} {es : List DictEntry} {Q : Value × List Value → Shared → Prop} (F : Fr g L s.heap m) (X : (_root_.Mine.hd.heap_39 w.params).In g) (I : InstAt s.heap x ox C (some (dictOf es n))) (c : ClsF (_root_.Mine.hd.heap_39 w.params) C um ni)
    (hl : getL "_uncached_match" es = some none) (h : Q (.ref um, [.ref x]) s) : wpAny (model prog w) A (getMethod (.ref x) "_uncached_match" pl) Q E s :=
  method_inst F X I (c.pg _) c.fm c.umf hl h
theorem kmc {pl : Sem Bool} {n : Nat} {es : List DictEntry} {Q : Value × List Value → Shared → Prop} (F : Fr g L s.heap m) (X : (_root_.Mine.hd.heap_39 w.params).In g) (I : InstAt s.heap x ox C (some (dictOf es n))) (c : ClsF (_root_.Mine.hd.heap_39 w.params) C um ni)
    (hl : getL "match_core" es = some none) (h : Q (.ref 266, [.ref x]) s) : wpAny (model prog w) A (getMethod (.ref x) "match_core" pl) Q E s :=
  method_inst F X I (c.pg _) c.mc (by k_is) hl h
end
end Mine
end
section
open PySem PySem.W PyProof.Rows PySem.Calls PySem.Spec Builtin Builtin.ObjectAttr
set_option maxRecDepth 100000
set_option maxHeartbeats 2000000
namespace Mine
local macro_rules | `(tactic| walk_at "0") => `(tactic| skip)
local macro_rules | `(tactic| walk_at "0") => `(tactic| skip)
local macro_rules | `(tactic| walk_at "0") => `(tactic| skip)
local macro_rules | `(tactic| walk_at "0") => `(tactic| skip)
local macro_rules | `(tactic| walk_at "0") => `(tactic| skip)
local macro_rules | `(tactic| walk_at "0") => `(tactic| skip)
local macro_rules | `(tactic| walk_at "0") => `(tactic| skip)
local macro_rules | `(tactic| walk_at "0") => `(tactic| skip)
local macro_rules | `(tactic| walk_at "0") => `(tactic| skip)
local macro_rules | `(tactic| walk_at "0") => `(tactic| skip)
local macro_rules | `(tactic| walk_at "0") => `(tactic| skip)
local macro_rules | `(tactic| walk_at "0") => `(tactic| skip)
local macro_rules | `(tactic| walk_at "0") => `(tactic| skip)
local macro_rules | `(tactic| walk_at "0") => `(tactic| skip)
local macro_rules | `(tactic| walk_at "0") => `(tactic| skip)
local macro_rules | `(tactic| walk_at "0") => `(tactic| skip)
local macro_rules | `(tactic| walk_at "0") => `(tactic| skip)
local macro_rules | `(tactic| walk_at "0") => `(tactic| skip)
local macro_rules | `(tactic| walk_at "0") => `(tactic| skip)
local macro_rules | `(tactic| walk_at "0") => `(tactic| skip)
local macro_rules | `(tactic| walk_at "0") => `(tactic| skip)
local macro_rules | `(tactic| walk_at "0") => `(tactic| skip)
local macro_rules | `(tactic| walk_at "0") => `(tactic| skip)
local macro_rules | `(tactic| walk_at "0") => `(tactic| skip)
local macro_rules | `(tactic| walk_at "0") => `(tactic| skip)
local macro_rules | `(tactic| walk_at "0") => `(tactic| skip)
local macro_rules | `(tactic| walk_at "0") => `(tactic| skip)
local macro_rules | `(tactic| walk_at "0") => `(tactic| skip)
local macro_rules | `(tactic| walk_at "0") => `(tactic| skip)
local macro_rules | `(tactic| walk_at "0") => `(tactic| skip)
local macro_rules | `(tactic| walk_at "0") => `(tactic| skip)
local macro_rules | `(tactic| walk_at "0") => `(tactic| skip)
local macro_rules | `(tactic| walk_at "0") => `(tactic| skip)
local macro_rules | `(tactic| walk_at "0") => `(tactic| skip)
local macro_rules | `(tactic| walk_at "0") => `(tactic| skip)
local macro_rules | `(tactic| walk_at "0") => `(tactic| skip)
local macro_rules | `(tactic| walk_at "0") => `(tactic| skip)
local macro_rules | `(tactic| walk_at "0") => `(tactic| skip)
local macro_rules | `(tactic| walk_at "0") => `(tactic| skip)
local macro_rules | `(tactic| walk_at "0") => `(tactic| skip)
theorem rs5 : True := by
  w_top off
  trivial
def dropRefs : List Value → List Value
  | .ref _ :: r => dropRefs r
  | l => l
theorem refuse_drop (self : Value) (what : Str) : ∀ l : List Value, refuseLoop self what l = refuseLoop self what (dropRefs l)
  | .ref C :: r => by rw [refuseLoop_ref]; exact refuse_drop self what r
  | [] => rfl
  | .none :: _ => rfl
  | .ellipsis :: _ => rfl
  | .notImplemented :: _ => rfl
  | .bool _ :: _ => rfl
  | .int _ _ :: _ => rfl
  | .float _ _ :: _ => rfl
  | .str _ _ :: _ => rfl
  | .bytes _ _ :: _ => rfl
  | .type _ :: _ => rfl
  | .builtin _ :: _ => rfl
theorem refuse_exc (self : Value) : refuseLoop self "__setattr__" [.type "Exception", .type "BaseException", .type "object"] = pure () := by kernel_rfl
/-- what is asked of an own exception class -/
structure ExcF (K : Frag) (C : Addr) : Prop where
  ga : findIn K (.ref C) "__getattribute__" = some (some (.builtin "BaseException.__getattribute__"))
  gt : findIn K (.ref C) "__getattr__" = some none
  be : mroIn K C (.type "BaseException") = some true
  ob : mroIn K C (.type "object") = some true
  hd : hasDictIn K C = true
  sa : findIn K (.ref C) "__setattr__" = some (some (.builtin "object.__setattr__"))
  pass : (clsIn K C).any (fun cd => decide (dropRefs cd.mro = [.type "Exception", .type "BaseException", .type "object"])) = true
theorem excF_94 (w : World) : ExcF (_root_.Mine.hd.heap_39 w.params) 94 := ⟨by k_is, by k_is, by k_is, by k_is, by k_is, by k_is, by kernel_rfl⟩
theorem excF_132 (w : World) : ExcF (_root_.Mine.hd.heap_39 w.params) 132 := ⟨by k_is, by k_is, by k_is, by k_is, by k_is, by k_is, by kernel_rfl⟩
theorem kind_bga : builtinKind "BaseException.__getattribute__" = some .slot := by decide +kernel
theorem split_bga : splitId "BaseException.__getattribute__" = some ("BaseException", "__getattribute__") := by decide +kernel

section
variable {prog : Program} {w : World} {A : Around} {E : Value → Shared → Prop} {s : Shared} {K : Frag} {x C dx : Addr} {ox od : Obj} {name : Str} {v : Value} {g : Heap} {L : Addr} {m : Str → Option Value} {news news' : List (Addr × Obj)}
theorem exc_look {M : Model} {nameV : Value} {Q : Unit → Shared → Prop} (X : K.In s.heap) (I : InstAt s.heap x ox C (some od)) (c : ExcF K C) (hq : Q () s) : wpAny M A (checkBuiltinCall "BaseException.__getattribute__" ⟨[.ref x, nameV], []⟩) Q E s :=

  @check_slot M A E s "BaseException.__getattribute__" "BaseException" "__getattribute__" (.ref x) [nameV] [] Q kind_bga split_bga (I.type.andThen (looks_mroIn X c.be)) (F.args_bexc_ga (.ref x) nameV) hq
theorem exc_get {expr : Bool} {Q : Value → Shared → Prop} (X : K.In s.heap) (I : InstAt s.heap x ox C (some od)) (c : ExcF K C) (hf : findObj K C (some od) name = some (.value v)) (hh : handedIn v = true) (h : Q v { s with toks := s.toks + 1 }) :
    wpAny (model prog w) A (getAttr (.ref x) name expr) Q E s := by
  obtain ⟨hp, gg, d, tk, os⟩ := s
  have L0 := I.type (M := model prog w)
  have L1 := looks_findIn (M := model prog w) X c.ga
  have L2 := looks_findIn (M := model prog w) X c.gt
  have L3 := looks_find (M := model prog w) X I hf
  have SB := F.excAttr_ValueError.ga.bind (.ref x)
  unfold getAttr getAttrBy
  refine wpAny_bind (wpAny_mkText (wpAny_holding (wpAny_bind (L0.at (wpAny_bind (L1.at ?_))))))
  have hx2 : (Value.builtin "BaseException.__getattribute__" == Value.builtin "object.__getattribute__") = false := by decide +kernel
  dsimp only
  rw [hx2, Bool.and_false]
  rw [if_neg (by decide)]
  have hb : hookBefore (Value.ref C) = typeLookup (.ref C) "__getattr__" := rfl
  unfold getAttrByItsOwn
  rw [hb]
  refine wpAny_bind (L2.at ?_)
  refine wpAny_bind (wpAny_attempt (wpAny_holding ?_))
  have hx0 : (expr && onTheHeap (Value.builtin "BaseException.__getattribute__")) = false := by cases expr <;> rfl
  unfold callGetattribute
  rw [hx0, if_neg (by decide)]
  unfold boundAndCalled
  rw [SB]
  refine wpAny_bind (wpAny_pure (wpAny_call ?_))
  refine codeAny_call_builtin F.excAttr_ValueError.ga.plain F.entry_bexc_ga (exc_look X I c ?_)
  refine wpAny_bind (wpAny_of_eq (a := (Value.ref x, [Value.str name tk])) (by first | rfl | kernel_rfl) ?_)
  dsimp only
  refine wpAny_bind (wpAny_pure (wpAny_bind (L0.at (wpAny_bind (L3.at ?_)))))
  refine wpAny_pure ?_
  show wpAny _ _ (handedOut v) _ _ _
  rw [handedOut_of hh]
  exact wpAny_pure h
theorem exc_get_own {expr : Bool} {es : List DictEntry} {n : Nat} {Q : Value → Shared → Prop} (F : Fr g L s.heap m) (X : K.In g) (I : InstAt s.heap x ox C (some (dictOf es n))) (c : ExcF K C) (ha : findIn K (.ref C) name = some none)
    (hl : getL name es = some (some v)) (hh : handedIn v = true) (h : Q v { s with toks := s.toks + 1 }) : wpAny (model prog w) A (getAttr (.ref x) name expr) Q E s :=
  exc_get (X.keeps F.keep) I c (findObj_own c.hd ha rfl (by show lookIn _ (dictOf _ _) = _; rw [lookIn_dict]; exact hl)) hh h

theorem exc_set {es es' : List DictEntry} {n n' : Nat} {Q : Unit → Shared → Prop} (F : Fr g L s.heap m) (X₀ : K.In g) (N : News g L s.heap news) (I : InstAt s.heap x ox C (some (dictOf es n))) (hd : ox.dict = some dx) (c : ExcF K C)
    (ht : takerIn K C name = some none) (hl : (getL name es).isSome = true)
    (e : (putL name (PyData.keyHash w.params name) (.str name (s.toks + 1)) v es, putN name es n) = (es', n')) (U : Upd dx (dictOf es n) (dictOf es' n') news news') (hz : es'.length ≤ 1000)
    (h : ∀ h', Fr g L h' m → News g L h' news' → Q () { s with heap := h', toks := s.toks + 2 }) : wpAny (model prog w) A (setAttr (.ref x) name v) Q E s := by
  obtain ⟨hh, gg, dd, tt, oo⟩ := s
  obtain ⟨pre, post, rfl, rfl, h1, h2⟩ := U.split
  obtain ⟨e1, e2⟩ := Prod.mk.inj e
  have X := X₀.keeps F.keep
  refine set_plain X I c.sa ?_
  have SF := PySem.F.store_object
  obtain ⟨cd, hcd, hdrop⟩ := any_some c.pass
  have hdrop := of_decide_eq_true hdrop
  have hmro : Looks (model prog w) hh (mroOf (.ref C)) cd.mro := (looks_clsIn X hcd).andThen .now
  obtain ⟨cd', hcd', hdict⟩ := any_some (show (clsIn K C).any (·.hasDict) = true from c.hd)
  rw [hcd] at hcd'; cases hcd'
  refine codeAny_call_builtin SF.slot.plain SF.entry (@check_slot (model prog w) _ _ ⟨hh, gg, dd, tt + 1, oo⟩ "object.__setattr__" "object" "__setattr__" (.ref x) [.str name tt, v] [] _ SF.kind SF.split (I.type.andThen (looks_mroIn X c.ob)) (SF.args (.ref x) (.str name tt) v) ?_)
  obtain ⟨attr, ha, hr⟩ := Option.bind_eq_some_iff.mp ht
  have Lt : Looks (model prog w) hh (storeTaker? attr) none := by
    cases attr with
    | none => exact .now
    | some a =>
      obtain ⟨b, hb, hbb⟩ := Option.map_eq_some_iff.mp hr
      cases b with
      | true => cases hbb
      | false => exact (looks_takesIn X hb).andThen .now
  rw [osa_eq, refuse_eq]
  refine wpAny_bind (wpAny_bind (Looks.at (h := hh) I.type (wpAny_bind (hmro.at ?_))))
  rw [refuse_drop, hdrop, refuse_exc]
  refine wpAny_pure (wpAny_bind (Looks.at (h := hh) I.type (wpAny_bind (Looks.at (h := hh) (looks_findIn X ha) (wpAny_bind (Lt.at ?_))))))
  dsimp only
  have hput : Obj.putName name (PyData.keyHash w.params name) (.str name (tt + 1)) v (dictOf es n) = dictOf es' n' := by rw [putName_dict, e1, e2]
  obtain ⟨U1, U2⟩ := news_upd (f := Obj.putName name (PyData.keyHash w.params name) (.str name (tt + 1)) v) F N h1 h2 hput rfl
  have D := (N (dx, dictOf es n) (by simp)).1
  have D' := (U2 (dx, dictOf es' n') (by simp)).1
  obtain ⟨hx, hcl, hn, -⟩ := I
  obtain ⟨oc, odi, oda, osl⟩ := ox
  dsimp only at hcl hd
  subst hcl hd
  refine wpAny_bind (wpAny_pure (wpAny_bind (wpAny_bind (wpAny_loadPart hx (wpAny_bind (Looks.at (h := hh) (looks_clsIn X hcd) ?_))))))
  rw [hdict]
  refine wpAny_pure (a := some dx) (wpAny_bind (wpAny_pure (wpAny_bind ?_)))
  unfold nsSet
  refine wpAny_bind (wpAny_bind (wpAny_askSetting (wpAny_pure (wpAny_bind (wpAny_mkText (wpAny_bind (wpAny_loadPart D ?_)))))))
  dsimp only
  have hno : (!es.toArray.any (·.key.isStr name) && es.toArray.any (·.refKey)) = false := by
    unfold getL at hl
    rw [← Array.any_toList, ← Array.any_toList]
    split at hl
    · rename_i en he
      rw [List.any_eq_true.mpr ⟨en, List.mem_of_find?_eq_some he, List.find?_some he⟩]; rfl
    · split at hl
      · cases hl
      · rename_i z; rw [Bool.not_eq_true] at z; rw [show es.toArray.toList = es from rfl, z, Bool.and_false]
  rw [aRefKeyMayBeTheName_at, hno]
  refine wpAny_updatePart D ?_
  refine wpAny_bind (wpAny_lookBehind D' (pastItsLine_dict (by rw [List.size_toArray, sizeLine_eq]; omega)) ?_)
  exact wpAny_pure (h _ U1 U2)
end
end Mine
end
section
open PySem PySem.W PyProof.Rows PySem.Calls PySem.Spec Builtin Builtin.ObjectAttr
set_option maxRecDepth 100000
set_option maxHeartbeats 8000000
namespace Mine
theorem rs6 : True := by
  w_top off
  trivial
structure Cx (w : World) (p : Program) (loose : List Str) (mean : ExcName → Option Value) (mg mb : Str → Option Value) (H0 : Heap) (Γ : Cfg) : Prop where
  O : Old w p loose mean mg mb H0
  lo : H0.objs.size ≤ Γ.lo0
  ok : Γ.Ok
theorem get_none_of_le {h : Heap} {a : Addr} (e : h.objs.size ≤ a) : h.get? a = none := by
  cases q : h.get? a with
  | none => rfl
  | some o => exact absurd (Nat.lt_of_lt_of_le (Heap.lt_size q) e) (Nat.lt_irrefl _)
theorem AttrSt.there {w : World} {Γ : Cfg} {h : Heap} {k : Nat} {r : Option Nat} {ecs : List Addr} (x : AttrSt w Γ h k r ecs) : ∃ es n, h.get? (Γ.da k) = some (dictOf es n) ∧ getL "_uncached_match" es = some none ∧ getL "match_core" es = some none := by
  cases r with
  | some oid => obtain ⟨n, t, tp, tn, pr, pn, tk', rest, ec, h1, h2, _⟩ := x; exact ⟨_, _, h2, rfl, rfl⟩
  | none =>
    rcases x with ⟨n, h1⟩ | ⟨o, n, t, tp, tn, pr, pn, tk', ec, h2, _⟩
    · exact ⟨_, _, h1, rfl, rfl⟩
    · exact ⟨_, _, h2, rfl, rfl⟩
theorem notFrK {g h : Heap} {L c : Addr} {m : Str → Option Value} {H0 : Heap} {fr : List Env} {o : Obj} (MG : Amb H0 fr g) (F : Fr g L h m) (e : h.get? c = some o) (hd : ∀ es n, o.data ≠ .dict es n) : c ∉ frs fr := fun hm => by
  obtain ⟨o', es, n, e', d⟩ := MG.fdat c hm
  have := F.keep _ _ e'
  rw [e] at this; cases this; exact hd _ _ d
theorem plain_nd {o : Obj} (h : o.data = .plain) : ∀ es n, o.data ≠ .dict es n := fun es n e => by rw [h] at e; cases e
theorem truthy_strB {prog : Program} {w : World} {A : Around} {E : Value → Shared → Prop} {s : Shared} {x : Str} {t : Tok} {Q : Bool → Shared → Prop} (hl : x.length ≤ 10) (h1 : ∀ k, Q true { s with toks := k }) (h2 : ∀ k, Q false { s with toks := k }) : wpAny (model prog w) A (truthy (.str x t)) Q E s := by
  refine PySem.P.truthy_str (by omega) ?_
  cases (x.length : Int) != 0 with
  | true => exact h1 _
  | false => exact h2 _
theorem errPut_expr {h h1 h2 h3 : Int} {k v v1 v2 v3 : Value} {t1 t2 t3 : Tok} {n : Nat} : (putL "expr" h k v [⟨h1, .str "text" t1, v1⟩, ⟨h2, .str "pos" t2, v2⟩, ⟨h3, .str "expr" t3, v3⟩], putN "expr" [⟨h1, .str "text" t1, v1⟩, ⟨h2, .str "pos" t2, v2⟩, ⟨h3, .str "expr" t3, v3⟩] n) =
    ([⟨h1, .str "text" t1, v1⟩, ⟨h2, .str "pos" t2, v2⟩, ⟨h3, .str "expr" t3, v⟩], n) := by with_unfolding_all rfl
theorem errPut_pos {h h1 h2 h3 : Int} {k v v1 v2 v3 : Value} {t1 t2 t3 : Tok} {n : Nat} : (putL "pos" h k v [⟨h1, .str "text" t1, v1⟩, ⟨h2, .str "pos" t2, v2⟩, ⟨h3, .str "expr" t3, v3⟩], putN "pos" [⟨h1, .str "text" t1, v1⟩, ⟨h2, .str "pos" t2, v2⟩, ⟨h3, .str "expr" t3, v3⟩] n) =
    ([⟨h1, .str "text" t1, v1⟩, ⟨h2, .str "pos" t2, v⟩, ⟨h3, .str "expr" t3, v3⟩], n) := by with_unfolding_all rfl
theorem kga_none {prog : Program} {w : World} {A : Around} {E : Value → Shared → Prop} {s : Shared} {t : Tok} {Q : Value → Shared → Prop} {dflt : Value} {g : Heap} {L : Addr} {m : Str → Option Value} {news : List (Addr × Obj)} (F : Fr g L s.heap m) (N : News g L s.heap news) (hA : A.handled = none)
    (h : ∀ h' tk, Fr g L h' m → News g L h' news → Q dflt { s with heap := h', toks := tk }) : wpAny (model prog w) A (call (.builtin "getattr") [.none, .str "name" t, dflt]) Q E s :=
  ga3_none hA fun h' tk k => h h' tk (let ⟨o, es, ep, ho, r⟩ := F.ns; ⟨⟨o, es, ep, k _ _ ho, r⟩, fun b o e => k _ _ (F.keep b o e), F.above⟩) fun q hq => ⟨k _ _ (N q hq).1, (N q hq).2⟩
local macro_rules | `(tactic| walk_at "call builtin:getattr") => `(tactic| (k_here; (with_reducible show wpAny _ _ (call (Value.builtin _) [Value.none, Value.str (PySem.Str.ofString "name") _, _]) _ _ _); k_dflt (refine' kga_none ?k1 ?k2 ?k3 ?_; (case k1 => k_asm); (case k2 => k_asm); (case k3 => exact rfl); k_whole; intro h' tk' F' N'; (try k_sweep))))
abbrev errDict (w : World) (t1 t2 t3 : Tok) (tx : Value) (ep : Int) (tp : Tok) (ev : Value) (n : Nat) : Obj :=
  dictOf [⟨PyData.keyHash w.params "text", .str "text" t1, tx⟩, ⟨PyData.keyHash w.params "pos", .str "pos" t2, .int ep tp⟩, ⟨PyData.keyHash w.params "expr", .str "expr" t3, ev⟩] n
theorem Inv.move {w : World} {Γ : Cfg} {b : Nat} {h h' : Heap} {reg : Nat → Option Nat} {ecs : List Addr} (I : Inv w Γ b h reg ecs) (kn : KeepND h h') (kd : ∀ a ∈ dictAddrs Γ ecs, a ≠ Γ.de → ∀ o, h.get? a = some o → h'.get? a = some o)
    {ep : Int} {n : Nat} {t1 t2 t3 : Tok} {tx : Value} {tp : Tok} {ev : Value} (he : h'.get? Γ.de = some (errDict w t1 t2 t3 tx ep tp ev n)) (hev : ev = .none ∨ ∃ j, j < Γ.N ∧ ev = .ref (Γ.ea j)) : Inv w Γ b h' reg ecs := by
  have ndc : Γ.ca ≠ Γ.de := fun e => by
    have := I.nd; unfold dictAddrs at this; rw [List.nodup_cons] at this; exact this.1 (e ▸ .head _)
  have ndo : ∀ a ∈ (List.range Γ.N).map Γ.da ++ ecs, a ≠ Γ.de := fun a ha e => by
    have := I.nd; unfold dictAddrs at this; rw [List.nodup_cons, List.nodup_cons] at this; exact this.2.1 (e ▸ ha)
  refine { I with ex := ?_, er := ?_, ed := ?_, cc := ?_, att := ?_, cl := ?_ }
  · intro k st hk
    obtain ⟨l, o, h1, h2⟩ := I.ex k st hk
    exact ⟨l, o, kn.1 _ _ h1 (fun es n e => by rw [h2.plain.1] at e; cases e), h2.sub kn⟩
  · obtain ⟨l, oe, h1, h2, h3, h4, h5⟩ := I.er
    exact ⟨l, oe, kn.1 _ _ h1 h5, h2, h3, h4, h5⟩
  · exact ⟨ep, n, t1, t2, t3, tx, tp, ev, he, hev⟩
  · obtain ⟨oc, h1, h2⟩ := I.cc
    exact ⟨oc, kd _ (.head _) ndc _ h1, h2⟩
  · intro k hk
    exact (I.att k hk).sub (fun o e => kd _ (I.mem_da hk) (ndo _ (List.mem_append_left _ (List.mem_map.mpr ⟨k, List.mem_range.mpr hk, rfl⟩))) o e) kn (fun _ _ e => e)
  · intro j hj o ho
    obtain ⟨ec, h1, h2⟩ := I.cl j hj o ho
    have hm := List.mem_of_getElem? h1
    exact ⟨ec, h1, h2.sub (fun o' e => kd _ (mem_ecs hm) (ndo _ (List.mem_append_right _ hm)) o' e) kn⟩
theorem nodup_da {Γ : Cfg} {ecs : List Addr} (nd : (dictAddrs Γ ecs).Nodup) {a : Addr} (ha : a ∈ (List.range Γ.N).map Γ.da ++ ecs) : a ≠ Γ.de ∧ a ≠ Γ.ca := by
  unfold dictAddrs at nd
  rw [List.nodup_cons, List.nodup_cons] at nd
  exact ⟨fun e => nd.2.1 (e ▸ ha), fun e => nd.1 (e ▸ .tail _ ha)⟩
local macro_rules | `(tactic| walk_at "truthy str") => `(tactic| (k_here; k_dflt (refine' truthy_strB ?k1 ?_ ?_; (case k1 => assumption)) <;> intro _))
local macro_rules | `(tactic| k_room) => `(tactic| ktr_room)
local macro_rules | `(tactic| k_all) => `(tactic| first | assumption | (intro q9 hq9; (try dsimp only); first | exact allLt_ne (by assumption) (by omega) q9 hq9 | exact lt_ne (by assumption) (by omega) q9 hq9))
local macro_rules | `(tactic| k_inst) => `(tactic| (refine' instOf ?N ?h1 ?h2 ?e1 ?e2 ?e3; (case N => k_asm); (case h1 => k_mem); (case e1 => assumption); (case e2 => assumption); (case h2 => k_mem); (case e3 => assumption)))
local macro_rules | `(tactic| walk_at "eval Name") => `(tactic| (k_here; k_dflt (refine' ld ?k1 ?k2 ?_; (case k1 => k_asm); (case k2 => assumption); k_whole)))

local macro_rules | `(tactic| walk_at "getAttr ref") => `(tactic| (k_here; k_dflt (refine' exc_get_own ?k1 ?k2 ?k3 ?k4 ?k5 ?k6 ?k7 ?_; (case k1 => k_asm); (case k2 => k_asm); (case k3 => k_inst); (case k4 => first | exact excF_94 _ | exact excF_132 _); (case k5 => k_is); (case k6 => k_get); (case k7 => k_handed); k_whole)))
local macro_rules | `(tactic| walk_at "setAttr ref") => `(tactic| (k_here; k_dflt (refine' exc_set ?k1 ?k2 ?k3 ?k4 ?k5 ?k6 ?k7 ?k8 ?k9 ?k10 ?k11 ?_; (case k1 => k_asm); (case k2 => k_asm); (case k3 => k_asm); (case k4 => k_inst); (case k5 => first | assumption | exact rfl); (case k6 => first | exact excF_94 _ | exact excF_132 _); (case k7 => k_is); (case k8 => k_get); (case k9 => first | exact errPut_expr | exact errPut_pos | k_put); (case k10 => k_upd); (case k11 => exact Nat.le_of_ble_eq_true rfl); k_whole; intro h' F' N'; (try k_sweep))))
local macro_rules | `(tactic| walk_at "getAttr ref") => `(tactic| (k_here; (with_reducible show wpAny _ _ (getAttr (Value.ref _) (PySem.Str.ofString "name") _) _ _ _); k_dflt (refine' kname ?k1 ?k2 ?k3 ?k4 ?k5 ?_; (case k1 => k_asm); (case k2 => k_asm); (case k3 => k_inst); (case k4 => assumption); (case k5 => assumption); k_whole)))
local macro_rules | `(tactic| walk_at "call builtin:getattr") => `(tactic| (k_here; (with_reducible show wpAny _ _ (call (Value.builtin _) [Value.ref _, Value.str (PySem.Str.ofString "name") _, _]) _ _ _); k_dflt (refine' kga_name ?k1 ?k2 ?k3 ?k4 ?k5 ?_; (case k1 => k_asm); (case k2 => k_asm); (case k3 => k_inst); (case k4 => assumption); (case k5 => assumption); k_whole)))

variable {w : World} {p : Program} {loose : List Str} {mean : ExcName → Option Value} {mg mb : Str → Option Value} {H0 : Heap} {Γ : Cfg} {hid : List Addr}
theorem mc_rest2 {dp un : Nat} {gd : Option (List Code)} {fr : List Env} {g : Heap} {L : Addr} {m : Str → Option Value} {s : Shared} {k pos : Nat} {tp : Tok} {v : Value} {reg : Nat → Option Nat} {ecs : List Addr} {st : Stp} {Q : Flow → Shared → Prop} {E : Value → Shared → Prop}
    {name qual : Str} {params : Arguments} {s1 s2 : Stmt} {rest : List Stmt} {scope : Scope} {dV kV doc pm cdv ct oc : Value} {an od : Option Addr} {osl : Array (Option Value)}
    (C : Cx w p loose mean mg mb H0 Γ) (ho : (_root_.Mine.hd.heap_39 w.params).lookup 266 = some ⟨oc, od, .func (fnOf name qual params (s1 :: s2 :: rest) scope dV kV doc pm an cdv ct), osl⟩)
    (F : Fr g L s.heap m) (m1 : m "self" = some (.ref (Γ.ea k))) (m3 : m "pos" = some (.int (pos : Int) tp)) (m5 : m "error" = some (.ref Γ.err)) (m6 : m "node" = some v)
    (MG : Amb H0 fr g) (hgn : ∀ a, H0.get? a = none → a ∉ frs fr → g.get? a = none) (X : (_root_.Mine.hd.heap_39 w.params).In g) (T : Top p loose mean mg mb g) (B : Below (ar dp un gd fr) H0 fr g)
    (I : Inv w Γ (k + 1) (Vw hid s.heap) reg ecs) (hst : Γ.plan[k]? = some st) (hL : L ∉ dictAddrs Γ ecs) (hfr : ∀ a ∈ dictAddrs Γ ecs, a ∉ frs fr) (hv : Res Γ (Vw hid s.heap) k pos v) (hdp : dp + 10 < recursionLimit) (hun : un + 60 < cLine)
    (hq : ∀ h' tk', Inv w Γ (k + 1) (Vw hid h') reg ecs → KeepND s.heap h' → (∀ b o, s.heap.get? b = some o → b ≠ Γ.de → b ≠ L → h'.get? b = some o) → L < h'.objs.size → Q (.ret v) { s with heap := h', toks := tk' }) :
    wpAny (model PySem.Challenge.rw_vy0014_01.row.prog w) ((ar dp un gd fr).deeper (envOf qual scope L 266 cdv)) (execs rest (envOf qual scope L 266 cdv)) Q E s := by
  have key : ∀ o, (_root_.Mine.hd.heap_39 w.params).lookup 266 = some o → o = ⟨oc, od, .func (fnOf name qual params (s1 :: s2 :: rest) scope dV kV doc pm an cdv ct), osl⟩ := fun o e => Option.some.inj (e.symm.trans ho)
  have e2 := key _ (by k_is)
  cases e2
  clear key ho
  obtain ⟨tl, hvh, hN, Cv, ev, htl⟩ := focus [Γ.de] F
  obtain ⟨hlk, ok, hok, hob⟩ := I.ex k st hst
  obtain ⟨pl1, pl2, pl3⟩ := hob.plain
  obtain ⟨nm, tn, hnl, hnm⟩ := hob.name
  have hkN : k < Γ.N := (List.getElem?_eq_some_iff.mp hst).1
  obtain ⟨es, n, hda, _, _⟩ := (I.att k hkN).there
  obtain ⟨hle, oe, hoe, oe1, oe2, oe3, oe4⟩ := I.er
  obtain ⟨ep, en, t1, t2, t3, etx, etp, eev, hed, hev⟩ := I.ed
  replace hok := Cfg.vget hok
  replace hda := Cfg.vget hda
  replace hoe := Cfg.vget hoe
  have ved := hed
  replace hed := Cfg.vget hed
  have lo0 : ∀ a, Γ.lo0 ≤ a → H0.get? a = none := fun a ha => get_none_of_le (Nat.le_trans C.lo ha)
  have c1 := notCls_plain pl1
  have cf := clsF w st
  have nok := plain_nd pl1
  have K1 : s.heap.get? (Γ.ea k) = some ok ∧ Γ.ea k ≠ L ∧ g.get? (Γ.ea k) = none := ⟨hok, Fr.neL F hok nok, hgn _ (lo0 _ hlk) (notFrK MG F hok nok)⟩
  have K2 : s.heap.get? (Γ.da k) = some (dictOf es n) ∧ Γ.da k ≠ L ∧ g.get? (Γ.da k) = none := ⟨hda, fun e => hL (e ▸ I.mem_da hkN), hgn _ (lo0 _ (I.dl _ (I.mem_da hkN))) (hfr _ (I.mem_da hkN))⟩
  have K3 : s.heap.get? Γ.err = some oe ∧ Γ.err ≠ L ∧ g.get? Γ.err = none := ⟨hoe, Fr.neL F hoe oe4, hgn _ (lo0 _ hle) (notFrK MG F hoe oe4)⟩
  have K4 : s.heap.get? Γ.de = some _ ∧ Γ.de ≠ L ∧ g.get? Γ.de = none := ⟨hed, fun e => hL (e ▸ .tail _ (.head _)), hgn _ (lo0 _ (I.dl _ (.tail _ (.head _)))) (hfr _ (.tail _ (.head _)))⟩
  have ne1 : Γ.ea k ≠ Γ.de := fun e => by rw [e, hed] at hok; cases hok; cases pl1
  have ne2 : Γ.da k ≠ Γ.de := (nodup_da I.nd (List.mem_append_left _ (List.mem_map.mpr ⟨k, List.mem_range.mpr hkN, rfl⟩))).1
  have ne3 : Γ.err ≠ Γ.de := fun e => by rw [e, hed] at hoe; cases hoe; exact oe4 _ _ rfl
  have td := fun q hq => htl q hq Γ.de (.head _)
  have ne1 := neN ne1
  have ne2 := neN ne2
  have ne3 := neN ne3
  have hrv : v = .none ∨ ∃ r, v = .ref r ∧ r ≠ 220 ∧ ∃ on, s.heap.get? r = some on ∧ on.cls = .ref 212 := by
    rcases hv with ⟨_, e⟩ | ⟨_, r, e, hn⟩
    · exact .inl e
    · refine .inr ⟨r, e, ?_⟩
      cases hn with
      | mk ch l1 _ hn1 _ _ _ =>
        refine ⟨fun q => ?_, _, Cfg.vget hn1, rfl⟩
        have : H0.get? 220 = some _ := C.O.X _ _ (by k_is)
        have h2 := ltN (Heap.lt_size this)
        have h3 := C.lo
        subst q
        exact absurd (Nat.lt_of_lt_of_le h2 (Nat.le_trans h3 l1)) (Nat.lt_irrefl _)
  have hfin : ∀ h' tk' ep' etp' ev' nl, Fr g L h' m → News g L h' nl → (Γ.de, errDict w t1 t2 t3 etx ep' etp' ev' en) ∈ nl → (∀ q ∈ tl, q ∈ nl) → (ev' = .none ∨ ∃ j, j < Γ.N ∧ ev' = .ref (Γ.ea j)) → Q (.ret v) { s with heap := h', toks := tk' } := by
    intro h' tk' ep' etp' ev' nl F' N' hm ht hev'
    have S := Cv.now F' N' ht
    have kp : ∀ b o, s.heap.get? b = some o → b ≠ Γ.de → b ≠ L → h'.get? b = some o := fun b o e n1 n2 => S b o (ev ▸ hideAll_get _ e (by simp [n1, n2]))
    have kn : KeepND s.heap h' := knLC (fun b o e n1 n2 => kp b o e n2 n1) (frDat F) (frDat F') (fun o e => by rw [hed] at e; cases e; exact ⟨_, _, rfl⟩) (N'.get hm)
    refine hq h' tk' (I.move (Cfg.vkn kn) (fun a ha n1 o e => Cfg.vto e (kp a o (Cfg.vget e) n1 (fun q => hL (q ▸ ha)))) (Cfg.vto ved (N'.get hm)) hev') kn kp ?_
    exact F'.ns.lt
  rcases hrv with rfl | ⟨r, rfl, hr, on, hrn, hrc⟩
  · rcases hev with rfl | ⟨j, hjN, rfl⟩
    · have N := hN [(Γ.ea k, ok), (Γ.da k, dictOf es n), (Γ.err, oe), (Γ.de, _)] (List.forall_mem_cons.mpr ⟨K1, List.forall_mem_cons.mpr ⟨K2, List.forall_mem_cons.mpr ⟨K3, List.forall_mem_cons.mpr ⟨K4, List.forall_mem_nil _⟩⟩⟩⟩)
      simp only [List.cons_append, List.nil_append] at N
      clear hN K1 K2 K3 K4
      k_steps
      all_goals (exact hfin _ _ _ _ _ _ (by assumption) (by assumption) (.tail _ (.tail _ (.tail _ (.head _)))) (fun q hq => .tail _ (.tail _ (.tail _ (.tail _ hq)))) (by first | exact .inl rfl | exact .inr ⟨k, hkN, rfl⟩))
    · obtain ⟨stj, hstj⟩ : ∃ stj, Γ.plan[j]? = some stj := ⟨_, List.getElem?_eq_getElem hjN⟩
      obtain ⟨hlj, oj, hoj, hobj⟩ := I.ex j stj hstj
      obtain ⟨qj1, qj2, qj3⟩ := hobj.plain
      obtain ⟨nmj, tnj, hnlj, hnmj⟩ := hobj.name
      obtain ⟨esj, nj, hdaj, _, _⟩ := (I.att j hjN).there
      replace hoj := Cfg.vget hoj
      replace hdaj := Cfg.vget hdaj
      have cfj := clsF w stj
      have cj1 := notCls_plain qj1
      have nokj := plain_nd qj1
      have K5 : s.heap.get? (Γ.ea j) = some oj ∧ Γ.ea j ≠ L ∧ g.get? (Γ.ea j) = none := ⟨hoj, Fr.neL F hoj nokj, hgn _ (lo0 _ hlj) (notFrK MG F hoj nokj)⟩
      have K6 : s.heap.get? (Γ.da j) = some (dictOf esj nj) ∧ Γ.da j ≠ L ∧ g.get? (Γ.da j) = none := ⟨hdaj, fun e => hL (e ▸ I.mem_da hjN), hgn _ (lo0 _ (I.dl _ (I.mem_da hjN))) (hfr _ (I.mem_da hjN))⟩
      have ne5' : Γ.ea j ≠ Γ.de := fun e => by rw [e, hed] at hoj; cases hoj; cases qj1
      have ne5 := neN ne5'
      have ne6 := neN (nodup_da I.nd (List.mem_append_left _ (List.mem_map.mpr ⟨j, List.mem_range.mpr hjN, rfl⟩))).1
      have N := hN [(Γ.ea k, ok), (Γ.da k, dictOf es n), (Γ.err, oe), (Γ.ea j, oj), (Γ.da j, dictOf esj nj), (Γ.de, _)] (List.forall_mem_cons.mpr ⟨K1, List.forall_mem_cons.mpr ⟨K2, List.forall_mem_cons.mpr ⟨K3, List.forall_mem_cons.mpr ⟨K5, List.forall_mem_cons.mpr ⟨K6, List.forall_mem_cons.mpr ⟨K4, List.forall_mem_nil _⟩⟩⟩⟩⟩⟩)
      simp only [List.cons_append, List.nil_append] at N
      clear hN K1 K2 K3 K4 K5 K6
      k_steps
      all_goals (exact hfin _ _ _ _ _ _ (by assumption) (by assumption) (.tail _ (.tail _ (.tail _ (.tail _ (.tail _ (.head _)))))) (fun q hq => .tail _ (.tail _ (.tail _ (.tail _ (.tail _ (.tail _ hq)))))) (by first | exact .inr ⟨j, hjN, rfl⟩ | exact .inr ⟨k, hkN, rfl⟩))
  · have N := hN [(Γ.ea k, ok), (Γ.da k, dictOf es n), (Γ.err, oe), (Γ.de, _)] (List.forall_mem_cons.mpr ⟨K1, List.forall_mem_cons.mpr ⟨K2, List.forall_mem_cons.mpr ⟨K3, List.forall_mem_cons.mpr ⟨K4, List.forall_mem_nil _⟩⟩⟩⟩)
    simp only [List.cons_append, List.nil_append] at N
    clear hN K1 K2 K3 K4
    k_steps
    refine kto_is hrn ((X.keeps F.keep) 220 _ (by k_is)) hr (by rw [hrc]; intro e; cases e) ?_
    k_steps
    all_goals (exact hfin _ _ _ _ _ _ (by assumption) (by assumption) (.tail _ (.tail _ (.tail _ (.head _)))) (fun q hq => .tail _ (.tail _ (.tail _ (.tail _ hq)))) hev)
end Mine
end
section
open PySem PySem.W PyProof.Rows PySem.Calls PySem.Spec Builtin Builtin.ObjectAttr
set_option maxRecDepth 100000
set_option maxHeartbeats 8000000
namespace Mine
local macro_rules | `(tactic| walk_at "0") => `(tactic| skip)
local macro_rules | `(tactic| walk_at "0") => `(tactic| skip)
local macro_rules | `(tactic| walk_at "0") => `(tactic| skip)
local macro_rules | `(tactic| walk_at "0") => `(tactic| skip)
local macro_rules | `(tactic| walk_at "0") => `(tactic| skip)
local macro_rules | `(tactic| walk_at "0") => `(tactic| skip)
local macro_rules | `(tactic| walk_at "0") => `(tactic| skip)
local macro_rules | `(tactic| walk_at "0") => `(tactic| skip)
local macro_rules | `(tactic| walk_at "0") => `(tactic| skip)
local macro_rules | `(tactic| walk_at "0") => `(tactic| skip)
local macro_rules | `(tactic| walk_at "0") => `(tactic| skip)
local macro_rules | `(tactic| walk_at "0") => `(tactic| skip)
local macro_rules | `(tactic| walk_at "0") => `(tactic| skip)
local macro_rules | `(tactic| walk_at "0") => `(tactic| skip)
local macro_rules | `(tactic| walk_at "0") => `(tactic| skip)
local macro_rules | `(tactic| walk_at "0") => `(tactic| skip)
local macro_rules | `(tactic| walk_at "0") => `(tactic| skip)
local macro_rules | `(tactic| walk_at "0") => `(tactic| skip)
local macro_rules | `(tactic| walk_at "0") => `(tactic| skip)
local macro_rules | `(tactic| walk_at "0") => `(tactic| skip)
local macro_rules | `(tactic| walk_at "0") => `(tactic| skip)
local macro_rules | `(tactic| walk_at "0") => `(tactic| skip)
local macro_rules | `(tactic| walk_at "0") => `(tactic| skip)
local macro_rules | `(tactic| walk_at "0") => `(tactic| skip)
local macro_rules | `(tactic| walk_at "0") => `(tactic| skip)
local macro_rules | `(tactic| walk_at "0") => `(tactic| skip)
local macro_rules | `(tactic| walk_at "0") => `(tactic| skip)
local macro_rules | `(tactic| walk_at "0") => `(tactic| skip)
local macro_rules | `(tactic| walk_at "0") => `(tactic| skip)
local macro_rules | `(tactic| walk_at "0") => `(tactic| skip)
local macro_rules | `(tactic| walk_at "0") => `(tactic| skip)
local macro_rules | `(tactic| walk_at "0") => `(tactic| skip)
local macro_rules | `(tactic| walk_at "0") => `(tactic| skip)
local macro_rules | `(tactic| walk_at "0") => `(tactic| skip)
local macro_rules | `(tactic| walk_at "0") => `(tactic| skip)
local macro_rules | `(tactic| walk_at "0") => `(tactic| skip)
local macro_rules | `(tactic| walk_at "0") => `(tactic| skip)
local macro_rules | `(tactic| walk_at "0") => `(tactic| skip)
local macro_rules | `(tactic| walk_at "0") => `(tactic| skip)
local macro_rules | `(tactic| walk_at "0") => `(tactic| skip)
theorem rs7 : True := by
  w_top off
  trivial
def Hold (P : Prop) : Prop := P
theorem hold_of {P : Prop} (h : Hold P) : P := h
theorem execs_hold {M : Model} {A : Around} {E : Value → Shared → Prop} {s : Shared} {env : Env} {st : Stmt} {rest : List Stmt} {Q : Flow → Shared → Prop}
    (h : wpAny M A (exec st env) (fun f s' => Hold (match f with | .next => wpAny M A (execs rest env) Q E s' | f => Q f s')) E s) : wpAny M A (execs (st :: rest) env) Q E s := wpAny_execs_cons h
/-- what a call of match_core (b = k + 1) or of _uncached_match (b = k) does -/
def CallOk (w : World) (H0 : Heap) (Γ : Cfg) (b k : Nat) (f : Addr) : Prop :=
  ∀ (hid : List Addr) (dp un : Nat) (gd : Option (List Code)) (fr : List Env) (s : Shared) (pos : Nat) (tp : Tok) (reg : Nat → Option Nat) (ecs : List Addr) (Q E : Value → Shared → Prop),
    Amb H0 fr s.heap → Inv w Γ b (Vw hid s.heap) reg ecs → Stand Γ (Vw hid s.heap) ecs → (∀ a ∈ hid, a < s.heap.objs.size) → (∀ a ∈ frs fr, a ∈ hid) → (∀ a ∈ dictAddrs Γ ecs, a ∉ frs fr) → (∀ a ∈ Γ.olds, a ∉ frs fr) → pos ≤ Γ.n → dp + (3 * (b + k) + 12) < recursionLimit → un + (10 * (b + k) + 60) < cLine →
    (∀ v h' tk' reg' ecs', Inv w Γ b (Vw hid h') reg' ecs' → Ext b reg ecs reg' ecs' → (∀ a ∈ ecs', a ∈ ecs ∨ s.heap.objs.size ≤ a) → s.heap.objs.size ≤ h'.objs.size → (∀ a o, s.heap.get? a = some o → ¬ MutK Γ b reg ecs a → h'.get? a = some o) →
      Res Γ (Vw hid h') k pos v → Q v { s with heap := h', toks := tk' }) →
    wpAny (model PySem.Challenge.rw_vy0014_01.row.prog w) (ar dp un gd fr) (call (.ref f) [.ref (Γ.ea k), .str Γ.text Γ.tk, .int (pos : Int) tp, .ref Γ.ca, .ref Γ.err]) Q E s

theorem low_ne_modules {p : Program} {loose : List Str} {mean : ExcName → Option Value} {mg mb : Str → Option Value} {H0 : Heap} (T : Top p loose mean mg mb H0) {a : Addr} (h : H0.objs.size ≤ a) : (a == sysModules) = false := by
  have h1 := ltN (modules_low T.nolimit)
  rw [beq_eq_false_iff_ne]
  rintro rfl
  exact absurd (Nat.lt_of_lt_of_le h1 h) (Nat.lt_irrefl _)
theorem len_of_range {l : List Int} {n : Nat} (nd : l.Nodup) (h : ∀ x ∈ l, ∃ q : Nat, x = (q : Int) ∧ q ≤ n) : l.length ≤ n + 1 := by
  have : ∀ (n : Nat) (l : List Int), l.Nodup → (∀ x ∈ l, ∃ q : Nat, x = (q : Int) ∧ q < n) → l.length ≤ n := by
    intro n
    induction n with
    | zero =>
      intro l _ h
      cases l with
      | nil => exact Nat.le_refl _
      | cons a r => obtain ⟨q, _, hq⟩ := h a (.head _); exact absurd hq (Nat.not_lt_zero _)
    | succ n ih =>
      intro l nd h
      have h1 := ih (l.erase (n : Int)) (nd.erase _) (fun x hx => by
        obtain ⟨q, e, hq⟩ := h x (List.mem_of_mem_erase hx)
        refine ⟨q, e, Nat.lt_of_le_of_ne (Nat.le_of_lt_succ hq) fun e2 => ?_⟩
        subst e2
        exact absurd e (fun e => by rw [e] at hx; exact (List.Nodup.not_mem_erase nd) hx))
      have h2 := List.length_erase_le (a := (n : Int)) (l := l)
      by_cases hm : (n : Int) ∈ l
      · rw [List.length_erase_of_mem hm] at h1; omega
      · rw [List.erase_of_not_mem hm] at h1; omega
  exact this (n + 1) l nd fun x hx => let ⟨q, e, hq⟩ := h x hx; ⟨q, e, Nat.lt_succ_of_le hq⟩
theorem IsDictOf.nodup {prog : Program} {w : World} {K : Type} [DecidableEq K] {knd : KeyKind prog w K} {o : Obj} {kvs : List (K × Value)} (h : o.IsDictOf knd kvs) : (kvs.map (·.1)).Nodup := by
  obtain ⟨_, _, _, _, _, _, h⟩ := h; exact h
local macro_rules | `(tactic| walk_at "call builtin:getattr") => `(tactic| (k_here; (with_reducible show wpAny _ _ (call (Value.builtin _) [Value.none, Value.str (PySem.Str.ofString "name") _, _]) _ _ _); k_dflt (refine' kga_none ?k1 ?k2 ?k3 ?_; (case k1 => k_asm); (case k2 => k_asm); (case k3 => exact rfl); k_whole; intro h' tk' F' N'; (try k_sweep))))
local macro_rules | `(tactic| walk_at "truthy str") => `(tactic| (k_here; k_dflt (refine' truthy_strB ?k1 ?_ ?_; (case k1 => assumption)) <;> intro _))
local macro_rules | `(tactic| k_room) => `(tactic| ktr_room)
local macro_rules | `(tactic| k_all) => `(tactic| first | assumption | (intro q9 hq9; (try dsimp only); first | exact allLt_ne (by assumption) (by omega) q9 hq9 | exact lt_ne (by assumption) (by omega) q9 hq9))
local macro_rules | `(tactic| k_inst) => `(tactic| (refine' instOf ?N ?h1 ?h2 ?e1 ?e2 ?e3; (case N => k_asm); (case h1 => k_mem); (case e1 => assumption); (case e2 => assumption); (case h2 => k_mem); (case e3 => assumption)))
local macro_rules | `(tactic| walk_at "eval Name") => `(tactic| (k_here; k_dflt (refine' ld ?k1 ?k2 ?_; (case k1 => k_asm); (case k2 => assumption); k_whole)))
local macro_rules | `(tactic| walk_at "getAttr ref") => `(tactic| (k_here; k_dflt (refine' exc_get_own ?k1 ?k2 ?k3 ?k4 ?k5 ?k6 ?k7 ?_; (case k1 => k_asm); (case k2 => k_asm); (case k3 => k_inst); (case k4 => first | exact excF_94 _ | exact excF_132 _); (case k5 => k_is); (case k6 => k_get); (case k7 => k_handed); k_whole)))
local macro_rules | `(tactic| walk_at "setAttr ref") => `(tactic| (k_here; k_dflt (refine' exc_set ?k1 ?k2 ?k3 ?k4 ?k5 ?k6 ?k7 ?k8 ?k9 ?k10 ?k11 ?_; (case k1 => k_asm); (case k2 => k_asm); (case k3 => k_asm); (case k4 => k_inst); (case k5 => first | assumption | exact rfl); (case k6 => first | exact excF_94 _ | exact excF_132 _); (case k7 => k_is); (case k8 => k_get); (case k9 => first | exact errPut_expr | exact errPut_pos | k_put); (case k10 => k_upd); (case k11 => exact Nat.le_of_ble_eq_true rfl); k_whole; intro h' F' N'; (try k_sweep))))
local macro_rules | `(tactic| walk_at "getAttr ref") => `(tactic| (k_here; (with_reducible show wpAny _ _ (getAttr (Value.ref _) (PySem.Str.ofString "name") _) _ _ _); k_dflt (refine' kname ?k1 ?k2 ?k3 ?k4 ?k5 ?_; (case k1 => k_asm); (case k2 => k_asm); (case k3 => k_inst); (case k4 => assumption); (case k5 => assumption); k_whole)))
local macro_rules | `(tactic| walk_at "call builtin:getattr") => `(tactic| (k_here; (with_reducible show wpAny _ _ (call (Value.builtin _) [Value.ref _, Value.str (PySem.Str.ofString "name") _, _]) _ _ _); k_dflt (refine' kga_name ?k1 ?k2 ?k3 ?k4 ?k5 ?_; (case k1 => k_asm); (case k2 => k_asm); (case k3 => k_inst); (case k4 => assumption); (case k5 => assumption); k_whole)))
local macro_rules | `(tactic| walk_at "compareOp In int ref") => `(tactic| (k_here; k_dflt (refine' kda_in (knd := PySem.intKind _ _) ?N ?p ?d ?lo (intKind_is _ _ _ _) _ ?hb ?_; (case N => k_asm); (case d => assumption); (case p => k_mem); (case lo => assumption); (case hb => assumption); k_whole)))
local macro_rules | `(tactic| walk_at "subscriptTail") => `(tactic| (k_here; (with_reducible show wpAny _ _ (subscriptTail _ _ (Value.ref _) (Value.int _ _)) _ _ _); k_dflt (refine' kda_item (knd := PySem.intKind _ _) ?N ?p ?d (intKind_is _ _ _ _) ?hl ?_; (case N => k_asm); (case d => assumption); (case p => k_mem); (case hl => assumption); k_whole)))
local macro_rules | `(tactic| walk_at "setItem ref int") => `(tactic| (k_here; k_dflt (refine' kda_set (knd := PySem.intKind _ _) ?F ?N ?U ?d (intKind_is _ _ _ _) ?z ?_; (case F => k_asm); (case N => k_asm); (case d => assumption); (case U => k_updF); (case z => assumption); k_whole); intro h' o' F' N' hd'; (try dsimp only at N'); (try k_sweep)))
local macro_rules | `(tactic| walk_at "getMethod ref") => `(tactic| (k_here; (with_reducible show wpAny _ _ (getMethod (Value.ref _) (PySem.Str.ofString "_uncached_match") _) _ _ _); k_dflt (refine' kum ?k1 ?k2 ?k3 ?k4 ?k5 ?_; (case k1 => k_asm); (case k2 => k_asm); (case k3 => k_inst); (case k4 => assumption); (case k5 => assumption); k_whole)))
local macro_rules | `(tactic| walk_at "callWith ref") => `(tactic| (k_here; (with_reducible show wpAny _ _ (callWith _ (Value.ref (umOf _)) _ _ _) _ _ _); k_dflt (refine' callWith_K ?k1 ?k2 ?_; (case k1 => k_asm); (case k2 => exact ClsF.kp (by assumption)); k_whole)))
local macro_rules | `(tactic| walk_at "call ref") => `(tactic| (k_here; (with_reducible show wpAny _ _ (call (Value.ref (umOf _)) _ _) _ _ _); refine hold_of ?_))

/-- the dicts that level b asks of, but the error's -/
def OwnD (Γ : Cfg) (b : Nat) (reg : Nat → Option Nat) (ecs : List Addr) (a : Addr) : Prop := a = Γ.ca ∨ (∃ j, j < Γ.N ∧ a = Γ.da j) ∨ ∃ j, j < b ∧ ∃ o, reg j = some o ∧ ecs[o]? = some a
theorem Inv.move2 {w : World} {Γ : Cfg} {b : Nat} {h h' : Heap} {reg : Nat → Option Nat} {ecs : List Addr} (I : Inv w Γ b h reg ecs) (kn : KeepND h h') (kd : ∀ a, OwnD Γ b reg ecs a → ∀ o, h.get? a = some o → h'.get? a = some o)
    {ep : Int} {n : Nat} {t1 t2 t3 : Tok} {tx : Value} {tp : Tok} {ev : Value} (he : h'.get? Γ.de = some (errDict w t1 t2 t3 tx ep tp ev n)) (hev : ev = .none ∨ ∃ j, j < Γ.N ∧ ev = .ref (Γ.ea j)) : Inv w Γ b h' reg ecs := by
  refine { I with ex := ?_, er := ?_, ed := ?_, cc := ?_, att := ?_, cl := ?_ }
  · intro k st hk
    obtain ⟨l, o, h1, h2⟩ := I.ex k st hk
    exact ⟨l, o, kn.1 _ _ h1 (fun es n e => by rw [h2.plain.1] at e; cases e), h2.sub kn⟩
  · obtain ⟨l, oe, h1, h2, h3, h4, h5⟩ := I.er
    exact ⟨l, oe, kn.1 _ _ h1 h5, h2, h3, h4, h5⟩
  · exact ⟨ep, n, t1, t2, t3, tx, tp, ev, he, hev⟩
  · obtain ⟨oc, h1, h2⟩ := I.cc
    exact ⟨oc, kd _ (.inl rfl) _ h1, h2⟩
  · intro k hk
    exact (I.att k hk).sub (fun o e => kd _ (.inr (.inl ⟨k, hk, rfl⟩)) o e) kn (fun _ _ e => e)
  · intro j hj o ho
    obtain ⟨ec, h1, h2⟩ := I.cl j hj o ho
    exact ⟨ec, h1, h2.sub (fun o' e => kd _ (.inr (.inr ⟨j, hj, o, ho, h1⟩)) o' e) kn⟩
theorem nodup_ca {Γ : Cfg} {ecs : List Addr} (nd : (dictAddrs Γ ecs).Nodup) : Γ.ca ≠ Γ.de := fun e => by
  unfold dictAddrs at nd; rw [List.nodup_cons] at nd; exact nd.1 (e ▸ .head _)
theorem nodup_ecs {Γ : Cfg} {ecs : List Addr} (nd : (dictAddrs Γ ecs).Nodup) : ecs.Nodup := by
  unfold dictAddrs at nd
  rw [List.nodup_cons, List.nodup_cons, List.nodup_append] at nd
  exact nd.2.2.2.1
theorem nodup_at {l : List Addr} (nd : l.Nodup) {i j : Nat} {a : Addr} (h1 : l[i]? = some a) (h2 : l[j]? = some a) : i = j := by
  obtain ⟨l1, e1⟩ := List.getElem?_eq_some_iff.mp h1
  obtain ⟨l2, e2⟩ := List.getElem?_eq_some_iff.mp h2
  exact (List.getElem_inj nd).mp (e1.trans e2.symm)
theorem stored_none {kvs : List (Int × Value)} {x : Int} (h : valueAt kvs x = none) (v : Value) : stored kvs x v = kvs ++ [(x, v)] := by
  unfold stored
  rw [if_neg]
  intro hc
  obtain ⟨kv, hm, he⟩ := List.any_eq_true.mp hc
  unfold valueAt at h
  rw [Option.map_eq_none_iff, List.find?_eq_none] at h
  exact h kv hm he
theorem stored_again {kvs : List (Int × Value)} {x : Int} (h : valueAt kvs x = none) (v v' : Value) : stored (kvs ++ [(x, v)]) x v' = kvs ++ [(x, v')] := by
  unfold stored
  rw [if_pos (by simp)]
  unfold valueAt at h
  rw [Option.map_eq_none_iff, List.find?_eq_none] at h
  rw [List.map_append]
  congr 1
  · conv => rhs; rw [← List.map_id kvs]
    refine List.map_congr_left fun kv hm => ?_
    have := h kv hm
    rw [decide_eq_true_eq] at this
    rw [if_neg this]; rfl
  · simp
theorem Inv.stay {w : World} {Γ : Cfg} {b : Nat} {h h' : Heap} {reg : Nat → Option Nat} {ecs : List Addr} (I : Inv w Γ b h reg ecs) (kn : KeepND h h') (kd : ∀ a ∈ dictAddrs Γ ecs, ∀ o, h.get? a = some o → h'.get? a = some o) : Inv w Γ b h' reg ecs := by
  obtain ⟨ep, n, t1, t2, t3, tx, tp, ev, he, hev⟩ := I.ed
  exact I.move kn (fun a ha _ o e => kd a ha o e) (kd _ (.tail _ (.head _)) _ he) hev
theorem valueAt_mem {kvs : List (Int × Value)} {x : Int} {v : Value} (h : valueAt kvs x = some v) : (x, v) ∈ kvs := by
  unfold valueAt at h
  obtain ⟨kv, h1, rfl⟩ := Option.map_eq_some_iff.mp h
  have h2 := List.find?_some h1
  have h3 := List.mem_of_find?_eq_some h1
  have : kv.1 = x := of_decide_eq_true h2
  subst this; exact h3
theorem nodup_ecs_da {Γ : Cfg} {ecs : List Addr} (nd : (dictAddrs Γ ecs).Nodup) {k : Nat} (hk : k < Γ.N) {a : Addr} (ha : a ∈ ecs) : Γ.da k ≠ a := by
  unfold dictAddrs at nd
  rw [List.nodup_cons, List.nodup_cons, List.nodup_append] at nd
  exact nd.2.2.2.2 _ (List.mem_map.mpr ⟨k, List.mem_range.mpr hk, rfl⟩) _ ha
variable {w : World} {p : Program} {loose : List Str} {mean : ExcName → Option Value} {mg mb : Str → Option Value} {H0 : Heap} {Γ : Cfg} {hid : List Addr}
theorem mc_rest1 {dp un : Nat} {gd : Option (List Code)} {fr : List Env} {g : Heap} {L : Addr} {m : Str → Option Value} {s : Shared} {k pos oid : Nat} {ec : Addr} {tp : Tok} {reg : Nat → Option Nat} {ecs : List Addr} {st : Stp} {Q : Flow → Shared → Prop} {E : Value → Shared → Prop}
    {name qual : Str} {params : Arguments} {s1 s2 : Stmt} {rest : List Stmt} {scope : Scope} {dV kV doc pm cdv ct oc : Value} {an od : Option Addr} {osl : Array (Option Value)}
    (C : Cx w p loose mean mg mb H0 Γ) (ho : (_root_.Mine.hd.heap_39 w.params).lookup 266 = some ⟨oc, od, .func (fnOf name qual params (s1 :: s2 :: rest) scope dV kV doc pm an cdv ct), osl⟩)
    (F : Fr g L s.heap m) (m1 : m "self" = some (.ref (Γ.ea k))) (m2 : m "text" = some (.str Γ.text Γ.tk)) (m3 : m "pos" = some (.int (pos : Int) tp)) (m4 : m "cache" = some (.ref Γ.ca)) (m5 : m "error" = some (.ref Γ.err)) (m6 : m "expr_cache" = some (.ref ec))
    (MG : Amb H0 fr g) (hgn : ∀ a, H0.get? a = none → a ∉ frs fr → g.get? a = none) (X : (_root_.Mine.hd.heap_39 w.params).In g) (T : Top p loose mean mg mb g) (B : Below (ar dp un gd fr) H0 fr g)
    (I : Inv w Γ (k + 1) (Vw hid s.heap) reg ecs) (hst : Γ.plan[k]? = some st) (hS : Stand Γ (Vw hid s.heap) ecs) (hhid : ∀ a ∈ hid, a ≤ L) (hLh : L ∈ hid) (hfh : ∀ a ∈ frs fr, a ∈ hid) (hLo : L ∉ Γ.olds) (hL : L ∉ dictAddrs Γ ecs) (hfr : ∀ a ∈ dictAddrs Γ ecs, a ∉ frs fr) (hfo : ∀ a ∈ Γ.olds, a ∉ frs fr) (hreg : reg k = some oid) (hec : ecs[oid]? = some ec) (hpos : pos ≤ Γ.n)
    (hdp : dp + (6 * k + 15) < recursionLimit) (hun : un + (20 * k + 70) < cLine) (UM : CallOk w H0 Γ k k (umOf st))
    (hq : ∀ v h' tk' reg' ecs', Inv w Γ (k + 1) (Vw hid h') reg' ecs' → Ext (k + 1) reg ecs reg' ecs' → (∀ a ∈ ecs', a ∈ ecs ∨ L < a) → (∀ b o, s.heap.get? b = some o → ¬ MutK Γ (k + 1) reg ecs b → b ≠ L → h'.get? b = some o) → L < h'.objs.size → Res Γ (Vw hid h') k pos v →
      Q (.ret v) { s with heap := h', toks := tk' }) :
    wpAny (model PySem.Challenge.rw_vy0014_01.row.prog w) ((ar dp un gd fr).deeper (envOf qual scope L 266 cdv)) (execs (s2 :: rest) (envOf qual scope L 266 cdv)) Q E s := by
  have ho' := ho
  have key : ∀ o, (_root_.Mine.hd.heap_39 w.params).lookup 266 = some o → o = ⟨oc, od, .func (fnOf name qual params (s1 :: s2 :: rest) scope dV kV doc pm an cdv ct), osl⟩ := fun o e => Option.some.inj (e.symm.trans ho)
  have e2 := key _ (by k_is)
  cases e2
  clear key ho
  obtain ⟨tl, hvh, hN, Cv, ev, htl⟩ := focus [ec] F
  obtain ⟨hlk, ok, hok, hob⟩ := I.ex k st hst
  obtain ⟨pl1, pl2, pl3⟩ := hob.plain
  have hkN : k < Γ.N := (List.getElem?_eq_some_iff.mp hst).1
  obtain ⟨es, n, hda, hum, _⟩ := (I.att k hkN).there
  obtain ⟨ec', hec', oec, kvs, hoec, hdk, hkv⟩ := I.cl k (Nat.lt_succ_self _) oid hreg
  rw [hec] at hec'; cases hec'
  replace hok := Cfg.vget hok
  replace hda := Cfg.vget hda
  have vec := hoec
  replace hoec := Cfg.vget hoec
  have hmec : ec ∈ dictAddrs Γ ecs := mem_ecs (List.mem_of_getElem? hec)
  have lo0 : ∀ a, Γ.lo0 ≤ a → H0.get? a = none := fun a ha => get_none_of_le (Nat.le_trans C.lo ha)
  have c1 := notCls_plain pl1
  have cf := clsF w st
  have nok := plain_nd pl1
  have losec := low_ne_modules C.O.T (Nat.le_trans C.lo (I.dl _ hmec))
  have hlen : kvs.length ≤ sizeLine := by
    have h1 := len_of_range (n := Γ.n) (IsDictOf.nodup hdk) (fun x hx => by obtain ⟨kv, hm, rfl⟩ := List.mem_map.mp hx; obtain ⟨q, a, b, _⟩ := hkv kv hm; exact ⟨q, a, b⟩)
    rw [List.length_map] at h1
    have h2 := C.ok.small
    rw [sizeLine_eq]; omega
  have K1 : s.heap.get? (Γ.ea k) = some ok ∧ Γ.ea k ≠ L ∧ g.get? (Γ.ea k) = none := ⟨hok, Fr.neL F hok nok, hgn _ (lo0 _ hlk) (notFrK MG F hok nok)⟩
  have K2 : s.heap.get? (Γ.da k) = some (dictOf es n) ∧ Γ.da k ≠ L ∧ g.get? (Γ.da k) = none := ⟨hda, fun e => hL (e ▸ I.mem_da hkN), hgn _ (lo0 _ (I.dl _ (I.mem_da hkN))) (hfr _ (I.mem_da hkN))⟩
  have K3 : s.heap.get? ec = some oec ∧ ec ≠ L ∧ g.get? ec = none := ⟨hoec, fun e => hL (e ▸ hmec), hgn _ (lo0 _ (I.dl _ hmec)) (hfr _ hmec)⟩
  have N := hN [(Γ.ea k, ok), (Γ.da k, dictOf es n), (ec, oec)] (List.forall_mem_cons.mpr ⟨K1, List.forall_mem_cons.mpr ⟨K2, List.forall_mem_cons.mpr ⟨K3, List.forall_mem_nil _⟩⟩⟩)
  simp only [List.cons_append, List.nil_append] at N
  have ne1' : Γ.ea k ≠ ec := fun e => by rw [e, hoec] at hok; cases hok; obtain ⟨_, _, _, d, _⟩ := hdk; rw [pl1] at d; cases d
  have ne1 := neN ne1'
  have ne2 := neN (nodup_ecs_da I.nd hkN (List.mem_of_getElem? hec))
  have td : ∀ q ∈ tl, q.1 ≠ ec := fun q hq => htl q hq ec (.head _)
  have hLlt := F.ns.lt
  have hnL : ∀ c o, s.heap.get? c = some o → (∀ es n, o.data ≠ .dict es n) → c ≠ L := fun c o e d => Fr.neL F e d
  have hLd : ∃ o es n, s.heap.get? L = some o ∧ o.data = .dict es n := let ⟨o, es, n, a, b, _⟩ := F.ns; ⟨o, es, n, a, b⟩
  clear hN K1 K2 K3
  cases hva : valueAt kvs (pos : Int) with
  | some v =>
    have hb : (valueAt kvs (pos : Int)).isSome = true := by rw [hva]; rfl
    refine execs_hold ?_
    k_steps
    (with_reducible rename Fr _ _ _ _ => F9)
    (with_reducible rename News _ _ _ _ => N9)
    show wpAny _ _ (execs _ _) _ _ _
    have S := Cv.now F9 N9 (fun q hq => .tail _ (.tail _ (.tail _ hq)))
    have kp : ∀ b o, s.heap.get? b = some o → b ≠ L → _ := fun b o e n1 => (if q : b = ec then by rw [q, hoec] at e; cases e; rw [q]; exact N9.get (.tail _ (.tail _ (.head _))) else S b o (ev ▸ hideAll_get _ e (by simp [q, n1])))
    have kn : KeepND s.heap _ := knL kp hLd (frDat F9)
    have I9 := I.stay (Cfg.vkn kn) (fun a ha o e => Cfg.vto e (kp a o (Cfg.vget e) (fun q => hL (q ▸ ha))))
    obtain ⟨q, hq1, hq2, hres⟩ := hkv _ (valueAt_mem hva)
    have : q = pos := by have : (pos : Int) = (q : Int) := hq1; omega
    subst this
    refine mc_rest2 C ho' F9 m1 m3 m5 rfl MG hgn X T B I9 hst hL hfr (hres.keep (Cfg.vkn kn)) (by omega) (by omega) ?_
    intro h' tk' I' kn' kp' hsz
    exact hq _ h' tk' reg ecs I' Ext.refl (fun a ha => .inl ha) (fun b o e n1 n2 => kp' b o (kp b o e n2) (fun q => n1 (.inr (.inl q))) n2) hsz ((hres.keep (Cfg.vkn kn)).keep (Cfg.vkn kn'))
  | none =>
    have hb : (valueAt kvs (pos : Int)).isSome = false := by rw [hva]; rfl
    refine execs_hold ?_
    k_steps
    (with_reducible rename Fr _ _ _ _ => F9)
    (with_reducible rename News _ _ _ _ => N9)
    (with_reducible rename Obj.IsDictOf _ _ (stored _ _ _) => hd9)
    rw [stored_none hva] at hd9
    show wpAny _ _ _ _ _ _
    have S := Cv.now F9 N9 (fun q hq => .tail _ (.tail _ (.tail _ hq)))
    have kp : ∀ b o, s.heap.get? b = some o → b ≠ L → b ≠ ec → _ := fun b o e n1 n2 => S b o (ev ▸ hideAll_get _ e (by simp [n1, n2]))
    have kn : KeepND s.heap _ := knLC kp hLd (frDat F9) (fun o e => by rw [hoec] at e; cases e; obtain ⟨_, _, _, d, _⟩ := hdk; exact ⟨_, _, d⟩) (N9.get (.tail _ (.tail _ (.head _))))
    obtain ⟨ep, en, t1, t2, t3, tx, etp, eev, hed, hev⟩ := I.ed
    have ved := hed
    replace hed := Cfg.vget hed
    have nde : Γ.de ≠ ec := fun e => ((nodup_da I.nd (List.mem_append_right _ (List.mem_of_getElem? hec))).1) e.symm
    have I9 : Inv w Γ k (Vw hid _) reg ecs := (I.down (Nat.le_succ k)).move2 (Cfg.vkn kn) (fun a ha o e => Cfg.vto e <| kp a o (Cfg.vget e) (fun q => hL (by
        rcases ha with rfl | ⟨j, hj, rfl⟩ | ⟨j, hj, o', hr, e'⟩
        · exact q ▸ .head _
        · exact q ▸ I.mem_da hj
        · exact q ▸ mem_ecs (List.mem_of_getElem? e'))) (fun q => by
        rcases ha with rfl | ⟨j, hj, rfl⟩ | ⟨j, hj, o', hr, e'⟩
        · exact (nodup_da I.nd (List.mem_append_right _ (List.mem_of_getElem? hec))).2 q.symm
        · exact nodup_ecs_da I.nd hj (List.mem_of_getElem? hec) q
        · subst q
          have := nodup_at (nodup_ecs I.nd) e' hec
          subst this
          exact Nat.ne_of_lt hj (I.inj _ _ _ hr hreg))) (Cfg.vto ved (kp _ _ hed (fun q => hL (q ▸ .tail _ (.head _))) nde)) hev
    have hS9 : Stand Γ (Vw hid _) ecs := ⟨fun a ha => (if q : a = ec then by
        obtain ⟨_, _, q2, _⟩ := hd9
        exact ⟨_, by rw [q]; exact Cfg.vto vec (N9.get (.tail _ (.tail _ (.head _)))), q2.1⟩ else let ⟨o, e, c⟩ := hS.new a ha; ⟨o, Cfg.vto e (kp _ _ (Cfg.vget e) (fun q2 => hL (q2 ▸ mem_ecs ha)) q), c⟩),
      fun a ha => let ⟨o, e, c⟩ := hS.old a ha; ⟨o, Cfg.vto e (kp _ _ (Cfg.vget e) (fun q => hLo (q ▸ ha)) (fun q => I.eb _ hmec (q ▸ ha))), c⟩⟩
    refine UM hid (dp + 1) (un + 3) gd _ _ pos tp reg ecs _ _ (MG.push F9 rfl) I9 hS9 (fun a ha => Nat.lt_of_le_of_lt (hhid a ha) F9.ns.lt) (fun a ha => by rw [frs_push] at ha; rcases List.mem_cons.mp ha with rfl | ha; exact hLh; exact hfh a ha) (fun a ha hm => ?_) (fun a ha hm => by
      rw [frs_push] at hm
      rcases List.mem_cons.mp hm with rfl | hm
      · exact hLo ha
      · exact hfo a ha hm) hpos (by omega) (by omega) ?_
    · rw [frs_push] at hm
      rcases List.mem_cons.mp hm with rfl | hm
      · exact hL ha
      · exact hfr a ha hm
    intro v h2 tk2 reg2 ecs2 I2 X2 fr2 sz2 kp2 res2
    have nM : ∀ a, MutK Γ k reg ecs a → a ∈ dictAddrs Γ ecs := fun a ha => I9.mut_mem ha
    have F2 := frBack F9 kp2 (fun hm => hL (nM _ hm)) (fun a hm => hgn a (lo0 _ (I.dl _ (nM a hm))) (hfr a (nM a hm)))
    have nMec : ¬ MutK Γ k reg ecs ec := by
      rintro (q | q | ⟨j, _, hj, q⟩ | ⟨j, hj, o', hr, e'⟩)
      · exact (nodup_da I.nd (List.mem_append_right _ (List.mem_of_getElem? hec))).2 q
      · exact nde q.symm
      · exact nodup_ecs_da I.nd hj (List.mem_of_getElem? hec) q.symm
      · have := nodup_at (nodup_ecs I.nd) e' hec
        subst this
        exact Nat.ne_of_lt hj (I.inj _ _ _ hr hreg)
    have hec2 := kp2 _ _ (N9.get (.tail _ (.tail _ (.head _)))) nMec
    have kn2 := I9.keepND (Nat.le_refl _) I2 X2 (fun a o e n => Cfg.vto e (kp2 a o (Cfg.vget e) n))
    have vec2 := Cfg.vput (Cfg.vnot vec) hec2
    have Fd2 := frDat F2
    have hL9 := F9.ns.lt
    have hnL2 : ∀ c o, h2.get? c = some o → (∀ es n, o.data ≠ .dict es n) → c ≠ L := fun c o e d => Fr.neL F2 e d
    have hL2 : L ∉ dictAddrs Γ ecs2 := by
      intro hm
      rcases List.mem_cons.mp hm with q | hm
      · exact hL (q ▸ .head _)
      rcases List.mem_cons.mp hm with q | hm
      · exact hL (q ▸ .tail _ (.head _))
      rcases List.mem_append.mp hm with hm | hm
      · exact hL (.tail _ (.tail _ (List.mem_append_left _ hm)))
      · rcases fr2 _ hm with q | q
        · exact hL (mem_ecs q)
        · exact absurd (Nat.lt_of_lt_of_le hL9 q) (Nat.lt_irrefl _)
    have hfr2 : ∀ a ∈ dictAddrs Γ ecs2, a ∉ frs fr := by
      intro a hm hf
      have old : a ∈ dictAddrs Γ ecs → False := fun h => hfr a h hf
      rcases List.mem_cons.mp hm with q | hm
      · exact old (q ▸ .head _)
      rcases List.mem_cons.mp hm with q | hm
      · exact old (q ▸ .tail _ (.head _))
      rcases List.mem_append.mp hm with hm | hm
      · exact old (.tail _ (.tail _ (List.mem_append_left _ hm)))
      · rcases fr2 _ hm with q | q
        · exact old (mem_ecs q)
        · obtain ⟨o', es', n', e', _⟩ := MG.fdat a hf
          exact absurd (Nat.lt_of_lt_of_le (Nat.lt_of_lt_of_le (Nat.lt_of_lt_of_le (Heap.lt_size e') F9.above) (Nat.le_of_lt hL9)) q) (Nat.lt_irrefl _)
    obtain ⟨tl2, hvh2, hN2, Cv2, ev2, htl2⟩ := focus [ec] F2
    have N2 := hN2 [(ec, _)] (List.forall_mem_cons.mpr ⟨⟨hec2, fun e => hL (e ▸ hmec), hgn _ (lo0 _ (I.dl _ hmec)) (hfr _ hmec)⟩, List.forall_mem_nil _⟩)
    simp only [List.cons_append, List.nil_append] at N2
    have td2 : ∀ q ∈ tl2, q.1 ≠ ec := fun q hq => htl2 q hq ec (.head _)
    have hlen : (kvs ++ [((pos : Int), Value.ref 220)]).length ≤ sizeLine := by
      have h1 := len_of_range (n := Γ.n) (IsDictOf.nodup hdk) (fun x hx => by obtain ⟨kv, hm, rfl⟩ := List.mem_map.mp hx; obtain ⟨q, a, b, _⟩ := hkv kv hm; exact ⟨q, a, b⟩)
      rw [List.length_map] at h1
      have h2 := C.ok.small
      rw [sizeLine_eq, List.length_append]; simp only [List.length_cons, List.length_nil]; omega
    have fr3 : ∀ a ∈ ecs2, a ∈ ecs ∨ L < a := fun a ha => (fr2 a ha).imp id fun q => Nat.lt_of_lt_of_le hL9 q
    have F9a := F9.above
    clear N9 F9 S Cv tl htl td hN2
    k_steps
    (with_reducible rename Fr _ _ _ _ => F3)
    (with_reducible rename News _ _ _ _ => N3)
    (with_reducible rename Obj.IsDictOf _ _ (stored _ _ _) => hd3)
    rw [stored_again hva] at hd3
    show wpAny _ _ _ _ _ _
    have S3 := Cv2.now F3 N3 (fun q hq => .tail _ hq)
    have kp3 : ∀ b o, h2.get? b = some o → b ≠ L → b ≠ ec → _ := fun b o e n1 n2 => S3 b o (ev2 ▸ hideAll_get _ e (by simp [n1, n2]))
    have ndec : ∀ o, h2.get? ec = some o → ∃ es n, o.data = .dict es n := fun o e => by
      rw [hec2] at e; cases e; obtain ⟨_, _, _, d, _⟩ := hd9; exact ⟨_, _, d⟩
    have kn3 : KeepND h2 _ := knLC kp3 Fd2 (frDat F3) ndec (N3.get (.head _))
    obtain ⟨ep2, en2, u1, u2, u3, tx2, etp2, eev2, hed2, hev2⟩ := I2.ed
    have ved2 := hed2
    replace hed2 := Cfg.vget hed2
    have hec22 := X2.get hec
    have J : Inv w Γ k (Vw hid _) reg2 ecs2 := I2.move2 (Cfg.vkn kn3) (fun a ha o e => Cfg.vto e <| kp3 a o (Cfg.vget e) (fun q => hL2 (by
        rcases ha with rfl | ⟨j, hj, rfl⟩ | ⟨j, hj, o', hr, e'⟩
        · exact q ▸ .head _
        · exact q ▸ I2.mem_da hj
        · exact q ▸ mem_ecs (List.mem_of_getElem? e'))) (fun q => by
        rcases ha with rfl | ⟨j, hj, rfl⟩ | ⟨j, hj, o', hr, e'⟩
        · exact (nodup_da I2.nd (List.mem_append_right _ (List.mem_of_getElem? hec22))).2 q.symm
        · exact nodup_ecs_da I2.nd hj (List.mem_of_getElem? hec22) q
        · subst q
          have := nodup_at (nodup_ecs I2.nd) e' hec22
          subst this
          exact Nat.ne_of_lt hj (I2.inj _ _ _ hr (X2.old _ _ hreg)))) (Cfg.vto ved2 (kp3 _ _ hed2 (fun q => hL2 (q ▸ .tail _ (.head _))) nde)) hev2
    have knA : KeepND (Vw hid s.heap) _ := ((Cfg.vkn kn).trans kn2).trans (Cfg.vkn kn3)
    have clx := J.cl
    refine (fun (I3 : Inv w Γ (k + 1) (Vw hid _) reg2 ecs2) => ?_) { J with cl := ?_ }
    rotate_left
    · intro j hj o ho
      rcases Nat.lt_or_eq_of_le (Nat.le_of_lt_succ hj) with hj | rfl
      · exact clx j hj o ho
      · have := X2.old _ _ hreg
        rw [ho] at this; cases this
        refine ⟨ec, hec22, _, _, Cfg.vto vec2 (N3.get (.head _)), hd3, fun kv hm => ?_⟩
        rcases List.mem_append.mp hm with hm | hm
        · obtain ⟨q, a, b, r⟩ := hkv kv hm
          exact ⟨q, a, b, r.keep knA⟩
        · rw [List.mem_singleton.mp hm]
          exact ⟨pos, rfl, hpos, res2.keep (Cfg.vkn kn3)⟩
    refine mc_rest2 C ho' F3 m1 m3 m5 rfl MG hgn X T B I3 hst hL2 hfr2 (res2.keep (Cfg.vkn kn3)) (by omega) (by omega) ?_
    intro h' tk' I' kn4 kp' hsz
    refine hq _ h' tk' reg2 ecs2 I' (X2.up (Nat.le_succ k)) fr3 (fun b o e n1 n2 => ?_) hsz ((res2.keep (Cfg.vkn kn3)).keep (Cfg.vkn kn4))
    have n3 : b ≠ ec := fun q => n1 (.inr (.inr (.inr ⟨k, Nat.lt_succ_self k, oid, hreg, q ▸ hec⟩)))
    exact kp' b o (kp3 b o (kp2 b o (kp b o e n2 n3) (fun m => n1 (m.up (Nat.le_succ k)))) n2 n3) (fun q => n1 (.inr (.inl q))) n2
end Mine
end
section
open PySem PySem.W PyProof.Rows PySem.Calls PySem.Spec Builtin Builtin.ObjectAttr
set_option maxRecDepth 100000
set_option maxHeartbeats 2000000
namespace Mine
theorem rs8 : True := by
  w_top off
  trivial
section
variable {prog : Program} {w : World} {A : Around} {E : Value → Shared → Prop} {s : Shared}
/-- one turn of a for loop, and the rest of it -/
theorem for_turn {R : Result → Shared → Prop} {target : Expr} {it : Value} {body orelse : List Stmt} {env : Env}
    (h : wpAny (model prog w) A (pyNext it) (fun r s₁ => match r with
      | none => wpAny (model prog w) A (execs orelse env) (fun f s₃ => R (.ok f) s₃) (notedBy (model prog w) A env fun e s' => R (.error e) s') s₁
      | some v => wpAny (model prog w) A (letOwnedTupleGo target it v) (fun _ s₁' =>
          wpAny (model prog w) A (assign target env v) (fun _ s₂ => wpAny (model prog w) A (execs body env) (fun f s₃ => match f with
            | .next | .cont => codeAny (model prog w) A (.forLoop target it body orelse env) R s₃
            | .brk => R (.ok .next) s₃
            | .ret v => R (.ok (.ret v)) s₃) (notedBy (model prog w) A env fun e s' => R (.error e) s') s₂) (notedBy (model prog w) A env fun e s' => R (.error e) s') s₁') (notedBy (model prog w) A env fun e s' => R (.error e) s') s₁) (notedBy (model prog w) A env fun e s' => R (.error e) s') s) :
    codeAny (model prog w) A (.forLoop target it body orelse env) R s := by
  refine codeAny_of_tree ?_
  rw [Around.under_of_weight (by rfl) (by rfl)]
  show wpAny _ A ((forTurn target it body orelse env).onRaise (fun x => do noteFrame x env; theTreesLotGoes x)) _ _ s
  refine wpAny_noted ?_
  simp only [forTurn]
  refine wpAny_bind (wpAny_standAt (wpAny_bind (wpAny_onRaise (wpAny_mono h (fun r s₁ h₁ => ?_) fun _ _ h' => wpAny_standAt h'))))
  cases r with
  | none => exact wpAny_pure ⟨rfl, codeAny_block h₁⟩
  | some v =>
    refine wpAny_bind (wpAny_mono h₁ (fun _ s₁' h₁' => ?_) fun _ _ h' => h')
    refine wpAny_bind (wpAny_mono h₁' (fun _ s₂ h₂ => wpAny_bind (wpAny_mono h₂ (fun f s₃ h₃ => ?_) fun _ _ h' => h')) fun _ _ h' => h')
    cases f with
    | next => exact wpAny_pure ⟨rfl, h₃⟩
    | cont => exact wpAny_pure ⟨rfl, h₃⟩
    | brk => exact wpAny_pure h₃
    | ret v => exact wpAny_pure h₃

def IterT (o : Obj) (t : Addr) (i : Nat) : Prop := o.cls = .type "tuple_iterator" ∧ o.data = .fields #[.ref t, .int i 0]
theorem tl_ne {h : Heap} {g : Heap} {L : Addr} {news : List (Addr × Obj)} (N : News g L h news) : ∀ q ∈ news, q.1 < h.objs.size := fun q hq => Heap.lt_size (N q hq).1
variable {g : Heap} {L t I : Addr} {m : Str → Option Value} {ot oI : Obj} {news : List (Addr × Obj)} {vs : List Value} {n i : Nat} {env : Env} {target : Expr} {body orelse : List Stmt}
theorem kfor_iter {Q : Value → Shared → Prop} (F : Fr g L s.heap m) (N : News g L s.heap news) (hm : (t, ot) ∈ news) (hc : ot.cls = .type "tuple") (hd : ot.data = .seq vs.toArray n)
    (h : ∀ h' I oI, IterT oI t 0 → (∀ q ∈ news, q.1 < I) → L < I → I = s.heap.objs.size → s.heap.StaysIn h' → Fr g L h' m → News g L h' ((I, oI) :: news) → Q (.ref I) { s with heap := h' }) : wpAny (model prog w) A (pyIter (.ref t)) Q E s := by
  have hl : s.heap.IsTuple t vs.toArray := ⟨ot, (N _ hm).1, hc, n, hd⟩
  refine wpAny_pyIter_tuple hl (h _ s.heap.objs.size { cls := .type "tuple_iterator", data := .fields #[.ref t, .int 0 0] } ⟨rfl, rfl⟩ (tl_ne N) F.ns.lt rfl (fun b o e => Heap.get?_push_of_some _ e) (F.push _) (News.push F N _))
theorem kfor_item {R : Result → Shared → Prop} {v : Value} (F : Fr g L s.heap m) (N : News g L s.heap ((I, oI) :: news)) (hI : IterT oI t i) (hlt : ∀ q ∈ news, q.1 ≠ I) (hm : (t, ot) ∈ news) (hc : ot.cls = .type "tuple") (hd : ot.data = .seq vs.toArray n) (hx : vs[i]? = some v)
    (h : ∀ h' oI', IterT oI' t (i + 1) → Fr g L h' m → News g L h' ((I, oI') :: news) → wpAny (model prog w) A (assign target env v) (fun _ s₂ => wpAny (model prog w) A (execs body env) (fun f s₃ => match f with
            | .next | .cont => codeAny (model prog w) A (.forLoop target (.ref I) body orelse env) R s₃
            | .brk => R (.ok .next) s₃
            | .ret v => R (.ok (.ret v)) s₃) (notedBy (model prog w) A env fun e s' => R (.error e) s') s₂) (notedBy (model prog w) A env fun e s' => R (.error e) s') { s with heap := h' }) :
    codeAny (model prog w) A (.forLoop target (.ref I) body orelse env) R s := by
  have hl : s.heap.IsTuple t vs.toArray := ⟨ot, (N _ (.tail _ hm)).1, hc, n, hd⟩
  have hit : s.heap.IsTupleIter I t i := ⟨oI, (N _ (.head _)).1, hI.1, hI.2⟩
  refine for_turn (wpAny_pyNext_tuple_item hit hl (x := v) (by simpa using hx) fun h' hit' hs' => letGo_tupleiter hit' ?_)
  obtain ⟨oI', ho', hc', hd'⟩ := id hit'
  have N' := N.update (.head _) hs' ho'
  rw [List.map_cons, if_pos rfl] at N'
  have e : (news.map fun p => if p.1 = I then (I, oI') else p) = news := by
    conv => rhs; rw [← List.map_id news]
    refine List.map_congr_left fun q hq => ?_
    rw [if_neg (hlt q hq)]; rfl
  rw [e] at N'
  exact h h' oI' ⟨hc', hd'⟩ (F.update N (.head _) hs') N'
theorem kfor_end {R : Result → Shared → Prop} (hh : A.handled = none) (F : Fr g L s.heap m) (N : News g L s.heap ((I, oI) :: news)) (hI : IterT oI t i) (hlt : ∀ q ∈ news, q.1 ≠ I) (hm : (t, ot) ∈ news) (hc : ot.cls = .type "tuple") (hd : ot.data = .seq vs.toArray n) (hx : vs[i]? = none)
    (h : ∀ h', Fr g L h' m → News g L h' news → wpAny (model prog w) A (execs orelse env) (fun f s₃ => R (.ok f) s₃) (notedBy (model prog w) A env fun e s' => R (.error e) s') { s with heap := h' }) :
    codeAny (model prog w) A (.forLoop target (.ref I) body orelse env) R s := by
  have hl : s.heap.IsTuple t vs.toArray := ⟨ot, (N _ (.tail _ hm)).1, hc, n, hd⟩
  have hit : s.heap.IsTupleIter I t i := ⟨oI, (N _ (.head _)).1, hI.1, hI.2⟩
  refine for_turn (wpAny_pyNext_tuple_end hh hit hl (by simpa using hx) fun h' he' => ?_)
  have kp : ∀ b o, s.heap.get? b = some o → b ≠ I → h'.get? b = some o := fun b o e n => he' b o n e
  refine h h' ⟨?_, fun b o e => kp b o (F.keep b o e) (fun q => ?_), F.above⟩ fun q hq => ⟨kp _ _ (N q (.tail _ hq)).1 (hlt q hq), (N q (.tail _ hq)).2⟩
  · obtain ⟨o, es, ep, ho, r⟩ := F.ns
    exact ⟨o, es, ep, kp _ _ ho (N _ (.head _)).2.1.symm, r⟩
  · have := (N _ (.head _)).2.2
    rw [← q, e] at this; cases this
theorem for_hold {iter : Expr} {pos : Pos} {Q : Flow → Shared → Prop}
    (h : wpAny (model prog w) A (eval iter env) (fun x s₁ => Hold (wpAny (model prog w) A (pyIter x) (fun it s₂ =>
      codeAny (model prog w) A (.forLoop target it body orelse env) (fun r s' => match r with | .ok f => Q f s' | .error e => cameBackBy (model prog w) A env E e s') s₂) E s₁)) E s)
    (hs : ∀ x, foldedSetIterable iter env x = pure x := by intro _; rfl) :
    wpAny (model prog w) A (exec (.For target iter body orelse pos) env) Q E s := wpAny_For h hs
end
end Mine
end
section
open PySem PySem.W PyProof.Rows PySem.Calls PySem.Spec Builtin Builtin.ObjectAttr
set_option maxRecDepth 100000
set_option maxHeartbeats 8000000
namespace Mine
local macro_rules | `(tactic| walk_at "0") => `(tactic| skip)
local macro_rules | `(tactic| walk_at "0") => `(tactic| skip)
local macro_rules | `(tactic| walk_at "0") => `(tactic| skip)
local macro_rules | `(tactic| walk_at "0") => `(tactic| skip)
local macro_rules | `(tactic| walk_at "0") => `(tactic| skip)
local macro_rules | `(tactic| walk_at "0") => `(tactic| skip)
local macro_rules | `(tactic| walk_at "0") => `(tactic| skip)
local macro_rules | `(tactic| walk_at "0") => `(tactic| skip)
local macro_rules | `(tactic| walk_at "0") => `(tactic| skip)
local macro_rules | `(tactic| walk_at "0") => `(tactic| skip)
local macro_rules | `(tactic| walk_at "0") => `(tactic| skip)
local macro_rules | `(tactic| walk_at "0") => `(tactic| skip)
local macro_rules | `(tactic| walk_at "0") => `(tactic| skip)
local macro_rules | `(tactic| walk_at "0") => `(tactic| skip)
local macro_rules | `(tactic| walk_at "0") => `(tactic| skip)
local macro_rules | `(tactic| walk_at "0") => `(tactic| skip)
local macro_rules | `(tactic| walk_at "0") => `(tactic| skip)
local macro_rules | `(tactic| walk_at "0") => `(tactic| skip)
local macro_rules | `(tactic| walk_at "0") => `(tactic| skip)
local macro_rules | `(tactic| walk_at "0") => `(tactic| skip)
local macro_rules | `(tactic| walk_at "0") => `(tactic| skip)
local macro_rules | `(tactic| walk_at "0") => `(tactic| skip)
local macro_rules | `(tactic| walk_at "0") => `(tactic| skip)
local macro_rules | `(tactic| walk_at "0") => `(tactic| skip)
local macro_rules | `(tactic| walk_at "0") => `(tactic| skip)
local macro_rules | `(tactic| walk_at "0") => `(tactic| skip)
local macro_rules | `(tactic| walk_at "0") => `(tactic| skip)
local macro_rules | `(tactic| walk_at "0") => `(tactic| skip)
local macro_rules | `(tactic| walk_at "0") => `(tactic| skip)
local macro_rules | `(tactic| walk_at "0") => `(tactic| skip)
local macro_rules | `(tactic| walk_at "0") => `(tactic| skip)
local macro_rules | `(tactic| walk_at "0") => `(tactic| skip)
local macro_rules | `(tactic| walk_at "0") => `(tactic| skip)
local macro_rules | `(tactic| walk_at "0") => `(tactic| skip)
local macro_rules | `(tactic| walk_at "0") => `(tactic| skip)
local macro_rules | `(tactic| walk_at "0") => `(tactic| skip)
local macro_rules | `(tactic| walk_at "0") => `(tactic| skip)
local macro_rules | `(tactic| walk_at "0") => `(tactic| skip)
local macro_rules | `(tactic| walk_at "0") => `(tactic| skip)
local macro_rules | `(tactic| walk_at "0") => `(tactic| skip)
theorem rs9 : True := by
  w_top off
  trivial
local macro_rules | `(tactic| walk_at "call builtin:getattr") => `(tactic| (k_here; (with_reducible show wpAny _ _ (call (Value.builtin _) [Value.none, Value.str (PySem.Str.ofString "name") _, _]) _ _ _); k_dflt (refine' kga_none ?k1 ?k2 ?k3 ?_; (case k1 => k_asm); (case k2 => k_asm); (case k3 => exact rfl); k_whole; intro h' tk' F' N'; (try k_sweep))))
local macro_rules | `(tactic| walk_at "truthy str") => `(tactic| (k_here; k_dflt (refine' truthy_strB ?k1 ?_ ?_; (case k1 => assumption)) <;> intro _))
local macro_rules | `(tactic| k_room) => `(tactic| ktr_room)
local macro_rules | `(tactic| k_all) => `(tactic| first | assumption | (intro q9 hq9; (try dsimp only); first | exact allLt_ne (by assumption) (by omega) q9 hq9 | exact lt_ne (by assumption) (by omega) q9 hq9))
local macro_rules | `(tactic| k_inst) => `(tactic| (refine' instOf ?N ?h1 ?h2 ?e1 ?e2 ?e3; (case N => k_asm); (case h1 => k_mem); (case e1 => assumption); (case e2 => assumption); (case h2 => k_mem); (case e3 => assumption)))
local macro_rules | `(tactic| walk_at "eval Name") => `(tactic| (k_here; k_dflt (refine' ld ?k1 ?k2 ?_; (case k1 => k_asm); (case k2 => assumption); k_whole)))
local macro_rules | `(tactic| walk_at "getAttr ref") => `(tactic| (k_here; k_dflt (refine' exc_get_own ?k1 ?k2 ?k3 ?k4 ?k5 ?k6 ?k7 ?_; (case k1 => k_asm); (case k2 => k_asm); (case k3 => k_inst); (case k4 => first | exact excF_94 _ | exact excF_132 _); (case k5 => k_is); (case k6 => k_get); (case k7 => k_handed); k_whole)))
local macro_rules | `(tactic| walk_at "setAttr ref") => `(tactic| (k_here; k_dflt (refine' exc_set ?k1 ?k2 ?k3 ?k4 ?k5 ?k6 ?k7 ?k8 ?k9 ?k10 ?k11 ?_; (case k1 => k_asm); (case k2 => k_asm); (case k3 => k_asm); (case k4 => k_inst); (case k5 => first | assumption | exact rfl); (case k6 => first | exact excF_94 _ | exact excF_132 _); (case k7 => k_is); (case k8 => k_get); (case k9 => first | exact errPut_expr | exact errPut_pos | k_put); (case k10 => k_upd); (case k11 => exact Nat.le_of_ble_eq_true rfl); k_whole; intro h' F' N'; (try k_sweep))))
local macro_rules | `(tactic| walk_at "getAttr ref") => `(tactic| (k_here; (with_reducible show wpAny _ _ (getAttr (Value.ref _) (PySem.Str.ofString "name") _) _ _ _); k_dflt (refine' kname ?k1 ?k2 ?k3 ?k4 ?k5 ?_; (case k1 => k_asm); (case k2 => k_asm); (case k3 => k_inst); (case k4 => assumption); (case k5 => assumption); k_whole)))
local macro_rules | `(tactic| walk_at "call builtin:getattr") => `(tactic| (k_here; (with_reducible show wpAny _ _ (call (Value.builtin _) [Value.ref _, Value.str (PySem.Str.ofString "name") _, _]) _ _ _); k_dflt (refine' kga_name ?k1 ?k2 ?k3 ?k4 ?k5 ?_; (case k1 => k_asm); (case k2 => k_asm); (case k3 => k_inst); (case k4 => assumption); (case k5 => assumption); k_whole)))
local macro_rules | `(tactic| walk_at "compareOp In int ref") => `(tactic| (k_here; k_dflt (refine' kda_in (knd := PySem.intKind _ _) ?N ?p ?d ?lo (intKind_is _ _ _ _) _ ?hb ?_; (case N => k_asm); (case d => assumption); (case p => k_mem); (case lo => assumption); (case hb => assumption); k_whole)))
local macro_rules | `(tactic| walk_at "subscriptTail") => `(tactic| (k_here; (with_reducible show wpAny _ _ (subscriptTail _ _ (Value.ref _) (Value.int _ _)) _ _ _); k_dflt (refine' kda_item (knd := PySem.intKind _ _) ?N ?p ?d (intKind_is _ _ _ _) ?hl ?_; (case N => k_asm); (case d => assumption); (case p => k_mem); (case hl => assumption); k_whole)))
local macro_rules | `(tactic| walk_at "setItem ref int") => `(tactic| (k_here; k_dflt (refine' kda_set (knd := PySem.intKind _ _) ?F ?N ?U ?d (intKind_is _ _ _ _) ?z ?_; (case F => k_asm); (case N => k_asm); (case d => assumption); (case U => k_updF); (case z => assumption); k_whole); intro h' o' F' N' hd'; (try dsimp only at N'); (try k_sweep)))
local macro_rules | `(tactic| walk_at "getMethod ref") => `(tactic| (k_here; (with_reducible show wpAny _ _ (getMethod (Value.ref _) (PySem.Str.ofString "_uncached_match") _) _ _ _); k_dflt (refine' kum ?k1 ?k2 ?k3 ?k4 ?k5 ?_; (case k1 => k_asm); (case k2 => k_asm); (case k3 => k_inst); (case k4 => assumption); (case k5 => assumption); k_whole)))
local macro_rules | `(tactic| walk_at "callWith ref") => `(tactic| (k_here; (with_reducible show wpAny _ _ (callWith _ (Value.ref (umOf _)) _ _ _) _ _ _); k_dflt (refine' callWith_K ?k1 ?k2 ?_; (case k1 => k_asm); (case k2 => exact ClsF.kp (by assumption)); k_whole)))
local macro_rules | `(tactic| walk_at "call ref") => `(tactic| (k_here; (with_reducible show wpAny _ _ (call (Value.ref (umOf _)) _ _) _ _ _); refine hold_of ?_))
local macro_rules | `(tactic| walk_at "call builtin:getattr") => `(tactic| (k_here; (with_reducible show wpAny _ _ (call (Value.builtin _) [Value.ref _, Value.str (PySem.Str.ofString "oids") _, _]) _ _ _); k_dflt (refine' kga_miss ?k1 ?k2 ?k3 ?k4 ?k5 ?k6 ?_; (case k1 => k_asm); (case k2 => k_asm); (case k3 => k_asm); (case k4 => k_inst); (case k5 => assumption); (case k6 => exact rfl); k_whole; intro h' tk' F' N' st'; (try k_sweep))))
local macro_rules | `(tactic| walk_at "call builtin:getattr") => `(tactic| (k_here; (with_reducible show wpAny _ _ (call (Value.builtin _) [Value.ref _, Value.str (PySem.Str.ofString "oids") _, _]) _ _ _); k_dflt (refine' kga_val ?k1 ?k2 ?k3 ?k4 ?_; (case k1 => k_asm); (case k2 => k_asm); (case k3 => k_inst); (case k4 => assumption); k_whole)))

section
variable {prog : Program} {w : World} {K : Type} [DecidableEq K] {knd : KeyKind prog w K} {A : Around} {E : Value → Shared → Prop} {s : Shared} {h₀ : Heap} {L d : Addr} {m : Str → Option Value} {news : List (Addr × Obj)} {o : Obj} {kvs : List (K × Value)} {k : K} {key v : Value}
theorem kdg_some {Q : Value → Shared → Prop} (N : News h₀ L s.heap news) (hp : (d, o) ∈ news) (hd : o.IsDictOf knd kvs) (lo : (d == sysModules) = false) (hkey : knd.is k key = true) (hl : valueAt kvs k = some v) (h : Q v { s with toks := s.toks + 1 }) :
    wpAny (model prog w) A (call (.builtin "dict.get") [.ref d, key]) Q E s := kdg_get1 N hp hd lo hkey _ hl h
theorem kdg_none {Q : Value → Shared → Prop} (N : News h₀ L s.heap news) (hp : (d, o) ∈ news) (hd : o.IsDictOf knd kvs) (lo : (d == sysModules) = false) (hkey : knd.is k key = true) (hl : valueAt kvs k = none) (h : Q .none { s with toks := s.toks + 1 }) :
    wpAny (model prog w) A (call (.builtin "dict.get") [.ref d, key]) Q E s := kdg_get1 N hp hd lo hkey _ hl h
theorem newDict_L {env : Env} {pos : Pos} {Q : Value → Shared → Prop} (F : Fr h₀ L s.heap m) (N : News h₀ L s.heap news) (hbig : h₀.NoLimit)
    (h : ∀ d h' o, Fr h₀ L h' m → News h₀ L h' ((d, o) :: news) → (∀ p ∈ news, p.1 < d) → (d == sysModules) = false → L < d → o.IsDictOf (intKind prog w) [] → Q (.ref d) { s with heap := h' }) : wpAny (model prog w) A (eval (.Dict [] [] pos) env) Q E s :=
  Dict_empty_made2 F N (modules_low hbig) fun h' o F' N' lo _ _ c _ _ => h _ h' o F' N' (fun p hp => Heap.lt_size (N p hp).1) lo F.ns.lt c
end
local macro_rules | `(tactic| walk_at "call builtin:dict.get") => `(tactic| (k_here; k_dflt (refine' kdg_some (knd := PySem.intKind _ _) ?k1 ?k2 ?k3 ?k4 (intKind_is _ _ _ _) ?k5 ?_; (case k1 => k_asm); (case k2 => k_mem); (case k3 => assumption); (case k4 => assumption); (case k5 => assumption); k_whole)))
local macro_rules | `(tactic| walk_at "call builtin:dict.get") => `(tactic| (k_here; k_dflt (refine' kdg_none (knd := PySem.intKind _ _) ?k1 ?k2 ?k3 ?k4 (intKind_is _ _ _ _) ?k5 ?_; (case k1 => k_asm); (case k2 => k_mem); (case k3 => assumption); (case k4 => assumption); (case k5 => assumption); k_whole)))
local macro_rules | `(tactic| walk_at "eval Dict nil nil") => `(tactic| (k_here; k_dflt (refine' newDict_L ?k1 ?k2 ?k3 ?_; (case k1 => k_asm); (case k2 => k_asm); (case k3 => assumption); k_whole); intro d' h' o' F' N' l1 lo' Ld' fi'; (try k_lt l1); (try k_sweep)))
local macro_rules | `(tactic| walk_at "compareOp Is ref ref") => `(tactic| (k_here; (with_reducible show wpAny _ _ (compareOp CmpOp.Is (Value.ref _) (Value.ref _)) _ _ _); k_dflt (refine' kto_is (kto_N ?a1 ?a2) (kto_N ?b1 ?b2) ?n ?c ?_; (case n => assumption); (case a1 => k_asm); (case a2 => k_mem); (case b1 => k_asm); (case b2 => k_mem); (case c => assumption); k_whole)))

theorem find_zip (x : Nat) : ∀ (l : List Addr) (b : Nat), (((l.zipIdx b).map fun p => ((p.2 : Int), Value.ref p.1)).find? fun kv => kv.1 = (x : Int)).map (·.2) = if b ≤ x then (l[x - b]?).map Value.ref else none
  | [], b => by simp
  | a :: l, b => by
    rw [List.zipIdx_cons, List.map_cons, List.find?_cons]
    by_cases e : b = x
    · subst e; simp
    · have e' : decide ((b : Int) = (x : Int)) = false := decide_eq_false (by omega)
      simp only [e']
      rw [find_zip x l (b + 1)]
      by_cases hb : b ≤ x
      · rw [if_pos hb, if_pos (by omega)]
        have : x - b = x - (b + 1) + 1 := by omega
        rw [this, List.getElem?_cons_succ]
      · rw [if_neg hb, if_neg (by omega)]
theorem cacheAt (ecs : List Addr) (x : Nat) : valueAt (cachePairs ecs) (x : Int) = (ecs[x]?).map Value.ref := by
  have := find_zip x ecs 0
  simpa [valueAt, cachePairs] using this
theorem cache_len (ecs : List Addr) : (cachePairs ecs).length = ecs.length := by simp [cachePairs]
theorem cache_add (ecs : List Addr) (d : Addr) : stored (cachePairs ecs) ((cachePairs ecs).length : Int) (.ref d) = cachePairs (ecs ++ [d]) := by
  rw [stored_none]
  · simp [cachePairs, List.zipIdx_append]
  · rw [cache_len, cacheAt, List.getElem?_eq_none (Nat.le_refl _)]; rfl
theorem oidsPut0 {h : Int} {k v : Value} {n : Nat} : (putL "oids" h k v [], putN "oids" [] n) = ([⟨h, k, v⟩], n + 1) := by with_unfolding_all rfl
theorem oidsPut1 {h h1 : Int} {k v v1 : Value} {t1 : Tok} {n : Nat} : (putL "oids" h k v [⟨h1, .str "oids" t1, v1⟩], putN "oids" [⟨h1, .str "oids" t1, v1⟩] n) = ([⟨h1, .str "oids" t1, v⟩], n) := by with_unfolding_all rfl
section
variable {prog : Program} {w : World} {A : Around} {E : Value → Shared → Prop} {s : Shared} {x C um dx : Addr} {ni : Nat} {ox od : Obj} {g : Heap} {L : Addr} {m : Str → Option Value} {news news' : List (Addr × Obj)} {v : Value}
theorem kset_oids {es es' : List DictEntry} {n n' : Nat} {Q : Unit → Shared → Prop} (F : Fr g L s.heap m) (X₀ : (_root_.Mine.hd.heap_39 w.params).In g) (N : News g L s.heap news) (I : InstAt s.heap x ox C (some (dictOf es n))) (hd : ox.dict = some dx) (c : ClsF (_root_.Mine.hd.heap_39 w.params) C um ni)
    (hl : (getL "oids" es).isSome = true) (e : (putL "oids" (PyData.keyHash w.params "oids") (.str "oids" (s.toks + 1)) v es, putN "oids" es n) = (es', n')) (U : Upd dx (dictOf es n) (dictOf es' n') news news') (hz : es'.length ≤ 1000)
    (h : ∀ h', Fr g L h' m → News g L h' news' → Q () { s with heap := h', toks := s.toks + 2 }) :
    wpAny (model prog w) A (setAttr (.ref x) "oids" v) Q E s := set_dict F X₀ N I hd c.sa c.po c.tk c.hd hl e U hz h
end
local macro_rules | `(tactic| walk_at "setAttr ref") => `(tactic| (k_here; (with_reducible show wpAny _ _ (setAttr (Value.ref _) (PySem.Str.ofString "oids") _) _ _ _); k_dflt (refine' kset_oids ?k1 ?k2 ?k3 ?k4 ?k5 ?k6 ?k7 ?k9 ?k10 ?k11 ?_; (case k1 => k_asm); (case k2 => k_asm); (case k3 => k_asm); (case k4 => k_inst); (case k5 => assumption); (case k6 => assumption); (case k7 => exact rfl); (case k9 => first | exact oidsPut0 | exact oidsPut1); (case k10 => k_upd); (case k11 => exact Nat.le_of_ble_eq_true rfl); k_whole; intro h' F' N'; (try k_sweep))))
local macro_rules | `(tactic| walk_at "call builtin:len") => `(tactic| (k_here; k_dflt (refine' kda_len (knd := PySem.intKind _ _) ?k1 ?k2 ?k3 ?k4 ?k5 ?_; (case k1 => k_asm); (case k2 => k_mem); (case k3 => assumption); (case k4 => assumption); (case k5 => (rw [cache_len]; (try rw [List.length_append]); (try simp only [List.length_cons, List.length_nil]); omega)); k_whole)))
local macro_rules | `(tactic| walk_at "setItem ref int") => `(tactic| (k_here; k_dflt (refine' kda_set (knd := PySem.intKind _ _) ?k1 ?k2 ?k3 ?k4 (intKind_is _ _ _ _) ?k5 ?_; (case k1 => k_asm); (case k2 => k_asm); (case k3 => k_updF); (case k4 => assumption); (case k5 => rw [cache_len, sizeLine_eq]; omega); k_whole); intro h' o' F' N' hd'; rw [cache_add] at hd'; (try dsimp only at N'); (try k_sweep)))
theorem cache_one (ecs : List Addr) (d : Addr) : ((cachePairs (ecs ++ [d])).length : Int) - 1 = (ecs.length : Int) := by rw [cache_len, List.length_append]; simp
theorem leN {a b : Nat} (h : a ≤ b) : a ≤ b := h
theorem ecs_few {w : World} {Γ : Cfg} {b : Nat} {h : Heap} {reg : Nat → Option Nat} {ecs : List Addr} (I : Inv w Γ b h reg ecs) : ecs.length ≤ Γ.N := by
  have h1 : ∃ f : Nat → Nat, ∀ i, i < ecs.length → reg (f i) = some i :=
    ⟨fun i => if h : i < ecs.length then Classical.choose (I.sur i h) else 0, fun i hi => by simp only [hi, dif_pos]; exact Classical.choose_spec (I.sur i hi)⟩
  obtain ⟨f, hf⟩ := h1
  have h2 : ((List.range ecs.length).map f).Nodup := by
    rw [List.nodup_iff_pairwise_ne, List.pairwise_map]
    refine List.Pairwise.imp_of_mem (fun {a b} ha hb hne e => hne ?_) (List.nodup_iff_pairwise_ne.mp List.nodup_range)
    have e1 := hf a (List.mem_range.mp ha)
    have e2 := hf b (List.mem_range.mp hb)
    rw [e, e2] at e1
    exact (Option.some.inj e1).symm
  have h3 : ∀ (n : Nat) (l : List Nat), l.Nodup → (∀ x ∈ l, x < n) → l.length ≤ n := by
    intro n
    induction n with
    | zero =>
      intro l _ h
      cases l with
      | nil => exact Nat.le_refl _
      | cons a r => exact absurd (h a (.head _)) (Nat.not_lt_zero _)
    | succ n ih =>
      intro l nd h
      have h1 := ih (l.erase n) (nd.erase _) (fun x hx => Nat.lt_of_le_of_ne (Nat.le_of_lt_succ (h x (List.mem_of_mem_erase hx))) fun e => by subst e; exact absurd hx (List.Nodup.not_mem_erase nd))
      by_cases hm : n ∈ l
      · rw [List.length_erase_of_mem hm] at h1; omega
      · rw [List.erase_of_not_mem hm] at h1; omega
  have h4 := h3 Γ.N _ h2 (fun x hx => by
    obtain ⟨i, hi, rfl⟩ := List.mem_map.mp hx
    exact (I.rl _ _ (hf i (List.mem_range.mp hi))).1)
  simpa using h4
variable {w : World} {p : Program} {loose : List Str} {mean : ExcName → Option Value} {mg mb : Str → Option Value} {H0 : Heap} {Γ : Cfg} {hid : List Addr}
theorem Cfg.vsize {h : Heap} : (Vw hid h).objs.size = h.objs.size := hideAll_size _ _
theorem Inv.dictLt {b : Nat} {h : Heap} {reg : Nat → Option Nat} {ecs : List Addr} (I : Inv w Γ b h reg ecs) (S : Stand Γ h ecs) {a : Addr} (hm : a ∈ dictAddrs Γ ecs) : a < h.objs.size := by
  rcases List.mem_cons.mp hm with rfl | hm
  · obtain ⟨oc, e, _⟩ := I.cc; exact Heap.lt_size e
  rcases List.mem_cons.mp hm with rfl | hm
  · obtain ⟨q, n, t1, t2, t3, tx, tp, ev, e, _⟩ := I.ed; exact Heap.lt_size e
  rcases List.mem_append.mp hm with hm | hm
  · obtain ⟨j, hj, rfl⟩ := List.mem_map.mp hm
    obtain ⟨es, n, e, _⟩ := (I.att j (List.mem_range.mp hj)).there
    exact Heap.lt_size e
  · obtain ⟨o, e, _⟩ := S.new _ hm; exact Heap.lt_size e
theorem Inv.dictLtV {b : Nat} {h : Heap} {reg : Nat → Option Nat} {ecs : List Addr} (I : Inv w Γ b (Vw hid h) reg ecs) (S : Stand Γ (Vw hid h) ecs) {a : Addr} (hm : a ∈ dictAddrs Γ ecs) : a < h.objs.size := Cfg.vsize (hid := hid) ▸ I.dictLt S hm
def grown (k n : Nat) (reg : Nat → Option Nat) : Nat → Option Nat := fun j => if j = k then some n else reg j
theorem Inv.grow {h h' : Heap} {reg : Nat → Option Nat} {ecs : List Addr} {k : Nat} {d : Addr} (I : Inv w Γ (k + 1) h reg ecs) (hr : reg k = none) (hk : k < Γ.N) (kn : KeepND h h')
    (kd : ∀ a ∈ dictAddrs Γ ecs, a ≠ Γ.ca → a ≠ Γ.da k → ∀ o, h.get? a = some o → h'.get? a = some o) (hd : d ∉ dictAddrs Γ ecs) (hlo : Γ.lo0 ≤ d) (hdo : d ∉ Γ.olds) (hdd : ∃ o, h'.get? d = some o ∧ o.IsDictOf (intKind Pg w) ([] : List (Int × Value)))
    (hcc : ∃ oc, h'.get? Γ.ca = some oc ∧ oc.IsDictOf (intKind Pg w) (cachePairs (ecs ++ [d]))) (hat : AttrSt w Γ h' k (some ecs.length) (ecs ++ [d])) : Inv w Γ (k + 1) h' (grown k ecs.length reg) (ecs ++ [d]) := by
  have mem : ∀ a, a ∈ dictAddrs Γ (ecs ++ [d]) ↔ a ∈ dictAddrs Γ ecs ∨ a = d := fun a => by
    unfold dictAddrs
    simp only [List.mem_cons, List.mem_append, List.not_mem_nil, or_false]
    constructor
    · rintro (h | h | h | h | h) <;> simp [h]
    · rintro ((h | h | h | h) | h) <;> simp [h]
  have gx : ∀ (i : Nat) a, ecs[i]? = some a → (ecs ++ [d])[i]? = some a := fun i a e => by rw [List.getElem?_append_left (List.getElem?_eq_some_iff.mp e).1]; exact e
  have gk : grown k ecs.length reg k = some ecs.length := if_pos rfl
  have gn : ∀ j, j ≠ k → grown k ecs.length reg j = reg j := fun j e => if_neg e
  have nca := nodup_ca I.nd
  refine ⟨?_, ?_, ?_, hcc, ?_, ?_, ?_, ?_, ?_, ?_, ?_, ?_⟩
  · intro k st hk
    obtain ⟨l, o, h1, h2⟩ := I.ex k st hk
    exact ⟨l, o, kn.1 _ _ h1 (fun es n e => by rw [h2.plain.1] at e; cases e), h2.sub kn⟩
  · obtain ⟨l, oe, h1, h2, h3, h4, h5⟩ := I.er
    exact ⟨l, oe, kn.1 _ _ h1 h5, h2, h3, h4, h5⟩
  · obtain ⟨ep, n, t1, t2, t3, tx, tp, ev, he, hev⟩ := I.ed
    exact ⟨ep, n, t1, t2, t3, tx, tp, ev, kd _ (.tail _ (.head _)) nca.symm (fun q => (nodup_da I.nd (List.mem_append_left _ (List.mem_map.mpr ⟨k, List.mem_range.mpr hk, rfl⟩))).1 q.symm) _ he, hev⟩
  · have e : dictAddrs Γ (ecs ++ [d]) = dictAddrs Γ ecs ++ [d] := by unfold dictAddrs; simp
    rw [e, List.nodup_append]
    exact ⟨I.nd, by simp, fun a ha b hb => by rw [List.mem_singleton.mp hb]; exact fun q => hd (q ▸ ha)⟩
  · intro a ha
    rcases (mem a).mp ha with h | h
    · exact I.dl a h
    · exact h ▸ hlo
  · intro a ha
    rcases (mem a).mp ha with h | h
    · exact I.eb a h
    · exact h ▸ hdo
  · intro j hj
    by_cases e : j = k
    · subst e; rw [gk]; exact hat
    · rw [gn j e]
      refine (I.att j hj).sub (fun o q => kd _ (I.mem_da hj) (nodup_da I.nd (List.mem_append_left _ (List.mem_map.mpr ⟨j, List.mem_range.mpr hj, rfl⟩))).2 (fun q => e ?_) _ q) kn gx
      have nd := I.nd
      unfold dictAddrs at nd
      rw [List.nodup_cons, List.nodup_cons, List.nodup_append, List.nodup_iff_pairwise_ne, List.pairwise_map] at nd
      have pw := nd.2.2.1
      rcases Nat.lt_trichotomy j k with c | c | c
      · have z := (List.pairwise_iff_getElem.mp pw) j k (by simpa using hj) (by simpa using hk) c
        rw [List.getElem_range, List.getElem_range] at z
        exact absurd q z
      · exact c
      · have z := (List.pairwise_iff_getElem.mp pw) k j (by simpa using hk) (by simpa using hj) c
        rw [List.getElem_range, List.getElem_range] at z
        exact absurd q.symm z
  · intro j j' o h1 h2
    by_cases e : j = k
    · by_cases e' : j' = k
      · rw [e, e']
      · rw [e, gk] at h1; rw [gn j' e'] at h2
        cases h1
        exact absurd (I.rl _ _ h2).2 (Nat.lt_irrefl _)
    · rw [gn j e] at h1
      by_cases e' : j' = k
      · rw [e', gk] at h2
        cases h2
        exact absurd (I.rl _ _ h1).2 (Nat.lt_irrefl _)
      · rw [gn j' e'] at h2; exact I.inj _ _ _ h1 h2
  · intro j o h1
    rw [List.length_append]
    by_cases e : j = k
    · rw [e, gk] at h1; cases h1; exact ⟨e ▸ hk, Nat.lt_succ_self _⟩
    · rw [gn j e] at h1; exact ⟨(I.rl _ _ h1).1, Nat.lt_succ_of_lt (I.rl _ _ h1).2⟩
  · intro i hi
    rw [List.length_append] at hi
    rcases Nat.lt_succ_iff_lt_or_eq.mp hi with q | q
    · obtain ⟨j, hj⟩ := I.sur i q
      exact ⟨j, by rw [gn j (fun e => by rw [e, hr] at hj; cases hj)]; exact hj⟩
    · exact ⟨k, by rw [gk, q]⟩
  · intro j hj o h1
    by_cases e : j = k
    · rw [e, gk] at h1; cases h1
      obtain ⟨od, h2, h3⟩ := hdd
      exact ⟨d, by simp, od, [], h2, h3, fun kv hm => nomatch hm⟩
    · rw [gn j e] at h1
      obtain ⟨ec, h2, h3⟩ := I.cl j hj o h1
      have hm := List.mem_of_getElem? h2
      exact ⟨ec, gx _ _ h2, h3.sub (fun o q => kd _ (mem_ecs hm) (nodup_da I.nd (List.mem_append_right _ hm)).2 (nodup_ecs_da I.nd hk hm).symm _ q) kn⟩
theorem grown_ext {k : Nat} {reg : Nat → Option Nat} {ecs : List Addr} {d : Addr} (hr : reg k = none) : Ext (k + 1) reg ecs (grown k ecs.length reg) (ecs ++ [d]) :=
  ⟨⟨[d], rfl⟩, fun j o e => (if_neg (fun q => by rw [q, hr] at e; cases e)).trans e, fun j hj => if_neg (by omega)⟩
theorem grown_mut {h : Heap} {k : Nat} {reg : Nat → Option Nat} {ecs : List Addr} {d : Addr} (I : Inv w Γ (k + 1) h reg ecs) {a : Addr} (hm : MutK Γ (k + 1) (grown k ecs.length reg) (ecs ++ [d]) a) : MutK Γ (k + 1) reg ecs a ∨ a = d := by
  rcases hm with q | q | q | ⟨j, hj, o, h1, h2⟩
  · exact .inl (.inl q)
  · exact .inl (.inr (.inl q))
  · exact .inl (.inr (.inr (.inl q)))
  · by_cases e : j = k
    · rw [e] at h1
      have : o = ecs.length := by have : some ecs.length = some o := (if_pos rfl).symm.trans h1; exact (Option.some.inj this).symm
      subst this
      rw [List.getElem?_append_right (Nat.le_refl _), Nat.sub_self] at h2
      exact .inr (Option.some.inj h2).symm
    · have h1' : reg j = some o := (if_neg e).symm.trans h1
      rw [List.getElem?_append_left (I.rl _ _ h1').2] at h2
      exact .inl (.inr (.inr (.inr ⟨j, hj, o, h1', h2⟩)))
theorem mc_grown {dp un : Nat} {gd : Option (List Code)} {fr : List Env} {g : Heap} {L : Addr} {m : Str → Option Value} {s : Shared} {h0 : Heap} {k pos : Nat} {d : Addr} {tp : Tok} {reg : Nat → Option Nat} {ecs : List Addr} {st : Stp} {Q : Flow → Shared → Prop} {E : Value → Shared → Prop}
    {name qual : Str} {params : Arguments} {s1 s2 : Stmt} {rest : List Stmt} {scope : Scope} {dV kV doc pm cdv ct oc : Value} {an od : Option Addr} {osl : Array (Option Value)}
    (C : Cx w p loose mean mg mb H0 Γ) (ho : (_root_.Mine.hd.heap_39 w.params).lookup 266 = some ⟨oc, od, .func (fnOf name qual params (s1 :: s2 :: rest) scope dV kV doc pm an cdv ct), osl⟩)
    (F : Fr g L s.heap m) (m1 : m "self" = some (.ref (Γ.ea k))) (m2 : m "text" = some (.str Γ.text Γ.tk)) (m3 : m "pos" = some (.int (pos : Int) tp)) (m4 : m "cache" = some (.ref Γ.ca)) (m5 : m "error" = some (.ref Γ.err)) (m6 : m "expr_cache" = some (.ref d))
    (MG : Amb H0 fr g) (hgn : ∀ a, H0.get? a = none → a ∉ frs fr → g.get? a = none) (X : (_root_.Mine.hd.heap_39 w.params).In g) (T : Top p loose mean mg mb g) (B : Below (ar dp un gd fr) H0 fr g)
    (I : Inv w Γ (k + 1) (Vw hid h0) reg ecs) (hst : Γ.plan[k]? = some st) (hS : Stand Γ (Vw hid h0) ecs) (hhid : ∀ a ∈ hid, a ≤ L) (hLh : L ∈ hid) (hfh : ∀ a ∈ frs fr, a ∈ hid) (eL : L = h0.objs.size) (hfr : ∀ a ∈ dictAddrs Γ ecs, a ∉ frs fr) (hfo : ∀ a ∈ Γ.olds, a ∉ frs fr) (hr : reg k = none) (hpos : pos ≤ Γ.n)
    (hdp : dp + (6 * k + 15) < recursionLimit) (hun : un + (20 * k + 70) < cLine) (UM : CallOk w H0 Γ k k (umOf st))
    (kps : ∀ b o, h0.get? b = some o → b ≠ Γ.ca → b ≠ Γ.da k → s.heap.get? b = some o) (Ld : L < d) (hdd : ∃ o, s.heap.get? d = some o ∧ o.IsDictOf (intKind Pg w) ([] : List (Int × Value)))
    (hcc : ∃ oc, s.heap.get? Γ.ca = some oc ∧ oc.IsDictOf (intKind Pg w) (cachePairs (ecs ++ [d]))) (hat : AttrSt w Γ (Vw hid s.heap) k (some ecs.length) (ecs ++ [d]))
    (hq : ∀ v h' tk' reg' ecs', Inv w Γ (k + 1) (Vw hid h') reg' ecs' → Ext (k + 1) reg ecs reg' ecs' → (∀ a ∈ ecs', a ∈ ecs ∨ h0.objs.size ≤ a) → h0.objs.size ≤ h'.objs.size → (∀ a o, h0.get? a = some o → ¬ MutK Γ (k + 1) reg ecs a → h'.get? a = some o) → Res Γ (Vw hid h') k pos v →
      Q (.ret v) { s with heap := h', toks := tk' }) :
    wpAny (model PySem.Challenge.rw_vy0014_01.row.prog w) ((ar dp un gd fr).deeper (envOf qual scope L 266 cdv)) (execs (s2 :: rest) (envOf qual scope L 266 cdv)) Q E s := by
  have hkN : k < Γ.N := (List.getElem?_eq_some_iff.mp hst).1
  have hd : d ∉ dictAddrs Γ ecs := fun hm => absurd (Nat.lt_trans (eL ▸ Ld) (I.dictLtV hS hm)) (Nat.lt_irrefl _)
  have hL : L ∉ dictAddrs Γ ecs := fun hm => absurd (I.dictLtV hS hm) (eL ▸ Nat.lt_irrefl _)
  have oldLt : ∀ a ∈ Γ.olds, a < L := fun a hm => let ⟨_, e, _⟩ := hS.old _ hm; eL ▸ Heap.lt_size (Cfg.vget e)
  have mutK : ∀ a, ¬ MutK Γ (k + 1) reg ecs a → a ≠ Γ.ca ∧ a ≠ Γ.da k := fun a n => ⟨fun q => n (.inl q), fun q => n (.inr (.inr (.inl ⟨k, Nat.lt_succ_self k, hkN, q⟩)))⟩
  have kn : KeepND h0 s.heap := .of (M := fun b => b = Γ.ca ∨ b = Γ.da k) (fun b o e n => kps b o e (fun q => n (.inl q)) fun q => n (.inr q)) (fun b o m e => by
      rcases m with m | m
      · obtain ⟨oc, h1, _, _, _, h2, _⟩ := I.cc
        rw [m, Cfg.vget h1] at e; cases e; exact ⟨_, _, h2⟩
      · obtain ⟨es, n, h1, _⟩ := (I.att k hkN).there
        rw [m, Cfg.vget h1] at e; cases e; exact ⟨_, _, rfl⟩) fun b o m _ => by
      rcases m with m | m
      · obtain ⟨oc, h1, _⟩ := hcc
        exact ⟨_, m ▸ h1⟩
      · obtain ⟨es, n, h1, _⟩ := hat.there
        exact ⟨_, m ▸ Cfg.vget h1⟩
  have lo0 : Γ.lo0 ≤ d := Nat.le_trans (I.dl _ (.head _)) (Nat.le_of_lt (Nat.lt_trans (I.dictLtV hS (.head _)) (eL ▸ Ld)))
  have hdh : d ∉ hid := fun hm => absurd (Nat.lt_of_le_of_lt (hhid _ hm) Ld) (Nat.lt_irrefl _)
  have vdd : ∃ o, (Vw hid s.heap).get? d = some o ∧ o.IsDictOf (intKind Pg w) ([] : List (Int × Value)) := let ⟨o, e, x⟩ := hdd; ⟨o, Cfg.vput hdh e, x⟩
  have vcc : ∃ oc, (Vw hid s.heap).get? Γ.ca = some oc ∧ oc.IsDictOf (intKind Pg w) (cachePairs (ecs ++ [d])) := let ⟨_, e0, _⟩ := I.cc; let ⟨o, e, x⟩ := hcc; ⟨o, Cfg.vto e0 e, x⟩
  have I9 := I.grow hr hkN (Cfg.vkn kn) (fun a ha n1 n2 o e => Cfg.vto e (kps a o (Cfg.vget e) n1 n2)) hd lo0 (fun hm => absurd (Nat.lt_trans (oldLt _ hm) Ld) (Nat.lt_irrefl _)) vdd vcc hat
  have S9 : Stand Γ (Vw hid s.heap) (ecs ++ [d]) := ⟨fun a ha => by
      rcases List.mem_append.mp ha with q | q
      · obtain ⟨o, e, c⟩ := hS.new a q
        exact ⟨o, Cfg.vto e <| kps _ _ (Cfg.vget e) (nodup_da I.nd (List.mem_append_right _ q)).2 (nodup_ecs_da I.nd hkN q).symm, c⟩
      · rw [List.mem_singleton.mp q]
        obtain ⟨o, e, _, _, c, _⟩ := vdd
        exact ⟨o, e, c.1⟩,
    fun a ha => let ⟨o, e, c⟩ := hS.old a ha; ⟨o, Cfg.vto e <| kps _ _ (Cfg.vget e) (fun q => I.eb _ (.head _) (q ▸ ha)) (fun q => I.eb _ (I.mem_da hkN) (q ▸ ha)), c⟩⟩
  have mem : ∀ a, a ∈ dictAddrs Γ (ecs ++ [d]) → a ∈ dictAddrs Γ ecs ∨ a = d := fun a => by
    unfold dictAddrs
    simp only [List.mem_cons, List.mem_append, List.not_mem_nil, or_false]
    rintro (h | h | h | h | h) <;> simp [h]
  have frLt : ∀ a ∈ frs fr, a < L := fun a ha => by
    obtain ⟨o, _, _, e, _⟩ := MG.fdat a ha
    exact Nat.lt_of_lt_of_le (Heap.lt_size e) F.above
  refine mc_rest1 C ho F m1 m2 m3 m4 m5 m6 MG hgn X T B I9 hst S9 hhid hLh hfh (fun hm => absurd (oldLt _ hm) (Nat.lt_irrefl _)) (fun hm => (mem _ hm).elim hL fun q => absurd Ld (q ▸ Nat.lt_irrefl _)) (fun a ha => (mem _ ha).elim (hfr a) fun q hf => absurd (Nat.lt_trans (frLt _ hf) (q ▸ Ld)) (Nat.lt_irrefl _)) hfo (oid := ecs.length) (if_pos rfl) (by simp) hpos hdp hun UM ?_
  intro v h' tk' reg' ecs' I' X' fr' kp' sz' res'
  refine hq v h' tk' reg' ecs' I' ((grown_ext hr).trans X') (fun a ha => ?_) (eL ▸ Nat.le_of_lt sz') (fun a o e n => ?_) res'
  · rcases fr' a ha with q | q
    · rcases List.mem_append.mp q with q | q
      · exact .inl q
      · exact .inr (by rw [List.mem_singleton.mp q, ← eL]; exact Nat.le_of_lt Ld)
    · exact .inr (eL ▸ Nat.le_of_lt q)
  · refine kp' a o (kps a o e (mutK a n).1 (mutK a n).2) (fun hm => ?_) (eL ▸ Nat.ne_of_lt (Heap.lt_size e))
    rcases grown_mut I hm with q | q
    · exact n q
    · exact absurd (Nat.lt_trans (eL ▸ Heap.lt_size e : a < L) (q ▸ Ld)) (Nat.lt_irrefl _)
theorem mc_call {k : Nat} {st : Stp} (C : Cx w p loose mean mg mb H0 Γ) (hst : Γ.plan[k]? = some st) (UM : CallOk w H0 Γ k k (umOf st)) : CallOk w H0 Γ (k + 1) k 266 := by
  intro hid dp un gd fr s pos tp reg ecs Q E M I S hhid hfh hfr hfo hpos hdp hun hq
  refine wpAny_call ?_
  refine' enterF C.O M ?ho ?hcd ?hr ?hb ?hl ?_ ?c1 ?c2 ?c3 ?c4
  case ho => k_is
  case hcd => k_is
  case hr => omega
  case hb => exact BindsTo.of_eq rfl
  case hl => exact locs rfl
  case c1 => exact rfl
  case c2 => exact rfl
  case c3 => exact rfl
  case c4 => decide
  intro g L h₁ eL F K1 MG hgn B X T
  have hLn : s.heap.get? L = none := get_none_of_le (Nat.le_of_eq eL.symm)
  replace I := I.stay (Heap.StaysIn.nd (vw_cons hLn)) (fun a _ o e => vw_cons hLn a o e)
  replace S := S.sub (vw_cons hLn)
  replace hhid : ∀ a ∈ L :: hid, a ≤ L := fun a ha => (List.mem_cons.mp ha).elim (fun q => Nat.le_of_eq q) fun q => Nat.le_of_lt (eL ▸ hhid a q)
  replace hfh : ∀ a ∈ frs fr, a ∈ L :: hid := fun a ha => .tail _ (hfh a ha)
  have hLh : L ∈ L :: hid := .head _
  replace hq : ∀ v h' tk' reg' ecs', Inv w Γ (k + 1) (Vw (L :: hid) h') reg' ecs' → Ext (k + 1) reg ecs reg' ecs' → (∀ a ∈ ecs', a ∈ ecs ∨ s.heap.objs.size ≤ a) → s.heap.objs.size ≤ h'.objs.size → (∀ a o, s.heap.get? a = some o → ¬ MutK Γ (k + 1) reg ecs a → h'.get? a = some o) →
      Res Γ (Vw (L :: hid) h') k pos v → Q v { s with heap := h', toks := tk' } := fun v h' tk' reg' ecs' I' X' fr' sz' kp' res' =>
    hq v h' tk' reg' ecs' (I'.stay (Heap.StaysIn.nd vw_one) (fun a _ o e => vw_one a o e)) X' fr' sz' kp' (res'.keep (Heap.StaysIn.nd vw_one))
  obtain ⟨hlk, ok, hok, hob⟩ := I.ex k st hst
  obtain ⟨pl1, pl2, pl3⟩ := hob.plain
  have hkN : k < Γ.N := (List.getElem?_eq_some_iff.mp hst).1
  have lo0 : ∀ a, Γ.lo0 ≤ a → H0.get? a = none := fun a ha => get_none_of_le (Nat.le_trans C.lo ha)
  have c1 := notCls_plain pl1
  have cf := clsF w st
  have nok := plain_nd pl1
  have hL : L ∉ dictAddrs Γ ecs := fun hm => absurd (I.dictLtV S hm) (eL ▸ Nat.lt_irrefl _)
  have hLo : L ∉ Γ.olds := fun hm => by
    obtain ⟨o, e, _⟩ := S.old _ hm
    exact absurd (Heap.lt_size (Cfg.vget e)) (eL ▸ Nat.lt_irrefl _)
  have hat := I.att k hkN
  obtain ⟨oc, hoc, hdc⟩ := I.cc
  have hmda := I.mem_da hkN
  replace hok := Cfg.vget hok
  replace hoc := Cfg.vget hoc
  have P1 : h₁.get? (Γ.ea k) = some ok ∧ Γ.ea k ≠ L ∧ g.get? (Γ.ea k) = none := ⟨K1 _ _ hok, Fr.neL F (K1 _ _ hok) nok, hgn _ (lo0 _ hlk) (M.notFr hok nok)⟩
  have P2 : h₁.get? Γ.ca = some oc ∧ Γ.ca ≠ L ∧ g.get? Γ.ca = none := ⟨K1 _ _ hoc, fun e => hL (e ▸ .head _), hgn _ (lo0 _ (I.dl _ (.head _))) (hfr _ (.head _))⟩
  have ld : Γ.da k ≠ L ∧ g.get? (Γ.da k) = none := ⟨fun e => hL (e ▸ hmda), hgn _ (lo0 _ (I.dl _ hmda)) (hfr _ hmda)⟩
  have loL : Γ.lo0 ≤ L := eL ▸ Nat.le_trans (I.dl _ (.head _)) (Nat.le_of_lt (I.dictLtV S (.head _)))
  have few : ecs.length ≤ 100 := Nat.le_trans (ecs_few I) C.ok.few
  have ne1' : Γ.ea k ≠ Γ.da k := fun e => by
    obtain ⟨es, n, hda, _⟩ := (I.att k hkN).there
    rw [e, Cfg.vget hda] at hok; cases hok; exact nok _ _ rfl
  have ne2' : Γ.ea k ≠ Γ.ca := fun e => by rw [e, hoc] at hok; cases hok; obtain ⟨_, _, _, d, _⟩ := hdc; rw [pl1] at d; cases d
  have ne1 := neN ne1'
  have ne2 := neN ne2'
  have ne3 := neN (nodup_da I.nd (List.mem_append_left _ (List.mem_map.mpr ⟨k, List.mem_range.mpr hkN, rfl⟩))).2
  cases hr : reg k with
  | some oid =>
    rw [hr] at hat
    obtain ⟨tl, hvh, hN, Cv, ev, htl⟩ := focus [] F
    obtain ⟨n, t, tpp, tn, pr, pn, tk', rest, ec, hec, hda, l1, l2, htp, hpr, _⟩ := hat
    replace hda := Cfg.vget hda
    replace htp := Cfg.vget htp
    replace hpr := Cfg.vget hpr
    have P3 : h₁.get? tpp = some _ ∧ tpp ≠ L ∧ g.get? tpp = none := ⟨K1 _ _ htp, Fr.neL F (K1 _ _ htp) (fun _ _ e => by cases e), hgn _ (lo0 _ l1) (M.notFr htp (fun _ _ e => by cases e))⟩
    have P4 : h₁.get? pr = some _ ∧ pr ≠ L ∧ g.get? pr = none := ⟨K1 _ _ hpr, Fr.neL F (K1 _ _ hpr) (fun _ _ e => by cases e), hgn _ (lo0 _ l2) (M.notFr hpr (fun _ _ e => by cases e))⟩
    have hca : valueAt (cachePairs ecs) (oid : Int) = some (.ref ec) := by rw [cacheAt, hec]; rfl
    have losc := low_ne_modules C.O.T (Nat.le_trans C.lo (I.dl _ (.head _)))
    have N := hN [(Γ.ea k, ok), (Γ.ca, oc), (Γ.da k, dictOf [oidsEntry w t tpp] n), (tpp, tupOf (.ref pr :: rest) tn), (pr, tupOf [.int (oid : Int) tk', .ref ec] pn)] (List.forall_mem_cons.mpr ⟨P1, List.forall_mem_cons.mpr ⟨P2, List.forall_mem_cons.mpr ⟨⟨K1 _ _ hda, ld⟩, List.forall_mem_cons.mpr ⟨P3, List.forall_mem_cons.mpr ⟨P4, List.forall_mem_nil _⟩⟩⟩⟩⟩)
    simp only [List.cons_append, List.nil_append] at N
    clear hN P1 P2 P3 P4
    refine execs_hold (for_hold ?_)
    k_steps
    (with_reducible rename Fr _ _ _ _ => F9)
    (with_reducible rename News _ _ _ _ => N9)
    show wpAny _ _ _ _ _ _
    refine kfor_iter F9 N9 (vs := .ref pr :: rest) (by k_mem) rfl rfl fun h2 I2 oI2 hI2 lt2 LI2 eI2 kp2 F2 N2 => ?_
    clear F9 N9
    refine kfor_item F2 N2 hI2 (fun q hq => Nat.ne_of_lt (lt2 q hq)) (vs := .ref pr :: rest) (by k_mem) rfl rfl (v := .ref pr) rfl fun h3 oI3 hI3 F3 N3 => ?_
    clear F2 N2
    show wpAny _ _ _ _ _ _
    k_steps
    (with_reducible rename Fr _ _ _ _ => F9)
    (with_reducible rename News _ _ _ _ => N9)
    dsimp only
    show wpAny _ _ (execs _ _) _ _ _
    have S9 := Cv.now F9 N9 (fun q hq => by repeat (first | assumption | refine List.Mem.tail _ ?_))
    have kp : ∀ b o, h₁.get? b = some o → b ≠ L → _ := fun b o e n1 => S9 b o (ev ▸ hideAll_get _ e (by simpa using n1))
    have kps : ∀ b o, s.heap.get? b = some o → _ := fun b o e => kp b o (K1 b o e) (eL ▸ Nat.ne_of_lt (Heap.lt_size e))
    have I9 := I.stay (Cfg.vkn ⟨fun b o e _ => kps b o e, fun b o e => ⟨o, kps b o e⟩⟩) (fun a _ o e => Cfg.vto e (kps a o (Cfg.vget e)))
    refine' mc_rest1 C ?ho F9 ?m1 ?m2 ?m3 ?m4 ?m5 ?m6 MG hgn X T B I9 hst (S.sub (Cfg.vst kps)) hhid hLh hfh hLo hL hfr hfo hr hec hpos (by omega) (by omega) UM ?hq
    case ho => k_is
    case m1 => rfl
    case m2 => rfl
    case m3 => rfl
    case m4 => rfl
    case m5 => rfl
    case m6 => rfl
    case hq =>
      intro v h' tk' reg' ecs' I' X' fr' kp' sz' res'
      exact hq v h' tk' reg' ecs' I' X' (fun a ha => (fr' a ha).imp id fun q => eL ▸ Nat.le_of_lt q) (eL ▸ Nat.le_of_lt sz') (fun a o e n => kp' a o (kps a o e) n (eL ▸ Nat.ne_of_lt (Heap.lt_size e))) res'
  | none =>
    rw [hr] at hat
    rcases hat with ⟨n, hda⟩ | ⟨o, n, t, tpp, tn, pr, pn, tk', ec, hda, l1, l2, htp, hpr, hold⟩
    · have vda := hda
      replace hda := Cfg.vget hda
      obtain ⟨tl, hvh, hN, Cv, ev, htl⟩ := focus [Γ.da k, Γ.ca] F
      have td1 : ∀ q ∈ tl, q.1 ≠ Γ.da k := fun q hq => htl q hq _ (.head _)
      have td2 : ∀ q ∈ tl, q.1 ≠ Γ.ca := fun q hq => htl q hq _ (.tail _ (.head _))
      have losc := low_ne_modules C.O.T (Nat.le_trans C.lo (I.dl _ (.head _)))
      have N := hN [(Γ.ea k, ok), (Γ.ca, oc), (Γ.da k, dictOf [] n)] (List.forall_mem_cons.mpr ⟨P1, List.forall_mem_cons.mpr ⟨P2, List.forall_mem_cons.mpr ⟨⟨K1 _ _ hda, ld⟩, List.forall_mem_nil _⟩⟩⟩)
      simp only [List.cons_append, List.nil_append] at N
      clear hN P1 P2
      have hno := T.nolimit
      refine execs_hold (for_hold ?_)
      k_steps
      (with_reducible rename Fr _ _ _ _ => F9)
      (with_reducible rename News _ _ _ _ => N9)
      show wpAny _ _ _ _ _ _
      refine kfor_iter F9 N9 (vs := []) (.head _) rfl rfl fun h2 I2 oI2 hI2 lt2 LI2 eI2 kp2 F2 N2 => ?_
      clear F9 N9
      refine kfor_end rfl F2 N2 hI2 (fun q hq => Nat.ne_of_lt (lt2 q hq)) (vs := []) (.head _) rfl rfl rfl fun h3 F3 N3 => ?_
      clear F2 N2 lt2
      show wpAny _ _ _ _ _ _
      k_steps
      (with_reducible rename Fr _ _ _ _ => F9)
      (with_reducible rename News _ _ _ _ => N9)
      (with_reducible rename Obj.IsDictOf _ _ [] => hn9)
      (with_reducible rename Obj.IsDictOf _ _ (cachePairs (_ ++ _)) => hd9)
      (with_reducible rename L < _ => Ld9)
      simp only [cache_one] at N9
      dsimp only
      show wpAny _ _ (execs _ _) _ _ _
      have Ld8 := ltN Ld9
      have S9 := Cv.now F9 N9 (fun q hq => by repeat (first | assumption | refine List.Mem.tail _ ?_))
      have kps : ∀ b o, s.heap.get? b = some o → b ≠ Γ.ca → b ≠ Γ.da k → _ := fun b o e n1 n2 => S9 b o (ev ▸ hideAll_get _ (K1 b o e) (by have n3 : b ≠ L := eL ▸ Nat.ne_of_lt (Heap.lt_size e); simp [n1, n2, n3]))
      refine' mc_grown C ?ho F9 ?m1 ?m2 ?m3 ?m4 ?m5 ?m6 MG hgn X T B I hst S hhid hLh hfh eL hfr hfo hr hpos (by omega) (by omega) UM kps Ld9 ⟨_, N9.get (by k_mem), hn9⟩ ⟨_, N9.get (by k_mem), hd9⟩ ?hat ?hq
      case ho => k_is
      case m1 => rfl
      case m2 => rfl
      case m3 => rfl
      case m4 => rfl
      case m5 => rfl
      case m6 => rfl
      case hat =>
        refine' ⟨_, _, _, _, _, _, _, [], _, List.getElem?_concat_length, Cfg.vto vda (N9.get ?a), ?l1, ?l2, Cfg.vput ?q1 (N9.get ?b), Cfg.vput ?q2 (N9.get ?c), fun _ => rfl⟩
        case a => k_mem
        case b => k_mem
        case c => k_mem
        case l1 => clear hq; omega
        case l2 => clear hq; omega
        case q1 => intro hm; have := leN (hhid _ hm); clear hq; omega
        case q2 => intro hm; have := leN (hhid _ hm); clear hq; omega
      case hq =>
        intro v h' tk' reg' ecs' I' X' fr' sz' kp' res'
        exact hq v h' tk' reg' ecs' I' X' fr' sz' kp' res'
    · have vda := hda
      replace hda := Cfg.vget hda
      obtain ⟨tl, hvh, hN, Cv, ev, htl⟩ := focus [Γ.da k, Γ.ca] F
      have td1 : ∀ q ∈ tl, q.1 ≠ Γ.da k := fun q hq => htl q hq _ (.head _)
      have td2 : ∀ q ∈ tl, q.1 ≠ Γ.ca := fun q hq => htl q hq _ (.tail _ (.head _))
      have losc := low_ne_modules C.O.T (Nat.le_trans C.lo (I.dl _ (.head _)))
      replace htp := Cfg.vget htp
      replace hpr := Cfg.vget hpr
      have P3 : h₁.get? tpp = some _ ∧ tpp ≠ L ∧ g.get? tpp = none := ⟨K1 _ _ htp, Fr.neL F (K1 _ _ htp) (fun _ _ e => by cases e), hgn _ (lo0 _ l1) (M.notFr htp (fun _ _ e => by cases e))⟩
      have P4 : h₁.get? pr = some _ ∧ pr ≠ L ∧ g.get? pr = none := ⟨K1 _ _ hpr, Fr.neL F (K1 _ _ hpr) (fun _ _ e => by cases e), hgn _ (lo0 _ l2) (M.notFr hpr (fun _ _ e => by cases e))⟩
      obtain ⟨oo, hoo, hooc, hoo2⟩ := S.old _ hold
      replace hoo := Cfg.vget hoo
      have hno := T.nolimit
      have nee : ∀ a, a ∈ dictAddrs Γ ecs → a ≠ ec := fun a ha q => I.eb _ ha (q ▸ hold)
      have ptp : ∀ a ∈ dictAddrs Γ ecs, (∃ o es n, s.heap.get? a = some o ∧ o.data = .dict es n) → tpp ≠ a ∧ pr ≠ a := fun a _ ⟨o, es, n, h1, h2⟩ => ⟨fun q => (by rw [← q, htp] at h1; cases h1; cases h2), fun q => (by rw [← q, hpr] at h1; cases h1; cases h2)⟩
      have dca : ∃ o es n, s.heap.get? Γ.ca = some o ∧ o.data = .dict es n := by obtain ⟨es, ep, _, d, _⟩ := hdc; exact ⟨oc, es, ep, hoc, d⟩
      have ne4 := neN (ptp _ (.head _) dca).1
      have ne5 := neN (ptp _ (.head _) dca).2
      have ne6 := neN (ptp _ hmda ⟨_, _, _, hda, rfl⟩).1
      have ne7 := neN (ptp _ hmda ⟨_, _, _, hda, rfl⟩).2
      have hbt := notCls_plain pl1
      cases hva : ecs[o]? with
      | none =>
        have hca : valueAt (cachePairs ecs) (o : Int) = none := by rw [cacheAt, hva]; rfl
        have N := hN [(Γ.ea k, ok), (Γ.ca, oc), (Γ.da k, dictOf [oidsEntry w t tpp] n), (tpp, tupOf [.ref pr] tn), (pr, tupOf [.int (o : Int) tk', .ref ec] pn)] (List.forall_mem_cons.mpr ⟨P1, List.forall_mem_cons.mpr ⟨P2, List.forall_mem_cons.mpr ⟨⟨K1 _ _ hda, ld⟩, List.forall_mem_cons.mpr ⟨P3, List.forall_mem_cons.mpr ⟨P4, List.forall_mem_nil _⟩⟩⟩⟩⟩)
        simp only [List.cons_append, List.nil_append] at N
        clear hN P1 P2 P3 P4
        refine execs_hold (for_hold ?_)
        k_steps
        (with_reducible rename Fr _ _ _ _ => F9)
        (with_reducible rename News _ _ _ _ => N9)
        show wpAny _ _ _ _ _ _
        refine kfor_iter F9 N9 (vs := [.ref pr]) (by k_mem) rfl rfl fun h2 I2 oI2 hI2 lt2 LI2 eI2 kp2 F2 N2 => ?_
        clear F9 N9
        refine kfor_item F2 N2 hI2 (fun q hq => Nat.ne_of_lt (lt2 q hq)) (vs := [.ref pr]) (by k_mem) rfl rfl (v := .ref pr) rfl fun h3 oI3 hI3 F3 N3 => ?_
        clear F2 N2
        show wpAny _ _ _ _ _ _
        k_steps
        (with_reducible rename Fr _ _ _ _ => F9)
        (with_reducible rename News _ _ _ _ => N9)
        dsimp only
        refine kfor_end rfl F9 N9 hI3 (fun q hq => Nat.ne_of_lt (lt2 q hq)) (vs := [.ref pr]) (by k_mem) rfl rfl rfl fun h4 F4 N4 => ?_
        clear F9 N9 lt2
        show wpAny _ _ _ _ _ _
        k_steps
        (with_reducible rename Fr _ _ _ _ => F9)
        (with_reducible rename News _ _ _ _ => N9)
        (with_reducible rename Obj.IsDictOf _ _ [] => hn9)
        (with_reducible rename Obj.IsDictOf _ _ (cachePairs (_ ++ _)) => hd9)
        (with_reducible rename L < _ => Ld9)
        simp only [cache_one] at N9
        dsimp only
        show wpAny _ _ (execs _ _) _ _ _
        have Ld8 := ltN Ld9
        have S9 := Cv.now F9 N9 (fun q hq => by repeat (first | assumption | refine List.Mem.tail _ ?_))
        have kps : ∀ b o, s.heap.get? b = some o → b ≠ Γ.ca → b ≠ Γ.da k → _ := fun b o e n1 n2 => S9 b o (ev ▸ hideAll_get _ (K1 b o e) (by have n3 : b ≠ L := eL ▸ Nat.ne_of_lt (Heap.lt_size e); simp [n1, n2, n3]))
        refine' mc_grown C ?ho F9 ?m1 ?m2 ?m3 ?m4 ?m5 ?m6 MG hgn X T B I hst S hhid hLh hfh eL hfr hfo hr hpos (by omega) (by omega) UM kps Ld9 ⟨_, N9.get (by k_mem), hn9⟩ ⟨_, N9.get (by k_mem), hd9⟩ ?hat ?hq
        case ho => k_is
        case m1 => rfl
        case m2 => rfl
        case m3 => rfl
        case m4 => rfl
        case m5 => rfl
        case m6 => rfl
        case hat =>
          refine' ⟨_, _, _, _, _, _, _, [.ref pr], _, List.getElem?_concat_length, Cfg.vto vda (N9.get ?a), ?l1, ?l2, Cfg.vput ?q1 (N9.get ?b), Cfg.vput ?q2 (N9.get ?c), fun e => by rw [e] at hold; cases hold⟩
          case a => k_mem
          case b => k_mem
          case c => k_mem
          case l1 => clear hq; omega
          case l2 => clear hq; omega
          case q1 => intro hm; have := leN (hhid _ hm); clear hq; omega
          case q2 => intro hm; have := leN (hhid _ hm); clear hq; omega
        case hq =>
          intro v h' tk' reg' ecs' I' X' fr' sz' kp' res'
          exact hq v h' tk' reg' ecs' I' X' fr' sz' kp' res'
      | some a2 =>
        have hca : valueAt (cachePairs ecs) (o : Int) = some (.ref a2) := by rw [cacheAt, hva]; rfl
        have hm2 := List.mem_of_getElem? hva
        obtain ⟨oa, hoa, hoac⟩ := S.new _ hm2
        replace hoa := Cfg.vget hoa
        have nt : oa.cls ≠ .type "tuple" := by rw [hoac]; intro q; exact absurd (Value.type.inj q) (by decide)
        have na := nee _ (mem_ecs hm2)
        have ne8 := neN (nodup_da I.nd (List.mem_append_right _ hm2)).2
        have ne9 := neN (nodup_ecs_da I.nd hkN hm2)
        have ne10 := neN (nee _ (.head _))
        have ne11 := neN (nee _ hmda)
        have P5 : h₁.get? ec = some oo ∧ ec ≠ L ∧ g.get? ec = none := ⟨K1 _ _ hoo, fun e => hLo (e ▸ hold), hgn _ (lo0 _ hoo2) (hfo _ hold)⟩
        have P6 : h₁.get? a2 = some oa ∧ a2 ≠ L ∧ g.get? a2 = none := ⟨K1 _ _ hoa, fun e => hL (e ▸ mem_ecs hm2), hgn _ (lo0 _ (I.dl _ (mem_ecs hm2))) (hfr _ (mem_ecs hm2))⟩
        have N := hN [(Γ.ea k, ok), (Γ.ca, oc), (Γ.da k, dictOf [oidsEntry w t tpp] n), (tpp, tupOf [.ref pr] tn), (pr, tupOf [.int (o : Int) tk', .ref ec] pn), (ec, oo), (a2, oa)] (List.forall_mem_cons.mpr ⟨P1, List.forall_mem_cons.mpr ⟨P2, List.forall_mem_cons.mpr ⟨⟨K1 _ _ hda, ld⟩, List.forall_mem_cons.mpr ⟨P3, List.forall_mem_cons.mpr ⟨P4, List.forall_mem_cons.mpr ⟨P5, List.forall_mem_cons.mpr ⟨P6, List.forall_mem_nil _⟩⟩⟩⟩⟩⟩⟩)
        simp only [List.cons_append, List.nil_append] at N
        clear hN P1 P2 P3 P4 P5 P6
        refine execs_hold (for_hold ?_)
        k_steps
        (with_reducible rename Fr _ _ _ _ => F9)
        (with_reducible rename News _ _ _ _ => N9)
        show wpAny _ _ _ _ _ _
        refine kfor_iter F9 N9 (vs := [.ref pr]) (by k_mem) rfl rfl fun h2 I2 oI2 hI2 lt2 LI2 eI2 kp2 F2 N2 => ?_
        clear F9 N9
        refine kfor_item F2 N2 hI2 (fun q hq => Nat.ne_of_lt (lt2 q hq)) (vs := [.ref pr]) (by k_mem) rfl rfl (v := .ref pr) rfl fun h3 oI3 hI3 F3 N3 => ?_
        clear F2 N2
        show wpAny _ _ _ _ _ _
        k_steps
        (with_reducible rename Fr _ _ _ _ => F9)
        (with_reducible rename News _ _ _ _ => N9)
        dsimp only
        refine kfor_end rfl F9 N9 hI3 (fun q hq => Nat.ne_of_lt (lt2 q hq)) (vs := [.ref pr]) (by k_mem) rfl rfl rfl fun h4 F4 N4 => ?_
        clear F9 N9 lt2
        show wpAny _ _ _ _ _ _
        k_steps
        (with_reducible rename Fr _ _ _ _ => F9)
        (with_reducible rename News _ _ _ _ => N9)
        (with_reducible rename Obj.IsDictOf _ _ [] => hn9)
        (with_reducible rename Obj.IsDictOf _ _ (cachePairs (_ ++ _)) => hd9)
        (with_reducible rename L < _ => Ld9)
        simp only [cache_one] at N9
        dsimp only
        show wpAny _ _ (execs _ _) _ _ _
        have Ld8 := ltN Ld9
        have S9 := Cv.now F9 N9 (fun q hq => by repeat (first | assumption | refine List.Mem.tail _ ?_))
        have kps : ∀ b o, s.heap.get? b = some o → b ≠ Γ.ca → b ≠ Γ.da k → _ := fun b o e n1 n2 => S9 b o (ev ▸ hideAll_get _ (K1 b o e) (by have n3 : b ≠ L := eL ▸ Nat.ne_of_lt (Heap.lt_size e); simp [n1, n2, n3]))
        refine' mc_grown C ?ho F9 ?m1 ?m2 ?m3 ?m4 ?m5 ?m6 MG hgn X T B I hst S hhid hLh hfh eL hfr hfo hr hpos (by omega) (by omega) UM kps Ld9 ⟨_, N9.get (by k_mem), hn9⟩ ⟨_, N9.get (by k_mem), hd9⟩ ?hat ?hq
        case ho => k_is
        case m1 => rfl
        case m2 => rfl
        case m3 => rfl
        case m4 => rfl
        case m5 => rfl
        case m6 => rfl
        case hat =>
          refine' ⟨_, _, _, _, _, _, _, [.ref pr], _, List.getElem?_concat_length, Cfg.vto vda (N9.get ?a), ?l1, ?l2, Cfg.vput ?q1 (N9.get ?b), Cfg.vput ?q2 (N9.get ?c), fun e => by rw [e] at hold; cases hold⟩
          case a => k_mem
          case b => k_mem
          case c => k_mem
          case l1 => clear hq; omega
          case l2 => clear hq; omega
          case q1 => intro hm; have := leN (hhid _ hm); clear hq; omega
          case q2 => intro hm; have := leN (hhid _ hm); clear hq; omega
        case hq =>
          intro v h' tk' reg' ecs' I' X' fr' sz' kp' res'
          exact hq v h' tk' reg' ecs' I' X' fr' sz' kp' res'
end Mine
end
section
open PySem PySem.W PyProof.Rows PySem.Calls PySem.Spec
set_option maxRecDepth 100000
namespace Mine
theorem rs10 : True := by
  w_top off
  trivial
/-- the state after some calls, seen from the start; loc: our own unfinished objects -/
structure Post (w : World) (Γ : Cfg) (hid : List Addr) (b : Nat) (L : Addr) (h : Heap) (reg : Nat → Option Nat) (ecs : List Addr) (loc : List Addr) (h' : Heap) (reg' : Nat → Option Nat) (ecs' : List Addr) : Prop where
  inv : Inv w Γ b (Vw (loc ++ hid) h') reg' ecs'
  stand : Stand Γ (Vw (loc ++ hid) h') ecs'
  ext : Ext b reg ecs reg' ecs'
  fresh : ∀ a ∈ ecs', a ∈ ecs ∨ L < a
  keep : ∀ a o, h.get? a = some o → ¬ MutK Γ b reg ecs a → h'.get? a = some o
  locs : ∀ a ∈ loc, L < a
/-- the start of a call -/
structure Base (w : World) (Γ : Cfg) (hid : List Addr) (b : Nat) (L : Addr) (h : Heap) (reg : Nat → Option Nat) (ecs : List Addr) : Prop where
  I : Inv w Γ b (Vw hid h) reg ecs
  S : Stand Γ (Vw hid h) ecs
  hh : ∀ a ∈ hid, a ≤ L
  Lh : L ∈ hid
  eL : L = h.objs.size
section
variable {w : World} {Γ : Cfg} {hid loc : List Addr} {b b' : Nat} {L : Addr} {h h1 h2 : Heap} {reg reg1 reg2 : Nat → Option Nat} {ecs ecs1 ecs2 : List Addr}
theorem Inv.vis (I : Inv w Γ b (Vw hid h) reg ecs) (S : Stand Γ (Vw hid h) ecs) {a : Addr} (hm : a ∈ dictAddrs Γ ecs) : a ∉ hid := by
  rcases List.mem_cons.mp hm with rfl | hm
  · obtain ⟨oc, e, _⟩ := I.cc; exact Cfg.vnot e
  rcases List.mem_cons.mp hm with rfl | hm
  · obtain ⟨q, n, t1, t2, t3, tx, tp, ev, e, _⟩ := I.ed; exact Cfg.vnot e
  rcases List.mem_append.mp hm with hm | hm
  · obtain ⟨j, hj, rfl⟩ := List.mem_map.mp hm
    obtain ⟨es, n, e, _⟩ := (I.att j (List.mem_range.mp hj)).there
    exact Cfg.vnot e
  · obtain ⟨o, e, _⟩ := S.new _ hm; exact Cfg.vnot e
theorem knV (kp : ∀ a o, h1.get? a = some o → a ∉ hid → h2.get? a = some o) : (Vw hid h1).StaysIn (Vw hid h2) := fun b o e => Cfg.vto e (kp b o (Cfg.vget e) (Cfg.vnot e))
theorem Post.start (B : Base w Γ hid b L h reg ecs) (k : h.StaysIn h1) : Post w Γ hid b L h reg ecs [] h1 reg ecs :=
  ⟨B.I.stay ⟨fun b o e _ => Cfg.vst k b o e, fun b o e => ⟨o, Cfg.vst k b o e⟩⟩ (fun a _ o e => Cfg.vst k a o e), B.S.sub (Cfg.vst k), Ext.refl, fun _ ha => .inl ha, fun a o e _ => k a o e, fun _ h => nomatch h⟩
theorem Post.dicts (P : Post w Γ hid b L h reg ecs loc h1 reg1 ecs1) {a : Addr} (ha : a ∈ dictAddrs Γ ecs1) : a ∈ dictAddrs Γ ecs ∨ L < a := by
  rcases List.mem_cons.mp ha with q | ha
  · exact .inl (q ▸ .head _)
  rcases List.mem_cons.mp ha with q | ha
  · exact .inl (q ▸ .tail _ (.head _))
  rcases List.mem_append.mp ha with ha | ha
  · exact .inl (.tail _ (.tail _ (List.mem_append_left _ ha)))
  · exact (P.fresh _ ha).imp mem_ecs id
theorem Base.lt (B : Base w Γ hid b L h reg ecs) {a : Addr} (hm : a ∈ dictAddrs Γ ecs) : a < L := B.eL ▸ B.I.dictLtV B.S hm
theorem Base.olds (B : Base w Γ hid b L h reg ecs) {a : Addr} (hm : a ∈ Γ.olds) : a < L := by
  obtain ⟨o, e, _⟩ := B.S.old _ hm; exact B.eL ▸ Heap.lt_size (Cfg.vget e)
theorem Base.loL (B : Base w Γ hid b L h reg ecs) : Γ.lo0 ≤ L := Nat.le_trans (B.I.dl _ (.head _)) (Nat.le_of_lt (B.lt (.head _)))
theorem Post.offL (P : Post w Γ hid b L h reg ecs loc h1 reg1 ecs1) (B : Base w Γ hid b L h reg ecs) : L ∉ dictAddrs Γ ecs1 := fun hm =>
  (P.dicts hm).elim (fun q => absurd (B.lt q) (Nat.lt_irrefl _)) (Nat.lt_irrefl _)
theorem Post.stays (P : Post w Γ hid b L h reg ecs loc h1 reg1 ecs1) (B : Base w Γ hid b L h reg ecs) (kp : ∀ a o, h1.get? a = some o → a ≠ L → a ∉ loc → h2.get? a = some o) : (Vw (loc ++ hid) h1).StaysIn (Vw (loc ++ hid) h2) :=
  knV fun a o e n => kp a o e (fun q => n (List.mem_append_right _ (q ▸ B.Lh))) fun q => n (List.mem_append_left _ q)
/-- a step of our own: all but the frame and the unfinished objects stands -/
theorem Post.step (P : Post w Γ hid b L h reg ecs loc h1 reg1 ecs1) (B : Base w Γ hid b L h reg ecs) (kp : ∀ a o, h1.get? a = some o → a ≠ L → a ∉ loc → h2.get? a = some o) : Post w Γ hid b L h reg ecs loc h2 reg1 ecs1 := by
  have st := P.stays B kp
  have low : ∀ {a o}, h.get? a = some o → a ≠ L ∧ a ∉ loc := fun {a o} e => ⟨fun q => absurd (Heap.lt_size e) (B.eL ▸ q ▸ Nat.lt_irrefl _), fun q => absurd (Nat.lt_trans (P.locs _ q) (B.eL ▸ Heap.lt_size e)) (Nat.lt_irrefl _)⟩
  exact ⟨P.inv.stay (Heap.StaysIn.nd st) (fun a _ o e => st a o e), P.stand.sub st, P.ext, P.fresh, fun a o e n => kp a o (P.keep a o e n) (low e).1 (low e).2, P.locs⟩
/-- an address that does not stand yet is kept for an object of ours -/
theorem Post.hide (P : Post w Γ hid b L h reg ecs loc h1 reg1 ecs1) {a : Addr} (hn : h1.get? a = none) (ha : L < a) : Post w Γ hid b L h reg ecs (a :: loc) h1 reg1 ecs1 :=
  ⟨P.inv.stay (Heap.StaysIn.nd (vw_cons hn)) (fun a _ o e => vw_cons hn a o e), P.stand.sub (vw_cons hn), P.ext, P.fresh, P.keep, fun c hc => (List.mem_cons.mp hc).elim (fun q => q ▸ ha) (P.locs c)⟩
theorem Post.reveal (P : Post w Γ hid b L h reg ecs loc h1 reg1 ecs1) : Post w Γ hid b L h reg ecs [] h1 reg1 ecs1 :=
  ⟨P.inv.stay (Heap.StaysIn.nd vw_all) (fun a _ o e => vw_all a o e), P.stand.sub vw_all, P.ext, P.fresh, P.keep, fun _ h => nomatch h⟩
theorem mut_back {v1 v2 : Heap} (I : Inv w Γ b v1 reg ecs) (I1 : Inv w Γ b v2 reg1 ecs1) (X : Ext b reg ecs reg1 ecs1) (fr : ∀ a ∈ ecs1, a ∈ ecs ∨ L < a) (hb : b' ≤ b) {a : Addr} (ha : a < L) (hm : MutK Γ b' reg1 ecs1 a) : MutK Γ b reg ecs a := by
  rcases hm with q | q | ⟨j, hj, hN, q⟩ | ⟨j, hj, o, h1, h2⟩
  · exact .inl q
  · exact .inr (.inl q)
  · exact .inr (.inr (.inl ⟨j, Nat.lt_of_lt_of_le hj hb, hN, q⟩))
  · rcases fr a (List.mem_of_getElem? h2) with q | q
    · obtain ⟨i, hi, e⟩ := List.mem_iff_getElem.mp q
      have e1 : ecs[i]? = some a := by rw [List.getElem?_eq_getElem hi, e]
      have : o = i := nodup_at (nodup_ecs I1.nd) h2 (X.get e1)
      subst this
      obtain ⟨j2, hj2⟩ := I.sur o hi
      have := I1.inj _ _ _ h1 (X.old _ _ hj2)
      subst this
      exact .inr (.inr (.inr ⟨j, Nat.lt_of_lt_of_le hj hb, o, hj2, e1⟩))
    · exact absurd (Nat.lt_trans ha q) (Nat.lt_irrefl _)
theorem Inv.widen (I : Inv w Γ b h reg ecs) (I' : Inv w Γ b' h1 reg1 ecs1) (hb : b' ≤ b) (X : Ext b' reg ecs reg1 ecs1) (kp : ∀ a o, h.get? a = some o → ¬ MutK Γ b' reg ecs a → h1.get? a = some o) : Inv w Γ b h1 reg1 ecs1 := by
  refine { I' with cl := fun j hj o hr => ?_ }
  by_cases hjb : j < b'
  · exact I'.cl j hjb o hr
  · have e1 := X.out j (Nat.le_of_not_lt hjb)
    rw [hr] at e1
    obtain ⟨ec, h2, h3⟩ := I.cl j hj o e1.symm
    refine ⟨ec, X.get h2, h3.sub (fun o' e => kp _ _ e fun hm => ?_) (I.keepND hb I' X kp)⟩
    have nd := I.nd
    have hm2 := List.mem_of_getElem? h2
    rcases hm with q | q | ⟨j', _, hj', q⟩ | ⟨j', hj', o2, hr', e'⟩
    · exact (nodup_da nd (List.mem_append_right _ hm2)).2 q
    · exact (nodup_da nd (List.mem_append_right _ hm2)).1 q
    · exact nodup_ecs_da nd hj' hm2 q.symm
    · have := nodup_at (nodup_ecs nd) e' h2
      subst this
      exact hjb ((I.inj _ _ _ e1.symm hr') ▸ hj')
theorem Post.call (P : Post w Γ hid b L h reg ecs loc h1 reg1 ecs1) (B : Base w Γ hid b L h reg ecs) (hb : b' ≤ b) (I2 : Inv w Γ b' (Vw (loc ++ hid) h2) reg2 ecs2) (X : Ext b' reg1 ecs1 reg2 ecs2) (fr : ∀ a ∈ ecs2, a ∈ ecs1 ∨ h1.objs.size ≤ a) (hL : L < h1.objs.size)
    (kp : ∀ a o, h1.get? a = some o → ¬ MutK Γ b' reg1 ecs1 a → h2.get? a = some o) : Post w Γ hid b L h reg ecs loc h2 reg2 ecs2 :=
  have kv : ∀ a o, (Vw (loc ++ hid) h1).get? a = some o → ¬ MutK Γ b' reg1 ecs1 a → (Vw (loc ++ hid) h2).get? a = some o := fun a o e n => Cfg.vto e (kp a o (Cfg.vget e) n)
  ⟨P.inv.widen I2 hb X kv, P.stand.call P.inv I2 X hb kv, P.ext.trans (X.up hb), fun a ha => (fr a ha).elim (P.fresh a) fun q => .inr (Nat.lt_of_lt_of_le hL q),
   fun a o e n => kp a o (P.keep a o e n) fun hm => n (mut_back B.I P.inv P.ext P.fresh hb (B.eL ▸ Heap.lt_size e) hm), P.locs⟩
theorem Post.ndAt (P : Post w Γ hid b L h reg ecs loc h1 reg1 ecs1) (B : Base w Γ hid b L h reg ecs) {a : Addr} {o : Obj} (e : (Vw hid h).get? a = some o) (nd : ∀ es n, o.data ≠ .dict es n) : h1.get? a = some o :=
  P.keep a o (Cfg.vget e) fun m => let ⟨es, n, d⟩ := B.I.isDict m (Nat.le_refl _) e; nd es n d
end
section
variable {w : World} {p : Program} {loose : List Str} {mean : ExcName → Option Value} {mg mb : Str → Option Value} {H0 : Heap} {Γ : Cfg} {hid loc : List Addr}
theorem Post.nfr {dp un : Nat} {fr : List Env} {g h0 h1 : Heap} {L : Addr} {m : Str → Option Value} {k : Nat} {reg reg1 : Nat → Option Nat} {ecs ecs1 : List Addr} (P : Post w Γ hid k L h0 reg ecs loc h1 reg1 ecs1) (F : Fr g L h1 m) (MG : Amb H0 fr g)
    (hfr : ∀ a ∈ dictAddrs Γ ecs, a ∉ frs fr) : ∀ a ∈ dictAddrs Γ ecs1, a ∉ frs fr := fun a ha hm => (P.dicts ha).elim (fun q => hfr a q hm) fun q => by
  obtain ⟨o, _, _, e, _⟩ := MG.fdat a hm
  exact absurd (Nat.lt_trans q (Nat.lt_of_lt_of_le (Heap.lt_size e) F.above)) (Nat.lt_irrefl _)
/-- a member's match_core is called from a frame of ours -/
theorem um_call {dp un : Nat} {gd : Option (List Code)} {fr : List Env} {g h0 : Heap} {L f : Addr} {m : Str → Option Value} {s : Shared} {k i pos : Nat} {tp : Tok} {reg reg1 : Nat → Option Nat} {ecs ecs1 : List Addr} {Q E : Value → Shared → Prop} {qual : Str} {scope : Scope} {cdv : Value}
    (B : Base w Γ hid k L h0 reg ecs) (P : Post w Γ hid k L h0 reg ecs loc s.heap reg1 ecs1) (F : Fr g L s.heap m) (MG : Amb H0 fr g) (hgn : ∀ a, H0.get? a = none → a ∉ frs fr → g.get? a = none) (lo : H0.objs.size ≤ Γ.lo0)
    (hfr : ∀ a ∈ dictAddrs Γ ecs, a ∉ frs fr) (hfo : ∀ a ∈ Γ.olds, a ∉ frs fr) (hk : scope.kind = .function) (hi : i < k) (hpos : pos ≤ Γ.n) (hdp : dp + (3 * (k + k) + 12) < recursionLimit) (hun : un + (10 * (k + k) + 60) < cLine) (CM : CallOk w H0 Γ (i + 1) i 266)
    (hfh : ∀ a ∈ frs fr, a ∈ hid) (hloc : ∀ a ∈ loc, a < s.heap.objs.size)
    (hq : ∀ v h' tk' reg' ecs', Post w Γ hid k L h0 reg ecs loc h' reg' ecs' → Fr g L h' m → Res Γ (Vw (loc ++ hid) h') i pos v → KeepND (Vw (loc ++ hid) s.heap) (Vw (loc ++ hid) h') → (∀ a o, s.heap.get? a = some o → (∀ es n, o.data ≠ .dict es n) → h'.get? a = some o) → s.heap.objs.size ≤ h'.objs.size → Q v { s with heap := h', toks := tk' }) :
    wpAny (model PySem.Challenge.rw_vy0014_01.row.prog w) ((ar dp un gd fr).deeper (envOf qual scope L f cdv)) (call (.ref 266) [.ref (Γ.ea i), .str Γ.text Γ.tk, .int (pos : Int) tp, .ref Γ.ca, .ref Γ.err]) Q E s := by
  have lL := F.ns.lt
  have oL := P.offL B
  have nfr := P.nfr (dp := dp) (un := un) F MG hfr
  refine CM (loc ++ hid) (dp + 1) (un + 3) gd _ s pos tp reg1 ecs1 Q E (MG.push F hk) (P.inv.down hi) P.stand (fun a ha => ?_) (fun a ha => ?_) (fun a ha hm => ?_) (fun a ha hm => ?_) hpos (by omega) (by omega) ?_
  · exact (List.mem_append.mp ha).elim (hloc a) fun q => Nat.lt_of_le_of_lt (B.hh a q) lL
  · rw [frs_push] at ha
    rcases List.mem_cons.mp ha with rfl | ha
    · exact List.mem_append_right _ B.Lh
    · exact List.mem_append_right _ (hfh a ha)
  · rw [frs_push] at hm
    rcases List.mem_cons.mp hm with rfl | hm
    · exact oL ha
    · exact nfr a ha hm
  · rw [frs_push] at hm
    rcases List.mem_cons.mp hm with rfl | hm
    · exact absurd (B.olds ha) (Nat.lt_irrefl _)
    · exact hfo a ha hm
  · intro v h' tk' reg' ecs' I' X' fr' sz' kp' res'
    have mm : ∀ a, MutK Γ (i + 1) reg1 ecs1 a → a ∈ dictAddrs Γ ecs1 := fun a ha => P.inv.mut_mem ha
    refine hq v h' tk' reg' ecs' (P.call B hi I' X' fr' lL kp') (frBack F kp' (fun hm => oL (mm _ hm)) (fun a hm => hgn a (get_none_of_le (Nat.le_trans lo (P.inv.dl _ (mm a hm)))) (nfr a (mm a hm)))) res' (P.inv.keepND hi I' X' fun a o e n => Cfg.vto e (kp' a o (Cfg.vget e) n)) (fun a o e nd => kp' a o e fun hm => ?_) sz'
    obtain ⟨es, n, d⟩ := P.inv.isDict hm hi (Cfg.vput (P.inv.vis P.stand (mm a hm)) e)
    exact nd es n d
end
end Mine
end
section
open PySem PySem.W PyProof.Rows PySem.Calls PySem.Spec Builtin Builtin.ObjectAttr
set_option maxRecDepth 100000
set_option maxHeartbeats 8000000
namespace Mine
local macro_rules | `(tactic| walk_at "0") => `(tactic| skip)
local macro_rules | `(tactic| walk_at "0") => `(tactic| skip)
local macro_rules | `(tactic| walk_at "0") => `(tactic| skip)
local macro_rules | `(tactic| walk_at "0") => `(tactic| skip)
local macro_rules | `(tactic| walk_at "0") => `(tactic| skip)
local macro_rules | `(tactic| walk_at "0") => `(tactic| skip)
local macro_rules | `(tactic| walk_at "0") => `(tactic| skip)
local macro_rules | `(tactic| walk_at "0") => `(tactic| skip)
local macro_rules | `(tactic| walk_at "0") => `(tactic| skip)
local macro_rules | `(tactic| walk_at "0") => `(tactic| skip)
local macro_rules | `(tactic| walk_at "0") => `(tactic| skip)
local macro_rules | `(tactic| walk_at "0") => `(tactic| skip)
local macro_rules | `(tactic| walk_at "0") => `(tactic| skip)
local macro_rules | `(tactic| walk_at "0") => `(tactic| skip)
local macro_rules | `(tactic| walk_at "0") => `(tactic| skip)
local macro_rules | `(tactic| walk_at "0") => `(tactic| skip)
local macro_rules | `(tactic| walk_at "0") => `(tactic| skip)
local macro_rules | `(tactic| walk_at "0") => `(tactic| skip)
local macro_rules | `(tactic| walk_at "0") => `(tactic| skip)
local macro_rules | `(tactic| walk_at "0") => `(tactic| skip)
local macro_rules | `(tactic| walk_at "0") => `(tactic| skip)
local macro_rules | `(tactic| walk_at "0") => `(tactic| skip)
local macro_rules | `(tactic| walk_at "0") => `(tactic| skip)
local macro_rules | `(tactic| walk_at "0") => `(tactic| skip)
local macro_rules | `(tactic| walk_at "0") => `(tactic| skip)
local macro_rules | `(tactic| walk_at "0") => `(tactic| skip)
local macro_rules | `(tactic| walk_at "0") => `(tactic| skip)
local macro_rules | `(tactic| walk_at "0") => `(tactic| skip)
local macro_rules | `(tactic| walk_at "0") => `(tactic| skip)
local macro_rules | `(tactic| walk_at "0") => `(tactic| skip)
local macro_rules | `(tactic| walk_at "0") => `(tactic| skip)
local macro_rules | `(tactic| walk_at "0") => `(tactic| skip)
local macro_rules | `(tactic| walk_at "0") => `(tactic| skip)
local macro_rules | `(tactic| walk_at "0") => `(tactic| skip)
local macro_rules | `(tactic| walk_at "0") => `(tactic| skip)
local macro_rules | `(tactic| walk_at "0") => `(tactic| skip)
local macro_rules | `(tactic| walk_at "0") => `(tactic| skip)
local macro_rules | `(tactic| walk_at "0") => `(tactic| skip)
local macro_rules | `(tactic| walk_at "0") => `(tactic| skip)
local macro_rules | `(tactic| walk_at "0") => `(tactic| skip)
theorem rs11 : True := by
  w_top off
  trivial
section
variable {prog : Program} {w : World} {A : Around} {E : Value → Shared → Prop} {s : Shared} {x y : Str} {t u v : Tok} {i : Int} {Q : Value → Shared → Prop}
theorem starts_b {b : Bool} (hb : Txt.startswith3 x y i = b) (hq : Q (.bool b) s) : wpAny (model prog w) A (call (.builtin "str.startswith") [.str x t, .str y u, .int i v]) Q E s :=
  SC.startswith3 (hb ▸ hq)
end
theorem starts_end {x text : Str} {pos : Nat} (hp : pos ≤ text.length) : wordEnd x text pos = if Txt.startswith3 text x (pos : Int) = true then ((pos + x.length : Nat) : Int) else -1 := by
  unfold wordEnd Txt.startswith3 fromIndex Builtin.Str.subAt
  have e : (max 0 (if (pos : Int) < 0 then (pos : Int) + (text.length : Int) else (pos : Int))).toNat = pos := by
    rw [if_neg (by omega)]; omega
  rw [e]
  by_cases h : (Str.mk (text.cps.extract pos (pos + x.length))) = x
  · rw [if_pos h]
    have h2 : text.cps.extract pos (pos + x.length) = x.cps := congrArg Str.cps h
    have h3 : min (pos + x.length) text.length - pos = x.length := by
      have := congrArg Array.size h2
      rw [Array.size_extract] at this
      exact this
    rw [if_pos]
    simp only [Bool.and_eq_true, decide_eq_true_eq, h2, beq_self_eq_true, and_true]
    omega
  · rw [if_neg h, if_neg]
    simp only [Bool.and_eq_true, decide_eq_true_eq, beq_iff_eq, not_and]
    intro _ q
    exact h (by rw [q])
local macro_rules | `(tactic| k_room) => `(tactic| ktr_room)
local macro_rules | `(tactic| k_all) => `(tactic| first | assumption | (intro q9 hq9; (try dsimp only); first | exact allLt_ne (by assumption) (by omega) q9 hq9 | exact lt_ne (by assumption) (by omega) q9 hq9))
local macro_rules | `(tactic| k_inst) => `(tactic| (refine' instOf ?N ?h1 ?h2 ?e1 ?e2 ?e3; (case N => k_asm); (case h1 => k_mem); (case e1 => first | assumption | exact rfl); (case e2 => first | assumption | exact rfl); (case h2 => k_mem); (case e3 => first | assumption | exact rfl)))
local macro_rules | `(tactic| walk_at "call builtin:str.startswith") => `(tactic| (k_here; k_dflt (refine' starts_b ?k1 ?_; (case k1 => assumption); k_whole)))
local macro_rules | `(tactic| walk_at "call builtin:len") => `(tactic| (k_here; (with_reducible show wpAny _ _ (call (Value.builtin "len") [Value.str _ _]) _ _ _); k_dflt (refine' SBL.len ?k1 ?_; (case k1 => assumption); k_whole)))
local macro_rules | `(tactic| walk_at "call ref") => `(tactic| (k_here; (with_reducible show wpAny _ _ (call (Value.ref 212) _ _) _ _ _); refine hold_of ?_))

variable {w : World} {p : Program} {loose : List Str} {mean : ExcName → Option Value} {mg mb : Str → Option Value} {H0 : Heap} {Γ : Cfg} {hid : List Addr}
theorem size_le {h : Heap} {n x : Nat} {o : Obj} (l : n ≤ x) (e : h.get? x = some o) : n ≤ h.objs.size := Nat.le_trans l (Nat.le_of_lt (Heap.lt_size e))
theorem res_node {b : Nat} {h0 h : Heap} {L : Addr} {reg : Nat → Option Nat} {ecs : List Addr} {k pos : Nat} {x d c : Addr} {tk1 tk2 : Tok} {n : Nat} {e : Int} {ch : List Addr} (B : Base w Γ hid b L h0 reg ecs) (he : Γ.E k pos = e) (hp : 0 ≤ Γ.E k pos) (lx : L < x) (lc : L < c) (ld : L < d)
    (hx : h.get? x = some (nodeObj d (Γ.ea k) Γ.text Γ.tk (pos : Int) tk1 e tk2 c)) (hc : h.get? c = some (listOf (ch.map Value.ref).toArray n)) (hdd : ∃ od, h.get? d = some od) (hl : ch.length = (Γ.due k pos).length)
    (hch : ∀ (i : Nat) (q : Nat × Nat) (a : Addr), (Γ.due k pos)[i]? = some q → ch[i]? = some a → NodeRep Γ (Vw hid h) a q.1 q.2) : Res Γ (Vw hid h) k pos (.ref x) :=
  have nh : ∀ {a : Addr}, L < a → a ∉ hid := fun l hm => absurd (Nat.lt_of_lt_of_le l (B.hh _ hm)) (Nat.lt_irrefl _)
  .inr ⟨hp, x, rfl, .mk ch (Nat.le_trans B.loL (Nat.le_of_lt lx)) (Nat.le_trans B.loL (Nat.le_of_lt lc)) (Cfg.vput (nh lx) (he ▸ hx)) (Cfg.vput (nh lc) hc) (Nat.le_trans B.loL (Nat.le_of_lt ld)) (let ⟨o, e⟩ := hdd; ⟨o, Cfg.vput (nh ld) e⟩) hl hch⟩
theorem res_leaf {b : Nat} {h0 h : Heap} {L : Addr} {reg : Nat → Option Nat} {ecs : List Addr} {k pos : Nat} {x d c : Addr} {tk1 tk2 : Tok} {n : Nat} {e : Int} (B : Base w Γ hid b L h0 reg ecs) (he : Γ.E k pos = e) (hp : 0 ≤ Γ.E k pos) (lx : L < x) (lc : L < c) (ld : L < d)
    (hx : h.get? x = some (nodeObj d (Γ.ea k) Γ.text Γ.tk (pos : Int) tk1 e tk2 c)) (hc : h.get? c = some (listOf ([] : List Value).toArray n)) (hdd : ∃ od, h.get? d = some od) (hd : Γ.due k pos = []) : Res Γ (Vw hid h) k pos (.ref x) :=
  res_node (ch := []) B he hp lx lc ld hx hc hdd (by rw [hd]; rfl) (fun i q a e => by rw [hd] at e; cases e)
theorem um_word {k : Nat} {x : Str} (C : Cx w p loose mean mg mb H0 Γ) (hst : Γ.plan[k]? = some (.word x)) : CallOk w H0 Γ k k 325 := by
  intro hid dp un gd fr s pos tp reg ecs Q E M I S hhid hfh hfr hfo hpos hdp hun hq
  refine wpAny_call ?_
  refine' enterF C.O M ?ho ?hcd ?hr ?hb ?hl ?_ ?c1 ?c2 ?c3 ?c4
  case ho => k_is
  case hcd => k_is
  case hr => omega
  case hb => exact BindsTo.of_eq rfl
  case hl => exact locs rfl
  case c1 => exact rfl
  case c2 => exact rfl
  case c3 => exact rfl
  case c4 => decide
  intro g L h₁ eL F K1 MG hgn Bw X T
  have hLn : s.heap.get? L = none := get_none_of_le (Nat.le_of_eq eL.symm)
  replace I := I.stay (Heap.StaysIn.nd (vw_cons hLn)) (fun a _ o e => vw_cons hLn a o e)
  replace S := S.sub (vw_cons hLn)
  replace hfh : ∀ a ∈ frs fr, a ∈ L :: hid := fun a ha => .tail _ (hfh a ha)
  replace hq : ∀ v h' tk' reg' ecs', Post w Γ (L :: hid) k L s.heap reg ecs [] h' reg' ecs' → L < h'.objs.size → Res Γ (Vw (L :: hid) h') k pos v → Q v { s with heap := h', toks := tk' } := fun v h' tk' reg' ecs' P' sz' res' =>
    hq v h' tk' reg' ecs' (P'.inv.stay (Heap.StaysIn.nd vw_one) (fun a _ o e => vw_one a o e)) P'.ext (fun a ha => (P'.fresh a ha).imp id fun q => eL ▸ Nat.le_of_lt q) (eL ▸ Nat.le_of_lt sz') P'.keep (res'.keep (Heap.StaysIn.nd vw_one))
  have B : Base w Γ (L :: hid) k L s.heap reg ecs := ⟨I, S, fun a ha => (List.mem_cons.mp ha).elim (fun q => Nat.le_of_eq q) fun q => Nat.le_of_lt (eL ▸ hhid a q), .head _, eL⟩
  have P := Post.start B K1
  have Fd := frDat F
  obtain ⟨hlk, ok, hok, hob⟩ := I.ex k _ hst
  have hkN : k < Γ.N := (List.getElem?_eq_some_iff.mp hst).1
  have lo0 : ∀ a, Γ.lo0 ≤ a → H0.get? a = none := fun a ha => get_none_of_le (Nat.le_trans C.lo ha)
  have nok := plain_nd hob.plain.1
  have hL := P.offL B
  obtain ⟨es, n, hda, hum, hmc⟩ := (I.att k hkN).there
  have hmda := I.mem_da hkN
  replace hok := Cfg.vget hok
  replace hda := Cfg.vget hda
  obtain ⟨tx, it, nm, tn, hnm, e0⟩ := hob
  have hE : Γ.E k pos = wordEnd x Γ.text pos := C.ok.eq k _ pos hst hpos
  rw [starts_end hpos] at hE
  obtain ⟨tl, hvh, hN, Cv, ev, htl⟩ := focus [] F
  have N := hN [(Γ.ea k, ok), (Γ.da k, dictOf es n)] (List.forall_mem_cons.mpr ⟨⟨K1 _ _ hok, Fr.neL F (K1 _ _ hok) nok, hgn _ (lo0 _ hlk) (M.notFr hok nok)⟩, List.forall_mem_cons.mpr ⟨⟨K1 _ _ hda, fun e => hL (e ▸ hmda), hgn _ (lo0 _ (I.dl _ hmda)) (hfr _ hmda)⟩, List.forall_mem_nil _⟩⟩)
  simp only [List.cons_append, List.nil_append] at N
  subst e0
  clear hN
  cases hs : Txt.startswith3 Γ.text x (pos : Int) with
  | true =>
    rw [if_pos hs] at hE
    have hle : pos + x.length ≤ Γ.n := by
      have h1 := C.ok.hi k pos hkN hpos
      rw [hE] at h1; omega
    have hx : (x.length : Int) < 9223372036854775808 := by have := C.ok.small; omega
    k_steps
    (with_reducible rename Fr _ _ _ _ => F9)
    (with_reducible rename News _ _ _ _ => N9)
    show wpAny _ _ _ _ _ _
    have S9 := Cv.now F9 N9 (fun q hq => by repeat (first | assumption | refine List.Mem.tail _ ?_))
    have kp : ∀ b o, h₁.get? b = some o → b ≠ L → _ := fun b o e n1 => S9 b o (ev ▸ hideAll_get _ e (by simpa using n1))
    have P9 := P.step B (fun b o e n _ => kp b o e n)
    have hE' : Γ.E k pos = (pos : Int) + x.length := by rw [hE]; exact Int.natCast_add _ _
    refine node_none (dp := dp + 1) (fr := _ :: fr) C.O (MG.push F9 rfl) (by omega) node_b4 ?_
    intro x2 d2 c2 n2 h2 tk2 st2 lx ld lc hx2 hc2 hd2
    have P2 := P9.step B (fun a o e _ _ => st2 a o e)
    have lL := F9.ns.lt
    refine hq _ h2 tk2 reg ecs P2 (Nat.lt_of_lt_of_le lL (size_le lx hx2)) (res_leaf B hE' (by rw [hE']; omega) (Nat.lt_of_lt_of_le lL lx) (Nat.lt_of_lt_of_le lL lc) (Nat.lt_of_lt_of_le lL ld) hx2 hc2 hd2 (by unfold Cfg.due; rw [hst]; rfl))
  | false =>
    rw [if_neg (by rw [hs]; exact Bool.false_ne_true)] at hE
    k_steps
    (with_reducible rename Fr _ _ _ _ => F9)
    (with_reducible rename News _ _ _ _ => N9)
    have S9 := Cv.now F9 N9 (fun q hq => by repeat (first | assumption | refine List.Mem.tail _ ?_))
    have kp : ∀ b o, h₁.get? b = some o → b ≠ L → _ := fun b o e n1 => S9 b o (ev ▸ hideAll_get _ e (by simpa using n1))
    have P9 := P.step B (fun b o e n _ => kp b o e n)
    have lL := F9.ns.lt
    exact hq _ _ _ reg ecs P9 lL (.inl ⟨hE, rfl⟩)
end Mine
end
section
open PySem PySem.W PyProof.Rows PySem.Calls PySem.Spec Builtin Builtin.ObjectAttr
set_option maxRecDepth 100000
set_option maxHeartbeats 8000000
namespace Mine
theorem rs12 : True := by
  w_top off
  trivial
local macro_rules | `(tactic| k_room) => `(tactic| ktr_room)
local macro_rules | `(tactic| k_all) => `(tactic| first | assumption | (intro q9 hq9; (try dsimp only); first | exact allLt_ne (by assumption) (by omega) q9 hq9 | exact lt_ne (by assumption) (by omega) q9 hq9))
local macro_rules | `(tactic| k_inst) => `(tactic| (refine' instOf ?N ?h1 ?h2 ?e1 ?e2 ?e3; (case N => k_asm); (case h1 => k_mem); (case e1 => first | assumption | exact rfl); (case e2 => first | assumption | exact rfl); (case h2 => k_mem); (case e3 => first | assumption | exact rfl)))
local macro_rules | `(tactic| walk_at "call ref") => `(tactic| (k_here; (with_reducible show wpAny _ _ (call (Value.ref 212) _ _) _ _ _); refine hold_of ?_))
local macro_rules | `(tactic| walk_at "call ref") => `(tactic| (k_here; (with_reducible show wpAny _ _ (call (Value.ref 266) _ _) _ _ _); refine hold_of ?_))
local macro_rules | `(tactic| walk_at "getMethod ref") => `(tactic| (k_here; (with_reducible show wpAny _ _ (getMethod (Value.ref _) (PySem.Str.ofString "match_core") _) _ _ _); k_dflt (refine' kmc ?k1 ?k2 ?k3 ?k4 ?k5 ?_; (case k1 => k_asm); (case k2 => k_asm); (case k3 => k_inst); (case k4 => assumption); (case k5 => assumption); k_whole)))

variable {w : World} {p : Program} {loose : List Str} {mean : ExcName → Option Value} {mg mb : Str → Option Value} {H0 : Heap} {Γ : Cfg}
theorem um_look {k i : Nat} {ng : Bool} (C : Cx w p loose mean mg mb H0 Γ) (hst : Γ.plan[k]? = some (if ng then .nay i else .look i)) (IH : ∀ j st, j < k → Γ.plan[j]? = some st → CallOk w H0 Γ (j + 1) j 266) : CallOk w H0 Γ k k 447 := by
  intro hid dp un gd fr s pos tp reg ecs Q E M I S hhid hfh hfr hfo hpos hdp hun hq
  refine wpAny_call ?_
  refine' enterF C.O M ?ho ?hcd ?hr ?hb ?hl ?_ ?c1 ?c2 ?c3 ?c4
  case ho => k_is
  case hcd => k_is
  case hr => omega
  case hb => exact BindsTo.of_eq rfl
  case hl => exact locs rfl
  case c1 => exact rfl
  case c2 => exact rfl
  case c3 => exact rfl
  case c4 => decide
  intro g L h₁ eL F K1 MG hgn Bw X T
  have hLn : s.heap.get? L = none := get_none_of_le (Nat.le_of_eq eL.symm)
  replace I := I.stay (Heap.StaysIn.nd (vw_cons hLn)) (fun a _ o e => vw_cons hLn a o e)
  replace S := S.sub (vw_cons hLn)
  replace hfh : ∀ a ∈ frs fr, a ∈ L :: hid := fun a ha => .tail _ (hfh a ha)
  replace hq : ∀ v h' tk' reg' ecs', Post w Γ (L :: hid) k L s.heap reg ecs [] h' reg' ecs' → L < h'.objs.size → Res Γ (Vw (L :: hid) h') k pos v → Q v { s with heap := h', toks := tk' } := fun v h' tk' reg' ecs' P' sz' res' =>
    hq v h' tk' reg' ecs' (P'.inv.stay (Heap.StaysIn.nd vw_one) (fun a _ o e => vw_one a o e)) P'.ext (fun a ha => (P'.fresh a ha).imp id fun q => eL ▸ Nat.le_of_lt q) (eL ▸ Nat.le_of_lt sz') P'.keep (res'.keep (Heap.StaysIn.nd vw_one))
  have B : Base w Γ (L :: hid) k L s.heap reg ecs := ⟨I, S, fun a ha => (List.mem_cons.mp ha).elim (fun q => Nat.le_of_eq q) fun q => Nat.le_of_lt (eL ▸ hhid a q), .head _, eL⟩
  have P := Post.start B K1
  have Fd := frDat F
  obtain ⟨hlk, ok, hok, hob⟩ := I.ex k _ hst
  have hkN : k < Γ.N := (List.getElem?_eq_some_iff.mp hst).1
  have lo0 : ∀ a, Γ.lo0 ≤ a → H0.get? a = none := fun a ha => get_none_of_le (Nat.le_trans C.lo ha)
  have nok := plain_nd hob.plain.1
  have hL := P.offL B
  obtain ⟨es, n, hda, hum, hmc⟩ := (I.att k hkN).there
  have hmda := I.mem_da hkN
  have hik : i < k := by have := C.ok.refs k _ hst; cases ng <;> exact this
  have hiN : i < Γ.N := Nat.lt_trans hik hkN
  obtain ⟨sti, hsti⟩ : ∃ sti, Γ.plan[i]? = some sti := ⟨_, List.getElem?_eq_getElem hiN⟩
  obtain ⟨hli, oi, hoi, hobi⟩ := I.ex i _ hsti
  obtain ⟨pi1, pi2, pi3⟩ := hobi.plain
  have ci1 := notCls_plain pi1
  have cfi := clsF w sti
  have noi := plain_nd pi1
  obtain ⟨esi, nni, hdai, _, hmci⟩ := (I.att i hiN).there
  have hmdai := I.mem_da hiN
  have hob' : ∃ mt mn it nm tn, nm.length ≤ 10 ∧ ok = { cls := .ref 458, dict := some (Γ.da k), data := .plain, slots := #[some (.bool ng), some (.ref mt), some (.ref it), some (.str nm tn)] } ∧ Γ.lo0 ≤ mt ∧ (Vw (L :: hid) s.heap).get? mt = some (tupOf [.ref (Γ.ea i)] mn) := by
    cases ng <;> exact hob
  obtain ⟨mt, mn, it, nm, tn, hnm, e0, hlm, hmt⟩ := hob'
  have vok := hok
  replace hok := Cfg.vget hok
  replace hda := Cfg.vget hda
  replace hmt := Cfg.vget hmt
  replace hoi := Cfg.vget hoi
  replace hdai := Cfg.vget hdai
  have hE : Γ.E k pos = if ng then (if 0 ≤ Γ.E i pos then -1 else (pos : Int)) else (if 0 ≤ Γ.E i pos then (pos : Int) else -1) := by
    have := C.ok.eq k _ pos hst hpos
    cases ng <;> exact this
  obtain ⟨tl, hvh, hN, Cv, ev, htl⟩ := focus [] F
  have cell : ∀ a o, s.heap.get? a = some o → (∀ es n, o.data ≠ .dict es n) → Γ.lo0 ≤ a → h₁.get? a = some o ∧ a ≠ L ∧ g.get? a = none := fun a o e nd l => ⟨K1 _ _ e, Fr.neL F (K1 _ _ e) nd, hgn _ (lo0 _ l) (M.notFr e nd)⟩
  have celld : ∀ a o, s.heap.get? a = some o → a ∈ dictAddrs Γ ecs → h₁.get? a = some o ∧ a ≠ L ∧ g.get? a = none := fun a o e hm => ⟨K1 _ _ e, fun q => hL (q ▸ hm), hgn _ (lo0 _ (I.dl _ hm)) (hfr _ hm)⟩
  have N := hN [(Γ.ea k, ok), (Γ.da k, dictOf es n), (mt, tupOf [.ref (Γ.ea i)] mn), (Γ.ea i, oi), (Γ.da i, dictOf esi nni)] (List.forall_mem_cons.mpr ⟨cell _ _ hok nok hlk, List.forall_mem_cons.mpr ⟨celld _ _ hda hmda, List.forall_mem_cons.mpr ⟨cell _ _ hmt (fun _ _ e => by cases e) hlm, List.forall_mem_cons.mpr ⟨cell _ _ hoi noi hli, List.forall_mem_cons.mpr ⟨celld _ _ hdai hmdai, List.forall_mem_nil _⟩⟩⟩⟩⟩)
  simp only [List.cons_append, List.nil_append] at N
  subst e0
  clear hN
  k_steps
  (with_reducible rename Fr _ _ _ _ => F9)
  (with_reducible rename News _ _ _ _ => N9)
  show wpAny _ _ _ _ _ _
  have S9 := Cv.now F9 N9 (fun q hq => by repeat (first | assumption | refine List.Mem.tail _ ?_))
  have kp : ∀ b o, h₁.get? b = some o → b ≠ L → _ := fun b o e n1 => S9 b o (ev ▸ hideAll_get _ e (by simpa using n1))
  have P9 := P.step B (fun b o e n _ => kp b o e n)
  refine um_call B P9 F9 MG hgn C.lo hfr hfo rfl hik hpos hdp hun (IH i _ hik hsti) hfh (fun _ h => nomatch h) ?_
  intro v h2 tk2 reg2 ecs2 P2 F2 res2 kv2 kd2 sz2
  have ok2 := P2.ndAt B vok nok
  have Fd2 := frDat F2
  have hL2 := P2.offL B
  have nfr2 := P2.nfr (dp := dp) (un := un) F2 MG hfr
  obtain ⟨es2, n2, hda2, _, _⟩ := (P2.inv.att k hkN).there
  have hmda2 := P2.inv.mem_da hkN
  replace hda2 := Cfg.vget hda2
  obtain ⟨tl2, hvh2, hN2, Cv2, ev2, htl2⟩ := focus [] F2
  have N2 := hN2 [(Γ.ea k, _), (Γ.da k, dictOf es2 n2)] (List.forall_mem_cons.mpr ⟨⟨ok2, Fr.neL F2 ok2 nok, hgn _ (lo0 _ hlk) (M.notFr hok nok)⟩, List.forall_mem_cons.mpr ⟨⟨hda2, fun q => hL2 (q ▸ hmda2), hgn _ (lo0 _ (P2.inv.dl _ hmda2)) (nfr2 _ hmda2)⟩, List.forall_mem_nil _⟩⟩)
  simp only [List.cons_append, List.nil_append] at N2
  clear hN2 F9 N9
  cases ng with
  | false =>
    rcases res2 with ⟨hEi, rfl⟩ | ⟨hEi, r, rfl, rep⟩
    · k_steps
      (with_reducible rename Fr _ _ _ _ => F9)
      (with_reducible rename News _ _ _ _ => N9)
      have S10 := Cv2.now F9 N9 (fun q hq => by repeat (first | assumption | refine List.Mem.tail _ ?_))
      have kp10 : ∀ b o, h2.get? b = some o → b ≠ L → _ := fun b o e n1 => S10 b o (ev2 ▸ hideAll_get _ e (by simpa using n1))
      have P10 := P2.step B (fun b o e n _ => kp10 b o e n)
      have lL := F9.ns.lt
      exact hq _ _ _ reg2 ecs2 P10 lL (.inl ⟨by rw [hE]; simp; omega, rfl⟩)
    · have hE' : Γ.E k pos = (pos : Int) := by rw [hE]; simp; omega
      k_steps
      (with_reducible rename Fr _ _ _ _ => F9)
      (with_reducible rename News _ _ _ _ => N9)
      have S10 := Cv2.now F9 N9 (fun q hq => by repeat (first | assumption | refine List.Mem.tail _ ?_))
      have kp10 : ∀ b o, h2.get? b = some o → b ≠ L → _ := fun b o e n1 => S10 b o (ev2 ▸ hideAll_get _ e (by simpa using n1))
      have P10 := P2.step B (fun b o e n _ => kp10 b o e n)
      have lL := F9.ns.lt
      show wpAny _ _ _ _ _ _
      refine node_none (dp := dp + 1) (fr := _ :: fr) C.O (MG.push F9 rfl) (by omega) node_b4 ?_
      intro x3 d3 c3 n3 h3 tk3 st3 lx ld lc hx3 hc3 hd3
      have P3 := P10.step B (fun a o e _ _ => st3 a o e)
      refine hq _ h3 tk3 reg2 ecs2 P3 (Nat.lt_of_lt_of_le lL (size_le lx hx3)) (res_leaf B hE' (by rw [hE']; omega) (Nat.lt_of_lt_of_le lL lx) (Nat.lt_of_lt_of_le lL lc) (Nat.lt_of_lt_of_le lL ld) hx3 hc3 hd3 (by unfold Cfg.due; rw [hst]; rfl))
  | true =>
    rcases res2 with ⟨hEi, rfl⟩ | ⟨hEi, r, rfl, rep⟩
    · have hE' : Γ.E k pos = (pos : Int) := by rw [hE]; simp; omega
      k_steps
      (with_reducible rename Fr _ _ _ _ => F9)
      (with_reducible rename News _ _ _ _ => N9)
      have S10 := Cv2.now F9 N9 (fun q hq => by repeat (first | assumption | refine List.Mem.tail _ ?_))
      have kp10 : ∀ b o, h2.get? b = some o → b ≠ L → _ := fun b o e n1 => S10 b o (ev2 ▸ hideAll_get _ e (by simpa using n1))
      have P10 := P2.step B (fun b o e n _ => kp10 b o e n)
      have lL := F9.ns.lt
      show wpAny _ _ _ _ _ _
      refine node_none (dp := dp + 1) (fr := _ :: fr) C.O (MG.push F9 rfl) (by omega) node_b4 ?_
      intro x3 d3 c3 n3 h3 tk3 st3 lx ld lc hx3 hc3 hd3
      have P3 := P10.step B (fun a o e _ _ => st3 a o e)
      refine hq _ h3 tk3 reg2 ecs2 P3 (Nat.lt_of_lt_of_le lL (size_le lx hx3)) (res_leaf B hE' (by rw [hE']; omega) (Nat.lt_of_lt_of_le lL lx) (Nat.lt_of_lt_of_le lL lc) (Nat.lt_of_lt_of_le lL ld) hx3 hc3 hd3 (by unfold Cfg.due; rw [hst]; rfl))
    · k_steps
      (with_reducible rename Fr _ _ _ _ => F9)
      (with_reducible rename News _ _ _ _ => N9)
      have S10 := Cv2.now F9 N9 (fun q hq => by repeat (first | assumption | refine List.Mem.tail _ ?_))
      have kp10 : ∀ b o, h2.get? b = some o → b ≠ L → _ := fun b o e n1 => S10 b o (ev2 ▸ hideAll_get _ e (by simpa using n1))
      have P10 := P2.step B (fun b o e n _ => kp10 b o e n)
      have lL := F9.ns.lt
      exact hq _ _ _ reg2 ecs2 P10 lL (.inl ⟨by rw [hE]; simp; omega, rfl⟩)
end Mine
end
section
open PySem PySem.W PyProof.Rows PySem.Calls PySem.Spec Builtin Builtin.ObjectAttr
set_option maxRecDepth 100000
namespace Mine
local macro_rules | `(tactic| walk_at "0") => `(tactic| skip)
local macro_rules | `(tactic| walk_at "0") => `(tactic| skip)
local macro_rules | `(tactic| walk_at "0") => `(tactic| skip)
local macro_rules | `(tactic| walk_at "0") => `(tactic| skip)
local macro_rules | `(tactic| walk_at "0") => `(tactic| skip)
local macro_rules | `(tactic| walk_at "0") => `(tactic| skip)
local macro_rules | `(tactic| walk_at "0") => `(tactic| skip)
local macro_rules | `(tactic| walk_at "0") => `(tactic| skip)
local macro_rules | `(tactic| walk_at "0") => `(tactic| skip)
local macro_rules | `(tactic| walk_at "0") => `(tactic| skip)
local macro_rules | `(tactic| walk_at "0") => `(tactic| skip)
local macro_rules | `(tactic| walk_at "0") => `(tactic| skip)
local macro_rules | `(tactic| walk_at "0") => `(tactic| skip)
local macro_rules | `(tactic| walk_at "0") => `(tactic| skip)
local macro_rules | `(tactic| walk_at "0") => `(tactic| skip)
local macro_rules | `(tactic| walk_at "0") => `(tactic| skip)
local macro_rules | `(tactic| walk_at "0") => `(tactic| skip)
local macro_rules | `(tactic| walk_at "0") => `(tactic| skip)
local macro_rules | `(tactic| walk_at "0") => `(tactic| skip)
local macro_rules | `(tactic| walk_at "0") => `(tactic| skip)
local macro_rules | `(tactic| walk_at "0") => `(tactic| skip)
local macro_rules | `(tactic| walk_at "0") => `(tactic| skip)
local macro_rules | `(tactic| walk_at "0") => `(tactic| skip)
local macro_rules | `(tactic| walk_at "0") => `(tactic| skip)
local macro_rules | `(tactic| walk_at "0") => `(tactic| skip)
local macro_rules | `(tactic| walk_at "0") => `(tactic| skip)
local macro_rules | `(tactic| walk_at "0") => `(tactic| skip)
local macro_rules | `(tactic| walk_at "0") => `(tactic| skip)
local macro_rules | `(tactic| walk_at "0") => `(tactic| skip)
local macro_rules | `(tactic| walk_at "0") => `(tactic| skip)
local macro_rules | `(tactic| walk_at "0") => `(tactic| skip)
local macro_rules | `(tactic| walk_at "0") => `(tactic| skip)
local macro_rules | `(tactic| walk_at "0") => `(tactic| skip)
local macro_rules | `(tactic| walk_at "0") => `(tactic| skip)
local macro_rules | `(tactic| walk_at "0") => `(tactic| skip)
local macro_rules | `(tactic| walk_at "0") => `(tactic| skip)
local macro_rules | `(tactic| walk_at "0") => `(tactic| skip)
local macro_rules | `(tactic| walk_at "0") => `(tactic| skip)
local macro_rules | `(tactic| walk_at "0") => `(tactic| skip)
local macro_rules | `(tactic| walk_at "0") => `(tactic| skip)
theorem rs13 : True := by
  w_top off
  trivial
theorem neOf {h : Heap} {a b : Addr} {o : Obj} (e : h.get? a = some o) (hn : h.get? b = none) : a ≠ b := fun q => by rw [← q, e] at hn; cases hn
theorem IterT.nd {o : Obj} {t : Addr} {i : Nat} (h : IterT o t i) : ∀ es n, o.data ≠ .dict es n := fun es n e => by rw [h.2] at e; cases e
theorem call_kw {prog : Program} {w : World} {A : Around} {E : Value → Shared → Prop} {s : Shared} {Q : Value → Shared → Prop} {f : Value} {args : List Value} {kw kw' : List (Str × Value)} (e : kw = kw') (h : wpAny (model prog w) A (call f args kw') Q E s) : wpAny (model prog w) A (call f args kw) Q E s := e ▸ h
theorem nodeAt {Γ : Cfg} {v : Heap} {r : Addr} {k pos : Nat} (rep : NodeRep Γ v r k pos) : Γ.lo0 ≤ r ∧ ∃ d tk1 tk2 c od, v.get? r = some (nodeObj d (Γ.ea k) Γ.text Γ.tk (pos : Int) tk1 (Γ.E k pos) tk2 c) ∧ Γ.lo0 ≤ d ∧ v.get? d = some od := by
  cases rep with
  | mk ch l1 l2 h1 h2 ld hd _ _ => obtain ⟨od, hd⟩ := hd; exact ⟨l1, _, _, _, _, od, h1, ld, hd⟩
theorem stTrans {h1 h2 h3 : Heap} (a : h1.StaysIn h2) (b : h2.StaysIn h3) : h1.StaysIn h3 := fun c o e => b c o (a c o e)
theorem keepNone {h1 h2 : Heap} {a : Addr} (k : h1.StaysIn h2) (e : h2.get? a = none) : h1.get? a = none := by
  cases q : h1.get? a with
  | none => rfl
  | some o => rw [k _ _ q] at e; cases e

theorem whl_hold {prog : Program} {w : World} {A : Around} {E : Value → Shared → Prop} {s : Shared} {Q : Flow → Shared → Prop} {env : Env} {test : Expr} {body orelse : List Stmt} {pos : Pos} (h : Hold (WhlRest prog w A E env test body orelse Q 0 s)) : wpAny (model prog w) A (exec (.While test body orelse pos) env) Q E s := whl_start 0 h
section
variable {M : Model} {A : Around} {E : Value → Shared → Prop} {s : Shared} {h₀ : Heap} {L : Addr} {m : Str → Option Value} {news : List (Addr × Obj)}
theorem newList_KL {vs : List Value} {Q : Value → Shared → Prop} (F : Fr h₀ L s.heap m) (N : News h₀ L s.heap news)
    (h : ∀ l h', Fr h₀ L h' m → News h₀ L h' ((l, listOf vs.toArray 0) :: news) → (∀ p ∈ news, p.1 < l) → L < l → Q (.ref l) { s with heap := h' }) (hsz : vs.length ≤ sizeLine := by size_fits) : wpAny M A (newList vs) Q E s :=
  newList_N F N (fun h' F' N' => h _ h' F' N' (fun p hp => Heap.lt_size (N p hp).1) F.ns.lt) hsz
end
theorem freshOf {g h hv h2 : Heap} {L a : Addr} {o : Obj} {tl news : List (Addr × Obj)} (C : Cov g tl hv) (ev : hv = hideAll h [L]) (N : News g L h2 ((a, o) :: news)) (ht : ∀ q ∈ tl, q.1 < a) : h.get? a = none := by
  cases q : h.get? a with
  | none => rfl
  | some o' =>
    obtain ⟨_, n1, n2⟩ := N _ (.head _)
    have e : hv.get? a = some o' := ev ▸ hideAll_get _ q (by simpa using n1)
    rcases C a o' e with e1 | e1
    · rw [n2] at e1; cases e1
    · exact absurd (ht _ e1) (Nat.lt_irrefl _)
theorem call_args {prog : Program} {w : World} {A : Around} {E : Value → Shared → Prop} {s : Shared} {Q : Value → Shared → Prop} {f : Value} {args args' : List Value} {kw : List (Str × Value)} (e : args = args') (h : wpAny (model prog w) A (call f args' kw) Q E s) : wpAny (model prog w) A (call f args kw) Q E s := e ▸ h
end Mine
end
section
open PySem PySem.W PyProof.Rows PySem.Calls PySem.Spec Builtin Builtin.ObjectAttr
set_option maxRecDepth 100000
set_option maxHeartbeats 8000000
namespace Mine
theorem rs14 : True := by
  w_top off
  trivial
local macro_rules | `(tactic| k_room) => `(tactic| ktr_room)
local macro_rules | `(tactic| k_all) => `(tactic| first | assumption | (intro q9 hq9; (try dsimp only); first | exact allLt_ne (by assumption) (by omega) q9 hq9 | exact lt_ne (by assumption) (by omega) q9 hq9))
local macro_rules | `(tactic| k_inst) => `(tactic| (refine' instOf ?N ?h1 ?h2 ?e1 ?e2 ?e3; (case N => k_asm); (case h1 => k_mem); (case e1 => first | assumption | exact rfl); (case e2 => first | assumption | exact rfl); (case h2 => k_mem); (case e3 => first | assumption | exact rfl)))
local macro_rules | `(tactic| walk_at "call ref") => `(tactic| (k_here; (with_reducible show wpAny _ _ (call (Value.ref 212) _ _) _ _ _); refine hold_of ?_))
local macro_rules | `(tactic| walk_at "call ref") => `(tactic| (k_here; (with_reducible show wpAny _ _ (call (Value.ref 266) _ _) _ _ _); refine hold_of ?_))
local macro_rules | `(tactic| walk_at "getMethod ref") => `(tactic| (k_here; (with_reducible show wpAny _ _ (getMethod (Value.ref _) (PySem.Str.ofString "match_core") _) _ _ _); k_dflt (refine' kmc ?k1 ?k2 ?k3 ?k4 ?k5 ?_; (case k1 => k_asm); (case k2 => k_asm); (case k3 => k_inst); (case k4 => assumption); (case k5 => assumption); k_whole)))

local macro_rules | `(tactic| walk_at "newList") => `(tactic| (k_here; k_dflt (refine' newList_KL ?k1 ?k2 ?_; (case k1 => k_asm); (case k2 => k_asm); k_whole); intro l' h' F' N' l1 lL; (try k_lt l1); (try k_sweep)))
variable {w : World} {p : Program} {loose : List Str} {mean : ExcName → Option Value} {mg mb : Str → Option Value} {H0 : Heap} {Γ : Cfg}
theorem um_either {k i j : Nat} (C : Cx w p loose mean mg mb H0 Γ) (hst : Γ.plan[k]? = some (.either i j)) (IH : ∀ j st, j < k → Γ.plan[j]? = some st → CallOk w H0 Γ (j + 1) j 266) : CallOk w H0 Γ k k 410 := by
  intro hid dp un gd fr s pos tp reg ecs Q E M I S hhid hfh hfr hfo hpos hdp hun hq
  refine wpAny_call ?_
  refine' enterF C.O M ?ho ?hcd ?hr ?hb ?hl ?_ ?c1 ?c2 ?c3 ?c4
  case ho => k_is
  case hcd => k_is
  case hr => omega
  case hb => exact BindsTo.of_eq rfl
  case hl => exact locs rfl
  case c1 => exact rfl
  case c2 => exact rfl
  case c3 => exact rfl
  case c4 => decide
  intro g L h₁ eL F K1 MG hgn Bw X T
  have hLn : s.heap.get? L = none := get_none_of_le (Nat.le_of_eq eL.symm)
  replace I := I.stay (Heap.StaysIn.nd (vw_cons hLn)) (fun a _ o e => vw_cons hLn a o e)
  replace S := S.sub (vw_cons hLn)
  replace hfh : ∀ a ∈ frs fr, a ∈ L :: hid := fun a ha => .tail _ (hfh a ha)
  replace hq : ∀ v h' tk' reg' ecs', Post w Γ (L :: hid) k L s.heap reg ecs [] h' reg' ecs' → L < h'.objs.size → Res Γ (Vw (L :: hid) h') k pos v → Q v { s with heap := h', toks := tk' } := fun v h' tk' reg' ecs' P' sz' res' =>
    hq v h' tk' reg' ecs' (P'.inv.stay (Heap.StaysIn.nd vw_one) (fun a _ o e => vw_one a o e)) P'.ext (fun a ha => (P'.fresh a ha).imp id fun q => eL ▸ Nat.le_of_lt q) (eL ▸ Nat.le_of_lt sz') P'.keep (res'.keep (Heap.StaysIn.nd vw_one))
  have B : Base w Γ (L :: hid) k L s.heap reg ecs := ⟨I, S, fun a ha => (List.mem_cons.mp ha).elim (fun q => Nat.le_of_eq q) fun q => Nat.le_of_lt (eL ▸ hhid a q), .head _, eL⟩
  have P := Post.start B K1
  have Fd := frDat F
  obtain ⟨hlk, ok, vok, hob⟩ := I.ex k _ hst
  have hok := Cfg.vget vok
  have hkN : k < Γ.N := (List.getElem?_eq_some_iff.mp hst).1
  have lo0 : ∀ a, Γ.lo0 ≤ a → H0.get? a = none := fun a ha => get_none_of_le (Nat.le_trans C.lo ha)
  have nok := plain_nd hob.plain.1
  have hL := P.offL B
  obtain ⟨es, n, hda, hum, hmc⟩ := (I.att k hkN).there
  replace hda := Cfg.vget hda
  have hmda := I.mem_da hkN
  have hik : i < k := (C.ok.refs k _ hst).1
  have hiN : i < Γ.N := Nat.lt_trans hik hkN
  obtain ⟨sti, hsti⟩ : ∃ st, Γ.plan[i]? = some st := ⟨_, List.getElem?_eq_getElem hiN⟩
  obtain ⟨hli, oi, voi, hobi⟩ := I.ex i _ hsti
  have hoi := Cfg.vget voi
  obtain ⟨pi1, pi2, pi3⟩ := hobi.plain
  have ci1 := notCls_plain pi1
  have cfi := clsF w sti
  have noi := plain_nd pi1
  obtain ⟨esi, ni, hdai, _, hmci⟩ := (I.att i hiN).there
  replace hdai := Cfg.vget hdai
  have hmdai := I.mem_da hiN
  have hjk : j < k := (C.ok.refs k _ hst).2
  have hjN : j < Γ.N := Nat.lt_trans hjk hkN
  obtain ⟨stj, hstj⟩ : ∃ st, Γ.plan[j]? = some st := ⟨_, List.getElem?_eq_getElem hjN⟩
  obtain ⟨hlj, oj, voj, hobj⟩ := I.ex j _ hstj
  have hoj := Cfg.vget voj
  obtain ⟨pj1, pj2, pj3⟩ := hobj.plain
  have cj1 := notCls_plain pj1
  have cfj := clsF w stj
  have noj := plain_nd pj1
  obtain ⟨esj, nj, hdaj, _, hmcj⟩ := (I.att j hjN).there
  replace hdaj := Cfg.vget hdaj
  have hmdaj := I.mem_da hjN
  obtain ⟨mt, mn, it, nm, tn, hnm, e0, hlm, vmt⟩ := hob
  have hmt := Cfg.vget vmt
  have nmt : ∀ es n, (tupOf [.ref (Γ.ea i), .ref (Γ.ea j)] mn).data ≠ .dict es n := fun _ _ e => by cases e
  have hE : Γ.E k pos = if 0 ≤ Γ.E i pos then Γ.E i pos else Γ.E j pos := C.ok.eq k _ pos hst hpos
  have hdue : Γ.due k pos = [(if 0 ≤ Γ.E i pos then i else j, pos)] := by unfold Cfg.due; rw [hst]; rfl
  obtain ⟨tl, hvh, hN, Cv, ev, htl⟩ := focus [] F
  have cell : ∀ a o, s.heap.get? a = some o → (∀ es n, o.data ≠ .dict es n) → Γ.lo0 ≤ a → h₁.get? a = some o ∧ a ≠ L ∧ g.get? a = none := fun a o e nd l => ⟨K1 _ _ e, Fr.neL F (K1 _ _ e) nd, hgn _ (lo0 _ l) (M.notFr e nd)⟩
  have celld : ∀ a o, s.heap.get? a = some o → a ∈ dictAddrs Γ ecs → h₁.get? a = some o ∧ a ≠ L ∧ g.get? a = none := fun a o e hm => ⟨K1 _ _ e, fun q => hL (q ▸ hm), hgn _ (lo0 _ (I.dl _ hm)) (hfr _ hm)⟩
  have N := hN [(Γ.ea k, ok), (Γ.da k, dictOf es n), (mt, tupOf [.ref (Γ.ea i), .ref (Γ.ea j)] mn), (Γ.ea i, oi), (Γ.da i, dictOf esi ni)] (List.forall_mem_cons.mpr ⟨cell _ _ hok nok hlk, List.forall_mem_cons.mpr ⟨celld _ _ hda hmda, List.forall_mem_cons.mpr ⟨cell _ _ hmt nmt hlm, List.forall_mem_cons.mpr ⟨cell _ _ hoi noi hli, List.forall_mem_cons.mpr ⟨celld _ _ hdai hmdai, List.forall_mem_nil _⟩⟩⟩⟩⟩)
  simp only [List.cons_append, List.nil_append] at N
  subst e0
  clear hN
  refine wpAny_execs_cons (for_hold ?_)
  k_steps
  (with_reducible rename Fr _ _ _ _ => F9)
  (with_reducible rename News _ _ _ _ => N9)
  show wpAny _ _ _ _ _ _
  have S9 := Cv.now F9 N9 (fun q hq => by repeat (first | assumption | refine List.Mem.tail _ ?_))
  have kpA : ∀ b o, h₁.get? b = some o → b ≠ L → _ := fun b o e n1 => S9 b o (ev ▸ hideAll_get _ e (by simpa using n1))
  refine kfor_iter F9 N9 (vs := [.ref (Γ.ea i), .ref (Γ.ea j)]) (by k_mem) rfl rfl fun h2 I2 oI2 hI2 lt2 LI2 eI2 kp2 F2 N2 => ?_
  have hn : h₁.get? I2 = none := by
    cases q : h₁.get? I2 with
    | none => rfl
    | some o => exact absurd (Heap.lt_size (kpA _ _ q (fun e => absurd LI2 (e ▸ Nat.lt_irrefl _)))) (eI2 ▸ Nat.lt_irrefl _)
  clear F9 N9
  refine kfor_item F2 N2 hI2 (fun q hq => Nat.ne_of_lt (lt2 q hq)) (vs := [.ref (Γ.ea i), .ref (Γ.ea j)]) (by k_mem) rfl rfl (v := .ref (Γ.ea i)) rfl fun h3 oI3 hI3 F3 N3 => ?_
  clear F2 N2 lt2
  show wpAny _ _ _ _ _ _
  k_steps
  (with_reducible rename Fr _ _ _ _ => F9)
  (with_reducible rename News _ _ _ _ => N9)
  show wpAny _ _ _ _ _ _
  have S8 := Cv.now F9 N9 (fun q hq => by repeat (first | assumption | refine List.Mem.tail _ ?_))
  have kpC : ∀ b o, h₁.get? b = some o → b ≠ L → _ := fun b o e n1 => S8 b o (ev ▸ hideAll_get _ e (by simpa using n1))
  have PC := (P.hide hn LI2).step B (fun b o e n _ => kpC b o e n)
  have hI9 := N9.get (.head _)
  have gI := (N9 _ (.head _)).2.2
  refine um_call B PC F9 MG hgn C.lo hfr hfo rfl hik hpos hdp hun (IH i _ hik hsti) hfh (fun a ha => (List.mem_singleton.mp ha) ▸ Heap.lt_size hI9) ?_
  intro v h5 tk5 reg5 ecs5 P5 F5 res5 kv5 kd5 sz5
  have hI5 := kd5 _ _ hI9 hI3.nd
  have gk := (cell _ _ hok nok hlk).2.2
  have gmt := (cell _ _ hmt nmt hlm).2.2
  have gj := (cell _ _ hoj noj hlj).2.2
  have q1 := neN (neOf (K1 _ _ hok) hn)
  have q2 := neN (neOf (K1 _ _ hda) hn)
  have q3 := neN (neOf (K1 _ _ hmt) hn)
  have q4 := neN (neOf (K1 _ _ hoj) hn)
  have q5 := neN (neOf (K1 _ _ hdaj) hn)
  have hL5 := P5.offL B
  have nfr5 := P5.nfr (dp := dp) (un := un) F5 MG hfr
  have ok5 := P5.ndAt B vok nok
  have hmt5 := P5.ndAt B vmt nmt
  obtain ⟨es5, n5, hda5, _, _⟩ := (P5.inv.att k hkN).there
  replace hda5 := Cfg.vget hda5
  have hmda5 := P5.inv.mem_da hkN
  have cell5 : ∀ a o, h5.get? a = some o → (∀ es n, o.data ≠ .dict es n) → g.get? a = none → h5.get? a = some o ∧ a ≠ L ∧ g.get? a = none := fun a o e nd l => ⟨e, Fr.neL F5 e nd, l⟩
  have celld5 : ∀ a o, h5.get? a = some o → a ∈ dictAddrs Γ ecs5 → h5.get? a = some o ∧ a ≠ L ∧ g.get? a = none := fun a o e hm => ⟨e, fun q => hL5 (q ▸ hm), hgn _ (lo0 _ (P5.inv.dl _ hm)) (nfr5 _ hm)⟩
  obtain ⟨esj5, nj5, hdaj5, _, hmcj5⟩ := (P5.inv.att j hjN).there
  replace hdaj5 := Cfg.vget hdaj5
  have hmdaj5 := P5.inv.mem_da hjN
  have hoj5 := P5.ndAt B voj noj
  obtain ⟨tl5, hvh5, hN5, Cv5, ev5, htl5⟩ := focus [I2] F5
  have td5 : ∀ q ∈ tl5, q.1 ≠ I2 := fun q hq => htl5 q hq _ (.head _)
  rcases res5 with ⟨hEi, rfl⟩ | ⟨hEi, r, rfl, rep⟩
  · have N5 := hN5 [(I2, oI3), (Γ.ea k, _), (Γ.da k, dictOf es5 n5), (mt, tupOf [.ref (Γ.ea i), .ref (Γ.ea j)] mn), (Γ.ea j, oj), (Γ.da j, dictOf esj5 nj5)] (List.forall_mem_cons.mpr ⟨cell5 _ _ hI5 hI3.nd gI, List.forall_mem_cons.mpr ⟨cell5 _ _ ok5 nok gk, List.forall_mem_cons.mpr ⟨celld5 _ _ hda5 hmda5, List.forall_mem_cons.mpr ⟨cell5 _ _ hmt5 nmt gmt, List.forall_mem_cons.mpr ⟨cell5 _ _ hoj5 noj gj, List.forall_mem_cons.mpr ⟨celld5 _ _ hdaj5 hmdaj5, List.forall_mem_nil _⟩⟩⟩⟩⟩⟩)
    simp only [List.cons_append, List.nil_append] at N5
    clear hN5 F9 N9
    k_steps
    (with_reducible rename Fr _ _ _ _ => F9)
    (with_reducible rename News _ _ _ _ => N9)
    dsimp only
    refine' kfor_item F9 N9 hI3 ?ne (vs := [.ref (Γ.ea i), .ref (Γ.ea j)]) (by k_mem) rfl rfl (v := .ref (Γ.ea j)) rfl fun h6 oI6 hI6 F6 N6 => ?_
    case ne => exact List.forall_mem_cons.mpr ⟨q1, List.forall_mem_cons.mpr ⟨q2, List.forall_mem_cons.mpr ⟨q3, List.forall_mem_cons.mpr ⟨q4, List.forall_mem_cons.mpr ⟨q5, td5⟩⟩⟩⟩⟩
    clear F9 N9
    show wpAny _ _ _ _ _ _
    k_steps
    (with_reducible rename Fr _ _ _ _ => F9)
    (with_reducible rename News _ _ _ _ => N9)
    show wpAny _ _ _ _ _ _
    have S6 := Cv5.now F9 N9 (fun q hq => by repeat (first | assumption | refine List.Mem.tail _ ?_))
    have kp6 : ∀ b o, h5.get? b = some o → b ≠ L → b ≠ I2 → _ := fun b o e n1 n2 => S6 b o (ev5 ▸ hideAll_get _ e (by simp [n1, n2]))
    have P6 := P5.step B (fun b o e n n' => kp6 b o e n (fun q => n' (q ▸ .head _)))
    have hI6' := N9.get (.head _)
    refine um_call B P6 F9 MG hgn C.lo hfr hfo rfl hjk hpos hdp hun (IH j _ hjk hstj) hfh (fun a ha => (List.mem_singleton.mp ha) ▸ Heap.lt_size hI6') ?_
    intro v h7 tk7 reg7 ecs7 P7 F7 res7 kv7 kd7 sz7
    have hI7 := kd7 _ _ hI6' hI6.nd
    have hL7 := P7.offL B
    have nfr7 := P7.nfr (dp := dp) (un := un) F7 MG hfr
    have ok7 := P7.ndAt B vok nok
    have hmt7 := P7.ndAt B vmt nmt
    obtain ⟨es7, n7, hda7, _, _⟩ := (P7.inv.att k hkN).there
    replace hda7 := Cfg.vget hda7
    have hmda7 := P7.inv.mem_da hkN
    have cell7 : ∀ a o, h7.get? a = some o → (∀ es n, o.data ≠ .dict es n) → g.get? a = none → h7.get? a = some o ∧ a ≠ L ∧ g.get? a = none := fun a o e nd l => ⟨e, Fr.neL F7 e nd, l⟩
    have celld7 : ∀ a o, h7.get? a = some o → a ∈ dictAddrs Γ ecs7 → h7.get? a = some o ∧ a ≠ L ∧ g.get? a = none := fun a o e hm => ⟨e, fun q => hL7 (q ▸ hm), hgn _ (lo0 _ (P7.inv.dl _ hm)) (nfr7 _ hm)⟩
    obtain ⟨tl7, hvh7, hN7, Cv7, ev7, htl7⟩ := focus [I2] F7
    have td7 : ∀ q ∈ tl7, q.1 ≠ I2 := fun q hq => htl7 q hq _ (.head _)
    rcases res7 with ⟨hEj, rfl⟩ | ⟨hEj, r, rfl, rep⟩
    · have N7 := hN7 [(I2, oI6), (Γ.ea k, _), (Γ.da k, dictOf es7 n7), (mt, tupOf [.ref (Γ.ea i), .ref (Γ.ea j)] mn)] (List.forall_mem_cons.mpr ⟨cell7 _ _ hI7 hI6.nd gI, List.forall_mem_cons.mpr ⟨cell7 _ _ ok7 nok gk, List.forall_mem_cons.mpr ⟨celld7 _ _ hda7 hmda7, List.forall_mem_cons.mpr ⟨cell7 _ _ hmt7 nmt gmt, List.forall_mem_nil _⟩⟩⟩⟩)
      simp only [List.cons_append, List.nil_append] at N7
      clear hN7 F9 N9
      k_steps
      (with_reducible rename Fr _ _ _ _ => F9)
      (with_reducible rename News _ _ _ _ => N9)
      dsimp only
      refine' kfor_end rfl F9 N9 hI6 ?ne (vs := [.ref (Γ.ea i), .ref (Γ.ea j)]) (by k_mem) rfl rfl rfl fun h8 F8 N8 => ?_
      case ne => exact List.forall_mem_cons.mpr ⟨q1, List.forall_mem_cons.mpr ⟨q2, List.forall_mem_cons.mpr ⟨q3, td7⟩⟩⟩
      clear F9 N9
      show wpAny _ _ _ _ _ _
      k_steps
      (with_reducible rename Fr _ _ _ _ => F9)
      (with_reducible rename News _ _ _ _ => N9)
      have S8 := Cv7.now F9 N9 (fun q hq => by repeat (first | assumption | refine List.Mem.tail _ ?_))
      have kp8 : ∀ b o, h7.get? b = some o → b ≠ L → b ≠ I2 → _ := fun b o e n1 n2 => S8 b o (ev7 ▸ hideAll_get _ e (by simp [n1, n2]))
      have P8 := (P7.step B (fun b o e n n' => kp8 b o e n (fun q => n' (q ▸ .head _)))).reveal
      dsimp only
      exact hq _ _ _ reg7 ecs7 P8 F9.ns.lt (.inl ⟨by rw [hE, if_neg (by omega)]; exact hEj, rfl⟩)
    · obtain ⟨lor, dr, tk1, tk2, cr, odr, vr, ldr, vdr⟩ := nodeAt rep
      have hr := Cfg.vget vr
      have hdr := Cfg.vget vdr
      have cr1 : h7.get? r = some _ ∧ r ≠ L ∧ g.get? r = none := ⟨hr, fun q => Cfg.vnot vr (List.mem_append_right _ (q ▸ B.Lh)), hgn _ (lo0 _ lor) fun hm => Cfg.vnot vr (List.mem_append_right _ (hfh _ hm))⟩
      have cr2 : h7.get? dr = some _ ∧ dr ≠ L ∧ g.get? dr = none := ⟨hdr, fun q => Cfg.vnot vdr (List.mem_append_right _ (q ▸ B.Lh)), hgn _ (lo0 _ ldr) fun hm => Cfg.vnot vdr (List.mem_append_right _ (hfh _ hm))⟩
      have N7 := hN7 [(I2, oI6), (Γ.ea k, _), (Γ.da k, dictOf es7 n7), (r, _), (dr, odr)] (List.forall_mem_cons.mpr ⟨cell7 _ _ hI7 hI6.nd gI, List.forall_mem_cons.mpr ⟨cell7 _ _ ok7 nok gk, List.forall_mem_cons.mpr ⟨celld7 _ _ hda7 hmda7, List.forall_mem_cons.mpr ⟨cr1, List.forall_mem_cons.mpr ⟨cr2, List.forall_mem_nil _⟩⟩⟩⟩⟩)
      simp only [List.cons_append, List.nil_append] at N7
      clear hN7 F9 N9 cr1 cr2
      have LI3 := ltN LI2
      k_steps
      (with_reducible rename Fr _ _ _ _ => F9)
      (with_reducible rename News _ _ _ _ => N9)
      show wpAny _ _ _ _ _ _
      have S9 := Cv7.now F9 N9 (fun q hq => by repeat (first | assumption | refine List.Mem.tail _ ?_))
      have kp9 : ∀ b o, h7.get? b = some o → b ≠ L → b ∉ [I2] → _ := fun b o e n1 n2 => S9 b o (ev7 ▸ hideAll_get _ e (by simp only [List.mem_singleton] at n2; simp [n1, n2]))
      have P9 := P7.step B kp9
      have st := P7.stays B kp9
      have hE' : Γ.E k pos = Γ.E j pos := by rw [hE, if_neg (by omega)]
      (with_reducible rename (@LT.lt Addr _ L _) => Lch)
      have lL := F9.ns.lt
      refine' call_kw (kw' := [("children", Value.ref _)]) ?e ?_
      case e => with_unfolding_all rfl
      have hch9 := N9.get (.head _)
      have gch9 := keepNone MG.keep (N9 _ (.head _)).2.2
      refine' node_list (dp := dp + 1) (fr := _ :: fr) (v := .ref r) (r := []) (n := 0) (ex := Γ.ea k) (t := Γ.text) (tk := Γ.tk) (tk1 := tp) (tk2 := tk2) (i := (pos : Int)) (j := Γ.E j pos) C.O (MG.push F9 rfl) ?hd hch9 gch9 ?hn ?hb ?_
      case hd => omega
      case hn => exact Nat.le_of_lt (by show 1 < 1000; decide)
      case hb => exact node_bk
      intro x3 d3 c3 n3 h3 tk3 st3 lx ld lc hx3 hc3 hd3
      subst lc
      have P3 := (P9.step B (fun a o e _ _ => st3 a o e)).reveal
      have rep3 : NodeRep Γ (Vw (L :: hid) h3) r j pos := rep.keep (Heap.StaysIn.nd (stTrans (stTrans st (Cfg.vst st3)) vw_all))
      refine hq _ h3 tk3 reg7 ecs7 P3 (Nat.lt_of_lt_of_le lL (size_le lx hx3)) (res_node (ch := [r]) B hE' (by rw [hE']; exact hEj) (Nat.lt_of_lt_of_le lL lx) Lch (Nat.lt_of_lt_of_le lL ld) hx3 hc3 hd3 (by rw [hdue]; rfl) fun i' q a e1 e2 => ?_)
      rw [hdue, if_neg (by omega)] at e1
      cases i' with
      | zero => cases e1; cases e2; exact rep3
      | succ i' => simp at e1
  · obtain ⟨lor, dr, tk1, tk2, cr, odr, vr, ldr, vdr⟩ := nodeAt rep
    have hr := Cfg.vget vr
    have hdr := Cfg.vget vdr
    have cr1 : h5.get? r = some _ ∧ r ≠ L ∧ g.get? r = none := ⟨hr, fun q => Cfg.vnot vr (List.mem_append_right _ (q ▸ B.Lh)), hgn _ (lo0 _ lor) fun hm => Cfg.vnot vr (List.mem_append_right _ (hfh _ hm))⟩
    have cr2 : h5.get? dr = some _ ∧ dr ≠ L ∧ g.get? dr = none := ⟨hdr, fun q => Cfg.vnot vdr (List.mem_append_right _ (q ▸ B.Lh)), hgn _ (lo0 _ ldr) fun hm => Cfg.vnot vdr (List.mem_append_right _ (hfh _ hm))⟩
    have N5 := hN5 [(I2, oI3), (Γ.ea k, _), (Γ.da k, dictOf es5 n5), (r, _), (dr, odr)] (List.forall_mem_cons.mpr ⟨cell5 _ _ hI5 hI3.nd gI, List.forall_mem_cons.mpr ⟨cell5 _ _ ok5 nok gk, List.forall_mem_cons.mpr ⟨celld5 _ _ hda5 hmda5, List.forall_mem_cons.mpr ⟨cr1, List.forall_mem_cons.mpr ⟨cr2, List.forall_mem_nil _⟩⟩⟩⟩⟩)
    simp only [List.cons_append, List.nil_append] at N5
    clear hN5 F9 N9 cr1 cr2
    have LI3 := ltN LI2
    k_steps
    (with_reducible rename Fr _ _ _ _ => F9)
    (with_reducible rename News _ _ _ _ => N9)
    show wpAny _ _ _ _ _ _
    have S9 := Cv5.now F9 N9 (fun q hq => by repeat (first | assumption | refine List.Mem.tail _ ?_))
    have kp9 : ∀ b o, h5.get? b = some o → b ≠ L → b ∉ [I2] → _ := fun b o e n1 n2 => S9 b o (ev5 ▸ hideAll_get _ e (by simp only [List.mem_singleton] at n2; simp [n1, n2]))
    have P9 := P5.step B kp9
    have st := P5.stays B kp9
    have hE' : Γ.E k pos = Γ.E i pos := by rw [hE, if_pos hEi]
    (with_reducible rename (@LT.lt Addr _ L _) => Lch)
    have lL := F9.ns.lt
    refine' call_kw (kw' := [("children", Value.ref _)]) ?e ?_
    case e => with_unfolding_all rfl
    have hch9 := N9.get (.head _)
    have gch9 := keepNone MG.keep (N9 _ (.head _)).2.2
    refine' node_list (dp := dp + 1) (fr := _ :: fr) (v := .ref r) (r := []) (n := 0) (ex := Γ.ea k) (t := Γ.text) (tk := Γ.tk) (tk1 := tp) (tk2 := tk2) (i := (pos : Int)) (j := Γ.E i pos) C.O (MG.push F9 rfl) ?hd hch9 gch9 ?hn ?hb ?_
    case hd => omega
    case hn => exact Nat.le_of_lt (by show 1 < 1000; decide)
    case hb => exact node_bk
    intro x3 d3 c3 n3 h3 tk3 st3 lx ld lc hx3 hc3 hd3
    subst lc
    have P3 := (P9.step B (fun a o e _ _ => st3 a o e)).reveal
    have rep3 : NodeRep Γ (Vw (L :: hid) h3) r i pos := rep.keep (Heap.StaysIn.nd (stTrans (stTrans st (Cfg.vst st3)) vw_all))
    refine hq _ h3 tk3 reg5 ecs5 P3 (Nat.lt_of_lt_of_le lL (size_le lx hx3)) (res_node (ch := [r]) B hE' (by rw [hE']; exact hEi) (Nat.lt_of_lt_of_le lL lx) Lch (Nat.lt_of_lt_of_le lL ld) hx3 hc3 hd3 (by rw [hdue]; rfl) fun i' q a e1 e2 => ?_)
    rw [hdue, if_pos hEi] at e1
    cases i' with
    | zero => cases e1; cases e2; exact rep3
    | succ i' => simp at e1
end Mine
end
section
open PySem PySem.W PyProof.Rows PySem.Calls PySem.Spec Builtin Builtin.ObjectAttr
set_option maxRecDepth 100000
set_option maxHeartbeats 8000000
namespace Mine
local macro_rules | `(tactic| walk_at "0") => `(tactic| skip)
local macro_rules | `(tactic| walk_at "0") => `(tactic| skip)
local macro_rules | `(tactic| walk_at "0") => `(tactic| skip)
local macro_rules | `(tactic| walk_at "0") => `(tactic| skip)
local macro_rules | `(tactic| walk_at "0") => `(tactic| skip)
local macro_rules | `(tactic| walk_at "0") => `(tactic| skip)
local macro_rules | `(tactic| walk_at "0") => `(tactic| skip)
local macro_rules | `(tactic| walk_at "0") => `(tactic| skip)
local macro_rules | `(tactic| walk_at "0") => `(tactic| skip)
local macro_rules | `(tactic| walk_at "0") => `(tactic| skip)
local macro_rules | `(tactic| walk_at "0") => `(tactic| skip)
local macro_rules | `(tactic| walk_at "0") => `(tactic| skip)
local macro_rules | `(tactic| walk_at "0") => `(tactic| skip)
local macro_rules | `(tactic| walk_at "0") => `(tactic| skip)
local macro_rules | `(tactic| walk_at "0") => `(tactic| skip)
local macro_rules | `(tactic| walk_at "0") => `(tactic| skip)
local macro_rules | `(tactic| walk_at "0") => `(tactic| skip)
local macro_rules | `(tactic| walk_at "0") => `(tactic| skip)
local macro_rules | `(tactic| walk_at "0") => `(tactic| skip)
local macro_rules | `(tactic| walk_at "0") => `(tactic| skip)
local macro_rules | `(tactic| walk_at "0") => `(tactic| skip)
local macro_rules | `(tactic| walk_at "0") => `(tactic| skip)
local macro_rules | `(tactic| walk_at "0") => `(tactic| skip)
local macro_rules | `(tactic| walk_at "0") => `(tactic| skip)
local macro_rules | `(tactic| walk_at "0") => `(tactic| skip)
local macro_rules | `(tactic| walk_at "0") => `(tactic| skip)
local macro_rules | `(tactic| walk_at "0") => `(tactic| skip)
local macro_rules | `(tactic| walk_at "0") => `(tactic| skip)
local macro_rules | `(tactic| walk_at "0") => `(tactic| skip)
local macro_rules | `(tactic| walk_at "0") => `(tactic| skip)
local macro_rules | `(tactic| walk_at "0") => `(tactic| skip)
local macro_rules | `(tactic| walk_at "0") => `(tactic| skip)
local macro_rules | `(tactic| walk_at "0") => `(tactic| skip)
local macro_rules | `(tactic| walk_at "0") => `(tactic| skip)
local macro_rules | `(tactic| walk_at "0") => `(tactic| skip)
local macro_rules | `(tactic| walk_at "0") => `(tactic| skip)
local macro_rules | `(tactic| walk_at "0") => `(tactic| skip)
local macro_rules | `(tactic| walk_at "0") => `(tactic| skip)
local macro_rules | `(tactic| walk_at "0") => `(tactic| skip)
local macro_rules | `(tactic| walk_at "0") => `(tactic| skip)
theorem rs15 : True := by
  w_top off
  trivial
local macro_rules | `(tactic| k_room) => `(tactic| ktr_room)
local macro_rules | `(tactic| k_all) => `(tactic| first | assumption | (intro q9 hq9; (try dsimp only); first | exact allLt_ne (by assumption) (by omega) q9 hq9 | exact lt_ne (by assumption) (by omega) q9 hq9))
local macro_rules | `(tactic| k_inst) => `(tactic| (refine' instOf ?N ?h1 ?h2 ?e1 ?e2 ?e3; (case N => k_asm); (case h1 => k_mem); (case e1 => first | assumption | exact rfl); (case e2 => first | assumption | exact rfl); (case h2 => k_mem); (case e3 => first | assumption | exact rfl)))
local macro_rules | `(tactic| walk_at "call ref") => `(tactic| (k_here; (with_reducible show wpAny _ _ (call (Value.ref 212) _ _) _ _ _); refine hold_of ?_))
local macro_rules | `(tactic| walk_at "call ref") => `(tactic| (k_here; (with_reducible show wpAny _ _ (call (Value.ref 266) _ _) _ _ _); refine hold_of ?_))
local macro_rules | `(tactic| walk_at "getMethod ref") => `(tactic| (k_here; (with_reducible show wpAny _ _ (getMethod (Value.ref _) (PySem.Str.ofString "match_core") _) _ _ _); k_dflt (refine' kmc ?k1 ?k2 ?k3 ?k4 ?k5 ?_; (case k1 => k_asm); (case k2 => k_asm); (case k3 => k_inst); (case k4 => assumption); (case k5 => assumption); k_whole)))
local macro_rules | `(tactic| walk_at "newList") => `(tactic| (k_here; k_dflt (refine' newList_KL ?k1 ?k2 ?_; (case k1 => k_asm); (case k2 => k_asm); k_whole); intro l' h' F' N' l1 lL; (try k_lt l1); (try k_sweep)))
local macro_rules | `(tactic| walk_at "exec For") => `(tactic| (k_here; (with_reducible show wpAny _ _ (exec (Stmt.For _ _ _ _ _) _) _ _ _); k_dflt (refine for_hold ?_)))
local macro_rules | `(tactic| walk_at "exec For Name Attribute cons nil") => `(tactic| (k_here; (with_reducible show wpAny _ _ (exec (Stmt.For _ _ _ _ _) _) _ _ _); k_dflt (refine for_hold ?_)))

variable {w : World} {p : Program} {loose : List Str} {mean : ExcName → Option Value} {mg mb : Str → Option Value} {H0 : Heap} {Γ : Cfg}
theorem um_both {k i j : Nat} (C : Cx w p loose mean mg mb H0 Γ) (hst : Γ.plan[k]? = some (.both i j)) (IH : ∀ j st, j < k → Γ.plan[j]? = some st → CallOk w H0 Γ (j + 1) j 266) : CallOk w H0 Γ k k 384 := by
  intro hid dp un gd fr s pos tp reg ecs Q E M I S hhid hfh hfr hfo hpos hdp hun hq
  refine wpAny_call ?_
  refine' enterF C.O M ?ho ?hcd ?hr ?hb ?hl ?_ ?c1 ?c2 ?c3 ?c4
  case ho => k_is
  case hcd => k_is
  case hr => omega
  case hb => exact BindsTo.of_eq rfl
  case hl => exact locs rfl
  case c1 => exact rfl
  case c2 => exact rfl
  case c3 => exact rfl
  case c4 => decide
  intro g L h₁ eL F K1 MG hgn Bw X T
  have hLn : s.heap.get? L = none := get_none_of_le (Nat.le_of_eq eL.symm)
  replace I := I.stay (Heap.StaysIn.nd (vw_cons hLn)) (fun a _ o e => vw_cons hLn a o e)
  replace S := S.sub (vw_cons hLn)
  replace hfh : ∀ a ∈ frs fr, a ∈ L :: hid := fun a ha => .tail _ (hfh a ha)
  replace hq : ∀ v h' tk' reg' ecs', Post w Γ (L :: hid) k L s.heap reg ecs [] h' reg' ecs' → L < h'.objs.size → Res Γ (Vw (L :: hid) h') k pos v → Q v { s with heap := h', toks := tk' } := fun v h' tk' reg' ecs' P' sz' res' =>
    hq v h' tk' reg' ecs' (P'.inv.stay (Heap.StaysIn.nd vw_one) (fun a _ o e => vw_one a o e)) P'.ext (fun a ha => (P'.fresh a ha).imp id fun q => eL ▸ Nat.le_of_lt q) (eL ▸ Nat.le_of_lt sz') P'.keep (res'.keep (Heap.StaysIn.nd vw_one))
  have B : Base w Γ (L :: hid) k L s.heap reg ecs := ⟨I, S, fun a ha => (List.mem_cons.mp ha).elim (fun q => Nat.le_of_eq q) fun q => Nat.le_of_lt (eL ▸ hhid a q), .head _, eL⟩
  have P := Post.start B K1
  have Fd := frDat F
  obtain ⟨hlk, ok, vok, hob⟩ := I.ex k _ hst
  have hok := Cfg.vget vok
  have hkN : k < Γ.N := (List.getElem?_eq_some_iff.mp hst).1
  have lo0 : ∀ a, Γ.lo0 ≤ a → H0.get? a = none := fun a ha => get_none_of_le (Nat.le_trans C.lo ha)
  have nok := plain_nd hob.plain.1
  have hL := P.offL B
  obtain ⟨es, n, hda, hum, hmc⟩ := (I.att k hkN).there
  replace hda := Cfg.vget hda
  have hmda := I.mem_da hkN
  have hik : i < k := (C.ok.refs k _ hst).1
  have hiN : i < Γ.N := Nat.lt_trans hik hkN
  obtain ⟨sti, hsti⟩ : ∃ st, Γ.plan[i]? = some st := ⟨_, List.getElem?_eq_getElem hiN⟩
  obtain ⟨hli, oi, voi, hobi⟩ := I.ex i _ hsti
  have hoi := Cfg.vget voi
  obtain ⟨pi1, pi2, pi3⟩ := hobi.plain
  have ci1 := notCls_plain pi1
  have cfi := clsF w sti
  have noi := plain_nd pi1
  obtain ⟨esi, ni, hdai, _, hmci⟩ := (I.att i hiN).there
  replace hdai := Cfg.vget hdai
  have hmdai := I.mem_da hiN
  have hjk : j < k := (C.ok.refs k _ hst).2
  have hjN : j < Γ.N := Nat.lt_trans hjk hkN
  obtain ⟨stj, hstj⟩ : ∃ st, Γ.plan[j]? = some st := ⟨_, List.getElem?_eq_getElem hjN⟩
  obtain ⟨hlj, oj, voj, hobj⟩ := I.ex j _ hstj
  have hoj := Cfg.vget voj
  obtain ⟨pj1, pj2, pj3⟩ := hobj.plain
  have cj1 := notCls_plain pj1
  have cfj := clsF w stj
  have noj := plain_nd pj1
  obtain ⟨esj, nj, hdaj, _, hmcj⟩ := (I.att j hjN).there
  replace hdaj := Cfg.vget hdaj
  have hmdaj := I.mem_da hjN
  obtain ⟨mt, mn, it, nm, tn, hnm, e0, hlm, vmt⟩ := hob
  have hmt := Cfg.vget vmt
  have nmt : ∀ es n, (tupOf [.ref (Γ.ea i), .ref (Γ.ea j)] mn).data ≠ .dict es n := fun _ _ e => by cases e
  have hE : Γ.E k pos = if 0 ≤ Γ.E i pos then Γ.E j (Γ.E i pos).toNat else -1 := C.ok.eq k _ pos hst hpos
  have hdue : Γ.due k pos = [(i, pos), (j, (Γ.E i pos).toNat)] := by unfold Cfg.due; rw [hst]; rfl
  obtain ⟨tl, hvh, hN, Cv, ev, htl⟩ := focus [] F
  have cell : ∀ a o, s.heap.get? a = some o → (∀ es n, o.data ≠ .dict es n) → Γ.lo0 ≤ a → h₁.get? a = some o ∧ a ≠ L ∧ g.get? a = none := fun a o e nd l => ⟨K1 _ _ e, Fr.neL F (K1 _ _ e) nd, hgn _ (lo0 _ l) (M.notFr e nd)⟩
  have celld : ∀ a o, s.heap.get? a = some o → a ∈ dictAddrs Γ ecs → h₁.get? a = some o ∧ a ≠ L ∧ g.get? a = none := fun a o e hm => ⟨K1 _ _ e, fun q => hL (q ▸ hm), hgn _ (lo0 _ (I.dl _ hm)) (hfr _ hm)⟩
  have N := hN [(Γ.ea k, ok), (Γ.da k, dictOf es n), (mt, tupOf [.ref (Γ.ea i), .ref (Γ.ea j)] mn), (Γ.ea i, oi), (Γ.da i, dictOf esi ni)] (List.forall_mem_cons.mpr ⟨cell _ _ hok nok hlk, List.forall_mem_cons.mpr ⟨celld _ _ hda hmda, List.forall_mem_cons.mpr ⟨cell _ _ hmt nmt hlm, List.forall_mem_cons.mpr ⟨cell _ _ hoi noi hli, List.forall_mem_cons.mpr ⟨celld _ _ hdai hmdai, List.forall_mem_nil _⟩⟩⟩⟩⟩)
  simp only [List.cons_append, List.nil_append] at N
  subst e0
  clear hN
  k_steps
  (with_reducible rename Fr _ _ _ _ => F9)
  (with_reducible rename News _ _ _ _ => N9)
  show wpAny _ _ _ _ _ _
  (with_reducible rename (@LT.lt Addr _ L _) => Lch)
  (with_reducible rename (And _ _) => l1)
  rename_i ch hA tkA
  have S9 := Cv.now F9 N9 (fun q hq => by repeat (first | assumption | refine List.Mem.tail _ ?_))
  have kpA : ∀ b o, h₁.get? b = some o → b ≠ L → _ := fun b o e n1 => S9 b o (ev ▸ hideAll_get _ e (by simpa using n1))
  have hnc := freshOf Cv ev N9 (allLt_mem l1.2.2.2.2.2)
  have hcg := (N9 _ (.head _)).2.2
  refine kfor_iter F9 N9 (vs := [.ref (Γ.ea i), .ref (Γ.ea j)]) (by k_mem) rfl rfl fun h2 I2 oI2 hI2 lt2 LI2 eI2 kp2 F2 N2 => ?_
  have hn : h₁.get? I2 = none := by
    cases q : h₁.get? I2 with
    | none => rfl
    | some o => exact absurd (Heap.lt_size (kpA _ _ q (fun e => absurd LI2 (e ▸ Nat.lt_irrefl _)))) (eI2 ▸ Nat.lt_irrefl _)
  have ltc := lt2 _ (.head _)
  clear F9 N9
  dsimp only
  refine kfor_item F2 N2 hI2 (fun q hq => Nat.ne_of_lt (lt2 q hq)) (vs := [.ref (Γ.ea i), .ref (Γ.ea j)]) (by k_mem) rfl rfl (v := .ref (Γ.ea i)) rfl fun h3 oI3 hI3 F3 N3 => ?_
  clear F2 N2 lt2
  show wpAny _ _ _ _ _ _
  k_steps
  (with_reducible rename Fr _ _ _ _ => F9)
  (with_reducible rename News _ _ _ _ => N9)
  show wpAny _ _ _ _ _ _
  have S8 := Cv.now F9 N9 (fun q hq => by repeat (first | assumption | refine List.Mem.tail _ ?_))
  have kpC : ∀ b o, h₁.get? b = some o → b ≠ L → _ := fun b o e n1 => S8 b o (ev ▸ hideAll_get _ e (by simpa using n1))
  have PC := ((P.hide hnc Lch).hide hn LI2).step B (fun b o e n _ => kpC b o e n)
  have hI9 := N9.get (.head _)
  have gI := (N9 _ (.head _)).2.2
  have hc9 := N9.get (.tail _ (.head _))
  refine um_call B PC F9 MG hgn C.lo hfr hfo rfl hik hpos hdp hun (IH i _ hik hsti) hfh (List.forall_mem_cons.mpr ⟨Heap.lt_size hI9, List.forall_mem_cons.mpr ⟨Heap.lt_size hc9, List.forall_mem_nil _⟩⟩) ?_
  intro v h5 tk5 reg5 ecs5 P5 F5 res5 kv5 kd5 sz5
  have hI5 := kd5 _ _ hI9 hI3.nd
  have nch : ∀ {vs : Array Value} {n : Nat}, ∀ es k, (listOf vs n).data ≠ .dict es k := fun _ _ e => by cases e
  have hc5 := kd5 _ _ hc9 nch
  have gk := (cell _ _ hok nok hlk).2.2
  have gmt := (cell _ _ hmt nmt hlm).2.2
  have gj := (cell _ _ hoj noj hlj).2.2
  have q1 := neN (neOf (K1 _ _ hok) hn)
  have q2 := neN (neOf (K1 _ _ hda) hn)
  have q3 := neN (neOf (K1 _ _ hmt) hn)
  have q4 := neN (neOf (K1 _ _ hoj) hn)
  have q5 := neN (neOf (K1 _ _ hdaj) hn)
  have q6 := neN (Nat.ne_of_lt ltc)
  have c1 := neN (neOf (K1 _ _ hok) hnc)
  have c2 := neN (neOf (K1 _ _ hda) hnc)
  have c3 := neN (neOf (K1 _ _ hmt) hnc)
  have c4 := neN (neOf (K1 _ _ hoj) hnc)
  have c5 := neN (neOf (K1 _ _ hdaj) hnc)
  have hL5 := P5.offL B
  have nfr5 := P5.nfr (dp := dp) (un := un) F5 MG hfr
  have ok5 := P5.ndAt B vok nok
  have hmt5 := P5.ndAt B vmt nmt
  obtain ⟨es5, n5, hda5, _, _⟩ := (P5.inv.att k hkN).there
  replace hda5 := Cfg.vget hda5
  have hmda5 := P5.inv.mem_da hkN
  have cell5 : ∀ a o, h5.get? a = some o → (∀ es n, o.data ≠ .dict es n) → g.get? a = none → h5.get? a = some o ∧ a ≠ L ∧ g.get? a = none := fun a o e nd l => ⟨e, Fr.neL F5 e nd, l⟩
  have celld5 : ∀ a o, h5.get? a = some o → a ∈ dictAddrs Γ ecs5 → h5.get? a = some o ∧ a ≠ L ∧ g.get? a = none := fun a o e hm => ⟨e, fun q => hL5 (q ▸ hm), hgn _ (lo0 _ (P5.inv.dl _ hm)) (nfr5 _ hm)⟩
  obtain ⟨esj5, nj5, hdaj5, _, hmcj5⟩ := (P5.inv.att j hjN).there
  replace hdaj5 := Cfg.vget hdaj5
  have hmdaj5 := P5.inv.mem_da hjN
  have hoj5 := P5.ndAt B voj noj
  obtain ⟨tl5, hvh5, hN5, Cv5, ev5, htl5⟩ := focus [I2, ch] F5
  have td5 : ∀ q ∈ tl5, q.1 ≠ I2 := fun q hq => htl5 q hq _ (.head _)
  have tc5 : ∀ q ∈ tl5, q.1 ≠ ch := fun q hq => htl5 q hq _ (.tail _ (.head _))
  rcases res5 with ⟨hEi, rfl⟩ | ⟨hEi, r, rfl, rep⟩
  · have N5 := hN5 [(I2, oI3), (ch, _), (Γ.ea k, _), (Γ.da k, dictOf es5 n5)] (List.forall_mem_cons.mpr ⟨cell5 _ _ hI5 hI3.nd gI, List.forall_mem_cons.mpr ⟨cell5 _ _ hc5 nch hcg, List.forall_mem_cons.mpr ⟨cell5 _ _ ok5 nok gk, List.forall_mem_cons.mpr ⟨celld5 _ _ hda5 hmda5, List.forall_mem_nil _⟩⟩⟩⟩)
    simp only [List.cons_append, List.nil_append] at N5
    clear hN5 F9 N9
    k_steps
    (with_reducible rename Fr _ _ _ _ => F9)
    (with_reducible rename News _ _ _ _ => N9)
    have S8 := Cv5.now F9 N9 (fun q hq => by repeat (first | assumption | refine List.Mem.tail _ ?_))
    have kp8 : ∀ b o, h5.get? b = some o → b ≠ L → b ∉ [I2, ch] → _ := fun b o e n1 n2 => S8 b o (ev5 ▸ hideAll_get _ e (fun hm => (List.mem_cons.mp hm).elim n1 n2))
    have P8 := (P5.step B kp8).reveal
    dsimp only
    exact hq _ _ _ reg5 ecs5 P8 F9.ns.lt (.inl ⟨by rw [hE, if_neg (by omega)], rfl⟩)
  · obtain ⟨lor, dr, tk1, tk2, cr, odr, vr, ldr, vdr⟩ := nodeAt rep
    have hr := Cfg.vget vr
    have hdr := Cfg.vget vdr
    have cr1 : h5.get? r = some _ ∧ r ≠ L ∧ g.get? r = none := ⟨hr, fun q => Cfg.vnot vr (List.mem_append_right _ (q ▸ B.Lh)), hgn _ (lo0 _ lor) fun hm => Cfg.vnot vr (List.mem_append_right _ (hfh _ hm))⟩
    have cr2 : h5.get? dr = some _ ∧ dr ≠ L ∧ g.get? dr = none := ⟨hdr, fun q => Cfg.vnot vdr (List.mem_append_right _ (q ▸ B.Lh)), hgn _ (lo0 _ ldr) fun hm => Cfg.vnot vdr (List.mem_append_right _ (hfh _ hm))⟩
    have wr1 := neN (fun q => Cfg.vnot vr (List.mem_append_left _ (q ▸ .head _)) : r ≠ I2)
    have wr2 := neN (fun q => Cfg.vnot vr (List.mem_append_left _ (q ▸ .tail _ (.head _))) : r ≠ ch)
    have wr3 := neN (fun q => Cfg.vnot vdr (List.mem_append_left _ (q ▸ .head _)) : dr ≠ I2)
    have wr4 := neN (fun q => Cfg.vnot vdr (List.mem_append_left _ (q ▸ .tail _ (.head _))) : dr ≠ ch)
    have N5 := hN5 [(I2, oI3), (ch, _), (Γ.ea k, _), (Γ.da k, dictOf es5 n5), (mt, tupOf [.ref (Γ.ea i), .ref (Γ.ea j)] mn), (Γ.ea j, oj), (Γ.da j, dictOf esj5 nj5), (r, _), (dr, odr)] (List.forall_mem_cons.mpr ⟨cell5 _ _ hI5 hI3.nd gI, List.forall_mem_cons.mpr ⟨cell5 _ _ hc5 nch hcg, List.forall_mem_cons.mpr ⟨cell5 _ _ ok5 nok gk, List.forall_mem_cons.mpr ⟨celld5 _ _ hda5 hmda5, List.forall_mem_cons.mpr ⟨cell5 _ _ hmt5 nmt gmt, List.forall_mem_cons.mpr ⟨cell5 _ _ hoj5 noj gj, List.forall_mem_cons.mpr ⟨celld5 _ _ hdaj5 hmdaj5, List.forall_mem_cons.mpr ⟨cr1, List.forall_mem_cons.mpr ⟨cr2, List.forall_mem_nil _⟩⟩⟩⟩⟩⟩⟩⟩⟩)
    simp only [List.cons_append, List.nil_append] at N5
    clear hN5 F9 N9 cr1 cr2
    k_steps
    (with_reducible rename Fr _ _ _ _ => F9)
    (with_reducible rename News _ _ _ _ => N9)
    dsimp only
    refine' kfor_item F9 N9 hI3 ?ne (vs := [.ref (Γ.ea i), .ref (Γ.ea j)]) (by k_mem) rfl rfl (v := .ref (Γ.ea j)) rfl fun h6 oI6 hI6 F6 N6 => ?_
    case ne => exact List.forall_mem_cons.mpr ⟨q6, List.forall_mem_cons.mpr ⟨q1, List.forall_mem_cons.mpr ⟨q2, List.forall_mem_cons.mpr ⟨q3, List.forall_mem_cons.mpr ⟨q4, List.forall_mem_cons.mpr ⟨q5, List.forall_mem_cons.mpr ⟨wr1, List.forall_mem_cons.mpr ⟨wr3, td5⟩⟩⟩⟩⟩⟩⟩⟩
    clear F9 N9
    show wpAny _ _ _ _ _ _
    k_steps
    (with_reducible rename Fr _ _ _ _ => F9)
    (with_reducible rename News _ _ _ _ => N9)
    show wpAny _ _ _ _ _ _
    have S6 := Cv5.now F9 N9 (fun q hq => by repeat (first | assumption | refine List.Mem.tail _ ?_))
    have kp6 : ∀ b o, h5.get? b = some o → b ≠ L → b ∉ [I2, ch] → _ := fun b o e n1 n2 => S6 b o (ev5 ▸ hideAll_get _ e (fun hm => (List.mem_cons.mp hm).elim n1 n2))
    have P6 := P5.step B kp6
    have st6 := P5.stays B kp6
    have rep6 := rep.keep (Heap.StaysIn.nd st6)
    have hI6' := N9.get (.head _)
    have hc6 := N9.get (.tail _ (.head _))
    have ex : (pos : Int) + (Γ.E i pos - (pos : Int)) = ((Γ.E i pos).toNat : Int) := by omega
    have hp2 : (Γ.E i pos).toNat ≤ Γ.n := by have := C.ok.hi i pos hiN hpos; omega
    refine' call_args (args' := [_, _, .int ((Γ.E i pos).toNat : Int) _, _, _]) ?e ?_
    case e => rw [← ex]
    refine um_call B P6 F9 MG hgn C.lo hfr hfo rfl hjk hp2 hdp hun (IH j _ hjk hstj) hfh (List.forall_mem_cons.mpr ⟨Heap.lt_size hI6', List.forall_mem_cons.mpr ⟨Heap.lt_size hc6, List.forall_mem_nil _⟩⟩) ?_
    intro v h7 tk7 reg7 ecs7 P7 F7 res7 kv7 kd7 sz7
    have rep7 := rep6.keep kv7
    clear rep rep6
    have hI7 := kd7 _ _ hI6' hI6.nd
    have hc7 : h7.get? ch = some (listOf [Value.ref r].toArray 1) := kd7 _ _ hc6 nch
    have hL7 := P7.offL B
    have nfr7 := P7.nfr (dp := dp) (un := un) F7 MG hfr
    have ok7 := P7.ndAt B vok nok
    have hmt7 := P7.ndAt B vmt nmt
    obtain ⟨es7, n7, hda7, _, _⟩ := (P7.inv.att k hkN).there
    replace hda7 := Cfg.vget hda7
    have hmda7 := P7.inv.mem_da hkN
    have cell7 : ∀ a o, h7.get? a = some o → (∀ es n, o.data ≠ .dict es n) → g.get? a = none → h7.get? a = some o ∧ a ≠ L ∧ g.get? a = none := fun a o e nd l => ⟨e, Fr.neL F7 e nd, l⟩
    have celld7 : ∀ a o, h7.get? a = some o → a ∈ dictAddrs Γ ecs7 → h7.get? a = some o ∧ a ≠ L ∧ g.get? a = none := fun a o e hm => ⟨e, fun q => hL7 (q ▸ hm), hgn _ (lo0 _ (P7.inv.dl _ hm)) (nfr7 _ hm)⟩
    obtain ⟨tl7, hvh7, hN7, Cv7, ev7, htl7⟩ := focus [I2, ch] F7
    have td7 : ∀ q ∈ tl7, q.1 ≠ I2 := fun q hq => htl7 q hq _ (.head _)
    have tc7 : ∀ q ∈ tl7, q.1 ≠ ch := fun q hq => htl7 q hq _ (.tail _ (.head _))
    rcases res7 with ⟨hEj, rfl⟩ | ⟨hEj, r2, rfl, rep2⟩
    · have N7 := hN7 [(I2, oI6), (ch, _), (Γ.ea k, _), (Γ.da k, dictOf es7 n7)] (List.forall_mem_cons.mpr ⟨cell7 _ _ hI7 hI6.nd gI, List.forall_mem_cons.mpr ⟨cell7 _ _ hc7 nch hcg, List.forall_mem_cons.mpr ⟨cell7 _ _ ok7 nok gk, List.forall_mem_cons.mpr ⟨celld7 _ _ hda7 hmda7, List.forall_mem_nil _⟩⟩⟩⟩)
      simp only [List.cons_append, List.nil_append] at N7
      clear hN7 F9 N9
      k_steps
      (with_reducible rename Fr _ _ _ _ => F9)
      (with_reducible rename News _ _ _ _ => N9)
      have S8 := Cv7.now F9 N9 (fun q hq => by repeat (first | assumption | refine List.Mem.tail _ ?_))
      have kp8 : ∀ b o, h7.get? b = some o → b ≠ L → b ∉ [I2, ch] → _ := fun b o e n1 n2 => S8 b o (ev7 ▸ hideAll_get _ e (fun hm => (List.mem_cons.mp hm).elim n1 n2))
      have P8 := (P7.step B kp8).reveal
      dsimp only
      exact hq _ _ _ reg7 ecs7 P8 F9.ns.lt (.inl ⟨by rw [hE, if_pos hEi]; exact hEj, rfl⟩)
    · obtain ⟨lor2, dr2, tk12, tk22, cr2, odr2, vr2, ldr2, vdr2⟩ := nodeAt rep2
      have hr2 := Cfg.vget vr2
      have hdr2 := Cfg.vget vdr2
      have cr1 : h7.get? r2 = some _ ∧ r2 ≠ L ∧ g.get? r2 = none := ⟨hr2, fun q => Cfg.vnot vr2 (List.mem_append_right _ (q ▸ B.Lh)), hgn _ (lo0 _ lor2) fun hm => Cfg.vnot vr2 (List.mem_append_right _ (hfh _ hm))⟩
      have cr2 : h7.get? dr2 = some _ ∧ dr2 ≠ L ∧ g.get? dr2 = none := ⟨hdr2, fun q => Cfg.vnot vdr2 (List.mem_append_right _ (q ▸ B.Lh)), hgn _ (lo0 _ ldr2) fun hm => Cfg.vnot vdr2 (List.mem_append_right _ (hfh _ hm))⟩
      have wr5 := neN (fun q => Cfg.vnot vr2 (List.mem_append_left _ (q ▸ .head _)) : r2 ≠ I2)
      have wr6 := neN (fun q => Cfg.vnot vr2 (List.mem_append_left _ (q ▸ .tail _ (.head _))) : r2 ≠ ch)
      have wr7 := neN (fun q => Cfg.vnot vdr2 (List.mem_append_left _ (q ▸ .head _)) : dr2 ≠ I2)
      have wr8 := neN (fun q => Cfg.vnot vdr2 (List.mem_append_left _ (q ▸ .tail _ (.head _))) : dr2 ≠ ch)
      have N7 := hN7 [(I2, oI6), (ch, _), (Γ.ea k, _), (Γ.da k, dictOf es7 n7), (mt, tupOf [.ref (Γ.ea i), .ref (Γ.ea j)] mn), (r2, _), (dr2, odr2)] (List.forall_mem_cons.mpr ⟨cell7 _ _ hI7 hI6.nd gI, List.forall_mem_cons.mpr ⟨cell7 _ _ hc7 nch hcg, List.forall_mem_cons.mpr ⟨cell7 _ _ ok7 nok gk, List.forall_mem_cons.mpr ⟨celld7 _ _ hda7 hmda7, List.forall_mem_cons.mpr ⟨cell7 _ _ hmt7 nmt gmt, List.forall_mem_cons.mpr ⟨cr1, List.forall_mem_cons.mpr ⟨cr2, List.forall_mem_nil _⟩⟩⟩⟩⟩⟩⟩)
      simp only [List.cons_append, List.nil_append] at N7
      clear hN7 F9 N9 cr1 cr2
      k_steps
      (with_reducible rename Fr _ _ _ _ => F9)
      (with_reducible rename News _ _ _ _ => N9)
      dsimp only
      refine' kfor_end rfl F9 N9 hI6 ?ne (vs := [.ref (Γ.ea i), .ref (Γ.ea j)]) (by k_mem) rfl rfl rfl fun h8 F8 N8 => ?_
      case ne => exact List.forall_mem_cons.mpr ⟨q6, List.forall_mem_cons.mpr ⟨q1, List.forall_mem_cons.mpr ⟨q2, List.forall_mem_cons.mpr ⟨q3, List.forall_mem_cons.mpr ⟨wr5, List.forall_mem_cons.mpr ⟨wr7, td7⟩⟩⟩⟩⟩⟩
      clear F9 N9
      show wpAny _ _ _ _ _ _
      k_steps
      (with_reducible rename Fr _ _ _ _ => F9)
      (with_reducible rename News _ _ _ _ => N9)
      show wpAny _ _ _ _ _ _
      have S9 := Cv7.now F9 N9 (fun q hq => by repeat (first | assumption | refine List.Mem.tail _ ?_))
      have kp9 : ∀ b o, h7.get? b = some o → b ≠ L → b ∉ [I2, ch] → _ := fun b o e n1 n2 => S9 b o (ev7 ▸ hideAll_get _ e (fun hm => (List.mem_cons.mp hm).elim n1 n2))
      have P9 := P7.step B kp9
      have st9 := P7.stays B kp9
      have hE' : Γ.E k pos = (pos : Int) + (Γ.E i pos - (pos : Int)) + (Γ.E j (Γ.E i pos).toNat - ((Γ.E i pos).toNat : Int)) := by rw [hE, if_pos hEi]; omega
      have lL := F9.ns.lt
      have hch9 := N9.get (.head _)
      have gch9 := keepNone MG.keep (N9 _ (.head _)).2.2
      refine' node_list (dp := dp + 1) (fr := _ :: fr) (v := .ref r) (r := [.ref r2]) (n := 2) (ch := ch) (ex := Γ.ea k) (t := Γ.text) (tk := Γ.tk) (tk1 := tp) (i := (pos : Int)) C.O (MG.push F9 rfl) ?hd hch9 gch9 ?hn ?hb ?_
      case hd => omega
      case hn => exact Nat.le_of_lt (by show 2 < 1000; decide)
      case hb => exact node_b5
      intro x3 d3 c3 n3 h3 tk3 st3 lx ld lc hx3 hc3 hd3
      subst lc
      have P3 := (P9.step B (fun a o e _ _ => st3 a o e)).reveal
      have kpf := Heap.StaysIn.nd (stTrans (stTrans st9 (Cfg.vst st3)) vw_all)
      have repA : NodeRep Γ (Vw (L :: hid) h3) r i pos := rep7.keep kpf
      have repB : NodeRep Γ (Vw (L :: hid) h3) r2 j (Γ.E i pos).toNat := rep2.keep kpf
      refine hq _ h3 tk3 reg7 ecs7 P3 (Nat.lt_of_lt_of_le lL (size_le lx hx3)) (res_node (ch := [r, r2]) B hE' (by rw [hE, if_pos hEi]; exact hEj) (Nat.lt_of_lt_of_le lL lx) Lch (Nat.lt_of_lt_of_le lL ld) hx3 hc3 hd3 (by rw [hdue]; rfl) fun i' q a e1 e2 => ?_)
      rw [hdue] at e1
      cases i' with
      | zero => cases e1; cases e2; exact repA
      | succ i' => cases i' with
        | zero => cases e1; cases e2; exact repB
        | succ i' => simp at e1
end Mine
end
section
open PySem PySem.W PyProof.Rows PySem.Calls PySem.Spec Builtin Builtin.ObjectAttr
set_option maxRecDepth 100000
set_option maxHeartbeats 8000000
namespace Mine
theorem rs16 : True := by
  w_top off
  trivial
section
variable {prog : Program} {w : World} {A : Around} {E : Value → Shared → Prop} {s : Shared} {env : Env} {test : PySem.Expr} {body : List Stmt} {Q : Flow → Shared → Prop} {g : Heap} {L : Addr} {m₀ : Str → Option Value}
/-- a while by an invariant and a measure, its ends gathered -/
theorem whl_loop (F : Fr g L s.heap m₀) (I : (Str → Option Value) → Nat → Heap → Nat → Prop) (X : (Str → Option Value) → Heap → Nat → Prop) (f0 : Nat) (hE : PassesOwn (model prog w) A env E) (h0 : I m₀ f0 s.heap s.toks)
    (turn : ∀ f hh tk, I m₀ f hh tk → wpAny (model prog w) A (isTrue test env (eval test env)) (fun b s₂ => WhlIf b (wpAny (model prog w) A (execs body env) (fun fl s' => match fl with
        | .next => Hold (∃ f' hh' tk', f' < f ∧ s' = { s with heap := hh', toks := tk' } ∧ I m₀ f' hh' tk')
        | .cont => Hold (∃ f' hh' tk', f' < f ∧ s' = { s with heap := hh', toks := tk' } ∧ I m₀ f' hh' tk')
        | .brk => Hold (∃ hh' tk', s' = { s with heap := hh', toks := tk' } ∧ X m₀ hh' tk')
        | .ret v => Q (.ret v) s') E s₂) (Hold (∃ hh' tk', s₂ = { s with heap := hh', toks := tk' } ∧ X m₀ hh' tk'))) E { s with heap := hh, toks := tk })
    (exit : ∀ hh tk, X m₀ hh tk → Q .next { s with heap := hh, toks := tk }) : Hold (WhlRest prog w A E env test body [] Q 0 s) := by
  show WhlRest prog w A E env test body [] Q 0 s
  suffices H : ∀ f, ∀ hh tk, I m₀ f hh tk → WhlRest prog w A E env test body [] Q 0 { s with heap := hh, toks := tk } from H f0 _ _ h0
  intro f
  induction f using Nat.strongRecOn with
  | _ f ih =>
    intro hh tk hi
    refine whl_turn (k := 0) hE (wpAny_mono (turn f hh tk hi) (fun b s₂ h => ?_) fun _ _ h => h)
    cases b with
    | false =>
      obtain ⟨hh', tk', e, x⟩ := h
      subst e
      exact wpAny_execs_nil (exit _ _ x)
    | true =>
      refine wpAny_mono h (fun fl s' h => ?_) fun _ _ h => h
      cases fl with
      | next => obtain ⟨f', hh', tk', hf, e, x⟩ := h; subst e; exact ih f' hf _ _ x
      | cont => obtain ⟨f', hh', tk', hf, e, x⟩ := h; subst e; exact ih f' hf _ _ x
      | brk => obtain ⟨hh', tk', e, x⟩ := h; subst e; exact exit _ _ x
      | ret v => exact h
theorem lt_mx {mx : Value} {most : Int} {c : Nat} {t : Tok} {b : Bool} {Q : Value → Shared → Prop} (h1 : (most = -1 ∧ ∃ t, mx = .float 9218868437227405312 t) ∨ (0 ≤ most ∧ ∃ t, mx = .int most t)) (hb : b = decide (most = -1 ∨ (c : Int) < most)) (h : Q (.bool b) s) : wpAny (model prog w) A (compareOp .Lt (.int (c : Int) t) mx) Q E s := by
  rcases h1 with ⟨h1, u, rfl⟩ | ⟨h1, u, rfl⟩
  · refine lt_if ?_
    have e : (Float64.cmpInt 9218868437227405312 (c : Int) == some Ordering.gt) = b := by
      rw [hb, h1]
      have e1 : Float64.decode 9218868437227405312 = .inf false := by with_unfolding_all rfl
      unfold Float64.cmpInt
      rw [e1]; simp
    rw [e]; exact h
  · have e : b = decide ((c : Int) < most) := by rw [hb]; refine decide_eq_decide.mpr ?_; omega
    subst e
    exact lt_int h
theorem len_its {l : Addr} {news : List (Addr × Obj)} {its : Array Value} {n c : Nat} {Q : Value → Shared → Prop} (N : News g L s.heap news) (hm : (l, listOf its n) ∈ news) (hc : its.size = c) (hz : c ≤ 2000)
    (h : Q (.int (c : Int) (s.toks + 1)) { s with toks := s.toks + 1 + 1 }) : wpAny (model prog w) A (call (.builtin "len") [.ref l]) Q E s := by
  subst hc
  exact len_list ⟨_, (N _ hm).1, rfl, n, rfl⟩ (by omega) h
end
theorem frQ {h : Heap} {m₁ m₀ : Str → Option Value} {x : Value} {g : Heap} {L : Addr} (F : Fr g L h m₁) (h1 : m₁ (Str.ofString "new_pos") = some x)
    (h2 : ∀ z, z ≠ Str.ofString "new_pos" → z ≠ Str.ofString "node" → z ≠ Str.ofString "length" → m₁ z = m₀ z) :
    Fr g L h (kstB (fun z => if [Str.ofString "node", Str.ofString "length"].contains z then m₁ z else m₀ z) [(Str.ofString "new_pos", x)]) := by
  refine ksw_fr (List.forall_mem_cons.mpr ⟨h1, List.forall_mem_nil _⟩) (fun z a b => h2 z (a _ (.head _)) ?_ ?_) F
  · rintro rfl; revert b; decide
  · rintro rfl; revert b; decide
theorem reps_snoc {P : Addr → Nat → Prop} {chs : List Addr} {dn : List Nat} {r : Addr} {q : Nat} (hl : dn.length = chs.length) (h : ∀ (x : Nat) a d, chs[x]? = some a → dn[x]? = some d → P a d) (hp : P r q) :
    ∀ (x : Nat) a d, (chs ++ [r])[x]? = some a → (dn ++ [q])[x]? = some d → P a d := fun x a d e1 e2 => by
  by_cases hx : x < chs.length
  · rw [List.getElem?_append_left hx] at e1
    rw [List.getElem?_append_left (hl ▸ hx)] at e2
    exact h x a d e1 e2
  · rw [List.getElem?_append_right (Nat.le_of_not_lt hx)] at e1
    rw [List.getElem?_append_right (by omega), hl] at e2
    cases hy : x - chs.length with
    | zero => rw [hy] at e1 e2; cases e1; cases e2; exact hp
    | succ y => rw [hy] at e1; simp at e1
/-- what a run of the matcher hands -/
theorem runs_zero {E : Nat → Int} {most : Int} {f c p : Nat} (h : ¬ ((c : Int) ≠ most ∧ 0 ≤ E p)) : runs E most f c p = ([], p) := by
  cases f with
  | zero => rfl
  | succ f => unfold runs; rw [if_neg h]
theorem runs_succ {E : Nat → Int} {most : Int} {f c p : Nat} (h : (c : Int) ≠ most ∧ 0 ≤ E p) : runs E most (f + 1) c p = (p :: (runs E most f (c + 1) (E p).toNat).1, (runs E most f (c + 1) (E p).toNat).2) := by
  show (if _ then _ else _) = _
  rw [if_pos h]
local macro_rules | `(tactic| k_room) => `(tactic| ktr_room)
local macro_rules | `(tactic| k_all) => `(tactic| first | assumption | (intro q9 hq9; (try dsimp only); first | exact allLt_ne (by assumption) (by omega) q9 hq9 | exact lt_ne (by assumption) (by omega) q9 hq9))
local macro_rules | `(tactic| k_inst) => `(tactic| (refine' instOf ?N ?h1 ?h2 ?e1 ?e2 ?e3; (case N => k_asm); (case h1 => k_mem); (case e1 => first | assumption | exact rfl); (case e2 => first | assumption | exact rfl); (case h2 => k_mem); (case e3 => first | assumption | exact rfl)))
local macro_rules | `(tactic| walk_at "call ref") => `(tactic| (k_here; (with_reducible show wpAny _ _ (call (Value.ref 212) _ _) _ _ _); refine hold_of ?_))
local macro_rules | `(tactic| walk_at "call ref") => `(tactic| (k_here; (with_reducible show wpAny _ _ (call (Value.ref 266) _ _) _ _ _); refine hold_of ?_))
local macro_rules | `(tactic| walk_at "getMethod ref") => `(tactic| (k_here; (with_reducible show wpAny _ _ (getMethod (Value.ref _) (PySem.Str.ofString "match_core") _) _ _ _); k_dflt (refine' kmc ?k1 ?k2 ?k3 ?k4 ?k5 ?_; (case k1 => k_asm); (case k2 => k_asm); (case k3 => k_inst); (case k4 => assumption); (case k5 => assumption); k_whole)))
local macro_rules | `(tactic| k_handed) => `(tactic| assumption)
local macro_rules | `(tactic| walk_at "compareOp Lt int") => `(tactic| (k_here; (with_reducible show wpAny _ _ (compareOp CmpOp.Lt (Value.int (Nat.cast _) _) _) _ _ _); k_dflt (refine' lt_mx ?h1 ?hb ?_; (case h1 => assumption); (case hb => assumption); k_whole)))
local macro_rules | `(tactic| walk_at "call builtin:len") => `(tactic| (k_here; (with_reducible show wpAny _ _ (call (Value.builtin "len") [Value.ref _]) _ _ _); k_dflt (refine' len_its ?N ?m ?hc ?hz ?_; (case N => k_asm); (case m => k_mem); (case hc => assumption); (case hz => assumption); k_whole)))
local macro_rules | `(tactic| walk_at "newList") => `(tactic| (k_here; k_dflt (refine' newList_KL ?k1 ?k2 ?_; (case k1 => k_asm); (case k2 => k_asm); k_whole); intro l' h' F' N' l1 lL; (try k_lt l1); (try k_sweep)))
local macro_rules | `(tactic| walk_at "exec While BoolOp") => `(tactic| (k_here; (with_reducible show wpAny _ _ (exec (Stmt.While _ _ _ _) _) _ _ _); k_dflt (refine whl_hold ?_)))
local macro_rules | `(tactic| walk_at "exec While BoolOp cons nil") => `(tactic| (k_here; (with_reducible show wpAny _ _ (exec (Stmt.While _ _ _ _) _) _ _ _); k_dflt (refine whl_hold ?_)))
local macro_rules | `(tactic| walk_at "call builtin:len") => `(tactic| (k_here; (with_reducible show wpAny _ _ (call (Value.builtin "len") [Value.str _ _]) _ _ _); k_dflt (refine' SBL.len ?k1 ?_; (case k1 => assumption); k_whole)))

variable {w : World} {p : Program} {loose : List Str} {mean : ExcName → Option Value} {mg mb : Str → Option Value} {H0 : Heap} {Γ : Cfg}
theorem um_times {k i least : Nat} {most : Int} (C : Cx w p loose mean mg mb H0 Γ) (hst : Γ.plan[k]? = some (.times i least most)) (IH : ∀ j st, j < k → Γ.plan[j]? = some st → CallOk w H0 Γ (j + 1) j 266) : CallOk w H0 Γ k k 493 := by
  intro hid dp un gd fr s pos tp reg ecs Q E M I S hhid hfh hfr hfo hpos hdp hun hq
  refine wpAny_call ?_
  refine' enterF C.O M ?ho ?hcd ?hr ?hb ?hl ?_ ?c1 ?c2 ?c3 ?c4
  case ho => k_is
  case hcd => k_is
  case hr => omega
  case hb => exact BindsTo.of_eq rfl
  case hl => exact locs rfl
  case c1 => exact rfl
  case c2 => exact rfl
  case c3 => exact rfl
  case c4 => decide
  intro g L h₁ eL F K1 MG hgn Bw X T
  have hLn : s.heap.get? L = none := get_none_of_le (Nat.le_of_eq eL.symm)
  replace I := I.stay (Heap.StaysIn.nd (vw_cons hLn)) (fun a _ o e => vw_cons hLn a o e)
  replace S := S.sub (vw_cons hLn)
  replace hfh : ∀ a ∈ frs fr, a ∈ L :: hid := fun a ha => .tail _ (hfh a ha)
  replace hq : ∀ v h' tk' reg' ecs', Post w Γ (L :: hid) k L s.heap reg ecs [] h' reg' ecs' → L < h'.objs.size → Res Γ (Vw (L :: hid) h') k pos v → Q v { s with heap := h', toks := tk' } := fun v h' tk' reg' ecs' P' sz' res' =>
    hq v h' tk' reg' ecs' (P'.inv.stay (Heap.StaysIn.nd vw_one) (fun a _ o e => vw_one a o e)) P'.ext (fun a ha => (P'.fresh a ha).imp id fun q => eL ▸ Nat.le_of_lt q) (eL ▸ Nat.le_of_lt sz') P'.keep (res'.keep (Heap.StaysIn.nd vw_one))
  have B : Base w Γ (L :: hid) k L s.heap reg ecs := ⟨I, S, fun a ha => (List.mem_cons.mp ha).elim (fun q => Nat.le_of_eq q) fun q => Nat.le_of_lt (eL ▸ hhid a q), .head _, eL⟩
  have P := Post.start B K1
  have Fd := frDat F
  obtain ⟨hlk, ok, vok, hob⟩ := I.ex k _ hst
  have hok := Cfg.vget vok
  have hkN : k < Γ.N := (List.getElem?_eq_some_iff.mp hst).1
  have lo0 : ∀ a, Γ.lo0 ≤ a → H0.get? a = none := fun a ha => get_none_of_le (Nat.le_trans C.lo ha)
  have nok := plain_nd hob.plain.1
  have hL := P.offL B
  obtain ⟨es, n, hda, hum, hmc⟩ := (I.att k hkN).there
  replace hda := Cfg.vget hda
  have hmda := I.mem_da hkN
  have hik : i < k := (C.ok.refs k _ hst).1
  have hiN : i < Γ.N := Nat.lt_trans hik hkN
  obtain ⟨sti, hsti⟩ : ∃ st, Γ.plan[i]? = some st := ⟨_, List.getElem?_eq_getElem hiN⟩
  obtain ⟨hli, oi, voi, hobi⟩ := I.ex i _ hsti
  have hoi := Cfg.vget voi
  obtain ⟨pi1, pi2, pi3⟩ := hobi.plain
  have ci1 := notCls_plain pi1
  have cfi := clsF w sti
  have noi := plain_nd pi1
  obtain ⟨esi, ni, hdai, _, hmci⟩ := (I.att i hiN).there
  replace hdai := Cfg.vget hdai
  have hmdai := I.mem_da hiN
  obtain ⟨mx, tl9, mt, mn, it, nm, tn, hnm, e0, hlm, vmt, hmx⟩ := hob
  have hmt := Cfg.vget vmt
  have nmt : ∀ es n, (tupOf [.ref (Γ.ea i)] mn).data ≠ .dict es n := fun _ _ e => by cases e
  have hE : Γ.E k pos = if (runs (Γ.E i) most (Γ.text.length + 1) 0 pos).1.length ≥ least then ((runs (Γ.E i) most (Γ.text.length + 1) 0 pos).2 : Int) else -1 := C.ok.eq k _ pos hst hpos
  have hdue : Γ.due k pos = (runs (Γ.E i) most (Γ.text.length + 1) 0 pos).1.map fun p => (i, p) := by unfold Cfg.due; rw [hst]; rfl
  have hlm2 := (C.ok.refs k _ hst).2
  have grow : ∀ q, q ≤ Γ.n → Γ.E i q ≠ q := fun q hq => C.ok.grows k i least most q hst hq
  have hlen : Γ.text.length ≤ 2 ^ 62 := Nat.le_trans C.ok.small (by decide)
  obtain ⟨tl, hvh, hN, Cv, ev, htl⟩ := focus [] F
  have cell : ∀ a o, s.heap.get? a = some o → (∀ es n, o.data ≠ .dict es n) → Γ.lo0 ≤ a → h₁.get? a = some o ∧ a ≠ L ∧ g.get? a = none := fun a o e nd l => ⟨K1 _ _ e, Fr.neL F (K1 _ _ e) nd, hgn _ (lo0 _ l) (M.notFr e nd)⟩
  have celld : ∀ a o, s.heap.get? a = some o → a ∈ dictAddrs Γ ecs → h₁.get? a = some o ∧ a ≠ L ∧ g.get? a = none := fun a o e hm => ⟨K1 _ _ e, fun q => hL (q ▸ hm), hgn _ (lo0 _ (I.dl _ hm)) (hfr _ hm)⟩
  have N := hN [(Γ.ea k, ok), (Γ.da k, dictOf es n), (mt, tupOf [.ref (Γ.ea i)] mn), (Γ.ea i, oi), (Γ.da i, dictOf esi ni)] (List.forall_mem_cons.mpr ⟨cell _ _ hok nok hlk, List.forall_mem_cons.mpr ⟨celld _ _ hda hmda, List.forall_mem_cons.mpr ⟨cell _ _ hmt nmt hlm, List.forall_mem_cons.mpr ⟨cell _ _ hoi noi hli, List.forall_mem_cons.mpr ⟨celld _ _ hdai hmdai, List.forall_mem_nil _⟩⟩⟩⟩⟩)
  simp only [List.cons_append, List.nil_append] at N
  subst e0
  clear hN
  k_steps
  (with_reducible rename Fr _ _ _ _ => F9)
  (with_reducible rename News _ _ _ _ => N9)
  (with_reducible rename (@LT.lt Addr _ L _) => Lch)
  (with_reducible rename (And _ _) => l1)
  rename_i hZ ch hA hB tkA hC
  have S9 := Cv.now F9 N9 (fun q hq => by repeat (first | assumption | refine List.Mem.tail _ ?_))
  have kpA : ∀ b o, h₁.get? b = some o → b ≠ L → _ := fun b o e n1 => S9 b o (ev ▸ hideAll_get _ e (by simpa using n1))
  have hnc := freshOf Cv ev N9 (allLt_mem l1.2.2.2.2.2)
  have hcg := (N9 _ (.head _)).2.2
  have hc9 := N9.get (.head _)
  have PC := (P.hide hnc Lch).step B (fun b o e n _ => kpA b o e n)
  have c1 := neN (neOf (K1 _ _ hok) hnc)
  have c2 := neN (neOf (K1 _ _ hda) hnc)
  have c3 := neN (neOf (K1 _ _ hmt) hnc)
  have c4 := neN (neOf (K1 _ _ hoi) hnc)
  have c5 := neN (neOf (K1 _ _ hdai) hnc)
  have gk := (cell _ _ hok nok hlk).2.2
  have gmt := (cell _ _ hmt nmt hlm).2.2
  have gi := (cell _ _ hoi noi hli).2.2
  have nch : ∀ {vs : Array Value} {n : Nat}, ∀ es k, (listOf vs n).data ≠ .dict es k := fun _ _ e => by cases e
  have hm0 : most = -1 ∨ (([] : List Addr).length : Int) ≤ most := by
    rcases hlm2 with h | h
    · exact .inl h
    · right; show (0 : Int) ≤ most; omega
  refine whl_loop (m₀ := _) F9
    (fun m₀ f hh _ => ∃ (q : Nat) (t : Tok) (u : Str → Option Value) (dn : List Nat) (chs : List Addr) (cap : Nat) (reg' : Nat → Option Nat) (ecs' : List Addr),
      q ≤ Γ.n ∧ pos + chs.length ≤ q ∧ f = Γ.n - q ∧ dn.length = chs.length ∧ (most = -1 ∨ (chs.length : Int) ≤ most) ∧
      runs (Γ.E i) most (Γ.text.length + 1) 0 pos = (dn ++ (runs (Γ.E i) most (Γ.text.length + 1 - chs.length) chs.length q).1, (runs (Γ.E i) most (Γ.text.length + 1 - chs.length) chs.length q).2) ∧
      Fr g L hh (kstB (fun z => if [Str.ofString "node", Str.ofString "length"].contains z then u z else m₀ z) [(Str.ofString "new_pos", .int (q : Int) t)]) ∧
      hh.get? ch = some (listOf (chs.map Value.ref).toArray cap) ∧ Post w Γ (L :: hid) k L s.heap reg ecs [ch] hh reg' ecs' ∧
      ∀ (x : Nat) a d, chs[x]? = some a → dn[x]? = some d → NodeRep Γ (Vw ([ch] ++ L :: hid) hh) a i d)
    (fun m₀ hh _ => ∃ (q : Nat) (t : Tok) (u : Str → Option Value) (dn : List Nat) (chs : List Addr) (cap : Nat) (reg' : Nat → Option Nat) (ecs' : List Addr),
      q ≤ Γ.n ∧ chs.length ≤ Γ.n ∧ dn.length = chs.length ∧
      runs (Γ.E i) most (Γ.text.length + 1) 0 pos = (dn, q) ∧
      Fr g L hh (kstB (fun z => if [Str.ofString "node", Str.ofString "length"].contains z then u z else m₀ z) [(Str.ofString "new_pos", .int (q : Int) t)]) ∧
      hh.get? ch = some (listOf (chs.map Value.ref).toArray cap) ∧ Post w Γ (L :: hid) k L s.heap reg ecs [ch] hh reg' ecs' ∧
      ∀ (x : Nat) a d, chs[x]? = some a → dn[x]? = some d → NodeRep Γ (Vw ([ch] ++ L :: hid) hh) a i d)
    (Γ.n - pos) ?hE ?h0 ?turn ?exit
  case hE => passes_own
  case h0 => exact ⟨pos, tp, _, [], [], 0, reg, ecs, hpos, Nat.le_refl _, rfl, rfl, hm0, rfl, ksw_fr (List.forall_mem_cons.mpr ⟨rfl, List.forall_mem_nil _⟩) (fun z _ _ => rfl) F9, hc9, PC, fun x a d e => by cases e⟩
  case exit =>
    rintro hh tk ⟨q, t, u, dn, chs, cap, reg4, ecs4, hq1, hq2, hdn, hrun, F4, hc4, P4, reps⟩
    have hL4 := P4.offL B
    have nfr4 := P4.nfr (dp := dp) (un := un) F4 MG hfr
    have ok4 := P4.ndAt B vok nok
    have hmt4 := P4.ndAt B vmt nmt
    have hoi4 := P4.ndAt B voi noi
    obtain ⟨es4, n4, hda4, _, _⟩ := (P4.inv.att k hkN).there
    replace hda4 := Cfg.vget hda4
    have hmda4 := P4.inv.mem_da hkN
    have cell4 : ∀ a o, hh.get? a = some o → (∀ es n, o.data ≠ .dict es n) → g.get? a = none → hh.get? a = some o ∧ a ≠ L ∧ g.get? a = none := fun a o e nd l => ⟨e, Fr.neL F4 e nd, l⟩
    have celld4 : ∀ a o, hh.get? a = some o → a ∈ dictAddrs Γ ecs4 → hh.get? a = some o ∧ a ≠ L ∧ g.get? a = none := fun a o e hm => ⟨e, fun q => hL4 (q ▸ hm), hgn _ (lo0 _ (P4.inv.dl _ hm)) (nfr4 _ hm)⟩
    obtain ⟨tl4, hvh4, hN4, Cv4, ev4, htl4⟩ := focus [ch] F4
    have tc4 : ∀ q ∈ tl4, q.1 ≠ ch := fun q hq => htl4 q hq _ (.head _)
    have N4 := hN4 [(ch, _), (Γ.ea k, _), (Γ.da k, dictOf es4 n4)] (List.forall_mem_cons.mpr ⟨cell4 _ _ hc4 nch hcg, List.forall_mem_cons.mpr ⟨cell4 _ _ ok4 nok gk, List.forall_mem_cons.mpr ⟨celld4 _ _ hda4 hmda4, List.forall_mem_nil _⟩⟩⟩)
    simp only [List.cons_append, List.nil_append] at N4
    clear hN4 F9 N9
    have hs1 : (chs.map Value.ref).toArray.size = chs.length := by simp
    have hz1 : chs.length ≤ 2000 := by have := C.ok.small; omega
    have hz9 : chs.length ≤ 1000 := by have := C.ok.small; omega
    rw [hrun] at hE hdue
    dsimp only at hE hdue
    by_cases hge : (chs.length : Int) ≥ (least : Int)
    · have hE' : Γ.E k pos = (q : Int) := by rw [hE, if_pos (by omega)]
      show wpAny _ _ _ _ _ _
      k_steps
      (with_reducible rename Fr _ _ _ _ => F9)
      (with_reducible rename News _ _ _ _ => N9)
      have S8 := Cv4.now F9 N9 (fun q hq => by repeat (first | assumption | refine List.Mem.tail _ ?_))
      have kp8 : ∀ b o, hh.get? b = some o → b ≠ L → b ∉ [ch] → _ := fun b o e n1 n2 => S8 b o (ev4 ▸ hideAll_get _ e (fun hm => (List.mem_cons.mp hm).elim n1 n2))
      have P9 := P4.step B kp8
      have st9 := P4.stays B kp8
      have lL := F9.ns.lt
      have hch9 := N9.get (.head _)
      have gch9 := keepNone MG.keep (N9 _ (.head _)).2.2
      show wpAny _ _ _ _ _ _
      cases chs with
      | nil =>
        refine' node_nil (dp := dp + 1) (fr := _ :: fr) (n := cap) (ch := ch) (ex := Γ.ea k) (t := Γ.text) (tk := Γ.tk) (tk1 := tp) (tk2 := t) (i := (pos : Int)) (j := (q : Int)) C.O (MG.push F9 rfl) ?hd hch9 gch9 ?hb ?_
        case hd => omega
        case hb => exact node_b5
        intro x3 d3 c3 n3 h3 tk3 st3 lx ld lc hx3 hc3 hd3
        have P3 := (P9.step B (fun a o e _ _ => st3 a o e)).reveal
        cases dn with
        | cons _ _ => cases hdn
        | nil => exact hq _ h3 tk3 reg4 ecs4 P3 (Nat.lt_of_lt_of_le lL (size_le lx hx3)) (res_leaf B hE' (by rw [hE']; omega) (Nat.lt_of_lt_of_le lL lx) (Nat.lt_of_lt_of_le lL lc) (Nat.lt_of_lt_of_le lL ld) hx3 hc3 hd3 (by rw [hdue]; rfl))
      | cons c0 cr =>
        refine' node_list (dp := dp + 1) (fr := _ :: fr) (v := .ref c0) (r := cr.map Value.ref) (n := cap) (ch := ch) (ex := Γ.ea k) (t := Γ.text) (tk := Γ.tk) (tk1 := tp) (tk2 := t) (i := (pos : Int)) (j := (q : Int)) C.O (MG.push F9 rfl) ?hd hch9 gch9 ?hn ?hb ?_
        case hd => omega
        case hn => rw [List.length_cons, List.length_map]; exact hz9
        case hb => exact node_b5
        intro x3 d3 c3 n3 h3 tk3 st3 lx ld lc hx3 hc3 hd3
        subst lc
        have P3 := (P9.step B (fun a o e _ _ => st3 a o e)).reveal
        have kpf := Heap.StaysIn.nd (stTrans (stTrans st9 (Cfg.vst st3)) vw_all)
        refine hq _ h3 tk3 reg4 ecs4 P3 (Nat.lt_of_lt_of_le lL (size_le lx hx3)) (res_node (ch := c0 :: cr) B hE' (by rw [hE']; omega) (Nat.lt_of_lt_of_le lL lx) Lch (Nat.lt_of_lt_of_le lL ld) hx3 hc3 hd3 (by rw [hdue, List.length_map, hdn]) fun i' z a e1 e2 => ?_)
        rw [hdue, List.getElem?_map] at e1
        obtain ⟨d, e3, rfl⟩ := Option.map_eq_some_iff.mp e1
        exact (reps i' a d e2 e3).keep kpf
    · show wpAny _ _ _ _ _ _
      k_steps
      (with_reducible rename Fr _ _ _ _ => F9)
      (with_reducible rename News _ _ _ _ => N9)
      have S8 := Cv4.now F9 N9 (fun q hq => by repeat (first | assumption | refine List.Mem.tail _ ?_))
      have kp8 : ∀ b o, hh.get? b = some o → b ≠ L → b ∉ [ch] → _ := fun b o e n1 n2 => S8 b o (ev4 ▸ hideAll_get _ e (fun hm => (List.mem_cons.mp hm).elim n1 n2))
      exact hq _ _ _ reg4 ecs4 (P4.step B kp8).reveal F9.ns.lt (.inl ⟨by rw [hE, if_neg (by omega)], rfl⟩)
  case turn =>
    rintro f hh tk ⟨q, t, u, dn, chs, cap, reg4, ecs4, hq1, hq2, ef, hdn, hcm, hrun, F4, hc4, P4, reps⟩
    have hL4 := P4.offL B
    have nfr4 := P4.nfr (dp := dp) (un := un) F4 MG hfr
    have ok4 := P4.ndAt B vok nok
    have hmt4 := P4.ndAt B vmt nmt
    have hoi4 := P4.ndAt B voi noi
    obtain ⟨es4, n4, hda4, _, _⟩ := (P4.inv.att k hkN).there
    replace hda4 := Cfg.vget hda4
    have hmda4 := P4.inv.mem_da hkN
    obtain ⟨esi4, ni4, hdai4, _, hmci4⟩ := (P4.inv.att i hiN).there
    replace hdai4 := Cfg.vget hdai4
    have hmdai4 := P4.inv.mem_da hiN
    have cell4 : ∀ a o, hh.get? a = some o → (∀ es n, o.data ≠ .dict es n) → g.get? a = none → hh.get? a = some o ∧ a ≠ L ∧ g.get? a = none := fun a o e nd l => ⟨e, Fr.neL F4 e nd, l⟩
    have celld4 : ∀ a o, hh.get? a = some o → a ∈ dictAddrs Γ ecs4 → hh.get? a = some o ∧ a ≠ L ∧ g.get? a = none := fun a o e hm => ⟨e, fun q => hL4 (q ▸ hm), hgn _ (lo0 _ (P4.inv.dl _ hm)) (nfr4 _ hm)⟩
    obtain ⟨tl4, hvh4, hN4, Cv4, ev4, htl4⟩ := focus [ch] F4
    have tc4 : ∀ q ∈ tl4, q.1 ≠ ch := fun q hq => htl4 q hq _ (.head _)
    have N4 := hN4 [(ch, _), (Γ.ea k, _), (Γ.da k, dictOf es4 n4), (mt, tupOf [.ref (Γ.ea i)] mn), (Γ.ea i, oi), (Γ.da i, dictOf esi4 ni4)] (List.forall_mem_cons.mpr ⟨cell4 _ _ hc4 nch hcg, List.forall_mem_cons.mpr ⟨cell4 _ _ ok4 nok gk, List.forall_mem_cons.mpr ⟨celld4 _ _ hda4 hmda4, List.forall_mem_cons.mpr ⟨cell4 _ _ hmt4 nmt gmt, List.forall_mem_cons.mpr ⟨cell4 _ _ hoi4 noi gi, List.forall_mem_cons.mpr ⟨celld4 _ _ hdai4 hmdai4, List.forall_mem_nil _⟩⟩⟩⟩⟩⟩)
    simp only [List.cons_append, List.nil_append] at N4
    clear hN4 F9 N9
    have hmh : handedIn mx = true := by rcases hmx with ⟨_, _, rfl⟩ | ⟨_, _, rfl⟩ <;> rfl
    have hnn : Γ.n = Γ.text.length := rfl
    have hs1 : (chs.map Value.ref).toArray.size = chs.length := by simp
    have hz1 : chs.length ≤ 2000 := by have := C.ok.small; omega
    by_cases hqn : (q : Int) < (Γ.text.length : Int)
    · by_cases hcl : most = -1 ∨ (chs.length : Int) < most
      · have hb9 : true = decide (most = -1 ∨ (chs.length : Int) < most) := (decide_eq_true hcl).symm
        k_steps
        (with_reducible rename Fr _ _ _ _ => F9)
        (with_reducible rename News _ _ _ _ => N9)
        show wpAny _ _ _ _ _ _
        have S6 := Cv4.now F9 N9 (fun q hq => by repeat (first | assumption | refine List.Mem.tail _ ?_))
        have kp6 : ∀ b o, hh.get? b = some o → b ≠ L → b ∉ [ch] → _ := fun b o e n1 n2 => S6 b o (ev4 ▸ hideAll_get _ e (fun hm => (List.mem_cons.mp hm).elim n1 n2))
        have P6 := P4.step B kp6
        have reps6 : ∀ (x : Nat) a d, chs[x]? = some a → dn[x]? = some d → NodeRep Γ _ a i d := fun x a d e1 e2 => (reps x a d e1 e2).keep (Heap.StaysIn.nd (P4.stays B kp6))
        have hc6 := N9.get (.head _)
        refine um_call B P6 F9 MG hgn C.lo hfr hfo rfl hik hq1 hdp hun (IH i _ hik hsti) hfh (List.forall_mem_cons.mpr ⟨Heap.lt_size hc6, List.forall_mem_nil _⟩) ?_
        intro v h7 tk7 reg7 ecs7 P7 F7 res7 kv7 kd7 sz7
        have reps7 : ∀ (x : Nat) a d, chs[x]? = some a → dn[x]? = some d → NodeRep Γ _ a i d := fun x a d e1 e2 => (reps6 x a d e1 e2).keep kv7
        clear reps reps6
        have hc7 := kd7 _ _ hc6 nch
        have hL7 := P7.offL B
        have nfr7 := P7.nfr (dp := dp) (un := un) F7 MG hfr
        have ok7 := P7.ndAt B vok nok
        obtain ⟨es7, n7, hda7, _, _⟩ := (P7.inv.att k hkN).there
        replace hda7 := Cfg.vget hda7
        have hmda7 := P7.inv.mem_da hkN
        have cell7 : ∀ a o, h7.get? a = some o → (∀ es n, o.data ≠ .dict es n) → g.get? a = none → h7.get? a = some o ∧ a ≠ L ∧ g.get? a = none := fun a o e nd l => ⟨e, Fr.neL F7 e nd, l⟩
        have celld7 : ∀ a o, h7.get? a = some o → a ∈ dictAddrs Γ ecs7 → h7.get? a = some o ∧ a ≠ L ∧ g.get? a = none := fun a o e hm => ⟨e, fun q => hL7 (q ▸ hm), hgn _ (lo0 _ (P7.inv.dl _ hm)) (nfr7 _ hm)⟩
        obtain ⟨tl7, hvh7, hN7, Cv7, ev7, htl7⟩ := focus [ch] F7
        have tc7 : ∀ q ∈ tl7, q.1 ≠ ch := fun q hq => htl7 q hq _ (.head _)
        rcases res7 with ⟨hEi, rfl⟩ | ⟨hEi, r, rfl, rep⟩
        · have N7 := hN7 [(ch, _), (Γ.ea k, _), (Γ.da k, dictOf es7 n7)] (List.forall_mem_cons.mpr ⟨cell7 _ _ hc7 nch hcg, List.forall_mem_cons.mpr ⟨cell7 _ _ ok7 nok gk, List.forall_mem_cons.mpr ⟨celld7 _ _ hda7 hmda7, List.forall_mem_nil _⟩⟩⟩)
          simp only [List.cons_append, List.nil_append] at N7
          clear hN7 F9 N9
          k_steps
          (with_reducible rename Fr _ _ _ _ => F9)
          (with_reducible rename News _ _ _ _ => N9)
          have S8 := Cv7.now F9 N9 (fun q hq => by repeat (first | assumption | refine List.Mem.tail _ ?_))
          have kp8 : ∀ b o, h7.get? b = some o → b ≠ L → b ∉ [ch] → _ := fun b o e n1 n2 => S8 b o (ev7 ▸ hideAll_get _ e (fun hm => (List.mem_cons.mp hm).elim n1 n2))
          refine hold_of ?_
          refine ⟨_, _, rfl, q, t, _, dn, chs, cap, reg7, ecs7, hq1, by omega, hdn, ?_, frQ F9 rfl (fun z a b c => ?_), N9.get (.head _), P7.step B kp8, fun x a d e1 e2 => (reps7 x a d e1 e2).keep (Heap.StaysIn.nd (P7.stays B kp8))⟩
          · rw [hrun, runs_zero (by omega)]; simp
          · have hc : [Str.ofString "node", Str.ofString "length"].contains z = false := by simp [b, c]
            simp only [kstB, if_neg a, if_neg b, if_neg c, hc, Bool.false_eq_true, if_false]
        · obtain ⟨lor, dr, tk1, tk2, cr, odr, vr, ldr, vdr⟩ := nodeAt rep
          have hr := Cfg.vget vr
          have hdr := Cfg.vget vdr
          have cr1 : h7.get? r = some _ ∧ r ≠ L ∧ g.get? r = none := ⟨hr, fun q => Cfg.vnot vr (List.mem_append_right _ (q ▸ B.Lh)), hgn _ (lo0 _ lor) fun hm => Cfg.vnot vr (List.mem_append_right _ (hfh _ hm))⟩
          have cr2 : h7.get? dr = some _ ∧ dr ≠ L ∧ g.get? dr = none := ⟨hdr, fun q => Cfg.vnot vdr (List.mem_append_right _ (q ▸ B.Lh)), hgn _ (lo0 _ ldr) fun hm => Cfg.vnot vdr (List.mem_append_right _ (hfh _ hm))⟩
          have wr2 := neN (fun q => Cfg.vnot vr (List.mem_append_left _ (q ▸ .head _)) : r ≠ ch)
          have wr4 := neN (fun q => Cfg.vnot vdr (List.mem_append_left _ (q ▸ .head _)) : dr ≠ ch)
          have N7 := hN7 [(ch, _), (Γ.ea k, _), (Γ.da k, dictOf es7 n7), (r, _), (dr, odr)] (List.forall_mem_cons.mpr ⟨cell7 _ _ hc7 nch hcg, List.forall_mem_cons.mpr ⟨cell7 _ _ ok7 nok gk, List.forall_mem_cons.mpr ⟨celld7 _ _ hda7 hmda7, List.forall_mem_cons.mpr ⟨cr1, List.forall_mem_cons.mpr ⟨cr2, List.forall_mem_nil _⟩⟩⟩⟩⟩)
          simp only [List.cons_append, List.nil_append] at N7
          clear hN7 F9 N9 cr1 cr2
          have hs2 : ((chs.map Value.ref).toArray.push (.ref r)).size = chs.length + 1 := by simp
          have hz2 : chs.length + 1 ≤ 2000 := by have := C.ok.small; omega
          have hgr := grow q hq1
          have hlo := C.ok.lo i q hiN hq1
          have hhi := C.ok.hi i q hiN hq1
          have hqe : ((Γ.E i q).toNat : Int) = Γ.E i q := by omega
          have hne : ¬ (Γ.E i q - (q : Int) = 0) := by omega
          have ex : (q : Int) + (Γ.E i q - (q : Int)) = ((Γ.E i q).toNat : Int) := by omega
          by_cases hge : (((chs.length + 1 : Nat) : Int)) ≥ (least : Int)
          · k_steps
            · exfalso; omega
            · (with_reducible rename Fr _ _ _ _ => F9)
              (with_reducible rename News _ _ _ _ => N9)
              have S8 := Cv7.now F9 N9 (fun q hq => by repeat (first | assumption | refine List.Mem.tail _ ?_))
              have kp8 : ∀ b o, h7.get? b = some o → b ≠ L → b ∉ [ch] → _ := fun b o e n1 n2 => S8 b o (ev7 ▸ hideAll_get _ e (fun hm => (List.mem_cons.mp hm).elim n1 n2))
              dsimp only
              refine hold_of ?_
              refine ⟨Γ.n - (Γ.E i q).toNat, _, _, by omega, rfl, (Γ.E i q).toNat, _, _, dn ++ [q], chs ++ [r], cap + 1, reg7, ecs7, by omega, ?_, rfl, ?_, ?_, ?_, frQ F9 (x := .int (((Γ.E i q).toNat : Nat) : Int) _) (congrArg (fun z => some (Value.int z _)) ex) (fun z a b c => ?_), ?_, P7.step B kp8, reps_snoc hdn (fun x a d e1 e2 => (reps7 x a d e1 e2).keep (Heap.StaysIn.nd (P7.stays B kp8))) (rep.keep (Heap.StaysIn.nd (P7.stays B kp8)))⟩
              · rw [List.length_append]; show pos + (chs.length + 1) ≤ _; omega
              · rw [List.length_append, List.length_append, hdn]; rfl
              · rw [List.length_append]; show most = -1 ∨ ((chs.length + 1 : Nat) : Int) ≤ most; omega
              · rw [hrun, List.length_append]
                show _ = (_ ++ (runs _ _ (Γ.text.length + 1 - (chs.length + 1)) (chs.length + 1) _).1, (runs _ _ (Γ.text.length + 1 - (chs.length + 1)) (chs.length + 1) _).2)
                have e : Γ.text.length + 1 - chs.length = (Γ.text.length + 1 - (chs.length + 1)) + 1 := by omega
                rw [e, runs_succ ⟨by omega, hEi⟩, List.append_assoc]
                rfl
              · have hc : [Str.ofString "node", Str.ofString "length"].contains z = false := by simp [b, c]
                simp only [kstB, if_neg a, if_neg b, if_neg c, hc, Bool.false_eq_true, if_false]
              · rw [show ((chs ++ [r]).map Value.ref).toArray = (chs.map Value.ref).toArray.push (.ref r) by simp]
                exact N9.get (.head _)
          · k_steps
            (with_reducible rename Fr _ _ _ _ => F9)
            (with_reducible rename News _ _ _ _ => N9)
            have S8 := Cv7.now F9 N9 (fun q hq => by repeat (first | assumption | refine List.Mem.tail _ ?_))
            have kp8 : ∀ b o, h7.get? b = some o → b ≠ L → b ∉ [ch] → _ := fun b o e n1 n2 => S8 b o (ev7 ▸ hideAll_get _ e (fun hm => (List.mem_cons.mp hm).elim n1 n2))
            dsimp only
            refine hold_of ?_
            refine ⟨Γ.n - (Γ.E i q).toNat, _, _, by omega, rfl, (Γ.E i q).toNat, _, _, dn ++ [q], chs ++ [r], cap + 1, reg7, ecs7, by omega, ?_, rfl, ?_, ?_, ?_, frQ F9 (x := .int (((Γ.E i q).toNat : Nat) : Int) _) (congrArg (fun z => some (Value.int z _)) ex) (fun z a b c => ?_), ?_, P7.step B kp8, reps_snoc hdn (fun x a d e1 e2 => (reps7 x a d e1 e2).keep (Heap.StaysIn.nd (P7.stays B kp8))) (rep.keep (Heap.StaysIn.nd (P7.stays B kp8)))⟩
            · rw [List.length_append]; show pos + (chs.length + 1) ≤ _; omega
            · rw [List.length_append, List.length_append, hdn]; rfl
            · rw [List.length_append]; show most = -1 ∨ ((chs.length + 1 : Nat) : Int) ≤ most; omega
            · rw [hrun, List.length_append]
              show _ = (_ ++ (runs _ _ (Γ.text.length + 1 - (chs.length + 1)) (chs.length + 1) _).1, (runs _ _ (Γ.text.length + 1 - (chs.length + 1)) (chs.length + 1) _).2)
              have e : Γ.text.length + 1 - chs.length = (Γ.text.length + 1 - (chs.length + 1)) + 1 := by omega
              rw [e, runs_succ ⟨by omega, hEi⟩, List.append_assoc]
              rfl
            · have hc : [Str.ofString "node", Str.ofString "length"].contains z = false := by simp [b, c]
              simp only [kstB, if_neg a, if_neg b, if_neg c, hc, Bool.false_eq_true, if_false]
            · rw [show ((chs ++ [r]).map Value.ref).toArray = (chs.map Value.ref).toArray.push (.ref r) by simp]
              exact N9.get (.head _)
      · have hb9 : false = decide (most = -1 ∨ (chs.length : Int) < most) := (decide_eq_false hcl).symm
        k_steps
        (with_reducible rename Fr _ _ _ _ => F9)
        (with_reducible rename News _ _ _ _ => N9)
        have S8 := Cv4.now F9 N9 (fun q hq => by repeat (first | assumption | refine List.Mem.tail _ ?_))
        have kp8 : ∀ b o, hh.get? b = some o → b ≠ L → b ∉ [ch] → _ := fun b o e n1 n2 => S8 b o (ev4 ▸ hideAll_get _ e (fun hm => (List.mem_cons.mp hm).elim n1 n2))
        refine hold_of ?_
        refine ⟨_, _, rfl, q, t, u, dn, chs, cap, reg4, ecs4, hq1, by omega, hdn, ?_, F9, N9.get (.head _), P4.step B kp8, fun x a d e1 e2 => (reps x a d e1 e2).keep (Heap.StaysIn.nd (P4.stays B kp8))⟩
        rw [hrun, runs_zero (by omega)]; simp
    · have hgr := grow q hq1
      have hlo := C.ok.lo i q hiN hq1
      have hhi := C.ok.hi i q hiN hq1
      k_steps
      (with_reducible rename Fr _ _ _ _ => F9)
      (with_reducible rename News _ _ _ _ => N9)
      have S8 := Cv4.now F9 N9 (fun q hq => by repeat (first | assumption | refine List.Mem.tail _ ?_))
      have kp8 : ∀ b o, hh.get? b = some o → b ≠ L → b ∉ [ch] → _ := fun b o e n1 n2 => S8 b o (ev4 ▸ hideAll_get _ e (fun hm => (List.mem_cons.mp hm).elim n1 n2))
      refine hold_of ?_
      refine ⟨_, _, rfl, q, t, u, dn, chs, cap, reg4, ecs4, hq1, by omega, hdn, ?_, F9, N9.get (.head _), P4.step B kp8, fun x a d e1 e2 => (reps x a d e1 e2).keep (Heap.StaysIn.nd (P4.stays B kp8))⟩
      rw [hrun, runs_zero (by omega)]; simp
end Mine
end
section
open PySem PySem.W PyProof.Rows PySem.Calls PySem.Spec
namespace Mine
local macro_rules | `(tactic| walk_at "0") => `(tactic| skip)
local macro_rules | `(tactic| walk_at "0") => `(tactic| skip)
local macro_rules | `(tactic| walk_at "0") => `(tactic| skip)
local macro_rules | `(tactic| walk_at "0") => `(tactic| skip)
local macro_rules | `(tactic| walk_at "0") => `(tactic| skip)
local macro_rules | `(tactic| walk_at "0") => `(tactic| skip)
local macro_rules | `(tactic| walk_at "0") => `(tactic| skip)
local macro_rules | `(tactic| walk_at "0") => `(tactic| skip)
local macro_rules | `(tactic| walk_at "0") => `(tactic| skip)
local macro_rules | `(tactic| walk_at "0") => `(tactic| skip)
local macro_rules | `(tactic| walk_at "0") => `(tactic| skip)
local macro_rules | `(tactic| walk_at "0") => `(tactic| skip)
local macro_rules | `(tactic| walk_at "0") => `(tactic| skip)
local macro_rules | `(tactic| walk_at "0") => `(tactic| skip)
local macro_rules | `(tactic| walk_at "0") => `(tactic| skip)
local macro_rules | `(tactic| walk_at "0") => `(tactic| skip)
local macro_rules | `(tactic| walk_at "0") => `(tactic| skip)
local macro_rules | `(tactic| walk_at "0") => `(tactic| skip)
local macro_rules | `(tactic| walk_at "0") => `(tactic| skip)
local macro_rules | `(tactic| walk_at "0") => `(tactic| skip)
local macro_rules | `(tactic| walk_at "0") => `(tactic| skip)
local macro_rules | `(tactic| walk_at "0") => `(tactic| skip)
local macro_rules | `(tactic| walk_at "0") => `(tactic| skip)
local macro_rules | `(tactic| walk_at "0") => `(tactic| skip)
local macro_rules | `(tactic| walk_at "0") => `(tactic| skip)
local macro_rules | `(tactic| walk_at "0") => `(tactic| skip)
local macro_rules | `(tactic| walk_at "0") => `(tactic| skip)
local macro_rules | `(tactic| walk_at "0") => `(tactic| skip)
local macro_rules | `(tactic| walk_at "0") => `(tactic| skip)
local macro_rules | `(tactic| walk_at "0") => `(tactic| skip)
local macro_rules | `(tactic| walk_at "0") => `(tactic| skip)
local macro_rules | `(tactic| walk_at "0") => `(tactic| skip)
local macro_rules | `(tactic| walk_at "0") => `(tactic| skip)
local macro_rules | `(tactic| walk_at "0") => `(tactic| skip)
local macro_rules | `(tactic| walk_at "0") => `(tactic| skip)
local macro_rules | `(tactic| walk_at "0") => `(tactic| skip)
local macro_rules | `(tactic| walk_at "0") => `(tactic| skip)
local macro_rules | `(tactic| walk_at "0") => `(tactic| skip)
local macro_rules | `(tactic| walk_at "0") => `(tactic| skip)
local macro_rules | `(tactic| walk_at "0") => `(tactic| skip)
theorem rs17 : True := by
  w_top off
  trivial
theorem match_all {w : World} {p : Program} {loose : List Str} {mean : ExcName → Option Value} {mg mb : Str → Option Value} {H0 : Heap} {Γ : Cfg} (C : Cx w p loose mean mg mb H0 Γ) :
    ∀ k st, Γ.plan[k]? = some st → CallOk w H0 Γ (k + 1) k 266 := by
  intro k
  induction k using Nat.strongRecOn with
  | _ k ih =>
    intro st hst
    refine mc_call C hst ?_
    cases st with
    | word x => exact um_word C hst
    | both i j => exact um_both C hst fun j st hj => ih j hj st
    | either i j => exact um_either C hst fun j st hj => ih j hj st
    | look i => exact um_look (ng := false) C hst fun j st hj => ih j hj st
    | nay i => exact um_look (ng := true) C hst fun j st hj => ih j hj st
    | times i l m => exact um_times C hst fun j st hj => ih j hj st
end Mine
end
section
open PySem PySem.W PyProof.Rows PySem.Calls PySem.Spec Builtin Builtin.ObjectAttr
set_option maxRecDepth 100000
set_option maxHeartbeats 2000000
namespace Mine
theorem rs18 : True := by
  w_top off
  trivial
section
variable {w : World} {p : Program} {loose : List Str} {mean : ExcName → Option Value} {mg mb : Str → Option Value} {H0 : Heap} {prog : Program}
/-- a def is entered whose binding may make objects, and whose body may ask for super() -/
theorem enterG {dp un : Nat} {gd : Option (List Code)} {fr : List Env} {s : Shared} {R : Result → Shared → Prop} {name qual : Str} {params : Arguments} {body : List Stmt} {scope : Scope} {cl : List (Str × Addr)} {dV kV doc pm cdv ct oc : Value} {an od : Option Addr} {osl : Array (Option Value)} {f : Addr} {args : Args}
    (O : Old w p loose mean mg mb H0) (M : Amb H0 fr s.heap)
    (ho : (_root_.Mine.hd.heap_39 w.params).lookup f = some ⟨oc, od, .func (fnX name qual params body scope cl dV kV doc pm an cdv ct), osl⟩) (hcd : codeIn (_root_.Mine.hd.heap_39 w.params) cdv qual = true) (hroom : dp < recursionLimit)
    (PB : List (Str × Value) → Heap → Nat → Prop)
    (hbind : ∀ (A : Around) (E : Value → Shared → Prop) (Q : List (Str × Value) → Shared → Prop), (∀ binds h' tk', PB binds h' tk' → Q binds { s with heap := h', toks := tk' }) → wpAny (model prog w) A (bindArgs (fnX name qual params body scope cl dV kV doc pm an cdv ct) args) Q E s)
    (hPB : ∀ binds h' tk', PB binds h' tk' → s.heap.StaysIn h' ∧ ∀ y ∈ binds, scope.names.lookup y.1 = some .local)
    (h : ∀ binds h' tk', PB binds h' tk' → ∀ g L h₁, L = h'.objs.size → Fr g L h₁ (fun y => binds.reverse.lookup y) → h'.StaysIn h₁ → Amb H0 fr g → (∀ a, H0.get? a = none → a ∉ frs fr → g.get? a = none) → Below (ar dp un gd fr) H0 fr g → (_root_.Mine.hd.heap_39 w.params).In g → Top p loose mean mg mb g →
      _root_.PySem.wpAt (model prog w) ((ar dp un gd fr).deeper (envX qual scope L f cdv cl)) (.func body (envX qual scope L f cdv cl)) (execs body (envX qual scope L f cdv cl))
        (fun fl s' => R (.ok (.ret (match fl with | .ret v => v | _ => .none))) s')
        (fun e s' => wpAny (model prog w) ((ar dp un gd fr).deeper (envX qual scope L f cdv cl)) (leaving (envX qual scope L f cdv cl) e) (fun _ s'' => R (.error e) s'') (fun e' s'' => R (.error e') s'') s')
        { s with heap := h₁, toks := tk' + binds.length })
    (hco : scope.isCoroutine = false) (hgen : scope.isGenerator = false) (hk : scope.kind = .function)
    (hcell : ∀ x ∈ scope.names, x.2 ≠ .cell) : codeAny (model prog w) (ar dp un gd fr) (.call (.ref f) args) R s := by
  have X := O.X.keeps M.keep
  refine codeAny_call_function (fd := fnX name qual params body scope cl dV kV doc pm an cdv ct) (body := body) hroom (X _ _ ho) rfl hco hgen rfl (codeRec_of X hcd) (hbind _ _ _ fun binds h' tk' hb => ?_)
  obtain ⟨kS, hloc⟩ := hPB _ _ _ hb
  have M' := M.sub kS
  refine wpAny_newFunctionEnv hcell hloc (fun h₁ hns hsb => ⟨(O.T.nolimit.keeps M'.keep).fresh _ hsb, ks_codeAny_funcAt ?_⟩) hk
  have k1 : h'.StaysIn h₁ := fun b o e => hsb.extBut b o (Nat.ne_of_lt (Heap.lt_size e)) (Heap.get?_push_of_some _ e)
  have g1 : H0.StaysIn (ground H0 h' fr) := fun b o e => ground_get.mpr ⟨M'.keep b o e, .inl (by rw [e]; rfl)⟩
  have gf : (ground H0 h' fr).FunFrames H0 fr := funFrames_sub M'.frames fun a ha o e => ground_get.mpr ⟨e, .inr ha⟩
  refine h binds h' tk' hb (ground H0 h' fr) h'.objs.size h₁ rfl ⟨hns, fun b o e => k1 b o (ground_get.mp e).1, Nat.le_of_eq (ground_size _ _ _)⟩ k1 ⟨g1, gf, fun a ha => ?_⟩ (fun a h1 h2 => ?_) ⟨rfl, g1, gf⟩ (O.X.keeps g1) (O.T.keeps g1)
  · obtain ⟨o, es, n, e, d⟩ := M'.fdat a ha
    exact ⟨o, es, n, ground_get.mpr ⟨e, .inr ha⟩, d⟩
  · cases e : (ground H0 h' fr).get? a with
    | none => rfl
    | some o => rcases (ground_get.mp e).2 with h3 | h3
                · rw [h1] at h3; cases h3
                · exact absurd h3 h2
end
end Mine
end
section
open PySem PySem.W PyProof.Rows PySem.Calls PySem.Spec Builtin Builtin.ObjectAttr
set_option maxRecDepth 100000
set_option maxHeartbeats 8000000
namespace Mine
local macro_rules | `(tactic| walk_at "0") => `(tactic| skip)
local macro_rules | `(tactic| walk_at "0") => `(tactic| skip)
local macro_rules | `(tactic| walk_at "0") => `(tactic| skip)
local macro_rules | `(tactic| walk_at "0") => `(tactic| skip)
local macro_rules | `(tactic| walk_at "0") => `(tactic| skip)
local macro_rules | `(tactic| walk_at "0") => `(tactic| skip)
local macro_rules | `(tactic| walk_at "0") => `(tactic| skip)
local macro_rules | `(tactic| walk_at "0") => `(tactic| skip)
local macro_rules | `(tactic| walk_at "0") => `(tactic| skip)
local macro_rules | `(tactic| walk_at "0") => `(tactic| skip)
local macro_rules | `(tactic| walk_at "0") => `(tactic| skip)
local macro_rules | `(tactic| walk_at "0") => `(tactic| skip)
local macro_rules | `(tactic| walk_at "0") => `(tactic| skip)
local macro_rules | `(tactic| walk_at "0") => `(tactic| skip)
local macro_rules | `(tactic| walk_at "0") => `(tactic| skip)
local macro_rules | `(tactic| walk_at "0") => `(tactic| skip)
local macro_rules | `(tactic| walk_at "0") => `(tactic| skip)
local macro_rules | `(tactic| walk_at "0") => `(tactic| skip)
local macro_rules | `(tactic| walk_at "0") => `(tactic| skip)
local macro_rules | `(tactic| walk_at "0") => `(tactic| skip)
local macro_rules | `(tactic| walk_at "0") => `(tactic| skip)
local macro_rules | `(tactic| walk_at "0") => `(tactic| skip)
local macro_rules | `(tactic| walk_at "0") => `(tactic| skip)
local macro_rules | `(tactic| walk_at "0") => `(tactic| skip)
local macro_rules | `(tactic| walk_at "0") => `(tactic| skip)
local macro_rules | `(tactic| walk_at "0") => `(tactic| skip)
local macro_rules | `(tactic| walk_at "0") => `(tactic| skip)
local macro_rules | `(tactic| walk_at "0") => `(tactic| skip)
local macro_rules | `(tactic| walk_at "0") => `(tactic| skip)
local macro_rules | `(tactic| walk_at "0") => `(tactic| skip)
local macro_rules | `(tactic| walk_at "0") => `(tactic| skip)
local macro_rules | `(tactic| walk_at "0") => `(tactic| skip)
local macro_rules | `(tactic| walk_at "0") => `(tactic| skip)
local macro_rules | `(tactic| walk_at "0") => `(tactic| skip)
local macro_rules | `(tactic| walk_at "0") => `(tactic| skip)
local macro_rules | `(tactic| walk_at "0") => `(tactic| skip)
local macro_rules | `(tactic| walk_at "0") => `(tactic| skip)
local macro_rules | `(tactic| walk_at "0") => `(tactic| skip)
local macro_rules | `(tactic| walk_at "0") => `(tactic| skip)
local macro_rules | `(tactic| walk_at "0") => `(tactic| skip)
theorem rs19 : True := by
  w_top off
  trivial
local macro_rules | `(tactic| k_room) => `(tactic| ktr_room)
local macro_rules | `(tactic| k_all) => `(tactic| first | assumption | (intro q9 hq9; (try dsimp only); first | exact allLt_ne (by assumption) (by omega) q9 hq9 | exact lt_ne (by assumption) (by omega) q9 hq9))
local macro_rules | `(tactic| k_inst) => `(tactic| (refine' instOf ?N ?h1 ?h2 ?e1 ?e2 ?e3; (case N => k_asm); (case h1 => k_mem); (case e1 => first | assumption | exact rfl); (case e2 => first | assumption | exact rfl); (case h2 => k_mem); (case e3 => first | assumption | exact rfl)))
local macro_rules | `(tactic| walk_at "wpAt") => `(tactic| k_dflt (ks_step "exec Expr"; refine ks_wpAt_Expr_any ?_))
local macro_rules | `(tactic| walk_at "wpAt") => `(tactic| k_dflt (ks_step "eval Call"; refine ks_wpAt_MethodCall ?_))
variable {w : World} {p : Program} {loose : List Str} {mean : ExcName → Option Value} {mg mb : Str → Option Value} {H0 : Heap}
/-- what an __init__ leaves: the object with its slots filled, all else as it was -/
abbrev InitPost (s : Shared) (x : Addr) (R : Result → Shared → Prop) (ok : Heap → Obj → Prop) : Prop :=
  ∀ h' tk' ox', (∀ b o, s.heap.get? b = some o → b ≠ x → h'.get? b = some o) → h'.get? x = some ox' → ok h' ox' → R (.ok (.ret .none)) { s with heap := h', toks := tk' }
abbrev bindsLit (x : Addr) (word : Str) (t : Tok) (nm : Str) (tn : Tok) : List (Str × Value) := [("self", .ref x), ("literal", .str word t), ("name", .str nm tn)]
theorem init_lit {dp un : Nat} {gd : Option (List Code)} {fr : List Env} {s : Shared} {R : Result → Shared → Prop} {x dx : Addr} {word nm : Str} {t tn : Tok} {args : Args} {n : Nat}
    (O : Old w p loose mean mg mb H0) (M : Amb H0 fr s.heap) (hd : dp + 6 < recursionLimit) (hu : un + 20 < cLine) (hx : s.heap.get? x = some (instObj 336 dx)) (hdx : s.heap.get? dx = some (dictOf [] n)) (x0 : H0.get? x = none) (d0 : H0.get? dx = none) (xf : x ∉ frs fr) (df : dx ∉ frs fr)
    (hb : ∀ oc od fd osl, (_root_.Mine.hd.heap_39 w.params).lookup 318 = some ⟨oc, od, .func fd, osl⟩ → (_root_.Mine.hd.heap_39 w.params).In s.heap → BindsTo s fd args (bindsLit x word t nm tn))
    (hq : InitPost s x R fun _ o => ∃ it, o = { cls := .ref 336, dict := some dx, data := .plain, slots := #[some (.str word t), some (.ref it), some (.str nm tn)] }) :
    codeAny (model PySem.Challenge.rw_vy0014_01.row.prog w) (ar dp un gd fr) (.call (.ref 318) args) R s := by
  refine' enterG O M ?ho ?hcd ?hr (fun b h' tk' => h' = s.heap ∧ tk' = s.toks ∧ b = bindsLit x word t nm tn) ?hb ?hp ?_ ?c1 ?c2 ?c3 ?c4
  case ho => k_is
  case hcd => k_is
  case hr => omega
  case hb => exact fun A E Q q => hb _ _ _ _ (by k_is) (O.X.keeps M.keep) _ A E Q (q _ _ _ ⟨rfl, rfl, rfl⟩)
  case hp => rintro b h' tk' ⟨rfl, rfl, rfl⟩; exact ⟨fun _ _ e => e, locs rfl⟩
  case c1 => exact rfl
  case c2 => exact rfl
  case c3 => exact rfl
  case c4 => decide
  rintro b h' tk' ⟨rfl, rfl, rfl⟩ g L h₁ eL F K1 MG hgn Bw X T
  have xL : x ≠ L := eL ▸ Nat.ne_of_lt (Heap.lt_size hx)
  have dL : dx ≠ L := eL ▸ Nat.ne_of_lt (Heap.lt_size hdx)
  have hxd : x ≠ dx := fun q => by rw [← q, hx] at hdx; cases hdx
  obtain ⟨tl, hvh, hN, Cv, ev, htl⟩ := focus [x] F
  have td : ∀ q ∈ tl, q.1 ≠ x := fun q hq => htl q hq _ (.head _)
  have hxd' := neN hxd
  have N := hN [(x, instObj 336 dx), (dx, dictOf [] n)] (List.forall_mem_cons.mpr ⟨⟨K1 _ _ hx, xL, hgn _ x0 xf⟩, List.forall_mem_cons.mpr ⟨⟨K1 _ _ hdx, dL, hgn _ d0 df⟩, List.forall_mem_nil _⟩⟩)
  simp only [List.cons_append, List.nil_append] at N
  clear hN
  k_steps
  (with_reducible rename Fr _ _ _ _ => F9)
  (with_reducible rename News _ _ _ _ => N9)
  have S9 := Cv.now F9 N9 (fun q hq => by repeat (first | assumption | refine List.Mem.tail _ ?_))
  exact hq _ _ _ (fun b o e n1 => S9 b o (ev ▸ hideAll_get _ (K1 b o e) (by simp only [List.mem_cons, List.not_mem_nil, or_false, not_or]; exact ⟨eL ▸ Nat.ne_of_lt (Heap.lt_size e), n1⟩))) (N9.get (a := x) (by k_mem)) ⟨_, rfl⟩
end Mine
end
section
open PySem PySem.W PyProof.Rows PySem.Calls PySem.Spec Builtin Builtin.ObjectAttr
set_option maxRecDepth 100000
set_option maxHeartbeats 8000000
namespace Mine
theorem rs20 : True := by
  w_top off
  trivial
theorem wp_peekA {α : Type} {K : Frag} {M : Model} {A : Around} {E : Value → Shared → Prop} {Q : α → Shared → Prop} {s : Shared} {o : Obj} (X : K.In s.heap) :
    ∀ (t : Sem α) (g : Addr → Sem α), peekA K ⟨M.prog, M.w.params⟩ t = some (o, g) → wpAny M A (g s.heap.objs.size) Q E { s with heap := s.heap.push o } → wpAny M A t Q E s := by
  intro t
  induction t with
  | rule _ k ih => intro g e q Γ p hΓ; exact ih () g e q Γ p hΓ
  | point _ k ih => intro g e q Γ p hΓ; exact ih () g e q Γ p hΓ
  | ask k ih => intro g e q Γ p hΓ; exact ih _ g e q Γ p hΓ
  | load a _ k ih =>
    intro g e q Γ p hΓ
    simp only [peekA] at e
    split at e
    · rename_i ob ho; exact ⟨ob, X _ _ ho, ih ob g e q Γ p hΓ⟩
    · cases e
  | alloc ob k _ =>
    intro g e q
    have e : some (ob, k) = some (o, g) := e
    obtain ⟨rfl, rfl⟩ := Prod.mk.inj (Option.some.inj e)
    show wpAny M A (alloc ob >>= k) Q E s
    exact wpAny_bind (wpAny_alloc q)
  | _ => intro g e; cases e
/-- the first entry of a new dict -/
theorem nsSet_new {prog : Program} {w : World} {A : Around} {E : Value → Shared → Prop} {s : Shared} {d : Addr} {k : Str} {v : Value} {Q : Unit → Shared → Prop} (D : s.heap.get? d = some (dictOf [] 0))
    (h : ∀ h', Heap.SameBut d s.heap h' → h'.get? d = some (dictOf (kwEs w.params s.toks [(k, v)]) 1) → Q () { s with heap := h', toks := s.toks + 1 }) : wpAny (model prog w) A (nsSet d k v) Q E s := by
  have e : Obj.putName k (PyData.keyHash w.params k) (.str k s.toks) v (dictOf [] 0) = dictOf (kwEs w.params s.toks [(k, v)]) 1 := by
    rw [putName_dict]; rfl
  have c : aRefKeyMayBeTheName k ([] : List DictEntry).toArray = false := rfl
  unfold nsSet
  refine wpAny_bind (wpAny_bind (wpAny_askSetting (wpAny_pure (wpAny_bind (wpAny_mkText (wpAny_bind (wpAny_loadPart D ?_)))))))
  dsimp only
  rw [c]
  exact wpAny_updatePart D (h _ (Heap.SameBut.update _ _ _) ((Heap.get?_update_self _ D (congrArg Obj.isFreed e)).trans (congrArg some e)))
section
variable {prog : Program} {w : World} {A : Around} {E : Value → Shared → Prop} {s : Shared} {g : Heap} {L d : Addr} {news : List (Addr × Obj)}
theorem kw_get1 {od : Obj} {nm : Str} {tn t u : Tok} {Q : Value → Shared → Prop} (N : News g L s.heap news) (hp : (d, od) ∈ news) (hd : od.IsDictOf (strKind prog w) [(Str.ofString "name", Value.str nm tn)]) (lo : (d == sysModules) = false)
    (h : Q (.str nm tn) { s with toks := s.toks + 1 }) : wpAny (model prog w) A (call (.builtin "dict.get") [.ref d, .str (Str.ofString "name") t, .str (Str.ofString "") u]) Q E s :=
  kdg_get2 N hp hd lo (strKind_is prog w (Str.ofString "name") t) (some (.str nm tn)) rfl h
theorem kw_get0 {od : Obj} {t u : Tok} {Q : Value → Shared → Prop} (N : News g L s.heap news) (hp : (d, od) ∈ news) (hd : od.IsDictOf (strKind prog w) []) (lo : (d == sysModules) = false)
    (h : Q (.str (Str.ofString "") u) { s with toks := s.toks + 1 }) : wpAny (model prog w) A (call (.builtin "dict.get") [.ref d, .str (Str.ofString "name") t, .str (Str.ofString "") u]) Q E s :=
  kdg_get2 N hp hd lo (strKind_is prog w (Str.ofString "name") t) none rfl h
end
abbrev bindsComp (x T D : Addr) : List (Str × Value) := [("self", .ref x), ("members", .ref T), ("kwargs", .ref D)]
local macro_rules | `(tactic| k_room) => `(tactic| ktr_room)
local macro_rules | `(tactic| k_all) => `(tactic| first | assumption | (intro q9 hq9; (try dsimp only); first | exact allLt_ne (by assumption) (by omega) q9 hq9 | exact lt_ne (by assumption) (by omega) q9 hq9))
local macro_rules | `(tactic| k_inst) => `(tactic| (refine' instOf ?N ?h1 ?h2 ?e1 ?e2 ?e3; (case N => k_asm); (case h1 => k_mem); (case e1 => first | assumption | exact rfl); (case e2 => first | assumption | exact rfl); (case h2 => k_mem); (case e3 => first | assumption | exact rfl)))
local macro_rules | `(tactic| walk_at "wpAt") => `(tactic| k_dflt (ks_step "exec Expr"; refine ks_wpAt_Expr_any ?_))
local macro_rules | `(tactic| walk_at "wpAt") => `(tactic| k_dflt (ks_step "eval Call"; refine ks_wpAt_MethodCall ?_))
local macro_rules | `(tactic| walk_at "call builtin:dict.get") => `(tactic| (k_here; (with_reducible show wpAny _ _ (call (Value.builtin "dict.get") [Value.ref _, _, _]) _ _ _); k_dflt (refine' kw_get1 ?k1 ?k2 ?k3 ?k4 ?_; (case k1 => k_asm); (case k2 => k_mem); (case k3 => assumption); (case k4 => assumption); k_whole)))
local macro_rules | `(tactic| walk_at "call builtin:dict.get") => `(tactic| (k_here; (with_reducible show wpAny _ _ (call (Value.builtin "dict.get") [Value.ref _, _, _]) _ _ _); k_dflt (refine' kw_get0 ?k1 ?k2 ?k3 ?k4 ?_; (case k1 => k_asm); (case k2 => k_mem); (case k3 => assumption); (case k4 => assumption); k_whole)))
variable {w : World} {p : Program} {loose : List Str} {mean : ExcName → Option Value} {mg mb : Str → Option Value} {H0 : Heap}
theorem init_comp_394 {dp un : Nat} {gd : Option (List Code)} {fr : List Env} {s : Shared} {R : Result → Shared → Prop} {x dx m1 m2 : Addr} {n : Nat} {nm : Str} {tn : Tok}
    (O : Old w p loose mean mg mb H0) (M : Amb H0 fr s.heap) (hd : dp + 6 < recursionLimit) (hu : un + 20 < cLine) (hs : H0.objs.size ≤ s.heap.objs.size) (hx : s.heap.get? x = some (instObj 394 dx)) (hdx : s.heap.get? dx = some (dictOf [] n)) (x0 : H0.get? x = none) (d0 : H0.get? dx = none) (xf : x ∉ frs fr) (df : dx ∉ frs fr)
    (hq : InitPost s x R fun h' o => ∃ mt it, o = { cls := .ref 394, dict := some dx, data := .plain, slots := #[some (.ref mt), some (.ref it), some (.str nm tn)] } ∧ h'.get? mt = some (tupOf [.ref m1, .ref m2] 0) ∧ s.heap.objs.size ≤ mt) :
    codeAny (model PySem.Challenge.rw_vy0014_01.row.prog w) (ar dp un gd fr) (.call (.ref 356) ⟨.ref x :: [.ref m1, .ref m2], [(Str.ofString "name", .str nm tn)]⟩) R s := by
  refine' enterG O M ?ho ?hcd ?hr (fun b h' tk' => ∃ T D, b = bindsComp x T D ∧ s.heap.StaysIn h' ∧ h'.get? T = some (tupOf [.ref m1, .ref m2] 0) ∧ h'.get? D = some (dictOf (kwEs w.params s.toks [(Str.ofString "name", .str nm tn)]) 1) ∧ s.heap.objs.size ≤ T ∧ T < D) ?hb ?hp ?_ ?c1 ?c2 ?c3 ?c4
  case ho => k_is
  case hcd => k_is
  case hr => omega
  case hb =>
    intro A E Q q
    refine wp_peekA (K := _root_.Mine.hd.heap_39 w.params) (o := tupOf [.ref m1, .ref m2] 0) (O.X.keeps M.keep) _ _ rfl ?_
    refine wp_peekA (K := _root_.Mine.hd.heap_39 w.params) (o := dictOf [] 0) (O.X.keeps (fun b o e => Heap.get?_push_of_some _ (M.keep b o e))) _ _ rfl ?_
    show wpAny _ _ (forIn [(Str.ofString "name", Value.str nm tn)] PUnit.unit (fun (x : Str × Value) _ => (nsSet (s.heap.push (tupOf [.ref m1, .ref m2] 0)).objs.size x.1 x.2 >>= fun _ => pure (ForInStep.yield PUnit.unit))) >>= fun _ => pure (bindsComp x s.heap.objs.size (s.heap.push (tupOf [.ref m1, .ref m2] 0)).objs.size)) _ _ _
    have sT := Heap.size_push s.heap (tupOf [.ref m1, .ref m2] 0)
    rw [List.forIn_cons]
    refine wpAny_bind (wpAny_bind (wpAny_bind (nsSet_new (Heap.get?_push_size _ rfl) fun h' hs hD => wpAny_pure ?_)))
    show wpAny _ _ (forIn [] PUnit.unit _) _ _ _
    rw [List.forIn_nil]
    refine wpAny_pure (wpAny_pure ?_)
    refine q _ _ _ ⟨_, _, rfl, fun b o e => ?_, ?_, hD, Nat.le_refl _, by rw [sT]; exact Nat.lt_succ_self _⟩
    · rw [hs.2 b (by rw [sT]; exact Nat.ne_of_lt (Nat.lt_succ_of_lt (Heap.lt_size e)))]
      exact Heap.get?_push_of_some _ (Heap.get?_push_of_some _ e)
    · rw [hs.2 _ (by rw [sT]; exact Nat.ne_of_lt (Nat.lt_succ_self _))]
      exact Heap.get?_push_of_some _ (Heap.get?_push_size _ rfl)
  case hp => rintro b h' tk' ⟨T, D, rfl, k, _⟩; exact ⟨k, locs rfl⟩
  case c1 => exact rfl
  case c2 => exact rfl
  case c3 => exact rfl
  case c4 => decide
  rintro b h' tk' ⟨T9, D9, rfl, kS, hT9, hD9, lT9, lD9⟩ g L h₁ eL F K1 MG hgn Bw X T
  have hx' := kS _ _ hx
  have hdx' := kS _ _ hdx
  have xL : x ≠ L := eL ▸ Nat.ne_of_lt (Heap.lt_size hx')
  have dL : dx ≠ L := eL ▸ Nat.ne_of_lt (Heap.lt_size hdx')
  have TL : T9 ≠ L := eL ▸ Nat.ne_of_lt (Heap.lt_size hT9)
  have DL : D9 ≠ L := eL ▸ Nat.ne_of_lt (Heap.lt_size hD9)
  have new : ∀ a, s.heap.objs.size ≤ a → H0.get? a = none ∧ a ∉ frs fr := fun a l => ⟨(by cases q : H0.get? a with | none => rfl | some o => exact absurd (Heap.lt_size (M.keep _ _ q)) (Nat.not_lt.mpr l)), fun hm => absurd (frs_lt M.frames a hm) (Nat.not_lt.mpr l)⟩
  have nT := new _ lT9
  have nD := new _ (Nat.le_of_lt (Nat.lt_of_le_of_lt lT9 lD9))
  have hxd : x ≠ dx := fun q => by rw [← q, hx] at hdx; cases hdx
  have l1 := Heap.lt_size hx
  have hxd' := neN hxd
  have q2 := neN (Nat.ne_of_lt (Nat.lt_of_lt_of_le (Heap.lt_size hx) lT9)).symm
  have q3 := neN (Nat.ne_of_lt (Nat.lt_trans (Nat.lt_of_lt_of_le (Heap.lt_size hx) lT9) lD9)).symm
  have losc := low_ne_modules O.T (Nat.le_trans hs (Nat.le_of_lt (Nat.lt_of_le_of_lt lT9 lD9)))
  obtain ⟨oD, eD, hs9⟩ : ∃ oD, oD = dictOf (kwEs w.params s.toks [(Str.ofString "name", .str nm tn)]) 1 ∧ oD.IsDictOf (strKind PySem.Challenge.rw_vy0014_01.row.prog w) [(Str.ofString "name", .str nm tn)] := ⟨_, rfl, kp_isDict s.toks 1 (by simp)⟩
  rw [← eD] at hD9
  have ndD : ∃ es n, oD.data = .dict es n := ⟨_, _, by rw [eD]⟩
  clear eD
  obtain ⟨tl, hvh, hN, Cv, ev, htl⟩ := focus [x] F
  have td : ∀ q ∈ tl, q.1 ≠ x := fun q hq => htl q hq _ (.head _)
  have N := hN [(D9, oD), (T9, tupOf [.ref m1, .ref m2] 0), (x, instObj 394 dx), (dx, dictOf [] n)] (List.forall_mem_cons.mpr ⟨⟨K1 _ _ hD9, DL, hgn _ nD.1 nD.2⟩, List.forall_mem_cons.mpr ⟨⟨K1 _ _ hT9, TL, hgn _ nT.1 nT.2⟩, List.forall_mem_cons.mpr ⟨⟨K1 _ _ hx', xL, hgn _ x0 xf⟩, List.forall_mem_cons.mpr ⟨⟨K1 _ _ hdx', dL, hgn _ d0 df⟩, List.forall_mem_nil _⟩⟩⟩⟩)
  simp only [List.cons_append, List.nil_append] at N
  clear hN
  k_steps
  (with_reducible rename Fr _ _ _ _ => F9)
  (with_reducible rename News _ _ _ _ => N9)
  have S9 := Cv.now F9 N9 (fun q hq => by repeat (first | assumption | refine List.Mem.tail _ ?_))
  exact hq _ _ _ (fun b o e n1 => S9 b o (ev ▸ hideAll_get _ (K1 b o (kS b o e)) (by simp only [List.mem_cons, List.not_mem_nil, or_false, not_or]; exact ⟨eL ▸ Nat.ne_of_lt (Heap.lt_size (kS b o e)), n1⟩))) (N9.get (a := x) (by k_mem)) ⟨_, _, rfl, N9.get (by k_mem), lT9⟩
theorem init_comp_420 {dp un : Nat} {gd : Option (List Code)} {fr : List Env} {s : Shared} {R : Result → Shared → Prop} {x dx m1 m2 : Addr} {n : Nat} {nm : Str} {tn : Tok}
    (O : Old w p loose mean mg mb H0) (M : Amb H0 fr s.heap) (hd : dp + 6 < recursionLimit) (hu : un + 20 < cLine) (hs : H0.objs.size ≤ s.heap.objs.size) (hx : s.heap.get? x = some (instObj 420 dx)) (hdx : s.heap.get? dx = some (dictOf [] n)) (x0 : H0.get? x = none) (d0 : H0.get? dx = none) (xf : x ∉ frs fr) (df : dx ∉ frs fr)
    (hq : InitPost s x R fun h' o => ∃ mt it, o = { cls := .ref 420, dict := some dx, data := .plain, slots := #[some (.ref mt), some (.ref it), some (.str nm tn)] } ∧ h'.get? mt = some (tupOf [.ref m1, .ref m2] 0) ∧ s.heap.objs.size ≤ mt) :
    codeAny (model PySem.Challenge.rw_vy0014_01.row.prog w) (ar dp un gd fr) (.call (.ref 356) ⟨.ref x :: [.ref m1, .ref m2], [(Str.ofString "name", .str nm tn)]⟩) R s := by
  refine' enterG O M ?ho ?hcd ?hr (fun b h' tk' => ∃ T D, b = bindsComp x T D ∧ s.heap.StaysIn h' ∧ h'.get? T = some (tupOf [.ref m1, .ref m2] 0) ∧ h'.get? D = some (dictOf (kwEs w.params s.toks [(Str.ofString "name", .str nm tn)]) 1) ∧ s.heap.objs.size ≤ T ∧ T < D) ?hb ?hp ?_ ?c1 ?c2 ?c3 ?c4
  case ho => k_is
  case hcd => k_is
  case hr => omega
  case hb =>
    intro A E Q q
    refine wp_peekA (K := _root_.Mine.hd.heap_39 w.params) (o := tupOf [.ref m1, .ref m2] 0) (O.X.keeps M.keep) _ _ rfl ?_
    refine wp_peekA (K := _root_.Mine.hd.heap_39 w.params) (o := dictOf [] 0) (O.X.keeps (fun b o e => Heap.get?_push_of_some _ (M.keep b o e))) _ _ rfl ?_
    show wpAny _ _ (forIn [(Str.ofString "name", Value.str nm tn)] PUnit.unit (fun (x : Str × Value) _ => (nsSet (s.heap.push (tupOf [.ref m1, .ref m2] 0)).objs.size x.1 x.2 >>= fun _ => pure (ForInStep.yield PUnit.unit))) >>= fun _ => pure (bindsComp x s.heap.objs.size (s.heap.push (tupOf [.ref m1, .ref m2] 0)).objs.size)) _ _ _
    have sT := Heap.size_push s.heap (tupOf [.ref m1, .ref m2] 0)
    rw [List.forIn_cons]
    refine wpAny_bind (wpAny_bind (wpAny_bind (nsSet_new (Heap.get?_push_size _ rfl) fun h' hs hD => wpAny_pure ?_)))
    show wpAny _ _ (forIn [] PUnit.unit _) _ _ _
    rw [List.forIn_nil]
    refine wpAny_pure (wpAny_pure ?_)
    refine q _ _ _ ⟨_, _, rfl, fun b o e => ?_, ?_, hD, Nat.le_refl _, by rw [sT]; exact Nat.lt_succ_self _⟩
    · rw [hs.2 b (by rw [sT]; exact Nat.ne_of_lt (Nat.lt_succ_of_lt (Heap.lt_size e)))]
      exact Heap.get?_push_of_some _ (Heap.get?_push_of_some _ e)
    · rw [hs.2 _ (by rw [sT]; exact Nat.ne_of_lt (Nat.lt_succ_self _))]
      exact Heap.get?_push_of_some _ (Heap.get?_push_size _ rfl)
  case hp => rintro b h' tk' ⟨T, D, rfl, k, _⟩; exact ⟨k, locs rfl⟩
  case c1 => exact rfl
  case c2 => exact rfl
  case c3 => exact rfl
  case c4 => decide
  rintro b h' tk' ⟨T9, D9, rfl, kS, hT9, hD9, lT9, lD9⟩ g L h₁ eL F K1 MG hgn Bw X T
  have hx' := kS _ _ hx
  have hdx' := kS _ _ hdx
  have xL : x ≠ L := eL ▸ Nat.ne_of_lt (Heap.lt_size hx')
  have dL : dx ≠ L := eL ▸ Nat.ne_of_lt (Heap.lt_size hdx')
  have TL : T9 ≠ L := eL ▸ Nat.ne_of_lt (Heap.lt_size hT9)
  have DL : D9 ≠ L := eL ▸ Nat.ne_of_lt (Heap.lt_size hD9)
  have new : ∀ a, s.heap.objs.size ≤ a → H0.get? a = none ∧ a ∉ frs fr := fun a l => ⟨(by cases q : H0.get? a with | none => rfl | some o => exact absurd (Heap.lt_size (M.keep _ _ q)) (Nat.not_lt.mpr l)), fun hm => absurd (frs_lt M.frames a hm) (Nat.not_lt.mpr l)⟩
  have nT := new _ lT9
  have nD := new _ (Nat.le_of_lt (Nat.lt_of_le_of_lt lT9 lD9))
  have hxd : x ≠ dx := fun q => by rw [← q, hx] at hdx; cases hdx
  have l1 := Heap.lt_size hx
  have hxd' := neN hxd
  have q2 := neN (Nat.ne_of_lt (Nat.lt_of_lt_of_le (Heap.lt_size hx) lT9)).symm
  have q3 := neN (Nat.ne_of_lt (Nat.lt_trans (Nat.lt_of_lt_of_le (Heap.lt_size hx) lT9) lD9)).symm
  have losc := low_ne_modules O.T (Nat.le_trans hs (Nat.le_of_lt (Nat.lt_of_le_of_lt lT9 lD9)))
  obtain ⟨oD, eD, hs9⟩ : ∃ oD, oD = dictOf (kwEs w.params s.toks [(Str.ofString "name", .str nm tn)]) 1 ∧ oD.IsDictOf (strKind PySem.Challenge.rw_vy0014_01.row.prog w) [(Str.ofString "name", .str nm tn)] := ⟨_, rfl, kp_isDict s.toks 1 (by simp)⟩
  rw [← eD] at hD9
  have ndD : ∃ es n, oD.data = .dict es n := ⟨_, _, by rw [eD]⟩
  clear eD
  obtain ⟨tl, hvh, hN, Cv, ev, htl⟩ := focus [x] F
  have td : ∀ q ∈ tl, q.1 ≠ x := fun q hq => htl q hq _ (.head _)
  have N := hN [(D9, oD), (T9, tupOf [.ref m1, .ref m2] 0), (x, instObj 420 dx), (dx, dictOf [] n)] (List.forall_mem_cons.mpr ⟨⟨K1 _ _ hD9, DL, hgn _ nD.1 nD.2⟩, List.forall_mem_cons.mpr ⟨⟨K1 _ _ hT9, TL, hgn _ nT.1 nT.2⟩, List.forall_mem_cons.mpr ⟨⟨K1 _ _ hx', xL, hgn _ x0 xf⟩, List.forall_mem_cons.mpr ⟨⟨K1 _ _ hdx', dL, hgn _ d0 df⟩, List.forall_mem_nil _⟩⟩⟩⟩)
  simp only [List.cons_append, List.nil_append] at N
  clear hN
  k_steps
  (with_reducible rename Fr _ _ _ _ => F9)
  (with_reducible rename News _ _ _ _ => N9)
  have S9 := Cv.now F9 N9 (fun q hq => by repeat (first | assumption | refine List.Mem.tail _ ?_))
  exact hq _ _ _ (fun b o e n1 => S9 b o (ev ▸ hideAll_get _ (K1 b o (kS b o e)) (by simp only [List.mem_cons, List.not_mem_nil, or_false, not_or]; exact ⟨eL ▸ Nat.ne_of_lt (Heap.lt_size (kS b o e)), n1⟩))) (N9.get (a := x) (by k_mem)) ⟨_, _, rfl, N9.get (by k_mem), lT9⟩
theorem init_comp_458 {dp un : Nat} {gd : Option (List Code)} {fr : List Env} {s : Shared} {R : Result → Shared → Prop} {x dx m1 : Addr} {n : Nat} {nm : Str} {tn : Tok}
    (O : Old w p loose mean mg mb H0) (M : Amb H0 fr s.heap) (hd : dp + 6 < recursionLimit) (hu : un + 20 < cLine) (hs : H0.objs.size ≤ s.heap.objs.size) (hx : s.heap.get? x = some (instObj 458 dx)) (hdx : s.heap.get? dx = some (dictOf [] n)) (x0 : H0.get? x = none) (d0 : H0.get? dx = none) (xf : x ∉ frs fr) (df : dx ∉ frs fr)
    (hq : InitPost s x R fun h' o => ∃ mt it, o = { cls := .ref 458, dict := some dx, data := .plain, slots := #[none, some (.ref mt), some (.ref it), some (.str nm tn)] } ∧ h'.get? mt = some (tupOf [.ref m1] 0) ∧ s.heap.objs.size ≤ mt) :
    codeAny (model PySem.Challenge.rw_vy0014_01.row.prog w) (ar dp un gd fr) (.call (.ref 356) ⟨.ref x :: [.ref m1], [(Str.ofString "name", .str nm tn)]⟩) R s := by
  refine' enterG O M ?ho ?hcd ?hr (fun b h' tk' => ∃ T D, b = bindsComp x T D ∧ s.heap.StaysIn h' ∧ h'.get? T = some (tupOf [.ref m1] 0) ∧ h'.get? D = some (dictOf (kwEs w.params s.toks [(Str.ofString "name", .str nm tn)]) 1) ∧ s.heap.objs.size ≤ T ∧ T < D) ?hb ?hp ?_ ?c1 ?c2 ?c3 ?c4
  case ho => k_is
  case hcd => k_is
  case hr => omega
  case hb =>
    intro A E Q q
    refine wp_peekA (K := _root_.Mine.hd.heap_39 w.params) (o := tupOf [.ref m1] 0) (O.X.keeps M.keep) _ _ rfl ?_
    refine wp_peekA (K := _root_.Mine.hd.heap_39 w.params) (o := dictOf [] 0) (O.X.keeps (fun b o e => Heap.get?_push_of_some _ (M.keep b o e))) _ _ rfl ?_
    show wpAny _ _ (forIn [(Str.ofString "name", Value.str nm tn)] PUnit.unit (fun (x : Str × Value) _ => (nsSet (s.heap.push (tupOf [.ref m1] 0)).objs.size x.1 x.2 >>= fun _ => pure (ForInStep.yield PUnit.unit))) >>= fun _ => pure (bindsComp x s.heap.objs.size (s.heap.push (tupOf [.ref m1] 0)).objs.size)) _ _ _
    have sT := Heap.size_push s.heap (tupOf [.ref m1] 0)
    rw [List.forIn_cons]
    refine wpAny_bind (wpAny_bind (wpAny_bind (nsSet_new (Heap.get?_push_size _ rfl) fun h' hs hD => wpAny_pure ?_)))
    show wpAny _ _ (forIn [] PUnit.unit _) _ _ _
    rw [List.forIn_nil]
    refine wpAny_pure (wpAny_pure ?_)
    refine q _ _ _ ⟨_, _, rfl, fun b o e => ?_, ?_, hD, Nat.le_refl _, by rw [sT]; exact Nat.lt_succ_self _⟩
    · rw [hs.2 b (by rw [sT]; exact Nat.ne_of_lt (Nat.lt_succ_of_lt (Heap.lt_size e)))]
      exact Heap.get?_push_of_some _ (Heap.get?_push_of_some _ e)
    · rw [hs.2 _ (by rw [sT]; exact Nat.ne_of_lt (Nat.lt_succ_self _))]
      exact Heap.get?_push_of_some _ (Heap.get?_push_size _ rfl)
  case hp => rintro b h' tk' ⟨T, D, rfl, k, _⟩; exact ⟨k, locs rfl⟩
  case c1 => exact rfl
  case c2 => exact rfl
  case c3 => exact rfl
  case c4 => decide
  rintro b h' tk' ⟨T9, D9, rfl, kS, hT9, hD9, lT9, lD9⟩ g L h₁ eL F K1 MG hgn Bw X T
  have hx' := kS _ _ hx
  have hdx' := kS _ _ hdx
  have xL : x ≠ L := eL ▸ Nat.ne_of_lt (Heap.lt_size hx')
  have dL : dx ≠ L := eL ▸ Nat.ne_of_lt (Heap.lt_size hdx')
  have TL : T9 ≠ L := eL ▸ Nat.ne_of_lt (Heap.lt_size hT9)
  have DL : D9 ≠ L := eL ▸ Nat.ne_of_lt (Heap.lt_size hD9)
  have new : ∀ a, s.heap.objs.size ≤ a → H0.get? a = none ∧ a ∉ frs fr := fun a l => ⟨(by cases q : H0.get? a with | none => rfl | some o => exact absurd (Heap.lt_size (M.keep _ _ q)) (Nat.not_lt.mpr l)), fun hm => absurd (frs_lt M.frames a hm) (Nat.not_lt.mpr l)⟩
  have nT := new _ lT9
  have nD := new _ (Nat.le_of_lt (Nat.lt_of_le_of_lt lT9 lD9))
  have hxd : x ≠ dx := fun q => by rw [← q, hx] at hdx; cases hdx
  have l1 := Heap.lt_size hx
  have hxd' := neN hxd
  have q2 := neN (Nat.ne_of_lt (Nat.lt_of_lt_of_le (Heap.lt_size hx) lT9)).symm
  have q3 := neN (Nat.ne_of_lt (Nat.lt_trans (Nat.lt_of_lt_of_le (Heap.lt_size hx) lT9) lD9)).symm
  have losc := low_ne_modules O.T (Nat.le_trans hs (Nat.le_of_lt (Nat.lt_of_le_of_lt lT9 lD9)))
  obtain ⟨oD, eD, hs9⟩ : ∃ oD, oD = dictOf (kwEs w.params s.toks [(Str.ofString "name", .str nm tn)]) 1 ∧ oD.IsDictOf (strKind PySem.Challenge.rw_vy0014_01.row.prog w) [(Str.ofString "name", .str nm tn)] := ⟨_, rfl, kp_isDict s.toks 1 (by simp)⟩
  rw [← eD] at hD9
  have ndD : ∃ es n, oD.data = .dict es n := ⟨_, _, by rw [eD]⟩
  clear eD
  obtain ⟨tl, hvh, hN, Cv, ev, htl⟩ := focus [x] F
  have td : ∀ q ∈ tl, q.1 ≠ x := fun q hq => htl q hq _ (.head _)
  have N := hN [(D9, oD), (T9, tupOf [.ref m1] 0), (x, instObj 458 dx), (dx, dictOf [] n)] (List.forall_mem_cons.mpr ⟨⟨K1 _ _ hD9, DL, hgn _ nD.1 nD.2⟩, List.forall_mem_cons.mpr ⟨⟨K1 _ _ hT9, TL, hgn _ nT.1 nT.2⟩, List.forall_mem_cons.mpr ⟨⟨K1 _ _ hx', xL, hgn _ x0 xf⟩, List.forall_mem_cons.mpr ⟨⟨K1 _ _ hdx', dL, hgn _ d0 df⟩, List.forall_mem_nil _⟩⟩⟩⟩)
  simp only [List.cons_append, List.nil_append] at N
  clear hN
  k_steps
  (with_reducible rename Fr _ _ _ _ => F9)
  (with_reducible rename News _ _ _ _ => N9)
  have S9 := Cv.now F9 N9 (fun q hq => by repeat (first | assumption | refine List.Mem.tail _ ?_))
  exact hq _ _ _ (fun b o e n1 => S9 b o (ev ▸ hideAll_get _ (K1 b o (kS b o e)) (by simp only [List.mem_cons, List.not_mem_nil, or_false, not_or]; exact ⟨eL ▸ Nat.ne_of_lt (Heap.lt_size (kS b o e)), n1⟩))) (N9.get (a := x) (by k_mem)) ⟨_, _, rfl, N9.get (by k_mem), lT9⟩
theorem init_comp_458_0 {dp un : Nat} {gd : Option (List Code)} {fr : List Env} {s : Shared} {R : Result → Shared → Prop} {x dx m1 : Addr} {n : Nat}
    (O : Old w p loose mean mg mb H0) (M : Amb H0 fr s.heap) (hd : dp + 6 < recursionLimit) (hu : un + 20 < cLine) (hs : H0.objs.size ≤ s.heap.objs.size) (hx : s.heap.get? x = some (instObj 458 dx)) (hdx : s.heap.get? dx = some (dictOf [] n)) (x0 : H0.get? x = none) (d0 : H0.get? dx = none) (xf : x ∉ frs fr) (df : dx ∉ frs fr)
    (hq : InitPost s x R fun h' o => ∃ mt it, ∃ tn : Tok, o = { cls := .ref 458, dict := some dx, data := .plain, slots := #[none, some (.ref mt), some (.ref it), some (.str (Str.ofString "") tn)] } ∧ h'.get? mt = some (tupOf [.ref m1] 0) ∧ s.heap.objs.size ≤ mt) :
    codeAny (model PySem.Challenge.rw_vy0014_01.row.prog w) (ar dp un gd fr) (.call (.ref 356) ⟨.ref x :: [.ref m1], []⟩) R s := by
  refine' enterG O M ?ho ?hcd ?hr (fun b h' tk' => ∃ T D, b = bindsComp x T D ∧ s.heap.StaysIn h' ∧ h'.get? T = some (tupOf [.ref m1] 0) ∧ h'.get? D = some (dictOf [] 0) ∧ s.heap.objs.size ≤ T ∧ T < D) ?hb ?hp ?_ ?c1 ?c2 ?c3 ?c4
  case ho => k_is
  case hcd => k_is
  case hr => omega
  case hb =>
    intro A E Q q
    refine wp_peekA (K := _root_.Mine.hd.heap_39 w.params) (o := tupOf [.ref m1] 0) (O.X.keeps M.keep) _ _ rfl ?_
    refine wp_peekA (K := _root_.Mine.hd.heap_39 w.params) (o := dictOf [] 0) (O.X.keeps (fun b o e => Heap.get?_push_of_some _ (M.keep b o e))) _ _ rfl ?_
    show wpAny _ _ (forIn ([] : List (Str × Value)) PUnit.unit (fun (x : Str × Value) _ => (nsSet (s.heap.push (tupOf [.ref m1] 0)).objs.size x.1 x.2 >>= fun _ => pure (ForInStep.yield PUnit.unit))) >>= fun _ => pure (bindsComp x s.heap.objs.size (s.heap.push (tupOf [.ref m1] 0)).objs.size)) _ _ _
    have sT := Heap.size_push s.heap (tupOf [.ref m1] 0)
    rw [List.forIn_nil]
    refine wpAny_bind (wpAny_pure (wpAny_pure ?_))
    refine q _ _ _ ⟨_, _, rfl, fun b o e => ?_, ?_, Heap.get?_push_size _ rfl, Nat.le_refl _, by rw [sT]; exact Nat.lt_succ_self _⟩
    · exact Heap.get?_push_of_some _ (Heap.get?_push_of_some _ e)
    · exact Heap.get?_push_of_some _ (Heap.get?_push_size _ rfl)
  case hp => rintro b h' tk' ⟨T, D, rfl, k, _⟩; exact ⟨k, locs rfl⟩
  case c1 => exact rfl
  case c2 => exact rfl
  case c3 => exact rfl
  case c4 => decide
  rintro b h' tk' ⟨T9, D9, rfl, kS, hT9, hD9, lT9, lD9⟩ g L h₁ eL F K1 MG hgn Bw X T
  have hx' := kS _ _ hx
  have hdx' := kS _ _ hdx
  have xL : x ≠ L := eL ▸ Nat.ne_of_lt (Heap.lt_size hx')
  have dL : dx ≠ L := eL ▸ Nat.ne_of_lt (Heap.lt_size hdx')
  have TL : T9 ≠ L := eL ▸ Nat.ne_of_lt (Heap.lt_size hT9)
  have DL : D9 ≠ L := eL ▸ Nat.ne_of_lt (Heap.lt_size hD9)
  have new : ∀ a, s.heap.objs.size ≤ a → H0.get? a = none ∧ a ∉ frs fr := fun a l => ⟨(by cases q : H0.get? a with | none => rfl | some o => exact absurd (Heap.lt_size (M.keep _ _ q)) (Nat.not_lt.mpr l)), fun hm => absurd (frs_lt M.frames a hm) (Nat.not_lt.mpr l)⟩
  have nT := new _ lT9
  have nD := new _ (Nat.le_of_lt (Nat.lt_of_le_of_lt lT9 lD9))
  have hxd : x ≠ dx := fun q => by rw [← q, hx] at hdx; cases hdx
  have l1 := Heap.lt_size hx
  have hxd' := neN hxd
  have q2 := neN (Nat.ne_of_lt (Nat.lt_of_lt_of_le (Heap.lt_size hx) lT9)).symm
  have q3 := neN (Nat.ne_of_lt (Nat.lt_trans (Nat.lt_of_lt_of_le (Heap.lt_size hx) lT9) lD9)).symm
  have losc := low_ne_modules O.T (Nat.le_trans hs (Nat.le_of_lt (Nat.lt_of_le_of_lt lT9 lD9)))
  obtain ⟨oD, eD, hs9⟩ : ∃ oD, oD = dictOf [] 0 ∧ oD.IsDictOf (strKind PySem.Challenge.rw_vy0014_01.row.prog w) [] := ⟨_, rfl, kp_isDict (ex := []) s.toks 0 List.nodup_nil⟩
  rw [← eD] at hD9
  have ndD : ∃ es n, oD.data = .dict es n := ⟨_, _, by rw [eD]⟩
  clear eD
  obtain ⟨tl, hvh, hN, Cv, ev, htl⟩ := focus [x] F
  have td : ∀ q ∈ tl, q.1 ≠ x := fun q hq => htl q hq _ (.head _)
  have N := hN [(D9, oD), (T9, tupOf [.ref m1] 0), (x, instObj 458 dx), (dx, dictOf [] n)] (List.forall_mem_cons.mpr ⟨⟨K1 _ _ hD9, DL, hgn _ nD.1 nD.2⟩, List.forall_mem_cons.mpr ⟨⟨K1 _ _ hT9, TL, hgn _ nT.1 nT.2⟩, List.forall_mem_cons.mpr ⟨⟨K1 _ _ hx', xL, hgn _ x0 xf⟩, List.forall_mem_cons.mpr ⟨⟨K1 _ _ hdx', dL, hgn _ d0 df⟩, List.forall_mem_nil _⟩⟩⟩⟩)
  simp only [List.cons_append, List.nil_append] at N
  clear hN
  k_steps
  (with_reducible rename Fr _ _ _ _ => F9)
  (with_reducible rename News _ _ _ _ => N9)
  have S9 := Cv.now F9 N9 (fun q hq => by repeat (first | assumption | refine List.Mem.tail _ ?_))
  exact hq _ _ _ (fun b o e n1 => S9 b o (ev ▸ hideAll_get _ (K1 b o (kS b o e)) (by simp only [List.mem_cons, List.not_mem_nil, or_false, not_or]; exact ⟨eL ▸ Nat.ne_of_lt (Heap.lt_size (kS b o e)), n1⟩))) (N9.get (a := x) (by k_mem)) ⟨_, _, _, rfl, N9.get (by k_mem), lT9⟩
theorem init_comp_504 {dp un : Nat} {gd : Option (List Code)} {fr : List Env} {s : Shared} {R : Result → Shared → Prop} {x dx m1 : Addr} {n : Nat} {nm : Str} {tn : Tok}
    (O : Old w p loose mean mg mb H0) (M : Amb H0 fr s.heap) (hd : dp + 6 < recursionLimit) (hu : un + 20 < cLine) (hs : H0.objs.size ≤ s.heap.objs.size) (hx : s.heap.get? x = some (instObj 504 dx)) (hdx : s.heap.get? dx = some (dictOf [] n)) (x0 : H0.get? x = none) (d0 : H0.get? dx = none) (xf : x ∉ frs fr) (df : dx ∉ frs fr)
    (hq : InitPost s x R fun h' o => ∃ mt it, o = { cls := .ref 504, dict := some dx, data := .plain, slots := #[none, none, some (.ref mt), some (.ref it), some (.str nm tn)] } ∧ h'.get? mt = some (tupOf [.ref m1] 0) ∧ s.heap.objs.size ≤ mt) :
    codeAny (model PySem.Challenge.rw_vy0014_01.row.prog w) (ar dp un gd fr) (.call (.ref 356) ⟨.ref x :: [.ref m1], [(Str.ofString "name", .str nm tn)]⟩) R s := by
  refine' enterG O M ?ho ?hcd ?hr (fun b h' tk' => ∃ T D, b = bindsComp x T D ∧ s.heap.StaysIn h' ∧ h'.get? T = some (tupOf [.ref m1] 0) ∧ h'.get? D = some (dictOf (kwEs w.params s.toks [(Str.ofString "name", .str nm tn)]) 1) ∧ s.heap.objs.size ≤ T ∧ T < D) ?hb ?hp ?_ ?c1 ?c2 ?c3 ?c4
  case ho => k_is
  case hcd => k_is
  case hr => omega
  case hb =>
    intro A E Q q
    refine wp_peekA (K := _root_.Mine.hd.heap_39 w.params) (o := tupOf [.ref m1] 0) (O.X.keeps M.keep) _ _ rfl ?_
    refine wp_peekA (K := _root_.Mine.hd.heap_39 w.params) (o := dictOf [] 0) (O.X.keeps (fun b o e => Heap.get?_push_of_some _ (M.keep b o e))) _ _ rfl ?_
    show wpAny _ _ (forIn [(Str.ofString "name", Value.str nm tn)] PUnit.unit (fun (x : Str × Value) _ => (nsSet (s.heap.push (tupOf [.ref m1] 0)).objs.size x.1 x.2 >>= fun _ => pure (ForInStep.yield PUnit.unit))) >>= fun _ => pure (bindsComp x s.heap.objs.size (s.heap.push (tupOf [.ref m1] 0)).objs.size)) _ _ _
    have sT := Heap.size_push s.heap (tupOf [.ref m1] 0)
    rw [List.forIn_cons]
    refine wpAny_bind (wpAny_bind (wpAny_bind (nsSet_new (Heap.get?_push_size _ rfl) fun h' hs hD => wpAny_pure ?_)))
    show wpAny _ _ (forIn [] PUnit.unit _) _ _ _
    rw [List.forIn_nil]
    refine wpAny_pure (wpAny_pure ?_)
    refine q _ _ _ ⟨_, _, rfl, fun b o e => ?_, ?_, hD, Nat.le_refl _, by rw [sT]; exact Nat.lt_succ_self _⟩
    · rw [hs.2 b (by rw [sT]; exact Nat.ne_of_lt (Nat.lt_succ_of_lt (Heap.lt_size e)))]
      exact Heap.get?_push_of_some _ (Heap.get?_push_of_some _ e)
    · rw [hs.2 _ (by rw [sT]; exact Nat.ne_of_lt (Nat.lt_succ_self _))]
      exact Heap.get?_push_of_some _ (Heap.get?_push_size _ rfl)
  case hp => rintro b h' tk' ⟨T, D, rfl, k, _⟩; exact ⟨k, locs rfl⟩
  case c1 => exact rfl
  case c2 => exact rfl
  case c3 => exact rfl
  case c4 => decide
  rintro b h' tk' ⟨T9, D9, rfl, kS, hT9, hD9, lT9, lD9⟩ g L h₁ eL F K1 MG hgn Bw X T
  have hx' := kS _ _ hx
  have hdx' := kS _ _ hdx
  have xL : x ≠ L := eL ▸ Nat.ne_of_lt (Heap.lt_size hx')
  have dL : dx ≠ L := eL ▸ Nat.ne_of_lt (Heap.lt_size hdx')
  have TL : T9 ≠ L := eL ▸ Nat.ne_of_lt (Heap.lt_size hT9)
  have DL : D9 ≠ L := eL ▸ Nat.ne_of_lt (Heap.lt_size hD9)
  have new : ∀ a, s.heap.objs.size ≤ a → H0.get? a = none ∧ a ∉ frs fr := fun a l => ⟨(by cases q : H0.get? a with | none => rfl | some o => exact absurd (Heap.lt_size (M.keep _ _ q)) (Nat.not_lt.mpr l)), fun hm => absurd (frs_lt M.frames a hm) (Nat.not_lt.mpr l)⟩
  have nT := new _ lT9
  have nD := new _ (Nat.le_of_lt (Nat.lt_of_le_of_lt lT9 lD9))
  have hxd : x ≠ dx := fun q => by rw [← q, hx] at hdx; cases hdx
  have l1 := Heap.lt_size hx
  have hxd' := neN hxd
  have q2 := neN (Nat.ne_of_lt (Nat.lt_of_lt_of_le (Heap.lt_size hx) lT9)).symm
  have q3 := neN (Nat.ne_of_lt (Nat.lt_trans (Nat.lt_of_lt_of_le (Heap.lt_size hx) lT9) lD9)).symm
  have losc := low_ne_modules O.T (Nat.le_trans hs (Nat.le_of_lt (Nat.lt_of_le_of_lt lT9 lD9)))
  obtain ⟨oD, eD, hs9⟩ : ∃ oD, oD = dictOf (kwEs w.params s.toks [(Str.ofString "name", .str nm tn)]) 1 ∧ oD.IsDictOf (strKind PySem.Challenge.rw_vy0014_01.row.prog w) [(Str.ofString "name", .str nm tn)] := ⟨_, rfl, kp_isDict s.toks 1 (by simp)⟩
  rw [← eD] at hD9
  have ndD : ∃ es n, oD.data = .dict es n := ⟨_, _, by rw [eD]⟩
  clear eD
  obtain ⟨tl, hvh, hN, Cv, ev, htl⟩ := focus [x] F
  have td : ∀ q ∈ tl, q.1 ≠ x := fun q hq => htl q hq _ (.head _)
  have N := hN [(D9, oD), (T9, tupOf [.ref m1] 0), (x, instObj 504 dx), (dx, dictOf [] n)] (List.forall_mem_cons.mpr ⟨⟨K1 _ _ hD9, DL, hgn _ nD.1 nD.2⟩, List.forall_mem_cons.mpr ⟨⟨K1 _ _ hT9, TL, hgn _ nT.1 nT.2⟩, List.forall_mem_cons.mpr ⟨⟨K1 _ _ hx', xL, hgn _ x0 xf⟩, List.forall_mem_cons.mpr ⟨⟨K1 _ _ hdx', dL, hgn _ d0 df⟩, List.forall_mem_nil _⟩⟩⟩⟩)
  simp only [List.cons_append, List.nil_append] at N
  clear hN
  k_steps
  (with_reducible rename Fr _ _ _ _ => F9)
  (with_reducible rename News _ _ _ _ => N9)
  have S9 := Cv.now F9 N9 (fun q hq => by repeat (first | assumption | refine List.Mem.tail _ ?_))
  exact hq _ _ _ (fun b o e n1 => S9 b o (ev ▸ hideAll_get _ (K1 b o (kS b o e)) (by simp only [List.mem_cons, List.not_mem_nil, or_false, not_or]; exact ⟨eL ▸ Nat.ne_of_lt (Heap.lt_size (kS b o e)), n1⟩))) (N9.get (a := x) (by k_mem)) ⟨_, _, rfl, N9.get (by k_mem), lT9⟩
end Mine
end
section
open PySem PySem.W PyProof.Rows PySem.Calls PySem.Spec Builtin Builtin.ObjectAttr
set_option maxRecDepth 100000
set_option maxHeartbeats 4000000
namespace Mine
local macro_rules | `(tactic| walk_at "0") => `(tactic| skip)
local macro_rules | `(tactic| walk_at "0") => `(tactic| skip)
local macro_rules | `(tactic| walk_at "0") => `(tactic| skip)
local macro_rules | `(tactic| walk_at "0") => `(tactic| skip)
local macro_rules | `(tactic| walk_at "0") => `(tactic| skip)
local macro_rules | `(tactic| walk_at "0") => `(tactic| skip)
local macro_rules | `(tactic| walk_at "0") => `(tactic| skip)
local macro_rules | `(tactic| walk_at "0") => `(tactic| skip)
local macro_rules | `(tactic| walk_at "0") => `(tactic| skip)
local macro_rules | `(tactic| walk_at "0") => `(tactic| skip)
local macro_rules | `(tactic| walk_at "0") => `(tactic| skip)
local macro_rules | `(tactic| walk_at "0") => `(tactic| skip)
local macro_rules | `(tactic| walk_at "0") => `(tactic| skip)
local macro_rules | `(tactic| walk_at "0") => `(tactic| skip)
local macro_rules | `(tactic| walk_at "0") => `(tactic| skip)
local macro_rules | `(tactic| walk_at "0") => `(tactic| skip)
local macro_rules | `(tactic| walk_at "0") => `(tactic| skip)
local macro_rules | `(tactic| walk_at "0") => `(tactic| skip)
local macro_rules | `(tactic| walk_at "0") => `(tactic| skip)
local macro_rules | `(tactic| walk_at "0") => `(tactic| skip)
local macro_rules | `(tactic| walk_at "0") => `(tactic| skip)
local macro_rules | `(tactic| walk_at "0") => `(tactic| skip)
local macro_rules | `(tactic| walk_at "0") => `(tactic| skip)
local macro_rules | `(tactic| walk_at "0") => `(tactic| skip)
local macro_rules | `(tactic| walk_at "0") => `(tactic| skip)
local macro_rules | `(tactic| walk_at "0") => `(tactic| skip)
local macro_rules | `(tactic| walk_at "0") => `(tactic| skip)
local macro_rules | `(tactic| walk_at "0") => `(tactic| skip)
local macro_rules | `(tactic| walk_at "0") => `(tactic| skip)
local macro_rules | `(tactic| walk_at "0") => `(tactic| skip)
local macro_rules | `(tactic| walk_at "0") => `(tactic| skip)
local macro_rules | `(tactic| walk_at "0") => `(tactic| skip)
local macro_rules | `(tactic| walk_at "0") => `(tactic| skip)
local macro_rules | `(tactic| walk_at "0") => `(tactic| skip)
local macro_rules | `(tactic| walk_at "0") => `(tactic| skip)
local macro_rules | `(tactic| walk_at "0") => `(tactic| skip)
local macro_rules | `(tactic| walk_at "0") => `(tactic| skip)
local macro_rules | `(tactic| walk_at "0") => `(tactic| skip)
local macro_rules | `(tactic| walk_at "0") => `(tactic| skip)
local macro_rules | `(tactic| walk_at "0") => `(tactic| skip)
theorem rs21 : True := by
  w_top off
  trivial
section
variable {prog : Program} {w : World} {A : Around} {E : Value → Shared → Prop} {s : Shared} {d a : Addr} {Q : Unit → Shared → Prop}
theorem merge_none {es : List DictEntry} {n n' : Nat} (hd : s.heap.get? d = some (dictOf es n)) (ha : s.heap.get? a = some (dictOf [] n')) (lo : (a == sysModules) = false) (hq : Q () s) : wpAny (model prog w) A (mergeMapping d (.ref a) true) Q E s := by
  have hT : s.TypeIs (.ref a) "dict" := ⟨_, ha, rfl⟩
  have f1 : isSubtype (.type "dict") (.type "dict") = pure true := by rw [isSubtype_type]; kernel_rfl
  have f2 : typeLookup (.type "dict") "__iter__" = pure (some (.builtin "dict.__iter__")) := by rw [typeLookup_type, builtinLookup_eq_fast]; kernel_rfl
  unfold mergeMapping specialOf isInstance
  repeat (any_goals (first | assumption | (with_reducible refine wpAny_dictEntries ha rfl ?_) | (with_reducible refine wpAny_dictEntries hd rfl ?_) | (with_reducible refine wpAny_dictEpoch ha rfl ?_) | wp_step))
  cases es with
  | nil =>
    rw [if_pos (show (([] : List DictEntry).toArray.isEmpty) = true from rfl)]
    repeat (any_goals (first | assumption | (with_reducible refine wpAny_dictEntries ha rfl ?_) | (with_reducible refine wpAny_dictEntries hd rfl ?_) | (with_reducible refine wpAny_dictEpoch ha rfl ?_) | wp_step))
  | cons e r =>
    rw [if_neg (by simp)]
    repeat (any_goals (first | assumption | (with_reducible refine wpAny_dictEntries ha rfl ?_) | (with_reducible refine wpAny_dictEntries hd rfl ?_) | (with_reducible refine wpAny_dictEpoch ha rfl ?_) | wp_step))
theorem merge_one {k : Str} {v : Value} {t : Tok} {n n' : Nat} (hda : d ≠ a) (hd : s.heap.get? d = some (dictOf [] n)) (ha : s.heap.get? a = some (dictOf [⟨PyData.keyHash w.params k, .str k t, v⟩] n')) (lo : (a == sysModules) = false)
    (hq : ∀ h', Heap.SameBut d s.heap h' → h'.get? d = some (dictOf [⟨PyData.keyHash w.params k, .str k t, v⟩] (n + 1)) → Q () { s with heap := h' }) : wpAny (model prog w) A (mergeMapping d (.ref a) true) Q E s := by
  have hT : s.TypeIs (.ref a) "dict" := ⟨_, ha, rfl⟩
  have f1 : isSubtype (.type "dict") (.type "dict") = pure true := by rw [isSubtype_type]; kernel_rfl
  have f2 : typeLookup (.type "dict") "__iter__" = pure (some (.builtin "dict.__iter__")) := by rw [typeLookup_type, builtinLookup_eq_fast]; kernel_rfl
  unfold mergeMapping specialOf isInstance
  repeat (any_goals (first | assumption | (with_reducible refine wpAny_dictEntries ha rfl ?_) | (with_reducible refine wpAny_dictEntries hd rfl ?_) | (with_reducible refine wpAny_dictEpoch ha rfl ?_) | wp_step))
  have e0 : Array.findIdx? (fun x : DictEntry => x.key.isStr k) ([] : List DictEntry).toArray = none := by simp
  rw [e0]
  unfold dictPut
  repeat (any_goals (first | assumption | (with_reducible refine wpAny_dictEntries ha rfl ?_) | (with_reducible refine wpAny_dictEntries hd rfl ?_) | (with_reducible refine wpAny_dictEpoch ha rfl ?_) | wp_step))
  rw [e0]
  refine wpAny_pure ?_
  dsimp only
  have hu : (s.heap.update d (Obj.mapDictKeys fun x => x.push ⟨PyData.keyHash w.params k, .str k t, v⟩)).get? d = some (dictOf [⟨PyData.keyHash w.params k, .str k t, v⟩] (n + 1)) := Heap.get?_update_self _ hd rfl
  have ha' : (s.heap.update d (Obj.mapDictKeys fun x => x.push ⟨PyData.keyHash w.params k, .str k t, v⟩)).get? a = some (dictOf [⟨PyData.keyHash w.params k, .str k t, v⟩] n') := (Heap.get?_update_other _ _ hda).trans ha
  refine wpAny_updateDictKeys hd rfl ?_
  repeat (any_goals (first | assumption | (with_reducible refine wpAny_dictEntries ha' rfl ?_) | (with_reducible refine wpAny_dictEpoch ha' rfl ?_) | wp_step))
  all_goals exact hq _ (Heap.SameBut.update _ _ _) hu
theorem keeper_meth {q f x : Addr} {fo : Obj} {fd : FuncData} {Q : Keeper → Shared → Prop} (hq : s.heap.get? q = some (methodObj (.ref f) (.ref x))) (hf : s.heap.get? f = some fo) (hd : fo.data = .func fd) (h : Q .boundFrame s) : wpAny (model prog w) A (keeperOf (.ref q)) Q E s := by
  unfold keeperOf
  refine wpAny_bind (wpAny_load hq ?_)
  show wpAny _ _ (load f >>= _) _ _ _
  refine wpAny_bind (wpAny_load hf ?_)
  rw [hd]
  exact wpAny_pure h
/-- what a double star hands on: none, or one keyword -/
def KwOf (w : World) (es : List DictEntry) (ex : List (Str × Value)) : Prop := (es = [] ∧ ex = []) ∨ ∃ k v t, es = [⟨PyData.keyHash w.params k, .str k t, v⟩] ∧ ex = [(k, v)]
theorem merged_star {D : Addr} {es : List DictEntry} {ex : List (Str × Value)} {n : Nat} {fv : Value} {kt : Sem Value} {Q : Addr → Shared → Prop}
    (h : wpAny (model prog w) A kt (fun v s₂ => v = .ref D ∧ s₂.heap.get? s.heap.objs.size = some (dictOf [] 0) ∧ D ≠ s.heap.objs.size ∧ s₂.heap.get? D = some (dictOf es n) ∧ (D == sysModules) = false ∧ KwOf w es ex ∧
      ∀ h', Heap.SameBut s.heap.objs.size s₂.heap h' → (∃ n', h'.get? s.heap.objs.size = some (dictOf es n')) → Q s.heap.objs.size { s₂ with heap := h' }) E { s with heap := s.heap.push (dictOf [] 0) }) :
    wpAny (model prog w) A (mergedKeywords fv [(none, kt)]) Q E s := by
  unfold mergedKeywords
  refine wpAny_bind (wpAny_alloc (wpAny_bind (wpAny_holding ?_)))
  dsimp only
  rw [List.forIn_cons]
  refine wpAny_bind (wpAny_bind (wpAny_bind ?_))
  rw [if_pos (by rfl)]
  refine wpAny_pure (wpAny_bind (wpAny_mono h (fun v s₂ z => ?_) fun _ _ z => z))
  obtain ⟨rfl, hd, hne, hD, lo, hk, hq⟩ := z
  refine wpAny_bind (wpAny_onRaise (wpAny_holding (wpAny_tryCatch (wpAny_onRaise ?_))))
  have fin : ∀ h', Heap.SameBut s.heap.objs.size s₂.heap h' → (∃ n', h'.get? s.heap.objs.size = some (dictOf es n')) → Q s.heap.objs.size { s₂ with heap := h' } := hq
  rcases hk with ⟨rfl, rfl⟩ | ⟨k, v, t, rfl, rfl⟩
  · refine merge_none hd hD lo ?_
    refine wpAny_pure ?_
    dsimp only
    rw [List.forIn_nil]
    refine wpAny_pure ?_
    rw [if_pos (by rfl)]
    exact wpAny_pure (wpAny_pure (fin _ ⟨rfl, fun _ _ => rfl⟩ ⟨_, hd⟩))
  · refine merge_one (Ne.symm hne) hd hD lo fun h' hs hg => ?_
    refine wpAny_pure ?_
    dsimp only
    rw [List.forIn_nil]
    refine wpAny_pure ?_
    rw [if_pos (by rfl)]
    exact wpAny_pure (wpAny_pure (fin _ hs ⟨_, hg⟩))
end
end Mine
end
section
open PySem PySem.W PyProof.Rows PySem.Calls PySem.Spec Builtin Builtin.ObjectAttr
set_option maxRecDepth 100000
set_option maxHeartbeats 4000000
namespace Mine
theorem rs22 : True := by
  w_top off
  trivial
section
variable {prog : Program} {w : World} {A : Around} {E : Value → Shared → Prop} {s : Shared}
/-- name=v and a double star over nothing -/
theorem merged_star2 {D : Addr} {n : Nat} {fv nv : Value} {nm : Str} {nt kt : Sem Value} {Q : Addr → Shared → Prop}
    (hn : ∀ s' E, s.heap.StaysIn s'.heap → ∀ Q, Q nv s' → wpAny (model prog w) A nt Q E s') (hkt : ∀ s' E, s.heap.StaysIn s'.heap → ∀ Q, Q (.ref D) s' → wpAny (model prog w) A kt Q E s')
    (hD : s.heap.get? D = some (dictOf [] n)) (lo : (D == sysModules) = false) (lo2 : ((s.heap.push (dictOf [] 0)).objs.size == sysModules) = false)
    (h : ∀ h' tk' t n', s.heap.StaysIn h' → h'.get? s.heap.objs.size = some (dictOf [⟨PyData.keyHash w.params nm, .str nm t, nv⟩] n') → Q s.heap.objs.size { s with heap := h', toks := tk' }) :
    wpAny (model prog w) A (mergedKeywords fv [(some nm, nt), (none, kt)]) Q E s := by
  have sT := Heap.size_push s.heap (dictOf [] 0)
  unfold mergedKeywords
  refine wpAny_bind (wpAny_alloc (wpAny_bind (wpAny_holding ?_)))
  dsimp only
  rw [List.forIn_cons]
  refine wpAny_bind (wpAny_bind (wpAny_pure ?_))
  dsimp only
  rw [List.forIn_cons]
  refine wpAny_bind (wpAny_bind ?_)
  show wpAny _ _ (if false = true then _ else _) _ _ _
  rw [if_neg (by decide)]
  have k1 : s.heap.StaysIn (s.heap.push (dictOf [] 0)) := fun b o e => Heap.get?_push_of_some _ e
  refine wpAny_bind (wpAny_bind (hn _ _ k1 _ ?_))
  refine wpAny_bind (wpAny_holding (wpAny_pure (wpAny_pure ?_)))
  refine wpAny_bind (wpAny_alloc ?_)
  show wpAny _ _ (forIn [((nm, nt), nv)] PUnit.unit _ >>= _) _ _ _
  rw [List.forIn_cons]
  refine wpAny_bind (wpAny_bind (wpAny_bind (nsSet_new (Heap.get?_push_size _ rfl) fun h1 hs1 hg1 => wpAny_pure ?_)))
  show wpAny _ _ (forIn [] PUnit.unit _) _ _ _
  rw [List.forIn_nil]
  refine wpAny_pure (wpAny_onRaise (wpAny_holding (wpAny_tryCatch (wpAny_onRaise ?_))))
  have sS := Heap.size_push (s.heap.push (dictOf [] 0)) (dictOf [] 0)
  have d1 : h1.get? s.heap.objs.size = some (dictOf [] 0) := by
    rw [hs1.2 _ (by rw [sT]; exact Nat.ne_of_lt (Nat.lt_succ_self _))]
    exact Heap.get?_push_of_some _ (Heap.get?_push_size _ rfl)
  have k2 : s.heap.StaysIn h1 := fun b o e => by
    rw [hs1.2 _ (by rw [sT]; exact Nat.ne_of_lt (Nat.lt_succ_of_lt (Heap.lt_size e)))]
    exact Heap.get?_push_of_some _ (Heap.get?_push_of_some _ e)
  refine merge_one (by rw [sT]; exact Nat.ne_of_lt (Nat.lt_succ_self _)) d1 hg1 lo2 fun h2 hs2 hg2 => ?_
  have k3 : s.heap.StaysIn h2 := fun b o e => (hs2.2 _ (Nat.ne_of_lt (Heap.lt_size e))).trans (k2 b o e)
  refine wpAny_bind (hkt _ _ k3 _ ?_)
  refine wpAny_bind (wpAny_onRaise (wpAny_holding (wpAny_tryCatch (wpAny_onRaise ?_))))
  refine merge_none hg2 (k3 _ _ hD) lo ?_
  refine wpAny_pure ?_
  dsimp only
  rw [List.forIn_nil]
  refine wpAny_pure ?_
  rw [if_pos (by rfl)]
  exact wpAny_pure (wpAny_pure (h _ _ _ _ k3 hg2))
theorem keywords_in {d : Addr} {es : List DictEntry} {ex : List (Str × Value)} {n : Nat} {fv : Value} {Q : List (Str × Value) → Shared → Prop} (hd : s.heap.get? d = some (dictOf es n)) (hk : KwOf w es ex) (h : Q ex s) : wpAny (model prog w) A (keywordsIn fv d) Q E s := by
  unfold keywordsIn
  refine wpAny_bind (wpAny_dictEntries hd rfl ?_)
  rcases hk with ⟨rfl, rfl⟩ | ⟨k, v, t, rfl, rfl⟩
  · show wpAny _ _ (forIn (#[] : Array DictEntry) [] _ >>= _) _ _ _
    rw [← Array.forIn_toList]
    exact wpAny_bind (wpAny_pure (wpAny_pure h))
  · rw [← Array.forIn_toList]
    show wpAny _ _ (forIn [(⟨PyData.keyHash w.params k, .str k t, v⟩ : DictEntry)] [] _ >>= _) _ _ _
    rw [List.forIn_cons]
    refine wpAny_bind (wpAny_bind (wpAny_pure ?_))
    dsimp only
    rw [List.forIn_nil]
    exact wpAny_pure (wpAny_pure h)
theorem ev_local {env : Env} {x : Str} {pos : Pos} {m : Str → Option Value} {v : Value} {Q : Value → Shared → Prop} (hk : env.scope.kind = .function) (hx : env.kindOf x = some .local) (hd : (x == Str.ofString "__debug__") = false) (N : s.heap.Ns env.locals m) (hv : m x = some v) (h : Q v s) :
    wpAny (model prog w) A (PySem.eval (.Name x pos) env) Q E s := by
  rw [arm_eval_Name]
  refine wpAny_bind (wpAny_standAt ?_)
  rw [hd, if_neg (by decide)]
  exact wpAny_loadName_local hk hx N hv h
variable {g : Heap} {L : Addr} {m : Str → Option Value} {news : List (Addr × Obj)}
/-- a bound method is called with one value and a double star -/
theorem kcall_star {env : Env} {cp pa pb kp : Pos} {q f x D : Addr} {a b : Str} {v1 : Value} {es : List DictEntry} {ex : List (Str × Value)} {n : Nat} {fo : Obj} {fd : FuncData} {Q : Value → Shared → Prop} (F : Fr g L s.heap m) (N : News g L s.heap news) (hl : env.locals = L) (hk : env.scope.kind = .function)
    (hq : (q, methodObj (.ref f) (.ref x)) ∈ news) (hf : s.heap.get? f = some fo) (hfd : fo.data = .func fd) (hD : (D, dictOf es n) ∈ news) (lo : (D == sysModules) = false) (kw : KwOf w es ex) (ha : env.kindOf a = some .local) (hb : env.kindOf b = some .local) (da : (a == Str.ofString "__debug__") = false) (db : (b == Str.ofString "__debug__") = false) (ma : m a = some v1) (mb : m b = some (.ref D))
    (h : ∀ h', Fr g L h' m → News g L h' news → wpAny (model prog w) A (call (.ref q) [v1] ex) Q E { s with heap := h' }) :
    wpAny (model prog w) A (callWith cp (.ref q) [] (backTo cp (starEach [.Name a pa] env)) (backToKw cp (keywordEach [⟨none, .Name b pb, kp⟩] env))) Q E s := by
  subst hl
  have e1 : backTo cp (starEach [.Name a pa] env) = [(false, eval (.Name a pa) env)] := rfl
  have e2 : backToKw cp (keywordEach [⟨none, .Name b pb, kp⟩] env) = [(none, eval (.Name b pb) env >>= fun v => standAt cp >>= fun _ => pure v)] := rfl
  rw [e1, e2]
  unfold callWith evalArgs
  refine wpAny_bind (wpAny_holding ?_)
  dsimp only
  refine wpAny_bind (Calls.spliced_cons (ev_local hk ha da F.ns ma (Calls.spliced_nil ?_)))
  refine wpAny_bind (wpAny_pure (wpAny_holding ?_))
  rw [if_neg (by simp)]
  have kS : s.heap.StaysIn (s.heap.push (dictOf [] 0)) := fun b o e => Heap.get?_push_of_some _ e
  have hDs := (N _ hD).1
  refine wpAny_bind (merged_star (D := D) (es := es) (ex := ex) (n := n) (wpAny_bind (ev_local hk hb db (Heap.Ns.keeps F.ns kS) mb (wpAny_bind (wpAny_standAt (wpAny_pure ⟨rfl, Heap.get?_push_size _ rfl, Nat.ne_of_lt (Heap.lt_size hDs), kS _ _ hDs, lo, kw, fun h' hs hg => ?_⟩))))))
  obtain ⟨n', hg⟩ := hg
  have k2 : s.heap.StaysIn h' := fun b o e => (hs.2 _ (Nat.ne_of_lt (Heap.lt_size e))).trans (kS b o e)
  refine wpAny_bind (wpAny_pure (wpAny_bind (wpAny_holding (keywords_in hg kw (wpAny_pure ?_)))))
  refine wpAny_bind (wpAny_standAt (wpAny_bind (keeper_meth (k2 _ _ (N _ hq).1) (k2 _ _ hf) hfd ?_)))
  show wpAny _ _ (operate _ (call (.ref q) [v1] ex) >>= fun r => holding [r] point >>= fun _ => pure r) _ _ _
  exact wpAny_bind (wpAny_operating (wpAny_mono (h _ ⟨Heap.Ns.keeps F.ns k2, fun b o e => k2 b o (F.keep b o e), F.above⟩ fun p hp => ⟨k2 _ _ (N p hp).1, (N p hp).2⟩) (fun r s' z => wpAny_bind (wpAny_holding (wpAny_point (wpAny_pure z)))) fun _ _ z => z))
/-- the same with name=v ahead of it, the double star over nothing -/
theorem kcall_star2 {env : Env} {cp pa pb pc kp kq : Pos} {q f x D : Addr} {a b c nm : Str} {v1 v2 : Value} {n : Nat} {fo : Obj} {fd : FuncData} {Q : Value → Shared → Prop} (F : Fr g L s.heap m) (N : News g L s.heap news) (hl : env.locals = L) (hk : env.scope.kind = .function)
    (hq : (q, methodObj (.ref f) (.ref x)) ∈ news) (hf : s.heap.get? f = some fo) (hfd : fo.data = .func fd) (hD : (D, dictOf [] n) ∈ news) (lo : (D == sysModules) = false) (lo2 : ((s.heap.push (dictOf [] 0)).objs.size == sysModules) = false) (hc : env.kindOf c = some .local) (dc : (c == Str.ofString "__debug__") = false) (mc : m c = some v2) (ha : env.kindOf a = some .local) (hb : env.kindOf b = some .local) (da : (a == Str.ofString "__debug__") = false) (db : (b == Str.ofString "__debug__") = false) (ma : m a = some v1) (mb : m b = some (.ref D))
    (h : ∀ h' tk', Fr g L h' m → News g L h' news → wpAny (model prog w) A (call (.ref q) [v1] [(nm, v2)]) Q E { s with heap := h', toks := tk' }) :
    wpAny (model prog w) A (callWith cp (.ref q) [] (backTo cp (starEach [.Name a pa] env)) (backToKw cp (keywordEach [⟨some nm, .Name c pc, kq⟩, ⟨none, .Name b pb, kp⟩] env))) Q E s := by
  subst hl
  have e1 : backTo cp (starEach [.Name a pa] env) = [(false, eval (.Name a pa) env)] := rfl
  have e2 : backToKw cp (keywordEach [⟨some nm, .Name c pc, kq⟩, ⟨none, .Name b pb, kp⟩] env) = [(some nm, eval (.Name c pc) env >>= fun v => standAt cp >>= fun _ => pure v), (none, eval (.Name b pb) env >>= fun v => standAt cp >>= fun _ => pure v)] := rfl
  rw [e1, e2]
  unfold callWith evalArgs
  refine wpAny_bind (wpAny_holding ?_)
  dsimp only
  refine wpAny_bind (Calls.spliced_cons (ev_local hk ha da F.ns ma (Calls.spliced_nil ?_)))
  refine wpAny_bind (wpAny_pure (wpAny_holding ?_))
  rw [if_neg (by simp)]
  have kS : s.heap.StaysIn (s.heap.push (dictOf [] 0)) := fun b o e => Heap.get?_push_of_some _ e
  have hDs := (N _ hD).1
  refine wpAny_bind (merged_star2 (D := D) (n := n) (nv := v2) (fun s' E' k Q' z => wpAny_bind (ev_local hk hc dc (Heap.Ns.keeps F.ns k) mc (wpAny_bind (wpAny_standAt (wpAny_pure z))))) (fun s' E' k Q' z => wpAny_bind (ev_local hk hb db (Heap.Ns.keeps F.ns k) mb (wpAny_bind (wpAny_standAt (wpAny_pure z))))) hDs lo lo2 fun h' tk' t n' k2 hg => ?_)
  refine wpAny_bind (wpAny_pure (wpAny_bind (wpAny_holding (keywords_in hg (.inr ⟨_, _, _, rfl, rfl⟩) (wpAny_pure ?_)))))
  refine wpAny_bind (wpAny_standAt (wpAny_bind (keeper_meth (k2 _ _ (N _ hq).1) (k2 _ _ hf) hfd ?_)))
  show wpAny _ _ (operate _ (call (.ref q) [v1] [(nm, v2)]) >>= fun r => holding [r] point >>= fun _ => pure r) _ _ _
  exact wpAny_bind (wpAny_operating (wpAny_mono (h _ _ ⟨Heap.Ns.keeps F.ns k2, fun b o e => k2 b o (F.keep b o e), F.above⟩ fun p hp => ⟨k2 _ _ (N p hp).1, (N p hp).2⟩) (fun r s' z => wpAny_bind (wpAny_holding (wpAny_point (wpAny_pure z)))) fun _ _ z => z))
/-- super().name, as an attribute -/
theorem kattr_super {so x C D f2 : Addr} {ox : Obj} {odx : Option Obj} {K : Frag} {name : Str} {expr : Bool} {Q : Value → Shared → Prop} (F : Fr g L s.heap m) (X₀ : K.In g) (N : News g L s.heap news) (hso : (so, ks_superObj D x C) ∈ news) (I : InstAt s.heap x ox C odx) (ho : nsIn K cStatics "thirdparty.any" = some none)
    (hm : ks_superIn K C D name = some (some (.ref f2))) (ht : typeIn K (.ref f2) = some (.type "function")) (hn : (name == ("__class__" : Str)) = false)
    (h : ∀ q h', Fr g L h' m → News g L h' ((q, methodObj (.ref f2) (.ref x)) :: news) → (∀ p ∈ news, p.1 < q) → Q (.ref q) { s with heap := h', toks := s.toks + 1 }) : wpAny (model prog w) A (getAttr (.ref so) name expr) Q E s := by
  have X : K.In s.heap := X₀.keeps F.keep
  obtain ⟨hh, gg, d, t, os⟩ := s
  cases hc : clsIn K C with
  | none => unfold ks_superIn at hm; rw [hc] at hm; cases hm
  | some cd =>
    unfold ks_superIn at hm
    rw [hc] at hm
    obtain ⟨of, hof, hofc⟩ : ∃ of, hh.get? f2 = some of ∧ of.cls = .type "function" := by
      have ht' : (K.lookup f2).map (·.cls) = some (.type "function") := ht
      cases z : K.lookup f2 with
      | none => rw [z] at ht'; cases ht'
      | some of => rw [z] at ht'; exact ⟨of, X _ _ z, Option.some.inj ht'⟩
    have hq : Q (.ref hh.objs.size) ⟨hh.push { cls := .type "method", data := .fields #[.ref f2, .ref x] }, gg, d, t + 1, os⟩ := by
      obtain ⟨F', N', l'⟩ := ks_newsPush (s := ⟨hh, gg, d, t, os⟩) (o := methodObj (.ref f2) (.ref x)) F N rfl (Heap.get?_push_at rfl rfl) (fun b o e => Heap.get?_push_of_some _ e)
      exact h _ _ F' N' l'
    have hT : ∀ t', (⟨hh, gg, d, t', os⟩ : Shared).TypeIs (.ref so) "super" := fun _ => ⟨_, (N _ hso).1, rfl⟩
    have hlk := PySem.F.ks_slot_super_ga.lookup
    unfold getAttr getAttrBy
    refine wpAny_bind (wpAny_mkText (wpAny_holding (wpAny_bind (wpAny_typeOf (hT _) (wpAny_bind (wpAny_of_eq hlk ?_))))))
    have hx2 : (Value.builtin "super.__getattribute__" == Value.builtin "object.__getattribute__") = false := by decide +kernel
    dsimp only
    rw [hx2, Bool.and_false, if_neg (by decide)]
    unfold getAttrByItsOwn hookBefore callGetattribute boundAndCalled
    refine wpAny_bind (wpAny_of_eq (show (if onTheHeap (.type "super") then typeLookup (.type "super") "__getattr__" else pure none) = pure none from rfl) ?_)
    refine wpAny_bind (wpAny_attempt (wpAny_holding ?_))
    have hx0 : (expr && onTheHeap (Value.builtin "super.__getattribute__")) = false := by cases expr <;> rfl
    rw [hx0, if_neg (by decide)]
    refine wpAny_bind (wpAny_of_eq (PySem.F.ks_slot_super_ga.bind _) ?_)
    refine wpAny_mono (Q := fun v s' => v = .ref hh.objs.size ∧ s' = ⟨hh.push { cls := .type "method", data := .fields #[.ref f2, .ref x] }, gg, d, t + 1, os⟩) (E := fun _ _ => False)
      (wpAny_call_entry PySem.F.ks_slot_super_ga (hT _) PySem.F.ks_entry_super_ga (ks_wpAny_super_ga (l₀ := cd.mro) (N _ hso).1 (looks_opaque X ho) (fun A Q E s k q => wpAny_bind ((looks_clsIn X hc) A _ E s k (wpAny_pure q))) rfl X hm hof hofc (ks_ne X I hc) hn ⟨_, rfl, rfl, rfl⟩) (PySem.F.ks_gaArgs_super _ _)) (fun v s' hv => ?_) fun _ _ z => z.elim
    obtain ⟨rfl, rfl⟩ := hv
    exact wpAny_pure hq
theorem wpAt_starCall {c : Code} {env : Env} {o : PySem.Expr} {name : Str} {apos pos : Pos} {args : List PySem.Expr} {kws : List Keyword} {Q : Value → Shared → Prop}
    (h : _root_.PySem.wpAt (model prog w) A c (attributeBase o name env (PySem.eval o env)) (fun ov s₁ => wpAny (model prog w) A (getAttr ov name true) (fun f s₂ => Hold (wpAny (model prog w) A (callWith pos f [] (backTo pos (starEach args env)) (backToKw pos (keywordEach kws env))) Q E s₂)) E s₁) E s)
    (hf : methodCallForm (args.length + kws.length) (backTo pos (starEach args env)) (backToKw pos (keywordEach kws env)) = false) :
    _root_.PySem.wpAt (model prog w) A c (PySem.eval (.Call (.Attribute o name apos) args kws pos) env) Q E s := by
  rw [show PySem.eval (.Call (.Attribute o name apos) args kws pos) env = (do
    let ov ← attributeBase o name env (PySem.eval o env)
    standAt apos.atName
    methodCall o name apos pos env ov (args.length + kws.length) (backTo pos (starEach args env)) (backToKw pos (keywordEach kws env))) from rfl]
  refine _root_.PySem.wpAt_bind (_root_.PySem.wpAt_mono h (fun ov s₁ h₁ => _root_.PySem.wpAt_of_wpAny (wpAny_bind (wpAny_standAt ?_))) fun _ _ x => x)
  unfold methodCall
  rw [hf]
  refine wpAny_bind (wpAny_holding ?_)
  show wpAny _ _ (getAttr ov name true >>= fun z => pure (z, [])) _ _ _
  refine wpAny_bind (wpAny_mono h₁ (fun f s₂ h₂ => wpAny_pure (wpAny_bind (wpAny_pure h₂))) fun _ _ x => x)
end
end Mine
end
section
open PySem PySem.W PyProof.Rows PySem.Calls PySem.Spec Builtin Builtin.ObjectAttr
set_option maxRecDepth 100000
set_option maxHeartbeats 8000000
namespace Mine
local macro_rules | `(tactic| walk_at "0") => `(tactic| skip)
local macro_rules | `(tactic| walk_at "0") => `(tactic| skip)
local macro_rules | `(tactic| walk_at "0") => `(tactic| skip)
local macro_rules | `(tactic| walk_at "0") => `(tactic| skip)
local macro_rules | `(tactic| walk_at "0") => `(tactic| skip)
local macro_rules | `(tactic| walk_at "0") => `(tactic| skip)
local macro_rules | `(tactic| walk_at "0") => `(tactic| skip)
local macro_rules | `(tactic| walk_at "0") => `(tactic| skip)
local macro_rules | `(tactic| walk_at "0") => `(tactic| skip)
local macro_rules | `(tactic| walk_at "0") => `(tactic| skip)
local macro_rules | `(tactic| walk_at "0") => `(tactic| skip)
local macro_rules | `(tactic| walk_at "0") => `(tactic| skip)
local macro_rules | `(tactic| walk_at "0") => `(tactic| skip)
local macro_rules | `(tactic| walk_at "0") => `(tactic| skip)
local macro_rules | `(tactic| walk_at "0") => `(tactic| skip)
local macro_rules | `(tactic| walk_at "0") => `(tactic| skip)
local macro_rules | `(tactic| walk_at "0") => `(tactic| skip)
local macro_rules | `(tactic| walk_at "0") => `(tactic| skip)
local macro_rules | `(tactic| walk_at "0") => `(tactic| skip)
local macro_rules | `(tactic| walk_at "0") => `(tactic| skip)
local macro_rules | `(tactic| walk_at "0") => `(tactic| skip)
local macro_rules | `(tactic| walk_at "0") => `(tactic| skip)
local macro_rules | `(tactic| walk_at "0") => `(tactic| skip)
local macro_rules | `(tactic| walk_at "0") => `(tactic| skip)
local macro_rules | `(tactic| walk_at "0") => `(tactic| skip)
local macro_rules | `(tactic| walk_at "0") => `(tactic| skip)
local macro_rules | `(tactic| walk_at "0") => `(tactic| skip)
local macro_rules | `(tactic| walk_at "0") => `(tactic| skip)
local macro_rules | `(tactic| walk_at "0") => `(tactic| skip)
local macro_rules | `(tactic| walk_at "0") => `(tactic| skip)
local macro_rules | `(tactic| walk_at "0") => `(tactic| skip)
local macro_rules | `(tactic| walk_at "0") => `(tactic| skip)
local macro_rules | `(tactic| walk_at "0") => `(tactic| skip)
local macro_rules | `(tactic| walk_at "0") => `(tactic| skip)
local macro_rules | `(tactic| walk_at "0") => `(tactic| skip)
local macro_rules | `(tactic| walk_at "0") => `(tactic| skip)
local macro_rules | `(tactic| walk_at "0") => `(tactic| skip)
local macro_rules | `(tactic| walk_at "0") => `(tactic| skip)
local macro_rules | `(tactic| walk_at "0") => `(tactic| skip)
local macro_rules | `(tactic| walk_at "0") => `(tactic| skip)
theorem rs23 : True := by
  w_top off
  trivial
theorem Amb.pushX {H0 g h : Heap} {fr : List Env} {env : Env} {L : Addr} {m : Str → Option Value} (M : Amb H0 fr g) (F : Fr g L h m) (hf : env.frame = some L) (hk : env.scope.kind = .function) : Amb H0 (env :: fr) h := by
  obtain ⟨o, es, ep, ho, hd, r⟩ := F.ns
  have gL : g.get? L = none := get_none_of_le F.above
  have n0 : H0.get? L = none := by
    cases q : H0.get? L with
    | none => rfl
    | some o => rw [M.keep _ _ q] at gL; cases gL
  refine ⟨fun b o e => F.keep b o (M.keep b o e), ⟨by rw [hk]; simp, ⟨L, o, hf, n0, ho, fun vs e => by rw [hd] at e; cases e⟩, funFrames_sub M.frames fun a _ o e => F.keep a o e⟩, fun b hb => ?_⟩
  obtain ⟨e', he, hf'⟩ := mem_frs.mp hb
  cases he with
  | head => rw [hf] at hf'; cases hf'; exact ⟨o, es, ep, ho, hd⟩
  | tail _ he =>
    obtain ⟨o, es, n, e, d⟩ := M.fdat b (mem_frs.mpr ⟨_, he, hf'⟩)
    exact ⟨o, es, n, F.keep _ _ e, d⟩
local macro_rules | `(tactic| k_room) => `(tactic| ktr_room)
local macro_rules | `(tactic| k_all) => `(tactic| first | assumption | (intro q9 hq9; (try dsimp only); first | exact allLt_ne (by assumption) (by omega) q9 hq9 | exact lt_ne (by assumption) (by omega) q9 hq9))
local macro_rules | `(tactic| k_inst) => `(tactic| (refine' instOf ?N ?h1 ?h2 ?e1 ?e2 ?e3; (case N => k_asm); (case h1 => k_mem); (case e1 => first | assumption | exact rfl); (case e2 => first | assumption | exact rfl); (case h2 => k_mem); (case e3 => first | assumption | exact rfl)))
local macro_rules | `(tactic| walk_at "wpAt") => `(tactic| k_dflt (ks_step "eval Call"; refine wpAt_starCall ?_ (by rfl)))
local macro_rules | `(tactic| walk_at "getAttr ref") => `(tactic| (k_here; ks_any; k_dflt (refine' kattr_super ?k1 ?k2 ?k3 ?k4 ?k5 ?k6 ?k7 ?k8 ?k9 ?_; (case k1 => k_asm); (case k2 => k_asm); (case k3 => k_asm); (case k4 => k_mem); (case k5 => k_inst); (case k6 => k_is); (case k7 => ks_is); (case k8 => k_is); (case k9 => decide); intro q' h' F' N' l1; (try k_lt l1))))
local macro_rules | `(tactic| walk_at "call ref") => `(tactic| (k_here; (with_reducible show wpAny _ _ (call (Value.ref _) [Value.ref _] _) _ _ _); refine hold_of ?_))
local macro_rules | `(tactic| walk_at "wpAt") => `(tactic| k_dflt (ks_step "exec Expr"; refine ks_wpAt_Expr_any ?_))
local macro_rules | `(tactic| walk_at "wpAt") => `(tactic| k_dflt (ks_step "eval Call"; refine ks_wpAt_MethodCall ?_))
variable {w : World} {p : Program} {loose : List Str} {mean : ExcName → Option Value} {mg mb : Str → Option Value} {H0 : Heap}
abbrev bindsLook (x m1 D : Addr) (ng : Bool) : List (Str × Value) := [("self", .ref x), ("member", .ref m1), ("negative", .bool ng), ("kwargs", .ref D)]
theorem init_look {dp un : Nat} {gd : Option (List Code)} {fr : List Env} {s : Shared} {R : Result → Shared → Prop} {x dx m1 : Addr} {n : Nat} {nm : Str} {tn : Tok}
    (O : Old w p loose mean mg mb H0) (M : Amb H0 fr s.heap) (hd : dp + 9 < recursionLimit) (hu : un + 40 < cLine) (hs : H0.objs.size ≤ s.heap.objs.size) (hx : s.heap.get? x = some (instObj 458 dx)) (hdx : s.heap.get? dx = some (dictOf [] n)) (x0 : H0.get? x = none) (d0 : H0.get? dx = none) (xf : x ∉ frs fr) (df : dx ∉ frs fr)
    (hq : InitPost s x R fun h' o => ∃ mt it, o = { cls := .ref 458, dict := some dx, data := .plain, slots := #[some (.bool false), some (.ref mt), some (.ref it), some (.str nm tn)] } ∧ h'.get? mt = some (tupOf [.ref m1] 0) ∧ s.heap.objs.size ≤ mt) :
    codeAny (model PySem.Challenge.rw_vy0014_01.row.prog w) (ar dp un gd fr) (.call (.ref 440) ⟨[.ref x, .ref m1], [(Str.ofString "name", .str nm tn)]⟩) R s := by
  refine' enterG O M ?ho ?hcd ?hr (fun b h' tk' => ∃ D, b = bindsLook x m1 D false ∧ s.heap.StaysIn h' ∧ h'.get? D = some (dictOf (kwEs w.params s.toks [(Str.ofString "name", .str nm tn)]) 1) ∧ s.heap.objs.size ≤ D) ?hb ?hp ?_ ?c1 ?c2 ?c3 ?c4
  case ho => k_is
  case hcd => k_is
  case hr => omega
  case hb =>
    intro A E Q q
    refine wp_peekA (K := _root_.Mine.hd.heap_39 w.params) (o := dictOf [] 0) (O.X.keeps M.keep) _ _ rfl ?_
    show wpAny _ _ (forIn [(Str.ofString "name", Value.str nm tn)] PUnit.unit (fun (x : Str × Value) _ => (nsSet s.heap.objs.size x.1 x.2 >>= fun _ => pure (ForInStep.yield PUnit.unit))) >>= fun _ => pure (bindsLook x m1 s.heap.objs.size false)) _ _ _
    rw [List.forIn_cons]
    refine wpAny_bind (wpAny_bind (wpAny_bind (nsSet_new (Heap.get?_push_size _ rfl) fun h' hs hD => wpAny_pure ?_)))
    show wpAny _ _ (forIn [] PUnit.unit _) _ _ _
    rw [List.forIn_nil]
    refine wpAny_pure (wpAny_pure ?_)
    exact q _ _ _ ⟨_, rfl, fun b o e => (hs.2 b (Nat.ne_of_lt (Heap.lt_size e))).trans (Heap.get?_push_of_some _ e), hD, Nat.le_refl _⟩
  case hp => rintro b h' tk' ⟨D, rfl, k, _⟩; exact ⟨k, locs rfl⟩
  case c1 => exact rfl
  case c2 => exact rfl
  case c3 => exact rfl
  case c4 => decide
  rintro b h' tk' ⟨D9, rfl, kS, hD9, lD9⟩ g L h₁ eL F K1 MG hgn Bw X T
  have hx' := kS _ _ hx
  have hdx' := kS _ _ hdx
  have xL : x ≠ L := eL ▸ Nat.ne_of_lt (Heap.lt_size hx')
  have dL : dx ≠ L := eL ▸ Nat.ne_of_lt (Heap.lt_size hdx')
  have DL : D9 ≠ L := eL ▸ Nat.ne_of_lt (Heap.lt_size hD9)
  have new : ∀ a, s.heap.objs.size ≤ a → H0.get? a = none ∧ a ∉ frs fr := fun a l => ⟨(by cases q : H0.get? a with | none => rfl | some o => exact absurd (Heap.lt_size (M.keep _ _ q)) (Nat.not_lt.mpr l)), fun hm => absurd (frs_lt M.frames a hm) (Nat.not_lt.mpr l)⟩
  have nD := new _ lD9
  have hxd : x ≠ dx := fun q => by rw [← q, hx] at hdx; cases hdx
  have hxd' := neN hxd
  have q3 := neN (Nat.ne_of_lt (Nat.lt_of_lt_of_le (Heap.lt_size hx) lD9)).symm
  have losc := low_ne_modules O.T (Nat.le_trans hs lD9)
  obtain ⟨tl, hvh, hN, Cv, ev, htl⟩ := focus [x] F
  have td : ∀ q ∈ tl, q.1 ≠ x := fun q hq => htl q hq _ (.head _)
  have N := hN [(D9, dictOf (kwEs w.params s.toks [(Str.ofString "name", .str nm tn)]) 1), (x, instObj 458 dx), (dx, dictOf [] n)] (List.forall_mem_cons.mpr ⟨⟨K1 _ _ hD9, DL, hgn _ nD.1 nD.2⟩, List.forall_mem_cons.mpr ⟨⟨K1 _ _ hx', xL, hgn _ x0 xf⟩, List.forall_mem_cons.mpr ⟨⟨K1 _ _ hdx', dL, hgn _ d0 df⟩, List.forall_mem_nil _⟩⟩⟩)
  simp only [List.cons_append, List.nil_append] at N
  clear hN
  k_steps
  (with_reducible rename Fr _ _ _ _ => F9)
  (with_reducible rename News _ _ _ _ => N9)
  show wpAny _ _ _ _ _ _
  have h356 : ∃ oc od fd osl, (_root_.Mine.hd.heap_39 w.params).lookup 356 = some ⟨oc, od, .func fd, osl⟩ := ⟨_, _, _, _, by k_is⟩
  obtain ⟨oc, od, fd, osl, h356⟩ := h356
  have lL9 : s.heap.objs.size ≤ L := eL ▸ Nat.le_trans lD9 (Nat.le_of_lt (Heap.lt_size hD9))
  refine kcall_star (f := 356) (x := x) (D := D9) (es := kwEs w.params s.toks [(Str.ofString "name", .str nm tn)]) (ex := [(Str.ofString "name", .str nm tn)]) (v1 := .ref m1) F9 N9 rfl rfl (by k_mem) ((X.keeps F9.keep) _ _ h356) rfl (by k_mem) losc (.inr ⟨_, _, _, rfl, rfl⟩) rfl rfl (by decide) (by decide) rfl rfl fun h5 F5 N5 => ?_
  have S5 := Cv.now F5 N5 (fun q hq => by repeat (first | assumption | refine List.Mem.tail _ ?_))
  have kp5 : ∀ b o, s.heap.get? b = some o → b ≠ x → h5.get? b = some o := fun b o e n1 => S5 b o (ev ▸ hideAll_get _ (K1 b o (kS b o e)) (by simp only [List.mem_cons, List.not_mem_nil, or_false, not_or]; exact ⟨eL ▸ Nat.ne_of_lt (Heap.lt_size (kS b o e)), n1⟩))
  refine call_meth N5 (by k_mem) ?_
  have hx5 := N5.get (a := x) (by k_mem)
  have hd5 := N5.get (a := dx) (by k_mem)
  have gx := hgn _ x0 xf
  clear F9 N9
  refine init_comp_458 (dp := dp + 1) (un := un + 3) (gd := gd) (fr := _ :: fr) O (Amb.pushX MG F5 rfl rfl) (by omega) (by omega) (Nat.le_trans hs (Nat.le_trans lL9 (Nat.le_of_lt F5.ns.lt))) hx5 hd5 x0 d0 (fun hm => (List.mem_cons.mp hm).elim xL xf) (fun hm => (List.mem_cons.mp hm).elim dL df) ?_
  rintro h6 tk6 ox6 kp6 hx6 ⟨mt, it, rfl, hmt, lmt⟩
  have F6 := frBack (Mut := fun a => a = x) F5 kp6 (fun q => xL q.symm) (fun a q => q ▸ gx)
  obtain ⟨tl6, hv6, hN6, Cv6, ev6, htl6⟩ := focus [x] F6
  have td6 : ∀ q ∈ tl6, q.1 ≠ x := fun q hq => htl6 q hq _ (.head _)
  have lmt5 : L < mt := Nat.lt_of_lt_of_le F5.ns.lt lmt
  have mtx := neN (Nat.ne_of_gt (Nat.lt_of_lt_of_le (Heap.lt_size hx5) lmt))
  have N6 := hN6 [(x, { cls := .ref 458, dict := some dx, data := .plain, slots := #[none, some (.ref mt), some (.ref it), some (.str nm tn)] }), (dx, dictOf [] n), (mt, tupOf [.ref m1] 0)] (List.forall_mem_cons.mpr ⟨⟨hx6, xL, gx⟩, List.forall_mem_cons.mpr ⟨⟨kp6 _ _ hd5 hxd.symm, dL, hgn _ d0 df⟩, List.forall_mem_cons.mpr ⟨⟨hmt, Nat.ne_of_gt lmt5, get_none_of_le (Nat.le_trans F5.above (Nat.le_of_lt (Nat.lt_of_lt_of_le F5.ns.lt lmt)))⟩, List.forall_mem_nil _⟩⟩⟩)
  simp only [List.cons_append, List.nil_append] at N6
  clear hN6 N5
  dsimp only
  k_steps
  (with_reducible rename Fr _ _ _ _ => F9)
  (with_reducible rename News _ _ _ _ => N9)
  have S9 := Cv6.now F9 N9 (fun q hq => by repeat (first | assumption | refine List.Mem.tail _ ?_))
  refine hq _ _ _ (fun b o e n1 => S9 b o (ev6 ▸ hideAll_get _ (kp6 b o (kp5 b o e n1) n1) (by simp only [List.mem_cons, List.not_mem_nil, or_false, not_or]; exact ⟨Nat.ne_of_lt (Nat.lt_of_lt_of_le (Heap.lt_size e) lL9), n1⟩))) (N9.get (a := x) (by k_mem)) ⟨_, _, rfl, N9.get (by k_mem), Nat.le_trans lL9 (Nat.le_of_lt lmt5)⟩
theorem init_look_n {dp un : Nat} {gd : Option (List Code)} {fr : List Env} {s : Shared} {R : Result → Shared → Prop} {x dx m1 : Addr} {n : Nat}
    (O : Old w p loose mean mg mb H0) (M : Amb H0 fr s.heap) (hd : dp + 9 < recursionLimit) (hu : un + 40 < cLine) (hs : H0.objs.size ≤ s.heap.objs.size) (hx : s.heap.get? x = some (instObj 458 dx)) (hdx : s.heap.get? dx = some (dictOf [] n)) (x0 : H0.get? x = none) (d0 : H0.get? dx = none) (xf : x ∉ frs fr) (df : dx ∉ frs fr)
    (hq : InitPost s x R fun h' o => ∃ mt it, ∃ tn : Tok, o = { cls := .ref 458, dict := some dx, data := .plain, slots := #[some (.bool true), some (.ref mt), some (.ref it), some (.str (Str.ofString "") tn)] } ∧ h'.get? mt = some (tupOf [.ref m1] 0) ∧ s.heap.objs.size ≤ mt) :
    codeAny (model PySem.Challenge.rw_vy0014_01.row.prog w) (ar dp un gd fr) (.call (.ref 440) ⟨[.ref x, .ref m1], [(Str.ofString "negative", .bool true)]⟩) R s := by
  refine' enterG O M ?ho ?hcd ?hr (fun b h' tk' => ∃ D, b = bindsLook x m1 D true ∧ s.heap.StaysIn h' ∧ h'.get? D = some (dictOf [] 0) ∧ s.heap.objs.size ≤ D) ?hb ?hp ?_ ?c1 ?c2 ?c3 ?c4
  case ho => k_is
  case hcd => k_is
  case hr => omega
  case hb =>
    intro A E Q q
    refine wp_peekA (K := _root_.Mine.hd.heap_39 w.params) (o := dictOf [] 0) (O.X.keeps M.keep) _ _ rfl ?_
    show wpAny _ _ (forIn ([] : List (Str × Value)) PUnit.unit (fun (x : Str × Value) _ => (nsSet s.heap.objs.size x.1 x.2 >>= fun _ => pure (ForInStep.yield PUnit.unit))) >>= fun _ => pure (bindsLook x m1 s.heap.objs.size true)) _ _ _
    rw [List.forIn_nil]
    refine wpAny_bind (wpAny_pure (wpAny_pure ?_))
    exact q _ _ _ ⟨_, rfl, fun b o e => Heap.get?_push_of_some _ e, Heap.get?_push_size _ rfl, Nat.le_refl _⟩
  case hp => rintro b h' tk' ⟨D, rfl, k, _⟩; exact ⟨k, locs rfl⟩
  case c1 => exact rfl
  case c2 => exact rfl
  case c3 => exact rfl
  case c4 => decide
  rintro b h' tk' ⟨D9, rfl, kS, hD9, lD9⟩ g L h₁ eL F K1 MG hgn Bw X T
  have hx' := kS _ _ hx
  have hdx' := kS _ _ hdx
  have xL : x ≠ L := eL ▸ Nat.ne_of_lt (Heap.lt_size hx')
  have dL : dx ≠ L := eL ▸ Nat.ne_of_lt (Heap.lt_size hdx')
  have DL : D9 ≠ L := eL ▸ Nat.ne_of_lt (Heap.lt_size hD9)
  have new : ∀ a, s.heap.objs.size ≤ a → H0.get? a = none ∧ a ∉ frs fr := fun a l => ⟨(by cases q : H0.get? a with | none => rfl | some o => exact absurd (Heap.lt_size (M.keep _ _ q)) (Nat.not_lt.mpr l)), fun hm => absurd (frs_lt M.frames a hm) (Nat.not_lt.mpr l)⟩
  have nD := new _ lD9
  have hxd : x ≠ dx := fun q => by rw [← q, hx] at hdx; cases hdx
  have hxd' := neN hxd
  have q3 := neN (Nat.ne_of_lt (Nat.lt_of_lt_of_le (Heap.lt_size hx) lD9)).symm
  have losc := low_ne_modules O.T (Nat.le_trans hs lD9)
  obtain ⟨tl, hvh, hN, Cv, ev, htl⟩ := focus [x] F
  have td : ∀ q ∈ tl, q.1 ≠ x := fun q hq => htl q hq _ (.head _)
  have N := hN [(D9, dictOf [] 0), (x, instObj 458 dx), (dx, dictOf [] n)] (List.forall_mem_cons.mpr ⟨⟨K1 _ _ hD9, DL, hgn _ nD.1 nD.2⟩, List.forall_mem_cons.mpr ⟨⟨K1 _ _ hx', xL, hgn _ x0 xf⟩, List.forall_mem_cons.mpr ⟨⟨K1 _ _ hdx', dL, hgn _ d0 df⟩, List.forall_mem_nil _⟩⟩⟩)
  simp only [List.cons_append, List.nil_append] at N
  clear hN
  k_steps
  (with_reducible rename Fr _ _ _ _ => F9)
  (with_reducible rename News _ _ _ _ => N9)
  show wpAny _ _ _ _ _ _
  have h356 : ∃ oc od fd osl, (_root_.Mine.hd.heap_39 w.params).lookup 356 = some ⟨oc, od, .func fd, osl⟩ := ⟨_, _, _, _, by k_is⟩
  obtain ⟨oc, od, fd, osl, h356⟩ := h356
  have lL9 : s.heap.objs.size ≤ L := eL ▸ Nat.le_trans lD9 (Nat.le_of_lt (Heap.lt_size hD9))
  refine kcall_star (f := 356) (x := x) (D := D9) (es := []) (ex := []) (v1 := .ref m1) F9 N9 rfl rfl (by k_mem) ((X.keeps F9.keep) _ _ h356) rfl (by k_mem) losc (.inl ⟨rfl, rfl⟩) rfl rfl (by decide) (by decide) rfl rfl fun h5 F5 N5 => ?_
  have S5 := Cv.now F5 N5 (fun q hq => by repeat (first | assumption | refine List.Mem.tail _ ?_))
  have kp5 : ∀ b o, s.heap.get? b = some o → b ≠ x → h5.get? b = some o := fun b o e n1 => S5 b o (ev ▸ hideAll_get _ (K1 b o (kS b o e)) (by simp only [List.mem_cons, List.not_mem_nil, or_false, not_or]; exact ⟨eL ▸ Nat.ne_of_lt (Heap.lt_size (kS b o e)), n1⟩))
  refine call_meth N5 (by k_mem) ?_
  have hx5 := N5.get (a := x) (by k_mem)
  have hd5 := N5.get (a := dx) (by k_mem)
  have gx := hgn _ x0 xf
  clear F9 N9
  refine init_comp_458_0 (dp := dp + 1) (un := un + 3) (gd := gd) (fr := _ :: fr) O (Amb.pushX MG F5 rfl rfl) (by omega) (by omega) (Nat.le_trans hs (Nat.le_trans lL9 (Nat.le_of_lt F5.ns.lt))) hx5 hd5 x0 d0 (fun hm => (List.mem_cons.mp hm).elim xL xf) (fun hm => (List.mem_cons.mp hm).elim dL df) ?_
  rintro h6 tk6 ox6 kp6 hx6 ⟨mt, it, tn, rfl, hmt, lmt⟩
  have F6 := frBack (Mut := fun a => a = x) F5 kp6 (fun q => xL q.symm) (fun a q => q ▸ gx)
  obtain ⟨tl6, hv6, hN6, Cv6, ev6, htl6⟩ := focus [x] F6
  have td6 : ∀ q ∈ tl6, q.1 ≠ x := fun q hq => htl6 q hq _ (.head _)
  have lmt5 : L < mt := Nat.lt_of_lt_of_le F5.ns.lt lmt
  have mtx := neN (Nat.ne_of_gt (Nat.lt_of_lt_of_le (Heap.lt_size hx5) lmt))
  have N6 := hN6 [(x, { cls := .ref 458, dict := some dx, data := .plain, slots := #[none, some (.ref mt), some (.ref it), some (.str (Str.ofString "") tn)] }), (dx, dictOf [] n), (mt, tupOf [.ref m1] 0)] (List.forall_mem_cons.mpr ⟨⟨hx6, xL, gx⟩, List.forall_mem_cons.mpr ⟨⟨kp6 _ _ hd5 hxd.symm, dL, hgn _ d0 df⟩, List.forall_mem_cons.mpr ⟨⟨hmt, Nat.ne_of_gt lmt5, get_none_of_le (Nat.le_trans F5.above (Nat.le_of_lt (Nat.lt_of_lt_of_le F5.ns.lt lmt)))⟩, List.forall_mem_nil _⟩⟩⟩)
  simp only [List.cons_append, List.nil_append] at N6
  clear hN6 N5
  dsimp only
  k_steps
  (with_reducible rename Fr _ _ _ _ => F9)
  (with_reducible rename News _ _ _ _ => N9)
  have S9 := Cv6.now F9 N9 (fun q hq => by repeat (first | assumption | refine List.Mem.tail _ ?_))
  refine hq _ _ _ (fun b o e n1 => S9 b o (ev6 ▸ hideAll_get _ (kp6 b o (kp5 b o e n1) n1) (by simp only [List.mem_cons, List.not_mem_nil, or_false, not_or]; exact ⟨Nat.ne_of_lt (Nat.lt_of_lt_of_le (Heap.lt_size e) lL9), n1⟩))) (N9.get (a := x) (by k_mem)) ⟨_, _, _, rfl, N9.get (by k_mem), Nat.le_trans lL9 (Nat.le_of_lt lmt5)⟩
end Mine
end
section
open PySem PySem.W PyProof.Rows PySem.Calls PySem.Spec Builtin Builtin.ObjectAttr
set_option maxRecDepth 100000
set_option maxHeartbeats 8000000
namespace Mine
theorem rs24 : True := by
  w_top off
  trivial
local macro_rules | `(tactic| k_room) => `(tactic| ktr_room)
local macro_rules | `(tactic| k_all) => `(tactic| first | assumption | (intro q9 hq9; (try dsimp only); first | exact allLt_ne (by assumption) (by omega) q9 hq9 | exact lt_ne (by assumption) (by omega) q9 hq9))
local macro_rules | `(tactic| k_inst) => `(tactic| (refine' instOf ?N ?h1 ?h2 ?e1 ?e2 ?e3; (case N => k_asm); (case h1 => k_mem); (case e1 => first | assumption | exact rfl); (case e2 => first | assumption | exact rfl); (case h2 => k_mem); (case e3 => first | assumption | exact rfl)))
local macro_rules | `(tactic| walk_at "wpAt") => `(tactic| k_dflt (ks_step "eval Call"; refine wpAt_starCall ?_ (by rfl)))
local macro_rules | `(tactic| walk_at "getAttr ref") => `(tactic| (k_here; ks_any; k_dflt (refine' kattr_super ?k1 ?k2 ?k3 ?k4 ?k5 ?k6 ?k7 ?k8 ?k9 ?_; (case k1 => k_asm); (case k2 => k_asm); (case k3 => k_asm); (case k4 => k_mem); (case k5 => k_inst); (case k6 => k_is); (case k7 => ks_is); (case k8 => k_is); (case k9 => decide); intro q' h' F' N' l1; (try k_lt l1))))
local macro_rules | `(tactic| walk_at "call ref") => `(tactic| (k_here; (with_reducible show wpAny _ _ (call (Value.ref _) [Value.ref _] _) _ _ _); refine hold_of ?_))
local macro_rules | `(tactic| walk_at "wpAt") => `(tactic| k_dflt (ks_step "exec Expr"; refine ks_wpAt_Expr_any ?_))
local macro_rules | `(tactic| walk_at "wpAt") => `(tactic| k_dflt (ks_step "eval Call"; refine ks_wpAt_MethodCall ?_))
variable {w : World} {p : Program} {loose : List Str} {mean : ExcName → Option Value} {mg mb : Str → Option Value} {H0 : Heap}
abbrev bindsTimes (x m1 D : Addr) (least : Int) (tl : Tok) (mx : Value) (nm : Str) (tn : Tok) : List (Str × Value) := [("self", .ref x), ("member", .ref m1), ("min", .int least tl), ("max", mx), ("name", .str nm tn), ("kwargs", .ref D)]
theorem bind_times0 {x m1 : Addr} {least : Int} {tl : Tok} {nm : Str} {tn : Tok} {s : Shared} (oc : Value) (od : Option Addr) (fd : FuncData) (osl : Array (Option Value)) (hl : (_root_.Mine.hd.heap_39 w.params).lookup 486 = some ⟨oc, od, .func fd, osl⟩) (X : (_root_.Mine.hd.heap_39 w.params).In s.heap)
    (A : Around) (E : Value → Shared → Prop) (Q : List (Str × Value) → Shared → Prop) (q : Q (bindsTimes x m1 s.heap.objs.size least tl (.float 9218868437227405312 816) nm tn) { s with heap := s.heap.push (dictOf [] 0) }) : wpAny (model PySem.Challenge.rw_vy0014_01.row.prog w) A (bindArgs fd ⟨[.ref x, .ref m1], [(Str.ofString "min", .int least tl), (Str.ofString "name", .str nm tn)]⟩) Q E s := by
  have key : ∀ o, (_root_.Mine.hd.heap_39 w.params).lookup 486 = some o → o = ⟨oc, od, .func fd, osl⟩ := fun o e => Option.some.inj (e.symm.trans hl)
  have e2 := key _ (by k_is)
  cases e2
  refine wp_peekA (K := _root_.Mine.hd.heap_39 w.params) (o := dictOf [] 0) X _ _ rfl ?_
  show wpAny _ _ (forIn ([] : List (Str × Value)) PUnit.unit (fun (x : Str × Value) _ => (nsSet s.heap.objs.size x.1 x.2 >>= fun _ => pure (ForInStep.yield PUnit.unit))) >>= fun _ => pure (bindsTimes x m1 s.heap.objs.size least tl (.float 9218868437227405312 816) nm tn)) _ _ _
  rw [List.forIn_nil]
  exact wpAny_bind (wpAny_pure (wpAny_pure q))
theorem bind_times1 {x m1 : Addr} {least : Int} {tl : Tok} {nm : Str} {tn : Tok} {most : Int} {tm : Tok} {s : Shared} (oc : Value) (od : Option Addr) (fd : FuncData) (osl : Array (Option Value)) (hl : (_root_.Mine.hd.heap_39 w.params).lookup 486 = some ⟨oc, od, .func fd, osl⟩) (X : (_root_.Mine.hd.heap_39 w.params).In s.heap)
    (A : Around) (E : Value → Shared → Prop) (Q : List (Str × Value) → Shared → Prop) (q : Q (bindsTimes x m1 s.heap.objs.size least tl (.int most tm) nm tn) { s with heap := s.heap.push (dictOf [] 0) }) : wpAny (model PySem.Challenge.rw_vy0014_01.row.prog w) A (bindArgs fd ⟨[.ref x, .ref m1], [(Str.ofString "min", .int least tl), (Str.ofString "max", .int most tm), (Str.ofString "name", .str nm tn)]⟩) Q E s := by
  have key : ∀ o, (_root_.Mine.hd.heap_39 w.params).lookup 486 = some o → o = ⟨oc, od, .func fd, osl⟩ := fun o e => Option.some.inj (e.symm.trans hl)
  have e2 := key _ (by k_is)
  cases e2
  refine wp_peekA (K := _root_.Mine.hd.heap_39 w.params) (o := dictOf [] 0) X _ _ rfl ?_
  show wpAny _ _ (forIn ([] : List (Str × Value)) PUnit.unit (fun (x : Str × Value) _ => (nsSet s.heap.objs.size x.1 x.2 >>= fun _ => pure (ForInStep.yield PUnit.unit))) >>= fun _ => pure (bindsTimes x m1 s.heap.objs.size least tl (.int most tm) nm tn)) _ _ _
  rw [List.forIn_nil]
  exact wpAny_bind (wpAny_pure (wpAny_pure q))
theorem init_times {dp un : Nat} {gd : Option (List Code)} {fr : List Env} {s : Shared} {R : Result → Shared → Prop} {x dx m1 : Addr} {n : Nat} {least : Int} {tl : Tok} {mx : Value} {args : Args} {nm : Str} {tn : Tok}
    (O : Old w p loose mean mg mb H0) (M : Amb H0 fr s.heap) (hd : dp + 9 < recursionLimit) (hu : un + 40 < cLine) (hs : H0.objs.size ≤ s.heap.objs.size) (hx : s.heap.get? x = some (instObj 504 dx)) (hdx : s.heap.get? dx = some (dictOf [] n)) (x0 : H0.get? x = none) (d0 : H0.get? dx = none) (xf : x ∉ frs fr) (df : dx ∉ frs fr)
    (hb : ∀ oc od fd osl, (_root_.Mine.hd.heap_39 w.params).lookup 486 = some ⟨oc, od, .func fd, osl⟩ → (_root_.Mine.hd.heap_39 w.params).In s.heap → ∀ (A : Around) (E : Value → Shared → Prop) (Q : List (Str × Value) → Shared → Prop), Q (bindsTimes x m1 s.heap.objs.size least tl mx nm tn) { s with heap := s.heap.push (dictOf [] 0) } → wpAny (model PySem.Challenge.rw_vy0014_01.row.prog w) A (bindArgs fd args) Q E s)
    (hq : InitPost s x R fun h' o => ∃ mt it, o = { cls := .ref 504, dict := some dx, data := .plain, slots := #[some mx, some (.int least tl), some (.ref mt), some (.ref it), some (.str nm tn)] } ∧ h'.get? mt = some (tupOf [.ref m1] 0) ∧ s.heap.objs.size ≤ mt) :
    codeAny (model PySem.Challenge.rw_vy0014_01.row.prog w) (ar dp un gd fr) (.call (.ref 486) args) R s := by
  refine' enterG O M ?ho ?hcd ?hr (fun b h' tk' => ∃ D, b = bindsTimes x m1 D least tl mx nm tn ∧ s.heap.StaysIn h' ∧ h'.get? D = some (dictOf [] 0) ∧ s.heap.objs.size ≤ D) ?hb ?hp ?_ ?c1 ?c2 ?c3 ?c4
  case ho => k_is
  case hcd => k_is
  case hr => omega
  case hb =>
    intro A E Q q
    exact hb _ _ _ _ (by k_is) (O.X.keeps M.keep) A E Q (q _ _ _ ⟨_, rfl, fun b o e => Heap.get?_push_of_some _ e, Heap.get?_push_size _ rfl, Nat.le_refl _⟩)
  case hp => rintro b h' tk' ⟨D, rfl, k, _⟩; exact ⟨k, locs rfl⟩
  case c1 => exact rfl
  case c2 => exact rfl
  case c3 => exact rfl
  case c4 => decide
  rintro b h' tk' ⟨D9, rfl, kS, hD9, lD9⟩ g L h₁ eL F K1 MG hgn Bw X T
  have hx' := kS _ _ hx
  have hdx' := kS _ _ hdx
  have xL : x ≠ L := eL ▸ Nat.ne_of_lt (Heap.lt_size hx')
  have dL : dx ≠ L := eL ▸ Nat.ne_of_lt (Heap.lt_size hdx')
  have DL : D9 ≠ L := eL ▸ Nat.ne_of_lt (Heap.lt_size hD9)
  have new : ∀ a, s.heap.objs.size ≤ a → H0.get? a = none ∧ a ∉ frs fr := fun a l => ⟨(by cases q : H0.get? a with | none => rfl | some o => exact absurd (Heap.lt_size (M.keep _ _ q)) (Nat.not_lt.mpr l)), fun hm => absurd (frs_lt M.frames a hm) (Nat.not_lt.mpr l)⟩
  have nD := new _ lD9
  have hxd : x ≠ dx := fun q => by rw [← q, hx] at hdx; cases hdx
  have hxd' := neN hxd
  have q3 := neN (Nat.ne_of_lt (Nat.lt_of_lt_of_le (Heap.lt_size hx) lD9)).symm
  have losc := low_ne_modules O.T (Nat.le_trans hs lD9)
  obtain ⟨tl, hvh, hN, Cv, ev, htl⟩ := focus [x] F
  have td : ∀ q ∈ tl, q.1 ≠ x := fun q hq => htl q hq _ (.head _)
  have N := hN [(D9, dictOf [] 0), (x, instObj 504 dx), (dx, dictOf [] n)] (List.forall_mem_cons.mpr ⟨⟨K1 _ _ hD9, DL, hgn _ nD.1 nD.2⟩, List.forall_mem_cons.mpr ⟨⟨K1 _ _ hx', xL, hgn _ x0 xf⟩, List.forall_mem_cons.mpr ⟨⟨K1 _ _ hdx', dL, hgn _ d0 df⟩, List.forall_mem_nil _⟩⟩⟩)
  simp only [List.cons_append, List.nil_append] at N
  clear hN
  k_steps
  (with_reducible rename Fr _ _ _ _ => F9)
  (with_reducible rename News _ _ _ _ => N9)
  show wpAny _ _ _ _ _ _
  have h356 : ∃ oc od fd osl, (_root_.Mine.hd.heap_39 w.params).lookup 356 = some ⟨oc, od, .func fd, osl⟩ := ⟨_, _, _, _, by k_is⟩
  obtain ⟨oc, od, fd, osl, h356⟩ := h356
  have lL9 : s.heap.objs.size ≤ L := eL ▸ Nat.le_trans lD9 (Nat.le_of_lt (Heap.lt_size hD9))
  have losc2 : ∀ hh : Heap, L < hh.objs.size → ((hh.push (dictOf [] 0)).objs.size == sysModules) = false := fun hh l => low_ne_modules O.T (by rw [Heap.size_push]; exact Nat.le_trans hs (Nat.le_trans lL9 (Nat.le_of_lt (Nat.lt_succ_of_lt l))))
  refine kcall_star2 (f := 356) (x := x) (D := D9) (n := 0) (nm := Str.ofString "name") (v1 := .ref m1) (v2 := .str nm tn) F9 N9 rfl rfl (by k_mem) ((X.keeps F9.keep) _ _ h356) rfl (by k_mem) losc (losc2 _ F9.ns.lt) rfl (by decide) rfl rfl rfl (by decide) (by decide) rfl rfl fun h5 tk5 F5 N5 => ?_
  have S5 := Cv.now F5 N5 (fun q hq => by repeat (first | assumption | refine List.Mem.tail _ ?_))
  have kp5 : ∀ b o, s.heap.get? b = some o → b ≠ x → h5.get? b = some o := fun b o e n1 => S5 b o (ev ▸ hideAll_get _ (K1 b o (kS b o e)) (by simp only [List.mem_cons, List.not_mem_nil, or_false, not_or]; exact ⟨eL ▸ Nat.ne_of_lt (Heap.lt_size (kS b o e)), n1⟩))
  refine call_meth N5 (by k_mem) ?_
  have hx5 := N5.get (a := x) (by k_mem)
  have hd5 := N5.get (a := dx) (by k_mem)
  have gx := hgn _ x0 xf
  clear F9 N9
  refine init_comp_504 (dp := dp + 1) (un := un + 3) (gd := gd) (fr := _ :: fr) O (Amb.pushX MG F5 rfl rfl) (by omega) (by omega) (Nat.le_trans hs (Nat.le_trans lL9 (Nat.le_of_lt F5.ns.lt))) hx5 hd5 x0 d0 (fun hm => (List.mem_cons.mp hm).elim xL xf) (fun hm => (List.mem_cons.mp hm).elim dL df) ?_
  rintro h6 tk6 ox6 kp6 hx6 ⟨mt, it, rfl, hmt, lmt⟩
  have F6 := frBack (Mut := fun a => a = x) F5 kp6 (fun q => xL q.symm) (fun a q => q ▸ gx)
  obtain ⟨tl6, hv6, hN6, Cv6, ev6, htl6⟩ := focus [x] F6
  have td6 : ∀ q ∈ tl6, q.1 ≠ x := fun q hq => htl6 q hq _ (.head _)
  have lmt5 : L < mt := Nat.lt_of_lt_of_le F5.ns.lt lmt
  have mtx := neN (Nat.ne_of_gt (Nat.lt_of_lt_of_le (Heap.lt_size hx5) lmt))
  have N6 := hN6 [(x, { cls := .ref 504, dict := some dx, data := .plain, slots := #[none, none, some (.ref mt), some (.ref it), some (.str nm tn)] }), (dx, dictOf [] n), (mt, tupOf [.ref m1] 0)] (List.forall_mem_cons.mpr ⟨⟨hx6, xL, gx⟩, List.forall_mem_cons.mpr ⟨⟨kp6 _ _ hd5 hxd.symm, dL, hgn _ d0 df⟩, List.forall_mem_cons.mpr ⟨⟨hmt, Nat.ne_of_gt lmt5, get_none_of_le (Nat.le_trans F5.above (Nat.le_of_lt (Nat.lt_of_lt_of_le F5.ns.lt lmt)))⟩, List.forall_mem_nil _⟩⟩⟩)
  simp only [List.cons_append, List.nil_append] at N6
  clear hN6 N5
  dsimp only
  k_steps
  (with_reducible rename Fr _ _ _ _ => F9)
  (with_reducible rename News _ _ _ _ => N9)
  have S9 := Cv6.now F9 N9 (fun q hq => by repeat (first | assumption | refine List.Mem.tail _ ?_))
  refine hq _ _ _ (fun b o e n1 => S9 b o (ev6 ▸ hideAll_get _ (kp6 b o (kp5 b o e n1) n1) (by simp only [List.mem_cons, List.not_mem_nil, or_false, not_or]; exact ⟨Nat.ne_of_lt (Nat.lt_of_lt_of_le (Heap.lt_size e) lL9), n1⟩))) (N9.get (a := x) (by k_mem)) ⟨_, _, rfl, N9.get (by k_mem), Nat.le_trans lL9 (Nat.le_of_lt lmt5)⟩
end Mine
end
section
open PySem PySem.W PyProof.Rows PySem.Calls PySem.Spec Builtin Builtin.ObjectAttr
set_option maxRecDepth 100000
set_option maxHeartbeats 4000000
namespace Mine
local macro_rules | `(tactic| walk_at "0") => `(tactic| skip)
local macro_rules | `(tactic| walk_at "0") => `(tactic| skip)
local macro_rules | `(tactic| walk_at "0") => `(tactic| skip)
local macro_rules | `(tactic| walk_at "0") => `(tactic| skip)
local macro_rules | `(tactic| walk_at "0") => `(tactic| skip)
local macro_rules | `(tactic| walk_at "0") => `(tactic| skip)
local macro_rules | `(tactic| walk_at "0") => `(tactic| skip)
local macro_rules | `(tactic| walk_at "0") => `(tactic| skip)
local macro_rules | `(tactic| walk_at "0") => `(tactic| skip)
local macro_rules | `(tactic| walk_at "0") => `(tactic| skip)
local macro_rules | `(tactic| walk_at "0") => `(tactic| skip)
local macro_rules | `(tactic| walk_at "0") => `(tactic| skip)
local macro_rules | `(tactic| walk_at "0") => `(tactic| skip)
local macro_rules | `(tactic| walk_at "0") => `(tactic| skip)
local macro_rules | `(tactic| walk_at "0") => `(tactic| skip)
local macro_rules | `(tactic| walk_at "0") => `(tactic| skip)
local macro_rules | `(tactic| walk_at "0") => `(tactic| skip)
local macro_rules | `(tactic| walk_at "0") => `(tactic| skip)
local macro_rules | `(tactic| walk_at "0") => `(tactic| skip)
local macro_rules | `(tactic| walk_at "0") => `(tactic| skip)
local macro_rules | `(tactic| walk_at "0") => `(tactic| skip)
local macro_rules | `(tactic| walk_at "0") => `(tactic| skip)
local macro_rules | `(tactic| walk_at "0") => `(tactic| skip)
local macro_rules | `(tactic| walk_at "0") => `(tactic| skip)
local macro_rules | `(tactic| walk_at "0") => `(tactic| skip)
local macro_rules | `(tactic| walk_at "0") => `(tactic| skip)
local macro_rules | `(tactic| walk_at "0") => `(tactic| skip)
local macro_rules | `(tactic| walk_at "0") => `(tactic| skip)
local macro_rules | `(tactic| walk_at "0") => `(tactic| skip)
local macro_rules | `(tactic| walk_at "0") => `(tactic| skip)
local macro_rules | `(tactic| walk_at "0") => `(tactic| skip)
local macro_rules | `(tactic| walk_at "0") => `(tactic| skip)
local macro_rules | `(tactic| walk_at "0") => `(tactic| skip)
local macro_rules | `(tactic| walk_at "0") => `(tactic| skip)
local macro_rules | `(tactic| walk_at "0") => `(tactic| skip)
local macro_rules | `(tactic| walk_at "0") => `(tactic| skip)
local macro_rules | `(tactic| walk_at "0") => `(tactic| skip)
local macro_rules | `(tactic| walk_at "0") => `(tactic| skip)
local macro_rules | `(tactic| walk_at "0") => `(tactic| skip)
local macro_rules | `(tactic| walk_at "0") => `(tactic| skip)
theorem rs25 : True := by
  w_top off
  trivial
section
variable {w : World} {p : Program} {loose : List Str} {mean : ExcName → Option Value} {mg mb : Str → Option Value} {H0 : Heap}
/-- what a call of a class of expressions hands back: the new object, its empty dict -/
abbrev MadePost (s : Shared) (ok : Addr → Heap → Obj → Prop) (Q : Value → Shared → Prop) : Prop :=
  ∀ x dx ox h' tk', s.heap.StaysIn h' → s.heap.objs.size ≤ x → s.heap.objs.size ≤ dx → x ≠ dx → h'.get? x = some ox → h'.get? dx = some (dictOf [] 0) → ok dx h' ox → Q (.ref x) { s with heap := h', toks := tk' }
theorem make_obj {dp un : Nat} {gd : Option (List Code)} {fr : List Env} {s : Shared} {Q E : Value → Shared → Prop} {C fI : Addr} {rest : List Value} {kw : List (Str × Value)} {ok : Addr → Heap → Obj → Prop}
    (O : Old w p loose mean mg mb H0) (M : Amb H0 fr s.heap) (hs : H0.objs.size ≤ s.heap.objs.size) (hm : makesIn (_root_.Mine.hd.heap_39 w.params) C = true) (hi : findIn (_root_.Mine.hd.heap_39 w.params) (.ref C) "__init__" = some (some (.ref fI))) (hf : isFn (_root_.Mine.hd.heap_39 w.params) (.ref fI) = true)
    (init : ∀ (s' : Shared) x dx R, Amb H0 fr s'.heap → s'.heap.get? x = some (instObj C dx) → s'.heap.get? dx = some (dictOf [] 0) → H0.get? x = none → H0.get? dx = none → x ∉ frs fr → dx ∉ frs fr → H0.objs.size ≤ s'.heap.objs.size → s.heap.objs.size ≤ s'.heap.objs.size → InitPost s' x R (ok dx) →
      codeAny (model PySem.Challenge.rw_vy0014_01.row.prog w) (ar (dp + 1) (un + 1) gd fr) (.call (.ref fI) ⟨.ref x :: rest, kw⟩) R s')
    (hq : MadePost s ok Q) : wpAny (model PySem.Challenge.rw_vy0014_01.row.prog w) (ar dp un gd fr) (call (.ref C) rest kw) Q E s := by
  refine wpAny_call (makeH O M hm hi hf ?_)
  intro h₁ e1 M1 hx hdx k1 z1
  have fresh : ∀ a, s.heap.objs.size ≤ a → H0.get? a = none ∧ a ∉ frs fr := fun a l => ⟨(by cases q : H0.get? a with | none => rfl | some o => exact absurd (Heap.lt_size (M.keep _ _ q)) (Nat.not_lt.mpr l)), fun hm => absurd (frs_lt M.frames a hm) (Nat.not_lt.mpr l)⟩
  have fx := fresh _ (Nat.le_succ s.heap.objs.size)
  have fd := fresh _ (Nat.le_refl s.heap.objs.size)
  refine init { s with heap := h₁ } _ _ _ M1 hx hdx fx.1 fd.1 fx.2 fd.2 (by show _ ≤ h₁.objs.size; rw [z1]; omega) (by show _ ≤ h₁.objs.size; rw [z1]; omega) ?_
  intro h' tk' ox' kp hx' hok
  refine ⟨rfl, hq _ _ _ _ _ (fun b o e => kp b o (k1 b o e) (Nat.ne_of_lt (Nat.lt_succ_of_lt (Heap.lt_size e)))) (Nat.le_succ _) (Nat.le_refl _) (Nat.succ_ne_self _) hx' (kp _ _ hdx (Nat.succ_ne_self _).symm) hok⟩
variable {dp un : Nat} {gd : Option (List Code)} {fr : List Env} {s : Shared} {Q E : Value → Shared → Prop} {word nm : Str} {t tn tl tm : Tok} {m1 m2 : Addr} {least most : Int}
theorem mk_lit (O : Old w p loose mean mg mb H0) (M : Amb H0 fr s.heap) (hs : H0.objs.size ≤ s.heap.objs.size) (hd : dp + 12 < recursionLimit) (hu : un + 50 < cLine) (hl : nm.length ≤ 10)
    (hq : MadePost s (fun dx _ o => ∃ it, o = { cls := .ref 336, dict := some dx, data := .plain, slots := #[some (.str word t), some (.ref it), some (.str nm tn)] }) Q) :
    wpAny (model PySem.Challenge.rw_vy0014_01.row.prog w) (ar dp un gd fr) (call (.ref 336) [.str word t] [(Str.ofString "name", .str nm tn)]) Q E s :=
  make_obj O M hs (by k_is) (by k_is) (by k_is) (fun s' x dx R M' hx hdx x0 d0 xf df h1 h2 hp => init_lit O M' (by omega) (by omega) hx hdx x0 d0 xf df (fun oc od fd osl hlk X => by
    have key : ∀ o, (_root_.Mine.hd.heap_39 w.params).lookup 318 = some o → o = ⟨oc, od, .func fd, osl⟩ := fun o e => Option.some.inj (e.symm.trans hlk)
    have e2 := key _ (by k_is)
    cases e2
    exact binds_K X rfl (by k_is) rfl rfl rfl) hp) hq
theorem mk_lit0 (O : Old w p loose mean mg mb H0) (M : Amb H0 fr s.heap) (hs : H0.objs.size ≤ s.heap.objs.size) (hd : dp + 12 < recursionLimit) (hu : un + 50 < cLine)
    (hq : MadePost s (fun dx _ o => ∃ it, o = { cls := .ref 336, dict := some dx, data := .plain, slots := #[some (.str word t), some (.ref it), some (.str (Str.ofString "") 586)] }) Q) :
    wpAny (model PySem.Challenge.rw_vy0014_01.row.prog w) (ar dp un gd fr) (call (.ref 336) [.str word t] []) Q E s :=
  make_obj O M hs (by k_is) (by k_is) (by k_is) (fun s' x dx R M' hx hdx x0 d0 xf df h1 h2 hp => init_lit O M' (by omega) (by omega) hx hdx x0 d0 xf df (fun oc od fd osl hlk X => by
    have key : ∀ o, (_root_.Mine.hd.heap_39 w.params).lookup 318 = some o → o = ⟨oc, od, .func fd, osl⟩ := fun o e => Option.some.inj (e.symm.trans hlk)
    have e2 := key _ (by k_is)
    cases e2
    exact binds_K X rfl (by k_is) rfl rfl rfl) hp) hq
theorem mk_both (O : Old w p loose mean mg mb H0) (M : Amb H0 fr s.heap) (hs : H0.objs.size ≤ s.heap.objs.size) (hd : dp + 12 < recursionLimit) (hu : un + 50 < cLine)
    (hq : MadePost s (fun dx h' o => ∃ mt it, o = { cls := .ref 394, dict := some dx, data := .plain, slots := #[some (.ref mt), some (.ref it), some (.str nm tn)] } ∧ h'.get? mt = some (tupOf [.ref m1, .ref m2] 0) ∧ s.heap.objs.size ≤ mt) Q) :
    wpAny (model PySem.Challenge.rw_vy0014_01.row.prog w) (ar dp un gd fr) (call (.ref 394) [.ref m1, .ref m2] [(Str.ofString "name", .str nm tn)]) Q E s :=
  make_obj O M hs (by k_is) (by k_is) (by k_is) (fun s' x dx R M' hx hdx x0 d0 xf df h1 h2 hp => init_comp_394 O M' (by omega) (by omega) h1 hx hdx x0 d0 xf df fun h' tk' ox' a b ⟨mt, it, c, d, e⟩ => hp h' tk' ox' a b ⟨mt, it, c, d, Nat.le_trans h2 e⟩) hq
theorem mk_either (O : Old w p loose mean mg mb H0) (M : Amb H0 fr s.heap) (hs : H0.objs.size ≤ s.heap.objs.size) (hd : dp + 12 < recursionLimit) (hu : un + 50 < cLine)
    (hq : MadePost s (fun dx h' o => ∃ mt it, o = { cls := .ref 420, dict := some dx, data := .plain, slots := #[some (.ref mt), some (.ref it), some (.str nm tn)] } ∧ h'.get? mt = some (tupOf [.ref m1, .ref m2] 0) ∧ s.heap.objs.size ≤ mt) Q) :
    wpAny (model PySem.Challenge.rw_vy0014_01.row.prog w) (ar dp un gd fr) (call (.ref 420) [.ref m1, .ref m2] [(Str.ofString "name", .str nm tn)]) Q E s :=
  make_obj O M hs (by k_is) (by k_is) (by k_is) (fun s' x dx R M' hx hdx x0 d0 xf df h1 h2 hp => init_comp_420 O M' (by omega) (by omega) h1 hx hdx x0 d0 xf df fun h' tk' ox' a b ⟨mt, it, c, d, e⟩ => hp h' tk' ox' a b ⟨mt, it, c, d, Nat.le_trans h2 e⟩) hq
theorem mk_look (O : Old w p loose mean mg mb H0) (M : Amb H0 fr s.heap) (hs : H0.objs.size ≤ s.heap.objs.size) (hd : dp + 12 < recursionLimit) (hu : un + 50 < cLine)
    (hq : MadePost s (fun dx h' o => ∃ mt it, o = { cls := .ref 458, dict := some dx, data := .plain, slots := #[some (.bool false), some (.ref mt), some (.ref it), some (.str nm tn)] } ∧ h'.get? mt = some (tupOf [.ref m1] 0) ∧ s.heap.objs.size ≤ mt) Q) :
    wpAny (model PySem.Challenge.rw_vy0014_01.row.prog w) (ar dp un gd fr) (call (.ref 458) [.ref m1] [(Str.ofString "name", .str nm tn)]) Q E s :=
  make_obj O M hs (by k_is) (by k_is) (by k_is) (fun s' x dx R M' hx hdx x0 d0 xf df h1 h2 hp => init_look O M' (by omega) (by omega) h1 hx hdx x0 d0 xf df fun h' tk' ox' a b ⟨mt, it, c, d, e⟩ => hp h' tk' ox' a b ⟨mt, it, c, d, Nat.le_trans h2 e⟩) hq
theorem mk_look_n (O : Old w p loose mean mg mb H0) (M : Amb H0 fr s.heap) (hs : H0.objs.size ≤ s.heap.objs.size) (hd : dp + 12 < recursionLimit) (hu : un + 50 < cLine)
    (hq : MadePost s (fun dx h' o => ∃ mt it tn, o = { cls := .ref 458, dict := some dx, data := .plain, slots := #[some (.bool true), some (.ref mt), some (.ref it), some (.str (Str.ofString "") tn)] } ∧ h'.get? mt = some (tupOf [.ref m1] 0) ∧ s.heap.objs.size ≤ mt) Q) :
    wpAny (model PySem.Challenge.rw_vy0014_01.row.prog w) (ar dp un gd fr) (call (.ref 458) [.ref m1] [(Str.ofString "negative", .bool true)]) Q E s :=
  make_obj O M hs (by k_is) (by k_is) (by k_is) (fun s' x dx R M' hx hdx x0 d0 xf df h1 h2 hp => init_look_n O M' (by omega) (by omega) h1 hx hdx x0 d0 xf df fun h' tk' ox' a b ⟨mt, it, tn, c, d, e⟩ => hp h' tk' ox' a b ⟨mt, it, tn, c, d, Nat.le_trans h2 e⟩) hq
theorem mk_times0 (O : Old w p loose mean mg mb H0) (M : Amb H0 fr s.heap) (hs : H0.objs.size ≤ s.heap.objs.size) (hd : dp + 12 < recursionLimit) (hu : un + 50 < cLine)
    (hq : MadePost s (fun dx h' o => ∃ mt it, o = { cls := .ref 504, dict := some dx, data := .plain, slots := #[some (.float 9218868437227405312 816), some (.int least tl), some (.ref mt), some (.ref it), some (.str nm tn)] } ∧ h'.get? mt = some (tupOf [.ref m1] 0) ∧ s.heap.objs.size ≤ mt) Q) :
    wpAny (model PySem.Challenge.rw_vy0014_01.row.prog w) (ar dp un gd fr) (call (.ref 504) [.ref m1] [(Str.ofString "min", .int least tl), (Str.ofString "name", .str nm tn)]) Q E s :=
  make_obj O M hs (by k_is) (by k_is) (by k_is) (fun s' x dx R M' hx hdx x0 d0 xf df h1 h2 hp => init_times O M' (by omega) (by omega) h1 hx hdx x0 d0 xf df (fun oc od fd osl hl X A E Q q => bind_times0 oc od fd osl hl X A E Q q) fun h' tk' ox' a b ⟨mt, it, c, d, e⟩ => hp h' tk' ox' a b ⟨mt, it, c, d, Nat.le_trans h2 e⟩) hq
theorem mk_times1 (O : Old w p loose mean mg mb H0) (M : Amb H0 fr s.heap) (hs : H0.objs.size ≤ s.heap.objs.size) (hd : dp + 12 < recursionLimit) (hu : un + 50 < cLine)
    (hq : MadePost s (fun dx h' o => ∃ mt it, o = { cls := .ref 504, dict := some dx, data := .plain, slots := #[some (.int most tm), some (.int least tl), some (.ref mt), some (.ref it), some (.str nm tn)] } ∧ h'.get? mt = some (tupOf [.ref m1] 0) ∧ s.heap.objs.size ≤ mt) Q) :
    wpAny (model PySem.Challenge.rw_vy0014_01.row.prog w) (ar dp un gd fr) (call (.ref 504) [.ref m1] [(Str.ofString "min", .int least tl), (Str.ofString "max", .int most tm), (Str.ofString "name", .str nm tn)]) Q E s :=
  make_obj O M hs (by k_is) (by k_is) (by k_is) (fun s' x dx R M' hx hdx x0 d0 xf df h1 h2 hp => init_times O M' (by omega) (by omega) h1 hx hdx x0 d0 xf df (fun oc od fd osl hl X A E Q q => bind_times1 oc od fd osl hl X A E Q q) fun h' tk' ox' a b ⟨mt, it, c, d, e⟩ => hp h' tk' ox' a b ⟨mt, it, c, d, Nat.le_trans h2 e⟩) hq
end
end Mine
end
section
open PySem PySem.W PyProof.Rows PySem.Calls PySem.Spec Builtin Builtin.ObjectAttr
set_option maxRecDepth 100000
set_option maxHeartbeats 4000000
namespace Mine
theorem rs26 : True := by
  w_top off
  trivial
section
variable {prog : Program} {w : World} {A : Around} {R : Result → Shared → Prop} {h : Heap} {g : Array GenState} {d : Drawn} {t : Nat} {os : OsState}
variable {nm q : Str} {C N fI : Addr} {bs bm : List Value} {hdct : Bool} {sn : List Str} {sub : List Value} {ab : Bool} {col : Option Bool} {dd : Option Addr} {k0 k1 k2 k3 k5 : Option Value}
abbrev excNew (C tp : Addr) : Obj := { cls := .ref C, data := .fields #[.ref tp, .none, .none, .none, .bool false, .none] }
/-- the bare object of an own exception -/
theorem exc_new (hC : h.get? C = some (excClassObj nm q C N bs bm hdct sn sub ab col dd k0 k1 k2 k3 k5 "Exception.__new__")) (hcB : (Value.ref C :: bm).contains (.type "Exception") = true) (hcA : (Value.ref C :: bm).contains (.type "AttributeError") = false) (hcN : (Value.ref C :: bm).contains (.type "NameError") = false)
    {rest : List Value} (hrest : rest.length ≤ sizeLine) (hq : R (.ok (.ret (.ref (h.objs.size + 1)))) ⟨(h.push { cls := .type "tuple", data := .seq rest.toArray }).push (excNew C h.objs.size), g, d, t, os⟩) :
    codeAny (model prog w) A (.builtin "Exception.__new__" ⟨.ref C :: rest, []⟩) R ⟨h, g, d, t, os⟩ := by
  have Fn := PySem.F.excBase_Exception
  have hends := Fn.ends
  refine codeAny_builtinAt Fn.entry ?_
  unfold Builtin.«BaseException.__new__»
  refine _root_.PySem.wpAt_bind ?_
  show _root_.PySem.wpAt _ _ _ (stack >>= _) _ _ _
  refine _root_.PySem.wpAt_bind (_root_.PySem.wpAt_stack fun p below => _root_.PySem.wpAt_of_wpAny ?_)
  wp_walk
  refine _root_.PySem.wpAt_of_wpAny ?_
  rw [Fn.owner]
  repeat (first | with_reducible refine wpAny_madeHere_exc Fn.canon hC ?_ | with_reducible refine wpAny_loadPart_at hC ?_ | (with_reducible refine wpAny_isSubtype_exc hC ?_; first | rw [hcB] | rw [hcA] | rw [hcN]) | wp_step)
  show R _ _
  rw [Heap.size_push]
  exact hq
theorem exc_check {M : Model} {E : Value → Shared → Prop} {rest : List Value} {Q : Unit → Shared → Prop} (hC : h.get? C = some (excClassObj nm q C N bs bm hdct sn sub ab col dd k0 k1 k2 k3 k5 "Exception.__new__")) (hcB : (Value.ref C :: bm).contains (.type "Exception") = true)
    (hq : Q () ⟨h, g, d, t, os⟩) : wpAny M A (checkBuiltinCall "Exception.__new__" ⟨.ref C :: rest, []⟩) Q E ⟨h, g, d, t, os⟩ := by
  have Fn := PySem.F.excBase_Exception
  have hstar := Fn.noStar
  simp only [checkBuiltinCall, Fn.newKind, Fn.newSplit, Fn.newRow]
  repeat (first | refine wpAny_loadPart_at hC ?_ | (refine wpAny_isSubtype_exc hC ?_; rw [hcB]) | refine wpAny_staticBase_exc hC ?_ | refine wpAny_madeBy_exc hC ?_ | simp only [bne_self_eq_false, Bool.false_eq_true, if_false] | wp_step)
  exact hq
theorem exc_make {rest : List Value} (hC : h.get? C = some (excClassObj nm q C N bs bm hdct sn sub ab col dd k0 k1 k2 k3 k5 "Exception.__new__")) (hcB : (Value.ref C :: bm).contains (.type "Exception") = true) (hcA : (Value.ref C :: bm).contains (.type "AttributeError") = false) (hcN : (Value.ref C :: bm).contains (.type "NameError") = false)
    (hrest : rest.length ≤ sizeLine) (hi : Looks (model prog w) h (typeLookup (.ref C) "__init__") (some (.ref fI))) (hb : ∀ self, Looks (model prog w) h (bindSpecial (.ref fI) self) (.ref fI, [self]))
    (hq : codeAny (model prog w) (A.under (.builtin "type.__call__" ⟨.ref C :: rest, []⟩)) (.call (.ref fI) ⟨.ref (h.objs.size + 1) :: rest, []⟩) (InitBack (h.objs.size + 1) R) ⟨(h.push { cls := .type "tuple", data := .seq rest.toArray }).push (excNew C h.objs.size), g, d, t, os⟩) :
    codeAny (model prog w) A (.call (.ref C) ⟨rest, []⟩) R ⟨h, g, d, t, os⟩ := by
  have f1 := tc_lookup
  have f2 := tc_bind (.ref C)
  have hT : (⟨h, g, d, t, os⟩ : Shared).TypeIs (.ref C) "type" := ⟨_, hC, rfl⟩
  refine codeAny_of_tree ?_
  show wpAny _ _ (callAny (.ref C) _) _ _ _
  repeat (any_goals (first | assumption | with_reducible refine wpAny_loadPart_at hC ?_ | wp_step))
  refine ⟨rfl, ?_⟩
  refine codeAny_call_builtin_at (Code.quiet_builtin _ (by decide +kernel)) entry_typeCall (wpAny_check_type_call_sub hC ?_)
  repeat (first | with_reducible refine wpAny_loadPart_at hC ?_ | with_reducible refine wpAny_madeBy_exc hC ?_ | wp_step)
  have Fn := PySem.F.excBase_Exception
  refine codeAny_call_builtin_code (Code.quiet_builtin _ Fn.quiet) (exc_check hC hcB ?_)
  refine exc_new hC hcB hcA hcN hrest ?_
  show wpAny _ _ _ _ _ _
  have k : ∀ b o, h.get? b = some o → ((h.push { cls := .type "tuple", data := .seq rest.toArray }).push (excNew C h.objs.size)).get? b = some o := fun b o e => Heap.get?_push_of_some _ (Heap.get?_push_of_some _ e)
  have hC₁ := k _ _ hC
  have hget : ((h.push { cls := .type "tuple", data := .seq rest.toArray }).push (excNew C h.objs.size)).get? (h.objs.size + 1) = some (excNew C h.objs.size) := by heap_get
  have hcC : (Value.ref C :: bm).contains (.ref C) = true := by simp
  have t1 : Looks (model prog w) ((h.push { cls := .type "tuple", data := .seq rest.toArray }).push (excNew C h.objs.size)) (typeOf (.ref (h.objs.size + 1))) (.ref C) := (Looks.ld hget).andThen .now
  have i1 := hi.keeps k
  have b1 := (hb (.ref (h.objs.size + 1))).keeps k
  unfold isInstance
  repeat (first | with_reducible refine wpAny_loadPart_at hget ?_ | (with_reducible refine wpAny_isSubtype_exc hC₁ ?_; rw [hcC]) | wp_step)
  show wpAny _ _ (isSubtype (.ref C) (.ref C)) _ _ _
  refine wpAny_isSubtype_exc hC₁ ?_
  rw [hcC, if_neg (by decide)]
  refine wpAny_bind (wpAny_holding ?_)
  unfold callSpecial? specialOf
  refine wpAny_bind (wpAny_bind (t1.at (i1.at ?_)))
  refine wpAny_holding (wpAny_bind (b1.at ?_))
  dsimp only
  refine wpAny_bind (wpAny_call ?_)
  refine codeAny_mono hq fun r s' z => ?_
  rcases r with e | (v | _ | _ | _) <;> first | exact z | exact z.elim | skip
  obtain ⟨rfl, z⟩ := z
  exact wpAny_pure (wpAny_pure z)
end
end Mine
end
section
open PySem PySem.W PyProof.Rows PySem.Calls PySem.Spec Builtin Builtin.ObjectAttr
set_option maxRecDepth 100000
set_option maxHeartbeats 4000000
namespace Mine
local macro_rules | `(tactic| walk_at "0") => `(tactic| skip)
local macro_rules | `(tactic| walk_at "0") => `(tactic| skip)
local macro_rules | `(tactic| walk_at "0") => `(tactic| skip)
local macro_rules | `(tactic| walk_at "0") => `(tactic| skip)
local macro_rules | `(tactic| walk_at "0") => `(tactic| skip)
local macro_rules | `(tactic| walk_at "0") => `(tactic| skip)
local macro_rules | `(tactic| walk_at "0") => `(tactic| skip)
local macro_rules | `(tactic| walk_at "0") => `(tactic| skip)
local macro_rules | `(tactic| walk_at "0") => `(tactic| skip)
local macro_rules | `(tactic| walk_at "0") => `(tactic| skip)
local macro_rules | `(tactic| walk_at "0") => `(tactic| skip)
local macro_rules | `(tactic| walk_at "0") => `(tactic| skip)
local macro_rules | `(tactic| walk_at "0") => `(tactic| skip)
local macro_rules | `(tactic| walk_at "0") => `(tactic| skip)
local macro_rules | `(tactic| walk_at "0") => `(tactic| skip)
local macro_rules | `(tactic| walk_at "0") => `(tactic| skip)
local macro_rules | `(tactic| walk_at "0") => `(tactic| skip)
local macro_rules | `(tactic| walk_at "0") => `(tactic| skip)
local macro_rules | `(tactic| walk_at "0") => `(tactic| skip)
local macro_rules | `(tactic| walk_at "0") => `(tactic| skip)
local macro_rules | `(tactic| walk_at "0") => `(tactic| skip)
local macro_rules | `(tactic| walk_at "0") => `(tactic| skip)
local macro_rules | `(tactic| walk_at "0") => `(tactic| skip)
local macro_rules | `(tactic| walk_at "0") => `(tactic| skip)
local macro_rules | `(tactic| walk_at "0") => `(tactic| skip)
local macro_rules | `(tactic| walk_at "0") => `(tactic| skip)
local macro_rules | `(tactic| walk_at "0") => `(tactic| skip)
local macro_rules | `(tactic| walk_at "0") => `(tactic| skip)
local macro_rules | `(tactic| walk_at "0") => `(tactic| skip)
local macro_rules | `(tactic| walk_at "0") => `(tactic| skip)
local macro_rules | `(tactic| walk_at "0") => `(tactic| skip)
local macro_rules | `(tactic| walk_at "0") => `(tactic| skip)
local macro_rules | `(tactic| walk_at "0") => `(tactic| skip)
local macro_rules | `(tactic| walk_at "0") => `(tactic| skip)
local macro_rules | `(tactic| walk_at "0") => `(tactic| skip)
local macro_rules | `(tactic| walk_at "0") => `(tactic| skip)
local macro_rules | `(tactic| walk_at "0") => `(tactic| skip)
local macro_rules | `(tactic| walk_at "0") => `(tactic| skip)
local macro_rules | `(tactic| walk_at "0") => `(tactic| skip)
local macro_rules | `(tactic| walk_at "0") => `(tactic| skip)
theorem rs27 : True := by
  w_top off
  trivial
section
variable {prog : Program} {w : World} {A : Around} {E : Value → Shared → Prop} {s : Shared} {K : Frag} {x C tp : Addr} {name : Str} {v : Value} {g : Heap} {L : Addr} {m : Str → Option Value} {news : List (Addr × Obj)}
abbrev excDict (C tp d : Addr) : Obj := { cls := .ref C, dict := some d, data := .fields #[.ref tp, .none, .none, .none, .bool false, .none] }
/-- the first attribute of a new exception: its dict is made -/
theorem exc_set0 {Q : Unit → Shared → Prop} (F : Fr g L s.heap m) (X₀ : K.In g) (N : News g L s.heap ((x, excNew C tp) :: news)) (hne : ∀ p ∈ news, p.1 ≠ x) (c : ExcF K C) (ht : takerIn K C name = some none)
    (h : ∀ d h', Fr g L h' m → News g L h' ((x, excDict C tp d) :: (d, dictOf [⟨PyData.keyHash w.params name, .str name (s.toks + 1), v⟩] 1) :: news) → (∀ p ∈ news, p.1 < d) → x < d → L < d → Q () { s with heap := h', toks := s.toks + 2 }) :
    wpAny (model prog w) A (setAttr (.ref x) name v) Q E s := by
  obtain ⟨hh, gg, dd, tt, oo⟩ := s
  have X := X₀.keeps F.keep
  have hx : hh.get? x = some (excNew C tp) := (N _ (.head _)).1
  have I : InstAt hh x (excNew C tp) C none := ⟨hx, rfl, rfl, trivial⟩
  refine set_plain X I c.sa ?_
  have SF := PySem.F.store_object
  obtain ⟨cd, hcd, hdrop⟩ := any_some c.pass
  have hdrop := of_decide_eq_true hdrop
  have hmro : Looks (model prog w) hh (mroOf (.ref C)) cd.mro := (looks_clsIn X hcd).andThen .now
  obtain ⟨cd', hcd', hdict⟩ := any_some (show (clsIn K C).any (·.hasDict) = true from c.hd)
  rw [hcd] at hcd'; cases hcd'
  refine codeAny_call_builtin SF.slot.plain SF.entry (@check_slot (model prog w) _ _ ⟨hh, gg, dd, tt + 1, oo⟩ "object.__setattr__" "object" "__setattr__" (.ref x) [.str name tt, v] [] _ SF.kind SF.split (I.type.andThen (looks_mroIn X c.ob)) (SF.args (.ref x) (.str name tt) v) ?_)
  obtain ⟨attr, ha, hr⟩ := Option.bind_eq_some_iff.mp ht
  have Lt : Looks (model prog w) hh (storeTaker? attr) none := by
    cases attr with
    | none => exact .now
    | some a =>
      obtain ⟨b, hb, hbb⟩ := Option.map_eq_some_iff.mp hr
      cases b with
      | true => cases hbb
      | false => exact (looks_takesIn X hb).andThen .now
  rw [osa_eq, refuse_eq]
  refine wpAny_bind (wpAny_bind (Looks.at (h := hh) I.type (wpAny_bind (hmro.at ?_))))
  rw [refuse_drop, hdrop, refuse_exc]
  refine wpAny_pure (wpAny_bind (Looks.at (h := hh) I.type (wpAny_bind (Looks.at (h := hh) (looks_findIn X ha) (wpAny_bind (Lt.at ?_))))))
  dsimp only
  refine wpAny_bind (wpAny_pure (wpAny_bind (wpAny_bind (wpAny_loadPart hx (wpAny_bind (Looks.at (h := hh) (looks_clsIn X hcd) ?_))))))
  rw [hdict]
  have k1 : hh.StaysIn (hh.push (dictOf [] 0)) := fun b o e => Heap.get?_push_of_some _ e
  have lx := Heap.lt_size hx
  have hxs : x ≠ hh.objs.size := Nat.ne_of_lt lx
  show wpAny _ _ (alloc (dictOf [] 0) >>= fun d => update x (fun o => { o with dict := some d }) >>= fun _ => dictMade (.ref C) x d) _ _ _
  refine wpAny_bind (wpAny_alloc (wpAny_bind (wpAny_update (k1 _ _ hx) ?_)))
  refine wpAny_pure ?_
  dsimp only
  have hd2 : ((hh.push (dictOf [] 0)).update x (fun o => { o with dict := some hh.objs.size })).get? hh.objs.size = some (dictOf [] 0) := (Heap.get?_update_other _ _ hxs).trans (Heap.get?_push_size _ rfl)
  have hx2 : ((hh.push (dictOf [] 0)).update x (fun o => { o with dict := some hh.objs.size })).get? x = some (excDict C tp hh.objs.size) := Heap.get?_update_self _ (k1 _ _ hx) rfl
  have ho2 : ∀ b o, hh.get? b = some o → b ≠ x → ((hh.push (dictOf [] 0)).update x (fun o => { o with dict := some hh.objs.size })).get? b = some o := fun b o e n => (Heap.get?_update_other _ _ (Ne.symm n)).trans (k1 _ _ e)
  unfold storeInDict
  refine wpAny_bind (wpAny_pure (wpAny_bind (nsSet_new hd2 fun h3 hs3 hd3 => ?_)))
  have hx3 := (hs3.2 x hxs).trans hx2
  have ho3 : ∀ b o, hh.get? b = some o → b ≠ x → h3.get? b = some o := fun b o e n => (hs3.2 b (Nat.ne_of_lt (Heap.lt_size e))).trans (ho2 b o e n)
  refine wpAny_bind (wpAny_lookBehind hd3 (pastItsLine_dict (by simp [sizeLine_eq, kwEs])) ?_)
  refine wpAny_pure ?_
  have gx := (N _ (.head _)).2.2
  obtain ⟨oL, es, ep, hL, r⟩ := F.ns
  have xL := (N _ (.head _)).2.1
  have LL := Heap.lt_size hL
  refine h hh.objs.size h3 ⟨⟨oL, es, ep, ho3 _ _ hL (Ne.symm xL), r⟩, fun b o e => ho3 b o (F.keep b o e) (fun q => by subst q; rw [e] at gx; cases gx), F.above⟩ (fun p hp => ?_) (fun p hp => Heap.lt_size (N p (.tail _ hp)).1) lx LL
  rcases List.mem_cons.mp hp with rfl | hp
  · exact ⟨hx3, xL, gx⟩
  rcases List.mem_cons.mp hp with rfl | hp
  · refine ⟨hd3, Nat.ne_of_gt LL, ?_⟩
    cases q : g.get? hh.objs.size with
    | none => rfl
    | some o => exact absurd (Heap.lt_size (F.keep _ _ q)) (Nat.lt_irrefl _)
  · exact ⟨ho3 _ _ (N p (.tail _ hp)).1 (hne p hp), (N p (.tail _ hp)).2⟩
theorem exc_setN {ox : Obj} {dx : Addr} {news' : List (Addr × Obj)} {es es' : List DictEntry} {n n' : Nat} {Q : Unit → Shared → Prop} (F : Fr g L s.heap m) (X₀ : K.In g) (N : News g L s.heap news) (I : InstAt s.heap x ox C (some (dictOf es n))) (hd : ox.dict = some dx) (c : ExcF K C)
    (ht : takerIn K C name = some none) (hno : (!es.toArray.any (·.key.isStr name) && es.toArray.any (·.refKey)) = false)
    (e : (putL name (PyData.keyHash w.params name) (.str name (s.toks + 1)) v es, putN name es n) = (es', n')) (U : Upd dx (dictOf es n) (dictOf es' n') news news') (hz : es'.length ≤ 1000)
    (h : ∀ h', Fr g L h' m → News g L h' news' → Q () { s with heap := h', toks := s.toks + 2 }) : wpAny (model prog w) A (setAttr (.ref x) name v) Q E s := by
  obtain ⟨hh, gg, dd, tt, oo⟩ := s
  obtain ⟨pre, post, rfl, rfl, h1, h2⟩ := U.split
  obtain ⟨e1, e2⟩ := Prod.mk.inj e
  have X := X₀.keeps F.keep
  refine set_plain X I c.sa ?_
  have SF := PySem.F.store_object
  obtain ⟨cd, hcd, hdrop⟩ := any_some c.pass
  have hdrop := of_decide_eq_true hdrop
  have hmro : Looks (model prog w) hh (mroOf (.ref C)) cd.mro := (looks_clsIn X hcd).andThen .now
  obtain ⟨cd', hcd', hdict⟩ := any_some (show (clsIn K C).any (·.hasDict) = true from c.hd)
  rw [hcd] at hcd'; cases hcd'
  refine codeAny_call_builtin SF.slot.plain SF.entry (@check_slot (model prog w) _ _ ⟨hh, gg, dd, tt + 1, oo⟩ "object.__setattr__" "object" "__setattr__" (.ref x) [.str name tt, v] [] _ SF.kind SF.split (I.type.andThen (looks_mroIn X c.ob)) (SF.args (.ref x) (.str name tt) v) ?_)
  obtain ⟨attr, ha, hr⟩ := Option.bind_eq_some_iff.mp ht
  have Lt : Looks (model prog w) hh (storeTaker? attr) none := by
    cases attr with
    | none => exact .now
    | some a =>
      obtain ⟨b, hb, hbb⟩ := Option.map_eq_some_iff.mp hr
      cases b with
      | true => cases hbb
      | false => exact (looks_takesIn X hb).andThen .now
  rw [osa_eq, refuse_eq]
  refine wpAny_bind (wpAny_bind (Looks.at (h := hh) I.type (wpAny_bind (hmro.at ?_))))
  rw [refuse_drop, hdrop, refuse_exc]
  refine wpAny_pure (wpAny_bind (Looks.at (h := hh) I.type (wpAny_bind (Looks.at (h := hh) (looks_findIn X ha) (wpAny_bind (Lt.at ?_))))))
  dsimp only
  have hput : Obj.putName name (PyData.keyHash w.params name) (.str name (tt + 1)) v (dictOf es n) = dictOf es' n' := by rw [putName_dict, e1, e2]
  obtain ⟨U1, U2⟩ := news_upd (f := Obj.putName name (PyData.keyHash w.params name) (.str name (tt + 1)) v) F N h1 h2 hput rfl
  have D := (N (dx, dictOf es n) (by simp)).1
  have D' := (U2 (dx, dictOf es' n') (by simp)).1
  obtain ⟨hx, hcl, hn, -⟩ := I
  obtain ⟨oc, odi, oda, osl⟩ := ox
  dsimp only at hcl hd
  subst hcl hd
  refine wpAny_bind (wpAny_pure (wpAny_bind (wpAny_bind (wpAny_loadPart hx (wpAny_bind (Looks.at (h := hh) (looks_clsIn X hcd) ?_))))))
  rw [hdict]
  refine wpAny_pure (a := some dx) (wpAny_bind (wpAny_pure (wpAny_bind ?_)))
  unfold nsSet
  refine wpAny_bind (wpAny_bind (wpAny_askSetting (wpAny_pure (wpAny_bind (wpAny_mkText (wpAny_bind (wpAny_loadPart D ?_)))))))
  dsimp only
  rw [aRefKeyMayBeTheName_at, hno]
  refine wpAny_updatePart D ?_
  refine wpAny_bind (wpAny_lookBehind D' (pastItsLine_dict (by rw [List.size_toArray, sizeLine_eq]; omega)) ?_)
  exact wpAny_pure (h _ U1 U2)
end
end Mine
end
section
open PySem PySem.W PyProof.Rows PySem.Calls PySem.Spec Builtin Builtin.ObjectAttr
set_option maxRecDepth 100000
set_option maxHeartbeats 8000000
namespace Mine
theorem rs28 : True := by
  w_top off
  trivial
abbrev errEs (w : World) (t1 t2 t3 : Tok) (tx pv ev : Value) : List DictEntry := [⟨PyData.keyHash w.params "text", .str "text" t1, tx⟩, ⟨PyData.keyHash w.params "pos", .str "pos" t2, pv⟩, ⟨PyData.keyHash w.params "expr", .str "expr" t3, ev⟩]
abbrev bindsErr (x : Addr) (tx pv ev : Value) : List (Str × Value) := [("self", .ref x), ("text", tx), ("pos", pv), ("expr", ev)]
theorem errPutA {h h1 : Int} {k v v1 : Value} {t1 : Tok} {n : Nat} : (putL "pos" h k v [⟨h1, .str "text" t1, v1⟩], putN "pos" [⟨h1, .str "text" t1, v1⟩] n) = ([⟨h1, .str "text" t1, v1⟩, ⟨h, k, v⟩], n + 1) := by with_unfolding_all rfl
theorem errPutB {h h1 h2 : Int} {k v v1 v2 : Value} {t1 t2 : Tok} {n : Nat} : (putL "expr" h k v [⟨h1, .str "text" t1, v1⟩, ⟨h2, .str "pos" t2, v2⟩], putN "expr" [⟨h1, .str "text" t1, v1⟩, ⟨h2, .str "pos" t2, v2⟩] n) = ([⟨h1, .str "text" t1, v1⟩, ⟨h2, .str "pos" t2, v2⟩, ⟨h, k, v⟩], n + 1) := by with_unfolding_all rfl
theorem hnoA {h1 : Int} {v1 : Value} {t1 : Tok} : (!([⟨h1, .str "text" t1, v1⟩] : List DictEntry).toArray.any (·.key.isStr "pos") && ([⟨h1, .str "text" t1, v1⟩] : List DictEntry).toArray.any (·.refKey)) = false := by with_unfolding_all rfl
theorem hnoB {h1 h2 : Int} {v1 v2 : Value} {t1 t2 : Tok} : (!([⟨h1, .str "text" t1, v1⟩, ⟨h2, .str "pos" t2, v2⟩] : List DictEntry).toArray.any (·.key.isStr "expr") && ([⟨h1, .str "text" t1, v1⟩, ⟨h2, .str "pos" t2, v2⟩] : List DictEntry).toArray.any (·.refKey)) = false := by with_unfolding_all rfl
local macro_rules | `(tactic| k_room) => `(tactic| ktr_room)
local macro_rules | `(tactic| k_all) => `(tactic| first | assumption | (intro q9 hq9; (try dsimp only); first | exact allLt_ne (by assumption) (by omega) q9 hq9 | exact lt_ne (by assumption) (by omega) q9 hq9))
local macro_rules | `(tactic| k_inst) => `(tactic| (refine' instOf ?N ?h1 ?h2 ?e1 ?e2 ?e3; (case N => k_asm); (case h1 => k_mem); (case e1 => first | assumption | exact rfl); (case e2 => first | assumption | exact rfl); (case h2 => k_mem); (case e3 => first | assumption | exact rfl)))
local macro_rules | `(tactic| walk_at "setAttr ref") => `(tactic| (k_here; (with_reducible show wpAny _ _ (setAttr (Value.ref _) (PySem.Str.ofString "text") _) _ _ _); k_dflt (refine' exc_set0 ?k1 ?k2 ?k3 ?k4 ?k5 ?k6 ?_; (case k1 => k_asm); (case k2 => k_asm); (case k3 => k_asm); (case k4 => assumption); (case k5 => assumption); (case k6 => assumption); k_whole); intro d' h' F' N' l1 l2 l3; (have l2' := ltN l2); (try k_lt l1)))
local macro_rules | `(tactic| walk_at "setAttr ref") => `(tactic| (k_here; (with_reducible show wpAny _ _ (setAttr (Value.ref _) (PySem.Str.ofString "pos") _) _ _ _); k_dflt (refine' exc_setN ?k1 ?k2 ?k3 ?k4 ?k5 ?k6 ?k7 ?k8 ?k9 ?k10 ?k11 ?_; (case k1 => k_asm); (case k2 => k_asm); (case k3 => k_asm); (case k4 => k_inst); (case k5 => exact rfl); (case k6 => assumption); (case k7 => assumption); (case k8 => exact hnoA); (case k9 => exact errPutA); (case k10 => k_upd); (case k11 => exact Nat.le_of_ble_eq_true rfl); k_whole); intro h' F' N'; (try k_sweep)))
local macro_rules | `(tactic| walk_at "setAttr ref") => `(tactic| (k_here; (with_reducible show wpAny _ _ (setAttr (Value.ref _) (PySem.Str.ofString "expr") _) _ _ _); k_dflt (refine' exc_setN ?k1 ?k2 ?k3 ?k4 ?k5 ?k6 ?k7 ?k8 ?k9 ?k10 ?k11 ?_; (case k1 => k_asm); (case k2 => k_asm); (case k3 => k_asm); (case k4 => k_inst); (case k5 => exact rfl); (case k6 => assumption); (case k7 => assumption); (case k8 => exact hnoB); (case k9 => exact errPutB); (case k10 => k_upd); (case k11 => exact Nat.le_of_ble_eq_true rfl); k_whole); intro h' F' N'; (try k_sweep)))
variable {w : World} {p : Program} {loose : List Str} {mean : ExcName → Option Value} {mg mb : Str → Option Value} {H0 : Heap}
theorem err_init {dp un : Nat} {gd : Option (List Code)} {fr : List Env} {s : Shared} {R : Result → Shared → Prop} {x C tp : Addr} {args : Args} {tx pv ev : Value}
    (O : Old w p loose mean mg mb H0) (M : Amb H0 fr s.heap) (hd : dp + 2 < recursionLimit) (hx : s.heap.get? x = some (excNew C tp)) (x0 : H0.get? x = none) (xf : x ∉ frs fr)
    (c : ExcF (_root_.Mine.hd.heap_39 w.params) C) (t1 : takerIn (_root_.Mine.hd.heap_39 w.params) C "text" = some none) (t2 : takerIn (_root_.Mine.hd.heap_39 w.params) C "pos" = some none) (t3 : takerIn (_root_.Mine.hd.heap_39 w.params) C "expr" = some none)
    (hb : ∀ oc od fd osl, (_root_.Mine.hd.heap_39 w.params).lookup 70 = some ⟨oc, od, .func fd, osl⟩ → (_root_.Mine.hd.heap_39 w.params).In s.heap → BindsTo s fd args (bindsErr x tx pv ev))
    (hq : ∀ h' tk' d t1 t2 t3, (∀ b o, s.heap.get? b = some o → b ≠ x → h'.get? b = some o) → h'.get? x = some (excDict C tp d) → h'.get? d = some (dictOf (errEs w t1 t2 t3 tx pv ev) 3) → s.heap.objs.size ≤ d → R (.ok (.ret .none)) { s with heap := h', toks := tk' }) :
    codeAny (model PySem.Challenge.rw_vy0014_01.row.prog w) (ar dp un gd fr) (.call (.ref 70) args) R s := by
  refine' enterF O M ?ho ?hcd ?hr ?hb ?hl ?_ ?c1 ?c2 ?c3 ?c4
  case ho => k_is
  case hcd => k_is
  case hr => omega
  case hb => exact hb _ _ _ _ (by k_is) (O.X.keeps M.keep)
  case hl => exact locs rfl
  case c1 => exact rfl
  case c2 => exact rfl
  case c3 => exact rfl
  case c4 => decide
  intro g L h₁ eL F K1 MG hgn Bw X T
  have xL : x ≠ L := eL ▸ Nat.ne_of_lt (Heap.lt_size hx)
  obtain ⟨tl, hvh, hN, Cv, ev9, htl⟩ := focus [x] F
  have td : ∀ q ∈ tl, q.1 ≠ x := fun q hq => htl q hq _ (.head _)
  have N := hN [(x, excNew C tp)] (List.forall_mem_cons.mpr ⟨⟨K1 _ _ hx, xL, hgn _ x0 xf⟩, List.forall_mem_nil _⟩)
  simp only [List.cons_append, List.nil_append] at N
  clear hN
  k_steps
  (with_reducible rename Fr _ _ _ _ => F9)
  (with_reducible rename News _ _ _ _ => N9)
  (with_reducible rename @LT.lt Addr _ L _ => l9)
  have S9 := Cv.now F9 N9 (fun q hq => by repeat (first | assumption | refine List.Mem.tail _ ?_))
  exact hq _ _ _ _ _ _ (fun b o e n1 => S9 b o (ev9 ▸ hideAll_get _ (K1 b o e) (by simp only [List.mem_cons, List.not_mem_nil, or_false, not_or]; exact ⟨eL ▸ Nat.ne_of_lt (Heap.lt_size e), n1⟩))) (N9.get (.head _)) (N9.get (.tail _ (.head _))) (eL ▸ Nat.le_of_lt l9)
end Mine
end
section
open PySem PySem.W PyProof.Rows PySem.Calls PySem.Spec Builtin Builtin.ObjectAttr
set_option maxRecDepth 100000
set_option maxHeartbeats 4000000
namespace Mine
local macro_rules | `(tactic| walk_at "0") => `(tactic| skip)
local macro_rules | `(tactic| walk_at "0") => `(tactic| skip)
local macro_rules | `(tactic| walk_at "0") => `(tactic| skip)
local macro_rules | `(tactic| walk_at "0") => `(tactic| skip)
local macro_rules | `(tactic| walk_at "0") => `(tactic| skip)
local macro_rules | `(tactic| walk_at "0") => `(tactic| skip)
local macro_rules | `(tactic| walk_at "0") => `(tactic| skip)
local macro_rules | `(tactic| walk_at "0") => `(tactic| skip)
local macro_rules | `(tactic| walk_at "0") => `(tactic| skip)
local macro_rules | `(tactic| walk_at "0") => `(tactic| skip)
local macro_rules | `(tactic| walk_at "0") => `(tactic| skip)
local macro_rules | `(tactic| walk_at "0") => `(tactic| skip)
local macro_rules | `(tactic| walk_at "0") => `(tactic| skip)
local macro_rules | `(tactic| walk_at "0") => `(tactic| skip)
local macro_rules | `(tactic| walk_at "0") => `(tactic| skip)
local macro_rules | `(tactic| walk_at "0") => `(tactic| skip)
local macro_rules | `(tactic| walk_at "0") => `(tactic| skip)
local macro_rules | `(tactic| walk_at "0") => `(tactic| skip)
local macro_rules | `(tactic| walk_at "0") => `(tactic| skip)
local macro_rules | `(tactic| walk_at "0") => `(tactic| skip)
local macro_rules | `(tactic| walk_at "0") => `(tactic| skip)
local macro_rules | `(tactic| walk_at "0") => `(tactic| skip)
local macro_rules | `(tactic| walk_at "0") => `(tactic| skip)
local macro_rules | `(tactic| walk_at "0") => `(tactic| skip)
local macro_rules | `(tactic| walk_at "0") => `(tactic| skip)
local macro_rules | `(tactic| walk_at "0") => `(tactic| skip)
local macro_rules | `(tactic| walk_at "0") => `(tactic| skip)
local macro_rules | `(tactic| walk_at "0") => `(tactic| skip)
local macro_rules | `(tactic| walk_at "0") => `(tactic| skip)
local macro_rules | `(tactic| walk_at "0") => `(tactic| skip)
local macro_rules | `(tactic| walk_at "0") => `(tactic| skip)
local macro_rules | `(tactic| walk_at "0") => `(tactic| skip)
local macro_rules | `(tactic| walk_at "0") => `(tactic| skip)
local macro_rules | `(tactic| walk_at "0") => `(tactic| skip)
local macro_rules | `(tactic| walk_at "0") => `(tactic| skip)
local macro_rules | `(tactic| walk_at "0") => `(tactic| skip)
local macro_rules | `(tactic| walk_at "0") => `(tactic| skip)
local macro_rules | `(tactic| walk_at "0") => `(tactic| skip)
local macro_rules | `(tactic| walk_at "0") => `(tactic| skip)
local macro_rules | `(tactic| walk_at "0") => `(tactic| skip)
theorem rs29 : True := by
  w_top off
  trivial
section
variable {w : World} {p : Program} {loose : List Str} {mean : ExcName → Option Value} {mg mb : Str → Option Value} {H0 : Heap}
/-- a new exception, its three attributes in its dict -/
abbrev ErrPost (w : World) (s : Shared) (C : Addr) (tx pv ev : Value) (Q : Value → Shared → Prop) : Prop :=
  ∀ x tp d t1 t2 t3 h' tk', s.heap.StaysIn h' → s.heap.objs.size ≤ x → s.heap.objs.size ≤ d → x ≠ d → h'.get? x = some (excDict C tp d) → h'.get? d = some (dictOf (errEs w t1 t2 t3 tx pv ev) 3) → Q (.ref x) { s with heap := h', toks := tk' }
variable {dp un : Nat} {gd : Option (List Code)} {fr : List Env} {s : Shared} {Q E : Value → Shared → Prop} {tx : Value}
theorem err_core {C : Addr} {rest : List Value} {pv ev : Value} {nm q : Str} {N : Addr} {bs bm : List Value} {hdct : Bool} {sn : List Str} {sub : List Value} {ab : Bool} {col : Option Bool} {dd : Option Addr} {k0 k1 k2 k3 k5 : Option Value}
    (O : Old w p loose mean mg mb H0) (M : Amb H0 fr s.heap) (hd : dp + 6 < recursionLimit)
    (hC : (_root_.Mine.hd.heap_39 w.params).lookup C = some (excClassObj nm q C N bs bm hdct sn sub ab col dd k0 k1 k2 k3 k5 "Exception.__new__")) (hcB : (Value.ref C :: bm).contains (.type "Exception") = true) (hcA : (Value.ref C :: bm).contains (.type "AttributeError") = false) (hcN : (Value.ref C :: bm).contains (.type "NameError") = false)
    (hrest : rest.length ≤ sizeLine) (hi : findIn (_root_.Mine.hd.heap_39 w.params) (.ref C) "__init__" = some (some (.ref 70)))
    (c : ExcF (_root_.Mine.hd.heap_39 w.params) C) (t1 : takerIn (_root_.Mine.hd.heap_39 w.params) C "text" = some none) (t2 : takerIn (_root_.Mine.hd.heap_39 w.params) C "pos" = some none) (t3 : takerIn (_root_.Mine.hd.heap_39 w.params) C "expr" = some none)
    (hb : ∀ x s' oc od fd osl, (_root_.Mine.hd.heap_39 w.params).lookup 70 = some ⟨oc, od, .func fd, osl⟩ → (_root_.Mine.hd.heap_39 w.params).In s'.heap → BindsTo s' fd ⟨.ref x :: rest, []⟩ (bindsErr x tx pv ev))
    (hq : ErrPost w s C tx pv ev Q) : wpAny (model PySem.Challenge.rw_vy0014_01.row.prog w) (ar dp un gd fr) (call (.ref C) rest []) Q E s := by
  have X := O.X.keeps M.keep
  obtain ⟨hh, gg, dr, tk, os⟩ := s
  have hf : isFn (_root_.Mine.hd.heap_39 w.params) (.ref 70) = true := by k_is
  refine wpAny_call (exc_make (fI := 70) (X _ _ hC) hcB hcA hcN hrest (looks_findIn X hi) (fun self => bind_fn X self (beq_iff_eq.mp hf)) ?_)
  rw [under_make]
  have k1 : hh.StaysIn ((hh.push { cls := .type "tuple", data := .seq rest.toArray }).push (excNew C hh.objs.size)) := fun b o e => Heap.get?_push_of_some _ (Heap.get?_push_of_some _ e)
  have hx : ((hh.push { cls := .type "tuple", data := .seq rest.toArray }).push (excNew C hh.objs.size)).get? (hh.objs.size + 1) = some (excNew C hh.objs.size) := by heap_get
  have fresh : ∀ a, hh.objs.size ≤ a → H0.get? a = none ∧ a ∉ frs fr := fun a l => ⟨(by cases q : H0.get? a with | none => rfl | some o => exact absurd (Heap.lt_size (M.keep _ _ q)) (Nat.not_lt.mpr l)), fun hm => absurd (frs_lt M.frames a hm) (Nat.not_lt.mpr l)⟩
  have fx := fresh _ (Nat.le_succ hh.objs.size)
  refine err_init O (M.sub k1) (by omega) hx fx.1 fx.2 c t1 t2 t3 (hb _ _) ?_
  intro h' tk' d u1 u2 u3 kp hx' hd' ld
  have ld2 : hh.objs.size + 2 ≤ d := by
    have e : ((hh.push { cls := .type "tuple", data := .seq rest.toArray }).push (excNew C hh.objs.size)).objs.size = hh.objs.size + 2 := by rw [Heap.size_push, Heap.size_push]
    rw [← e]; exact ld
  exact ⟨rfl, hq _ _ d u1 u2 u3 h' tk' (fun b o e => kp b o (k1 b o e) (Nat.ne_of_lt (Nat.lt_succ_of_lt (Heap.lt_size e)))) (Nat.le_succ _) (Nat.le_trans (Nat.le_add_right _ 2) ld2) (Nat.ne_of_lt (Nat.lt_of_lt_of_le (Nat.lt_succ_self _) ld2)) hx' hd'⟩
theorem err_make94 (O : Old w p loose mean mg mb H0) (M : Amb H0 fr s.heap) (hd : dp + 6 < recursionLimit) (hq : ErrPost w s 94 tx (.int (-1) 258) .none Q) : wpAny (model PySem.Challenge.rw_vy0014_01.row.prog w) (ar dp un gd fr) (call (.ref 94) [tx] []) Q E s := by
  refine' err_core O M hd ?hC ?hcB ?hcA ?hcN (by simp [sizeLine_eq]) (by k_is) (excF_94 w) (by k_is) (by k_is) (by k_is) (fun x s' oc od fd osl hl X => ?_) hq
  case hC => k_is
  case hcB => decide +kernel
  case hcA => decide +kernel
  case hcN => decide +kernel
  have key : ∀ o, (_root_.Mine.hd.heap_39 w.params).lookup 70 = some o → o = ⟨oc, od, .func fd, osl⟩ := fun o e => Option.some.inj (e.symm.trans hl)
  have e2 := key _ (by k_is)
  cases e2
  exact binds_K X rfl (by k_is) rfl rfl rfl
theorem err_make132 {pv ev : Value} (O : Old w p loose mean mg mb H0) (M : Amb H0 fr s.heap) (hd : dp + 6 < recursionLimit) (hq : ErrPost w s 132 tx pv ev Q) : wpAny (model PySem.Challenge.rw_vy0014_01.row.prog w) (ar dp un gd fr) (call (.ref 132) [tx, pv, ev] []) Q E s := by
  refine' err_core O M hd ?hC ?hcB ?hcA ?hcN (by simp [sizeLine_eq]) (by k_is) (excF_132 w) (by k_is) (by k_is) (by k_is) (fun x s' oc od fd osl hl X => ?_) hq
  case hC => k_is
  case hcB => decide +kernel
  case hcA => decide +kernel
  case hcN => decide +kernel
  have key : ∀ o, (_root_.Mine.hd.heap_39 w.params).lookup 70 = some o → o = ⟨oc, od, .func fd, osl⟩ := fun o e => Option.some.inj (e.symm.trans hl)
  have e2 := key _ (by k_is)
  cases e2
  exact binds_K X rfl (by k_is) rfl rfl rfl
end
end Mine
end
section
open PySem PySem.W PyProof.Rows PySem.Calls PySem.Spec
set_option maxRecDepth 100000
set_option maxHeartbeats 4000000
namespace Mine
theorem rs30 : True := by
  w_top off
  trivial
section
variable {prog : Program} {w : World} {A : Around} {E : Value → Shared → Prop} {s : Shared} {K : Frag} {C : Addr} {env : Env}
/-- an exception of an own class is raised -/
theorem raise_exc {e : PySem.Expr} {pos : Pos} {Q : Flow → Shared → Prop} (hh : A.handled = none) (hbe : mroIn K C (.type "BaseException") = some true) (hme : typeIn K (.ref C) = some (.type "type"))
    (h : wpAny (model prog w) A (PySem.eval e env) (fun v s₁ => ∃ x tp d, v = .ref x ∧ s₁.heap.get? x = some (excDict C tp d) ∧ K.In s₁.heap ∧ E (.ref x) s₁) E s) :
    wpAny (model prog w) A (exec (.Raise (some e) none pos) env) Q E s := by
  show wpAny _ A (do standAt pos; raiseStmt env (some (do let v ← PySem.eval e env; standAt pos; pure v)) none) Q E s
  refine wpAny_bind (wpAny_standAt ?_)
  unfold raiseStmt
  dsimp only
  refine wpAny_bind (wpAny_bind (wpAny_mono h (fun v s₁ h₁ => wpAny_bind (wpAny_standAt (wpAny_pure ?_))) fun _ _ x => x))
  obtain ⟨x, tp, d, rfl, hx, X, hE⟩ := h₁
  obtain ⟨hp, g, dr, tk, os⟩ := s₁
  have L0 : Looks (model prog w) hp (typeOf (.ref x)) (.ref C) := (Looks.ld hx).andThen .now
  have L1 := looks_mroIn (M := model prog w) X hbe
  have L2 := looks_typeIn (M := model prog w) X hme
  refine wpAny_bind (wpAny_pure ?_)
  unfold excFromValue isExcClass isInstance
  repeat (first | (with_reducible refine wpAny_loadPart hx ?_) | (with_reducible refine L0.at ?_) | (with_reducible refine L1.at ?_) | (with_reducible refine L2.at ?_) | wp_step)
  unfold raiseNew
  refine wpAny_bind (wpAny_handled ?_)
  rw [hh]
  first
    | exact wpAny_throw hE
    | exact wpAny_bind (wpAny_pure (wpAny_throw hE))
end
end Mine
end
section
open PySem PySem.W PyProof.Rows PySem.Calls PySem.Spec
set_option maxRecDepth 100000
set_option maxHeartbeats 4000000
namespace Mine
local macro_rules | `(tactic| walk_at "0") => `(tactic| skip)
local macro_rules | `(tactic| walk_at "0") => `(tactic| skip)
local macro_rules | `(tactic| walk_at "0") => `(tactic| skip)
local macro_rules | `(tactic| walk_at "0") => `(tactic| skip)
local macro_rules | `(tactic| walk_at "0") => `(tactic| skip)
local macro_rules | `(tactic| walk_at "0") => `(tactic| skip)
local macro_rules | `(tactic| walk_at "0") => `(tactic| skip)
local macro_rules | `(tactic| walk_at "0") => `(tactic| skip)
local macro_rules | `(tactic| walk_at "0") => `(tactic| skip)
local macro_rules | `(tactic| walk_at "0") => `(tactic| skip)
local macro_rules | `(tactic| walk_at "0") => `(tactic| skip)
local macro_rules | `(tactic| walk_at "0") => `(tactic| skip)
local macro_rules | `(tactic| walk_at "0") => `(tactic| skip)
local macro_rules | `(tactic| walk_at "0") => `(tactic| skip)
local macro_rules | `(tactic| walk_at "0") => `(tactic| skip)
local macro_rules | `(tactic| walk_at "0") => `(tactic| skip)
local macro_rules | `(tactic| walk_at "0") => `(tactic| skip)
local macro_rules | `(tactic| walk_at "0") => `(tactic| skip)
local macro_rules | `(tactic| walk_at "0") => `(tactic| skip)
local macro_rules | `(tactic| walk_at "0") => `(tactic| skip)
local macro_rules | `(tactic| walk_at "0") => `(tactic| skip)
local macro_rules | `(tactic| walk_at "0") => `(tactic| skip)
local macro_rules | `(tactic| walk_at "0") => `(tactic| skip)
local macro_rules | `(tactic| walk_at "0") => `(tactic| skip)
local macro_rules | `(tactic| walk_at "0") => `(tactic| skip)
local macro_rules | `(tactic| walk_at "0") => `(tactic| skip)
local macro_rules | `(tactic| walk_at "0") => `(tactic| skip)
local macro_rules | `(tactic| walk_at "0") => `(tactic| skip)
local macro_rules | `(tactic| walk_at "0") => `(tactic| skip)
local macro_rules | `(tactic| walk_at "0") => `(tactic| skip)
local macro_rules | `(tactic| walk_at "0") => `(tactic| skip)
local macro_rules | `(tactic| walk_at "0") => `(tactic| skip)
local macro_rules | `(tactic| walk_at "0") => `(tactic| skip)
local macro_rules | `(tactic| walk_at "0") => `(tactic| skip)
local macro_rules | `(tactic| walk_at "0") => `(tactic| skip)
local macro_rules | `(tactic| walk_at "0") => `(tactic| skip)
local macro_rules | `(tactic| walk_at "0") => `(tactic| skip)
local macro_rules | `(tactic| walk_at "0") => `(tactic| skip)
local macro_rules | `(tactic| walk_at "0") => `(tactic| skip)
local macro_rules | `(tactic| walk_at "0") => `(tactic| skip)
theorem rs31 : True := by
  w_top off
  trivial
/-- an exception and its trace -/
def Tr (h base : Heap) (e : Addr) (cls : Value) (dv : Option Addr) (fl : Value) : Prop :=
  ∃ oe vs T oT ts, h.get? e = some oe ∧ (oe.cls = cls ∧ oe.dict = dv) ∧ oe.data = .fields vs ∧ vs[1]? = some (.ref T) ∧ base.get? T = none ∧ T ≠ e ∧ h.get? T = some oT ∧ oT.data = .fields ts ∧ ts[3]? = some fl
/-- an exception that is on its way -/
structure Fly (base : Heap) (l : List Env) (e : Addr) (cls : Value) (dv : Option Addr) (fl : Value) (h : Heap) : Prop where
  keep : base.StaysIn h
  off : base.get? e = none
  frames : h.FunFrames base l
  tr : Tr h base e cls dv fl
theorem dict_mapFields (f : Array Value → Array Value) (o : Obj) : (Obj.mapFields f o).dict = o.dict := by
  unfold Obj.mapFields; split <;> rfl
section
variable {M : Model} {A : Around} {E : Value → Shared → Prop} {s : Shared} {base : Heap} {env : Env} {outer l : List Env} {L e : Addr}
theorem entry_new {oe : Obj} {vs : Array Value} {head : Value} {hadNext : Bool} {Q : Unit → Shared → Prop}
    (hfr : A.frames = some (env :: outer)) (hl : s.heap.FunFrames base (env :: outer)) (hf : env.frame = some L) (he : s.heap.get? e = some oe) (hkb : base.StaysIn s.heap) (hen : base.get? e = none) (hd : oe.data = .fields vs) (hsz : 1 < vs.size)
    (h : ∀ h', Fly base (env :: outer) e oe.cls oe.dict (rawInt L) h' → s.heap.UpToSlots h' → Q () { s with heap := h' }) :
    wpAny M A (do let a ← frameOf env; let pl ← entryPlaceOf L hadNext; let b ← EntryCells.newEntry head a .none (rawInt L) .none pl; setField (.ref e) 1 b) Q E s := by
  have hene : e ∉ (env :: outer).filterMap (·.frame) := fun hm => by
    obtain ⟨_, o, ho, hnf⟩ := hl.mem hm
    rw [he] at ho; cases ho; exact hnf vs hd
  refine wpAny_bind (wpAny_frameOf_fun hfr hl hf fun h₁ hs₁ => wpAny_bind (wpAny_entryPlaceOf fun pl hpl => ?_))
  unfold EntryCells.newEntry newFields
  refine wpAny_bind (wpAny_newObj_type ?_ (hpl.sizeOk5 _ _ _ _ _))
  generalize htb : ({ cls := .type "traceback", dict := none, data := .fields ([head, .ref L, .none, rawInt L, .none] ++ (if pl.isEmpty then List.replicate 6 Value.none else pl)).toArray } : Obj) = tb
  have htd : tb.data = .fields ([head, .ref L, .none, rawInt L, .none] ++ (if pl.isEmpty then List.replicate 6 Value.none else pl)).toArray := by rw [← htb]
  have he₁ : h₁.get? e = some oe := (hs₁.2.1 e hene).trans he
  have kb₁ : base.StaysIn h₁ := fun b o hb => (hs₁.2.1 b fun hm => by rw [(hl.mem hm).1] at hb; cases hb).trans (hkb b o hb)
  have he₂ := Heap.get?_push_of_some (h := h₁) tb he₁
  refine wpAny_setField he₂ hd hsz (h _ ?_ ?_)
  all_goals
    have hTe : h₁.objs.size ≠ e := Nat.ne_of_gt (Heap.lt_size he₁)
    have keep : ∀ b o, b ≠ e → h₁.get? b = some o → ((h₁.push tb).update e (Obj.mapFields (·.setIfInBounds 1 (Value.ref h₁.objs.size)))).get? b = some o := fun b o hbe hb => (Heap.get?_update_other _ _ (Ne.symm hbe)).trans (Heap.get?_push_of_some _ hb)
    have noRec : ∀ b o, s.heap.get? b = some o → (∀ vs, o.data ≠ .fields vs) → b ≠ e := fun b o hb hnf q => by rw [q, he] at hb; cases hb; exact hnf vs hd
  · refine ⟨fun b o hb => keep b o (fun q => by rw [q, hen] at hb; cases hb) (kb₁ b o hb), hen, hl.of_keeps fun b o hb hnf => ?_, ?_⟩
    · obtain ⟨sl, hs⟩ := hs₁.2.2 b o hb
      exact ⟨_, keep b _ (noRec b o hb hnf) hs, rfl⟩
    · have hd₃ := Obj.data_mapFields hd (·.setIfInBounds 1 (Value.ref h₁.objs.size))
      refine ⟨_, _, h₁.objs.size, tb, _, Heap.get?_update_self _ he₂ (Obj.isFreed_of_fields hd₃), ⟨Obj.cls_mapFields _ _, dict_mapFields _ _⟩, hd₃, by simp [hsz], kb₁.fresh, hTe, (Heap.get?_update_other _ _ (Ne.symm hTe)).trans (Heap.get?_push_size h₁ (by rw [Obj.isFreed_of_fields htd])), htd, ?_⟩
      first | (simp; done) | (rcases hpl with rfl | ⟨_, _, _, _, _, _, _, rfl⟩ <;> simp)
  · intro b o hb hnf
    obtain ⟨sl, hs⟩ := hs₁.2.2 b o hb
    exact ⟨sl, keep b _ (noRec b o hb hnf) hs⟩
theorem note_first {oe : Obj} {vs : Array Value} {Q : Unit → Shared → Prop} (hfr : A.frames = some (env :: outer)) (hl : s.heap.FunFrames base (env :: outer)) (hf : env.frame = some L) (he : s.heap.get? e = some oe) (hkb : base.StaysIn s.heap) (hen : base.get? e = none) (hd : oe.data = .fields vs) (h1 : vs[1]? = some .none)
    (h : ∀ h', Fly base (env :: outer) e oe.cls oe.dict (rawInt L) h' → s.heap.UpToSlots h' → Q () { s with heap := h' }) : wpAny M A (noteFrame (.ref e) env) Q E s := by
  unfold noteFrame
  simp only [hf]
  refine wpAny_bind (wpAny_field he hd h1 ?_)
  rw [if_neg (by decide)]
  exact entry_new hfr hl hf he hkb hen hd (Array.getElem?_eq_some_iff.mp h1).1 h
theorem setT {cls fl : Value} {dv : Option Addr} {x : Value} {Q : Unit → Shared → Prop} {T : Addr} {oT oe : Obj} {ts vs : Array Value} (F : base.StaysIn s.heap) (hen : base.get? e = none) (hl : s.heap.FunFrames base l)
    (he : s.heap.get? e = some oe) (hc : oe.cls = cls ∧ oe.dict = dv) (hd : oe.data = .fields vs) (h1 : vs[1]? = some (.ref T)) (hnT : base.get? T = none) (hTe : T ≠ e) (hT : s.heap.get? T = some oT) (hdT : oT.data = .fields ts) (h3 : ts[3]? = some fl)
    (h : ∀ h', Fly base l e cls dv x h' → s.heap.UpToSlots h' → h'.get? e = some oe → Q () { s with heap := h' }) : wpAny M A (setField (.ref T) 3 x) Q E s := by
  have hsz3 : 3 < ts.size := (Array.getElem?_eq_some_iff.mp h3).1
  have other : ∀ b, b ≠ T → (s.heap.update T (Obj.mapFields (·.setIfInBounds 3 x))).get? b = s.heap.get? b := fun b hb => Heap.get?_update_other _ _ (Ne.symm hb)
  have noRec : ∀ b o, s.heap.get? b = some o → (∀ vs, o.data ≠ .fields vs) → b ≠ T := fun b o hb hnf q => by rw [q, hT] at hb; cases hb; exact hnf ts hdT
  refine wpAny_setField hT hdT hsz3 (h _ ⟨fun b o hb => (other b fun q => by rw [q, hnT] at hb; cases hb).trans (F b o hb), hen, hl.of_keeps fun b o hb hnf => ⟨o, (other b (noRec b o hb hnf)).trans hb, rfl⟩, ?_⟩ (fun b o hb hnf => ⟨o.slots, (other b (noRec b o hb hnf)).trans hb⟩) ((other e (Ne.symm hTe)).trans he))
  exact ⟨oe, vs, T, _, _, (other e (Ne.symm hTe)).trans he, hc, hd, h1, hnT, hTe, Heap.get?_update_self _ hT (Obj.isFreed_of_fields (Obj.data_mapFields hdT _)), Obj.data_mapFields hdT _, by simp [hsz3]⟩
theorem flight_none {cls fl : Value} {dv : Option Addr} {Q : Unit → Shared → Prop} (F : Fly base l e cls dv fl s.heap) (h : ∀ h', Fly base l e cls dv .none h' → s.heap.UpToSlots h' → Q () { s with heap := h' }) : wpAny M A (setFlight (.ref e) none) Q E s := by
  obtain ⟨f1, f2, f3, oe, vs, T, oT, ts, he, hc, hd, h1, hnT, hTe, hT, hdT, h3⟩ := F
  unfold setFlight
  refine wpAny_bind (wpAny_field he hd h1 ?_)
  rw [if_pos (show (Value.ref T != Value.none) = true from by simp)]
  exact setT f1 f2 f3 he hc hd h1 hnT hTe hT hdT h3 fun h' a b _ => h h' a b
theorem note_next {cls : Value} {dv : Option Addr} {Q : Unit → Shared → Prop} (hfr : A.frames = some (env :: outer)) (hf : env.frame = some L) (F : Fly base (env :: outer) e cls dv .none s.heap)
    (h : ∀ h', Fly base (env :: outer) e cls dv (rawInt L) h' → s.heap.UpToSlots h' → Q () { s with heap := h' }) : wpAny M A (noteFrame (.ref e) env) Q E s := by
  obtain ⟨f1, f2, f3, oe, vs, T, oT, ts, he, hc, hd, h1, hnT, hTe, hT, hdT, h3⟩ := F
  unfold noteFrame
  simp only [hf]
  refine wpAny_bind (wpAny_field he hd h1 ?_)
  rw [if_pos (show (Value.ref T != Value.none) = true from by simp)]
  refine wpAny_bind (wpAny_field hT hdT h3 ?_)
  rw [if_neg (show ¬ ((Value.none == rawInt L) = true) from by simp [rawInt])]
  refine wpAny_bind (setT f1 f2 f3 he hc hd h1 hnT hTe hT hdT h3 fun h' a b he' => ?_)
  refine entry_new (s := { s with heap := h' }) hfr a.frames hf he' a.keep f2 hd (Array.getElem?_eq_some_iff.mp h1).1 fun h'' c d => ?_
  rw [hc.1, hc.2] at c
  exact h h'' c (b.trans d)
theorem note_again {cls : Value} {dv : Option Addr} {Q : Unit → Shared → Prop} (hf : env.frame = some L) (F : Fly base l e cls dv (rawInt L) s.heap) (h : Q () s) : wpAny M A (noteFrame (.ref e) env) Q E s := by
  obtain ⟨f1, f2, f3, oe, vs, T, oT, ts, he, hc, hd, h1, hnT, hTe, hT, hdT, h3⟩ := F
  unfold noteFrame
  simp only [hf]
  refine wpAny_bind (wpAny_field he hd h1 ?_)
  rw [if_pos (show (Value.ref T != Value.none) = true from by simp)]
  refine wpAny_bind (wpAny_field hT hdT h3 ?_)
  rw [if_pos (show (rawInt L == rawInt L) = true from by simp)]
  exact wpAny_pure h
theorem Fly.drop {cls fl : Value} {dv : Option Addr} {h : Heap} (F : Fly base (env :: outer) e cls dv fl h) : Fly base outer e cls dv fl h := let ⟨_, _, r⟩ := F.frames; ⟨F.keep, F.off, r, F.tr⟩
theorem leave_first {oe : Obj} {vs : Array Value} {Q : Unit → Shared → Prop} (hfr : A.frames = some (env :: outer)) (hl : s.heap.FunFrames base (env :: outer)) (hf : env.frame = some L) (he : s.heap.get? e = some oe) (hkb : base.StaysIn s.heap) (hen : base.get? e = none) (hd : oe.data = .fields vs) (h1 : vs[1]? = some .none)
    (h : ∀ h', Fly base outer e oe.cls oe.dict .none h' → s.heap.UpToSlots h' → Q () { s with heap := h' }) : wpAny M A (leaving env (.ref e)) Q E s := by
  unfold leaving
  exact wpAny_bind (note_first hfr hl hf he hkb hen hd h1 fun h' a b => flight_none (s := { s with heap := h' }) a fun h'' c d => h h'' c.drop (b.trans d))
theorem leave_next {cls : Value} {dv : Option Addr} {Q : Unit → Shared → Prop} (hfr : A.frames = some (env :: outer)) (hf : env.frame = some L) (F : Fly base (env :: outer) e cls dv .none s.heap)
    (h : ∀ h', Fly base outer e cls dv .none h' → s.heap.UpToSlots h' → Q () { s with heap := h' }) : wpAny M A (leaving env (.ref e)) Q E s := by
  unfold leaving
  exact wpAny_bind (note_next hfr hf F fun h' a b => flight_none (s := { s with heap := h' }) a fun h'' c d => h h'' c.drop (b.trans d))
end
end Mine
end
section
open PySem PySem.W PyProof.Rows PySem.Calls PySem.Spec Builtin Builtin.ObjectAttr
set_option maxRecDepth 100000
set_option maxHeartbeats 8000000
namespace Mine
theorem rs32 : True := by
  w_top off
  trivial
/-- the same tables, with the cache and the error of a run -/
abbrev Cfg.run (Γ : Cfg) (ca de err : Addr) : Cfg := { Γ with ca := ca, de := de, err := err }
/-- the expressions stand, no run is under way -/
structure Pre (w : World) (Γ : Cfg) (h : Heap) : Prop where
  ex : ∀ k st, Γ.plan[k]? = some st → Γ.lo0 ≤ Γ.ea k ∧ ∃ o, h.get? (Γ.ea k) = some o ∧ ExprObj Γ h (Γ.da k) st o
  nd : ((List.range Γ.N).map Γ.da).Nodup
  dl : ∀ k, k < Γ.N → Γ.lo0 ≤ Γ.da k ∧ Γ.da k ∉ Γ.olds
  att : ∀ k, k < Γ.N → AttrSt w Γ h k none []
  old : ∀ a ∈ Γ.olds, ∃ o, h.get? a = some o ∧ o.cls = .type "dict" ∧ Γ.lo0 ≤ a
theorem Pre.sub {w : World} {Γ : Cfg} {h h' : Heap} (P : Pre w Γ h) (k : h.StaysIn h') : Pre w Γ h' :=
  ⟨fun j st e => let ⟨a, o, b, c⟩ := P.ex j st e; ⟨a, o, k _ _ b, c.sub (Heap.StaysIn.nd k)⟩, P.nd, P.dl, fun j hj => (P.att j hj).sub (fun o e => k _ _ e) (Heap.StaysIn.nd k) fun i a e => e, fun a ha => let ⟨o, e, r⟩ := P.old a ha; ⟨o, k _ _ e, r⟩⟩
theorem Pre.inv {w : World} {Γ : Cfg} {h : Heap} {b : Nat} {ca de err : Addr} (P : Pre w Γ h) (le : Γ.lo0 ≤ err) (he : ∃ oe, h.get? err = some oe ∧ oe.cls = .ref 94 ∧ oe.dict = some de ∧ notCls oe = true ∧ (∀ es n, oe.data ≠ .dict es n))
    (hed : ∃ (p : Int), ∃ n t1 t2 t3 tx tp ev, h.get? de = some (dictOf [⟨PyData.keyHash w.params "text", .str "text" t1, tx⟩, ⟨PyData.keyHash w.params "pos", .str "pos" t2, .int p tp⟩, ⟨PyData.keyHash w.params "expr", .str "expr" t3, ev⟩] n) ∧ (ev = .none ∨ ∃ j, j < Γ.N ∧ ev = .ref (Γ.ea j)))
    (hcc : ∃ oc, h.get? ca = some oc ∧ oc.IsDictOf (intKind Pg w) ([] : List (Int × Value))) (lc : Γ.lo0 ≤ ca) (ld : Γ.lo0 ≤ de) (cd : ca ≠ de) (nc : ∀ k, k < Γ.N → Γ.da k ≠ ca ∧ Γ.da k ≠ de) (no : ca ∉ Γ.olds ∧ de ∉ Γ.olds) :
    Inv w (Γ.run ca de err) b h (fun _ => none) [] := by
  have md : ∀ a, a ∈ dictAddrs (Γ.run ca de err) [] → a = ca ∨ a = de ∨ ∃ k, k < Γ.N ∧ a = Γ.da k := fun a ha => by
    rcases List.mem_cons.mp ha with q | ha
    · exact .inl q
    rcases List.mem_cons.mp ha with q | ha
    · exact .inr (.inl q)
    rcases List.mem_append.mp ha with ha | ha
    · obtain ⟨k, hk, e⟩ := List.mem_map.mp ha
      exact .inr (.inr ⟨k, List.mem_range.mp hk, e.symm⟩)
    · cases ha
  refine ⟨P.ex, ⟨le, he⟩, hed, hcc, ?_, fun a ha => ?_, fun a ha => ?_, P.att, fun _ _ _ e => (nomatch e), fun _ _ e => (nomatch e), fun i hi => absurd hi (Nat.not_lt_zero i), fun _ _ _ e => (nomatch e)⟩
  · unfold dictAddrs
    rw [List.nodup_cons, List.nodup_cons, List.append_nil]
    refine ⟨fun hm => ?_, fun hm => ?_, P.nd⟩
    · rcases List.mem_cons.mp hm with q | hm
      · exact cd q
      · obtain ⟨k, hk, e⟩ := List.mem_map.mp hm
        exact (nc k (List.mem_range.mp hk)).1 e
    · obtain ⟨k, hk, e⟩ := List.mem_map.mp hm
      exact (nc k (List.mem_range.mp hk)).2 e
  · rcases md a ha with rfl | rfl | ⟨k, hk, rfl⟩
    · exact lc
    · exact ld
    · exact (P.dl k hk).1
  · rcases md a ha with rfl | rfl | ⟨k, hk, rfl⟩
    · exact no.1
    · exact no.2
    · exact (P.dl k hk).2
theorem funFrames_off {H0 base h : Heap} : ∀ {l : List Env}, h.FunFrames H0 l → (∀ a ∈ frs l, base.get? a = none) → h.FunFrames base l
  | [], _, _ => trivial
  | env :: l, ⟨hk, ⟨L, o, hf, hn, ho, hd⟩, hr⟩, hs => ⟨hk, ⟨L, o, hf, hs L (mem_frs.mpr ⟨env, .head _, hf⟩), ho, hd⟩, funFrames_off hr fun a ha => hs a (by obtain ⟨e, he, q⟩ := mem_frs.mp ha; exact mem_frs.mpr ⟨e, .tail _ he, q⟩)⟩
theorem Cfg.Ok.run {Γ : Cfg} (h : Γ.Ok) (ca de err : Addr) : (Γ.run ca de err).Ok := ⟨h.refs, h.eq, h.lo, h.hi, h.grows, h.small, h.few⟩
abbrev bindsMatch (Γ : Cfg) (k pos : Nat) (tp : Tok) : List (Str × Value) := [("self", .ref (Γ.ea k)), ("text", .str Γ.text Γ.tk), ("pos", .int (pos : Int) tp)]
local macro_rules | `(tactic| k_room) => `(tactic| ktr_room)
local macro_rules | `(tactic| k_all) => `(tactic| first | assumption | (intro q9 hq9; (try dsimp only); first | exact allLt_ne (by assumption) (by omega) q9 hq9 | exact lt_ne (by assumption) (by omega) q9 hq9))
local macro_rules | `(tactic| k_inst) => `(tactic| (refine' instOf ?N ?h1 ?h2 ?e1 ?e2 ?e3; (case N => k_asm); (case h1 => k_mem); (case e1 => first | assumption | exact rfl); (case e2 => first | assumption | exact rfl); (case h2 => k_mem); (case e3 => first | assumption | exact rfl)))
local macro_rules | `(tactic| walk_at "call ref") => `(tactic| (k_here; (with_reducible show wpAny _ _ (call (Value.ref _) _ _) _ _ _); refine hold_of ?_))
local macro_rules | `(tactic| walk_at "exec Raise some none") => `(tactic| (k_here; (with_reducible show wpAny _ _ (exec (Stmt.Raise _ _ _) _) _ _ _); refine hold_of ?_))
local macro_rules | `(tactic| walk_at "getMethod ref") => `(tactic| (k_here; (with_reducible show wpAny _ _ (getMethod (Value.ref _) (PySem.Str.ofString "match_core") _) _ _ _); k_dflt (refine' kmc ?k1 ?k2 ?k3 ?k4 ?k5 ?_; (case k1 => k_asm); (case k2 => k_asm); (case k3 => k_inst); (case k4 => assumption); (case k5 => assumption); k_whole)))
local macro_rules | `(tactic| walk_at "eval Dict nil nil") => `(tactic| (k_here; k_dflt (refine' newDict_L ?k1 ?k2 ?k3 ?_; (case k1 => k_asm); (case k2 => k_asm); (case k3 => assumption); k_whole); intro d' h' o' F' N' l1 lo' Ld' fi'; (try k_lt l1)))
variable {w : World} {p : Program} {loose : List Str} {mean : ExcName → Option Value} {mg mb : Str → Option Value} {H0 : Heap} {Γ : Cfg}
/-- how a match ends: with the tree -/
abbrev MatchOk (w : World) (Γ : Cfg) (hid : List Addr) (s : Shared) (k pos : Nat) (Q : Value → Shared → Prop) : Prop :=
  ∀ v h' tk' ca de err reg' ecs', Inv w (Γ.run ca de err) (k + 1) (Vw hid h') reg' ecs' → Stand (Γ.run ca de err) (Vw hid h') ecs' → Res (Γ.run ca de err) (Vw hid h') k pos v → 0 ≤ Γ.E k pos →
    (∀ a o, s.heap.get? a = some o → (∀ j, j < Γ.N → a ≠ Γ.da j) → h'.get? a = some o) → s.heap.objs.size ≤ h'.objs.size → Q v { s with heap := h', toks := tk' }
/-- or with the error on its way -/
abbrev MatchErr (w : World) (Γ : Cfg) (hid : List Addr) (s : Shared) (fr : List Env) (k pos : Nat) (E : Value → Shared → Prop) : Prop :=
  ∀ hr h' tk' hx base ca de err reg' ecs', Inv w (Γ.run ca de err) (k + 1) (Vw hx hr) reg' ecs' → Stand (Γ.run ca de err) (Vw hx hr) ecs' → Γ.E k pos = -1 →
    (∀ a o, s.heap.get? a = some o → (∀ j, j < Γ.N → a ≠ Γ.da j) → hr.get? a = some o) → (∀ a ∈ hx, a ∈ hid ∨ s.heap.objs.size ≤ a) → s.heap.objs.size ≤ err → (∀ a o, (Vw hx hr).get? a = some o → a ≠ err → base.get? a = some o) →
    Fly base fr err (.ref 94) (some de) .none h' → hr.UpToSlots h' → E (.ref err) { s with heap := h', toks := tk' }
theorem match_ok {k : Nat} {st : Stp} {hid : List Addr} {dp un : Nat} {gd : Option (List Code)} {fr : List Env} {s : Shared} {pos : Nat} {tp : Tok} {args : List Value} {kw : List (Str × Value)} {Q E : Value → Shared → Prop} (C : Cx w p loose mean mg mb H0 Γ) (hst : Γ.plan[k]? = some st)
    (M : Amb H0 fr s.heap) (P : Pre w Γ (Vw hid s.heap)) (hhid : ∀ a ∈ hid, a < s.heap.objs.size) (hfh : ∀ a ∈ frs fr, a ∈ hid) (hpos : pos ≤ Γ.n) (hdp : dp + (6 * Γ.N + 40) < recursionLimit) (hun : un + (20 * Γ.N + 100) < cLine)
    (hb : ∀ oc od fd osl, (_root_.Mine.hd.heap_39 w.params).lookup 259 = some ⟨oc, od, .func fd, osl⟩ → (_root_.Mine.hd.heap_39 w.params).In s.heap → BindsTo s fd ⟨args, kw⟩ (bindsMatch Γ k pos tp))
    (hq : MatchOk w Γ hid s k pos Q) (hE : MatchErr w Γ hid s fr k pos E) :
    wpAny (model PySem.Challenge.rw_vy0014_01.row.prog w) (ar dp un gd fr) (call (.ref 259) args kw) Q E s := by
  have hkN : k < Γ.N := (List.getElem?_eq_some_iff.mp hst).1
  refine wpAny_call ?_
  refine' enterF C.O M ?ho ?hcd ?hr ?hb ?hl ?_ ?c1 ?c2 ?c3 ?c4
  case ho => k_is
  case hcd => k_is
  case hr => omega
  case hb => exact hb _ _ _ _ (by k_is) (C.O.X.keeps M.keep)
  case hl => exact locs rfl
  case c1 => exact rfl
  case c2 => exact rfl
  case c3 => exact rfl
  case c4 => decide
  intro g L h₁ eL F K1 MG hgn Bw X T
  have hLn : s.heap.get? L = none := get_none_of_le (Nat.le_of_eq eL.symm)
  have hlimit := T.nolimit
  have P2 := P.sub (vw_cons hLn)
  obtain ⟨hlk, ok, vok, hob⟩ := P.ex k _ hst
  have hok := Cfg.vget vok
  have lo0 : ∀ a, Γ.lo0 ≤ a → H0.get? a = none := fun a ha => get_none_of_le (Nat.le_trans C.lo ha)
  obtain ⟨pk1, pk2, pk3⟩ := hob.plain
  have ck1 := notCls_plain pk1
  have cfk := clsF w st
  have nok := plain_nd pk1
  obtain ⟨es, n, vda, hum, hmc⟩ := (P.att k hkN).there
  have hda := Cfg.vget vda
  have dfr : ∀ a o, (Vw hid s.heap).get? a = some o → a ∉ frs fr := fun a o e hm => Cfg.vnot e (hfh a hm)
  have ltL : ∀ a o, (Vw hid s.heap).get? a = some o → a < L := fun a o e => eL ▸ Heap.lt_size (Cfg.vget e)
  obtain ⟨tl, hvh, hN, Cv, ev, htl⟩ := focus [] F
  have N := hN [(Γ.ea k, ok), (Γ.da k, dictOf es n)] (List.forall_mem_cons.mpr ⟨⟨K1 _ _ hok, Nat.ne_of_lt (ltL _ _ vok), hgn _ (lo0 _ hlk) (dfr _ _ vok)⟩, List.forall_mem_cons.mpr ⟨⟨K1 _ _ hda, Nat.ne_of_lt (ltL _ _ vda), hgn _ (lo0 _ (P.dl k hkN).1) (dfr _ _ vda)⟩, List.forall_mem_nil _⟩⟩)
  simp only [List.cons_append, List.nil_append] at N
  clear hN
  k_steps
  (with_reducible rename Fr _ _ _ _ => F9)
  (with_reducible rename News _ _ _ _ => N9)
  show wpAny _ _ _ _ _ _
  have S9 := Cv.now F9 N9 (fun q hq => by repeat (first | assumption | refine List.Mem.tail _ ?_))
  have kp9 : ∀ b o, s.heap.get? b = some o → _ := fun b o e => S9 b o (ev ▸ hideAll_get _ (K1 b o e) (by simp only [List.mem_singleton]; exact eL ▸ Nat.ne_of_lt (Heap.lt_size e)))
  refine err_make94 (dp := dp + 1) (un := un + 3) (gd := gd) C.O (MG.push F9 rfl) (by omega) ?_
  intro err tp9 de t1 t2 t3 h5 tk5 k5 lx ld xd hx hde
  have F5 : Fr g L h5 _ := ⟨Heap.Ns.keeps F9.ns k5, fun b o e => k5 b o (F9.keep b o e), F9.above⟩
  have Lx : L < err := Nat.lt_of_lt_of_le F9.ns.lt lx
  have Ld : L < de := Nat.lt_of_lt_of_le F9.ns.lt ld
  have gnew : ∀ a, L < a → g.get? a = none := fun a l => get_none_of_le (Nat.le_trans F9.above (Nat.le_of_lt l))
  have kp5 : ∀ b o, s.heap.get? b = some o → h5.get? b = some o := fun b o e => k5 b o (kp9 b o e)
  obtain ⟨tl5, hvh5, hN5, Cv5, ev5, htl5⟩ := focus [] F5
  have N5 := hN5 [(err, excDict 94 tp9 de), (de, dictOf (errEs w t1 t2 t3 (.str Γ.text Γ.tk) (.int (-1) 258) .none) 3), (Γ.ea k, ok), (Γ.da k, dictOf es n)] (List.forall_mem_cons.mpr ⟨⟨hx, Nat.ne_of_gt Lx, gnew _ Lx⟩, List.forall_mem_cons.mpr ⟨⟨hde, Nat.ne_of_gt Ld, gnew _ Ld⟩, List.forall_mem_cons.mpr ⟨⟨kp5 _ _ hok, Nat.ne_of_lt (ltL _ _ vok), hgn _ (lo0 _ hlk) (dfr _ _ vok)⟩, List.forall_mem_cons.mpr ⟨⟨kp5 _ _ hda, Nat.ne_of_lt (ltL _ _ vda), hgn _ (lo0 _ (P.dl k hkN).1) (dfr _ _ vda)⟩, List.forall_mem_nil _⟩⟩⟩⟩)
  simp only [List.cons_append, List.nil_append] at N5
  clear hN5 F9 N9
  k_steps
  (with_reducible rename Fr _ _ _ _ => F9)
  (with_reducible rename News _ _ _ _ => N9)
  (with_reducible rename Obj.IsDictOf _ _ [] => hcc)
  (with_reducible rename @LT.lt Addr _ L _ => Lca)
  (with_reducible rename And _ _ => l9)
  rename_i ca h9 oca lo9
  show wpAny _ _ _ _ _ _
  have S5 := Cv5.now F9 N9 (fun q hq => by repeat (first | assumption | refine List.Mem.tail _ ?_))
  have kpR : ∀ b o, s.heap.get? b = some o → _ := fun b o e => S5 b o (ev5 ▸ hideAll_get _ (kp5 b o e) (by simp only [List.mem_singleton]; exact eL ▸ Nat.ne_of_lt (Heap.lt_size e)))
  have nh : ∀ a, L < a → a ∉ L :: hid := fun a l hm => (List.mem_cons.mp hm).elim (fun q => absurd l (q ▸ Nat.lt_irrefl _)) fun q => absurd (Nat.lt_trans l (eL ▸ hhid a q)) (Nat.lt_irrefl _)
  have P9 := P2.sub (Cfg.vst kpR)
  have daL : ∀ j, j < Γ.N → Γ.da j < L := fun j hj => by obtain ⟨_, _, e, _⟩ := (P.att j hj).there; exact ltL _ _ e
  have olL : ∀ a, a ∈ Γ.olds → a < L := fun a ha => by obtain ⟨o, e, _⟩ := P.old a ha; exact ltL _ _ e
  have loL : Γ.lo0 ≤ L := Nat.le_trans (P.dl k hkN).1 (Nat.le_of_lt (daL k hkN))
  have hca := N9.get (a := ca) (.head _)
  have I9 : Inv w (Γ.run ca de err) (k + 1) _ (fun _ => none) [] := P9.inv (b := k + 1) (ca := ca) (de := de) (err := err) (Nat.le_trans loL (Nat.le_of_lt Lx)) ⟨_, Cfg.vput (nh _ Lx) (N9.get (a := err) (by k_mem)), rfl, rfl, rfl, fun _ _ e => by cases e⟩
    ⟨_, _, _, _, _, _, _, _, Cfg.vput (nh _ Ld) (N9.get (a := de) (by k_mem)), .inl rfl⟩ ⟨_, Cfg.vput (nh _ Lca) hca, hcc⟩ (Nat.le_trans loL (Nat.le_of_lt Lca)) (Nat.le_trans loL (Nat.le_of_lt Ld)) (Nat.ne_of_gt l9.2.1)
    (fun j hj => ⟨Nat.ne_of_lt (Nat.lt_trans (daL j hj) Lca), Nat.ne_of_lt (Nat.lt_trans (daL j hj) Ld)⟩) ⟨fun hm => absurd (Nat.lt_trans Lca (olL _ hm)) (Nat.lt_irrefl _), fun hm => absurd (Nat.lt_trans Ld (olL _ hm)) (Nat.lt_irrefl _)⟩
  have St9 : Stand (Γ.run ca de err) (Vw (L :: hid) h9) [] := ⟨fun a ha => absurd ha List.not_mem_nil, P9.old⟩
  have mdc : ∀ a, a ∈ dictAddrs (Γ.run ca de err) [] → L < a ∨ ∃ j, j < Γ.N ∧ a = Γ.da j := fun a ha => by
    rcases List.mem_cons.mp ha with q | ha
    · exact .inl (q ▸ Lca)
    rcases List.mem_cons.mp ha with q | ha
    · exact .inl (q ▸ Ld)
    rcases List.mem_append.mp ha with ha | ha
    · obtain ⟨k, hk, e⟩ := List.mem_map.mp ha
      exact .inr ⟨k, List.mem_range.mp hk, e.symm⟩
    · cases ha
  have lL9 := F9.ns.lt
  refine match_all (⟨C.O, C.lo, C.ok.run ca de err⟩ : Cx w p loose mean mg mb H0 (Γ.run ca de err)) k st hst (L :: hid) (dp + 1) (un + 3) gd _ _ pos tp (fun _ => none) [] _ _ (MG.push F9 rfl) I9 St9 (fun a ha => ?_) (fun a ha => ?_) (fun a ha hm => ?_) (fun a ha hm => ?_) hpos (by omega) (by omega) ?_
  · exact (List.mem_cons.mp ha).elim (fun q => q ▸ lL9) fun q => Nat.lt_trans (eL ▸ hhid a q) lL9
  · rw [frs_push] at ha
    exact (List.mem_cons.mp ha).elim (fun q => q ▸ .head _) fun q => .tail _ (hfh a q)
  · rw [frs_push] at hm
    rcases mdc a ha with q | ⟨j, hj, rfl⟩
    · exact nh a q ((List.mem_cons.mp hm).elim (fun q => q ▸ .head _) fun q => .tail _ (hfh a q))
    · obtain ⟨_, _, e, _⟩ := (P9.att j hj).there
      exact Cfg.vnot e ((List.mem_cons.mp hm).elim (fun q => q ▸ .head _) fun q => .tail _ (hfh _ q))
  · rw [frs_push] at hm
    obtain ⟨o, e, _⟩ := P9.old a ha
    exact Cfg.vnot e ((List.mem_cons.mp hm).elim (fun q => q ▸ .head _) fun q => .tail _ (hfh _ q))
  intro v h6 tk6 reg6 ecs6 I6 X6 fr6 sz6 kp6 res6
  have mm : ∀ a, MutK (Γ.run ca de err) (k + 1) (fun _ => none) [] a → a ∈ dictAddrs (Γ.run ca de err) [] := fun a ha => I9.mut_mem ha
  have F6 := frBack F9 kp6 (fun hm => (mdc _ (mm _ hm)).elim (Nat.lt_irrefl _) fun ⟨j, hj, e⟩ => absurd (daL j hj) (e ▸ Nat.lt_irrefl _)) (fun a hm => (mdc a (mm a hm)).elim (gnew a) fun ⟨j, hj, e⟩ => e ▸ hgn _ (lo0 _ (P.dl j hj).1) (fun hf => by obtain ⟨_, _, e', _⟩ := (P.att j hj).there; exact dfr _ _ e' hf))
  have kpF : ∀ a o, s.heap.get? a = some o → (∀ j, j < Γ.N → a ≠ Γ.da j) → h6.get? a = some o := fun a o e n => kp6 a o (kpR a o e) fun hm => (mdc a (mm a hm)).elim (fun l => absurd (Nat.lt_trans l (eL ▸ Heap.lt_size e)) (Nat.lt_irrefl _)) fun ⟨j, hj, q⟩ => n j hj q
  have St6 := St9.call I9 I6 X6 (Nat.le_refl _) (fun a o e n => Cfg.vto e (kp6 a o (Cfg.vget e) n))
  have I6' : Inv w (Γ.run ca de err) (k + 1) (Vw hid h6) reg6 ecs6 := I6.stay (Heap.StaysIn.nd vw_one) (fun a _ o e => vw_one a o e)
  have St6' := St6.sub (vw_one (hid := hid) (L := L) (h1 := h6))
  have szF : s.heap.objs.size ≤ h6.objs.size := Nat.le_trans (eL ▸ Nat.le_of_lt lL9) sz6
  obtain ⟨tl6, hvh6, hN6, Cv6, ev6, htl6⟩ := focus [] F6
  have hx6 := I6.er.2
  have hx9 := N9.get (a := err) (by k_mem)
  have hxx : h6.get? err = some (excDict 94 tp9 de) := kp6 _ _ hx9 fun hm => by
    obtain ⟨es, n, q⟩ := I9.isDict hm (Nat.le_refl _) (Cfg.vput (nh _ Lx) hx9)
    cases q
  clear F9 N9
  rcases res6 with ⟨hEi, rfl⟩ | ⟨hEi, r, rfl, rep⟩
  · have N6 := hN6 [] (List.forall_mem_nil _)
    simp only [List.cons_append, List.nil_append] at N6
    k_steps
    (with_reducible rename Fr _ _ _ _ => F9)
    (with_reducible rename News _ _ _ _ => N9)
    have S7 := Cv6.now F9 N9 (fun q hq => by repeat (first | assumption | refine List.Mem.tail _ ?_))
    have kp7 : ∀ b o, h6.get? b = some o → b ≠ L → _ := fun b o e n1 => S7 b o (ev6 ▸ hideAll_get _ e (by simpa using n1))
    have kv7 : (Vw (L :: hid) h6).StaysIn (Vw (L :: hid) _) := knV fun a o e n => kp7 a o e (fun q => n (q ▸ .head _))
    have I7 := (I6.stay (Heap.StaysIn.nd kv7) (fun a _ o e => kv7 a o e)).stay (Heap.StaysIn.nd vw_one) (fun a _ o e => vw_one a o e)
    have St7 := (St6.sub kv7).sub vw_one
    have kpG : ∀ a o, s.heap.get? a = some o → (∀ j, j < Γ.N → a ≠ Γ.da j) → _ := fun a o e n => kp7 a o (kpF a o e n) (eL ▸ Nat.ne_of_lt (Heap.lt_size e))
    refine hold_of ?_
    have hx7 := kp7 _ _ hxx (Nat.ne_of_gt Lx)
    refine raise_exc (K := _root_.Mine.hd.heap_39 w.params) (C := 94) rfl (excF_94 w).be (by k_is) (ev_local rfl rfl (by decide) F9.ns rfl ⟨err, tp9, de, rfl, hx7, X.keeps F9.keep, ?_⟩)
    show wpAny _ _ (leaving _ _) _ _ _
    refine leave_first (base := hideAll _ (err :: L :: frs fr)) rfl (funFrames_off (MG.push F9 rfl).frames fun a ha => hideAll_none _ (.tail _ ha)) rfl hx7 (fun b o e => of_hideAll _ e) (hideAll_none _ (.head _)) rfl rfl fun h8 fly up => ?_
    exact hE _ _ _ (L :: hid) _ ca de err reg6 ecs6 (I6.stay (Heap.StaysIn.nd kv7) (fun a _ o e => kv7 a o e)) (St6.sub kv7) hEi kpG (fun a ha => (List.mem_cons.mp ha).elim (fun q => .inr (q ▸ Nat.le_of_eq eL.symm)) .inl) (Nat.le_trans (Nat.le_of_eq eL.symm) (Nat.le_of_lt Lx)) (fun a o e n => hideAll_get _ (Cfg.vget e) fun hm => (List.mem_cons.mp hm).elim n fun hm => Cfg.vnot e ((List.mem_cons.mp hm).elim (fun q => q ▸ .head _) fun q => .tail _ (hfh a q))) fly up
  · have N6 := hN6 [] (List.forall_mem_nil _)
    simp only [List.cons_append, List.nil_append] at N6
    k_steps
    (with_reducible rename Fr _ _ _ _ => F9)
    (with_reducible rename News _ _ _ _ => N9)
    have S7 := Cv6.now F9 N9 (fun q hq => by repeat (first | assumption | refine List.Mem.tail _ ?_))
    have kp7 : ∀ b o, h6.get? b = some o → b ≠ L → _ := fun b o e n1 => S7 b o (ev6 ▸ hideAll_get _ e (by simpa using n1))
    have kv7 : (Vw (L :: hid) h6).StaysIn (Vw (L :: hid) _) := knV fun a o e n => kp7 a o e (fun q => n (q ▸ .head _))
    have I7 := (I6.stay (Heap.StaysIn.nd kv7) (fun a _ o e => kv7 a o e)).stay (Heap.StaysIn.nd vw_one) (fun a _ o e => vw_one a o e)
    have St7 := (St6.sub kv7).sub vw_one
    have kpG : ∀ a o, s.heap.get? a = some o → (∀ j, j < Γ.N → a ≠ Γ.da j) → _ := fun a o e n => kp7 a o (kpF a o e n) (eL ▸ Nat.ne_of_lt (Heap.lt_size e))
    dsimp only
    exact hq _ _ _ ca de err reg6 ecs6 I7 St7 (.inr ⟨hEi, r, rfl, rep.keep ((Heap.StaysIn.nd kv7).trans (Heap.StaysIn.nd vw_one))⟩) hEi kpG (Nat.le_trans (Nat.le_of_eq eL.symm) (Nat.le_of_lt F9.ns.lt))
end Mine
end
section
open PySem PySem.W PyProof.Rows PySem.Calls PySem.Spec Builtin Builtin.ObjectAttr
set_option maxRecDepth 100000
set_option maxHeartbeats 8000000
namespace Mine
local macro_rules | `(tactic| walk_at "0") => `(tactic| skip)
local macro_rules | `(tactic| walk_at "0") => `(tactic| skip)
local macro_rules | `(tactic| walk_at "0") => `(tactic| skip)
local macro_rules | `(tactic| walk_at "0") => `(tactic| skip)
local macro_rules | `(tactic| walk_at "0") => `(tactic| skip)
local macro_rules | `(tactic| walk_at "0") => `(tactic| skip)
local macro_rules | `(tactic| walk_at "0") => `(tactic| skip)
local macro_rules | `(tactic| walk_at "0") => `(tactic| skip)
local macro_rules | `(tactic| walk_at "0") => `(tactic| skip)
local macro_rules | `(tactic| walk_at "0") => `(tactic| skip)
local macro_rules | `(tactic| walk_at "0") => `(tactic| skip)
local macro_rules | `(tactic| walk_at "0") => `(tactic| skip)
local macro_rules | `(tactic| walk_at "0") => `(tactic| skip)
local macro_rules | `(tactic| walk_at "0") => `(tactic| skip)
local macro_rules | `(tactic| walk_at "0") => `(tactic| skip)
local macro_rules | `(tactic| walk_at "0") => `(tactic| skip)
local macro_rules | `(tactic| walk_at "0") => `(tactic| skip)
local macro_rules | `(tactic| walk_at "0") => `(tactic| skip)
local macro_rules | `(tactic| walk_at "0") => `(tactic| skip)
local macro_rules | `(tactic| walk_at "0") => `(tactic| skip)
local macro_rules | `(tactic| walk_at "0") => `(tactic| skip)
local macro_rules | `(tactic| walk_at "0") => `(tactic| skip)
local macro_rules | `(tactic| walk_at "0") => `(tactic| skip)
local macro_rules | `(tactic| walk_at "0") => `(tactic| skip)
local macro_rules | `(tactic| walk_at "0") => `(tactic| skip)
local macro_rules | `(tactic| walk_at "0") => `(tactic| skip)
local macro_rules | `(tactic| walk_at "0") => `(tactic| skip)
local macro_rules | `(tactic| walk_at "0") => `(tactic| skip)
local macro_rules | `(tactic| walk_at "0") => `(tactic| skip)
local macro_rules | `(tactic| walk_at "0") => `(tactic| skip)
local macro_rules | `(tactic| walk_at "0") => `(tactic| skip)
local macro_rules | `(tactic| walk_at "0") => `(tactic| skip)
local macro_rules | `(tactic| walk_at "0") => `(tactic| skip)
local macro_rules | `(tactic| walk_at "0") => `(tactic| skip)
local macro_rules | `(tactic| walk_at "0") => `(tactic| skip)
local macro_rules | `(tactic| walk_at "0") => `(tactic| skip)
local macro_rules | `(tactic| walk_at "0") => `(tactic| skip)
local macro_rules | `(tactic| walk_at "0") => `(tactic| skip)
local macro_rules | `(tactic| walk_at "0") => `(tactic| skip)
local macro_rules | `(tactic| walk_at "0") => `(tactic| skip)
theorem rs33 : True := by
  w_top off
  trivial
theorem AttrSt.free {w : World} {Γ : Cfg} {h : Heap} {k : Nat} {r : Option Nat} {ecs : List Addr} (x : AttrSt w Γ h k r ecs) : ∃ es n, h.get? (Γ.da k) = some (dictOf es n) ∧ getL "match" es = some none ∧ getL "parse" es = some none := by
  cases r with
  | some oid => obtain ⟨n, t, tp, tn, pr, pn, tk', rest, ec, h1, h2, _⟩ := x; exact ⟨_, _, h2, rfl, rfl⟩
  | none =>
    rcases x with ⟨n, h1⟩ | ⟨o, n, t, tp, tn, pr, pn, tk', ec, h2, _⟩
    · exact ⟨_, _, h1, rfl, rfl⟩
    · exact ⟨_, _, h2, rfl, rfl⟩
theorem find_match (w : World) (st : Stp) : findIn (_root_.Mine.hd.heap_39 w.params) (.ref (clsOf st)) "match" = some (some (.ref 259)) := by
  cases st with
  | word x => show findIn _ (.ref 336) "match" = _; k_is
  | both i j => show findIn _ (.ref 394) "match" = _; k_is
  | either i j => show findIn _ (.ref 420) "match" = _; k_is
  | look i => show findIn _ (.ref 458) "match" = _; k_is
  | nay i => show findIn _ (.ref 458) "match" = _; k_is
  | times i l m => show findIn _ (.ref 504) "match" = _; k_is
theorem find_parse (w : World) (st : Stp) : findIn (_root_.Mine.hd.heap_39 w.params) (.ref (clsOf st)) "parse" = some (some (.ref 251)) := by
  cases st with
  | word x => show findIn _ (.ref 336) "parse" = _; k_is
  | both i j => show findIn _ (.ref 394) "parse" = _; k_is
  | either i j => show findIn _ (.ref 420) "parse" = _; k_is
  | look i => show findIn _ (.ref 458) "parse" = _; k_is
  | nay i => show findIn _ (.ref 458) "parse" = _; k_is
  | times i l m => show findIn _ (.ref 504) "parse" = _; k_is
section
variable {prog : Program} {w : World} {A : Around} {E : Value → Shared → Prop} {s : Shared} {x C um : Addr} {ni : Nat} {ox : Obj} {g : Heap} {L : Addr} {m : Str → Option Value}
theorem kmatch {pl : Sem Bool} {n : Nat} {es : List DictEntry} {Q : Value × List Value → Shared → Prop} (F : Fr g L s.heap m) (X : (_root_.Mine.hd.heap_39 w.params).In g) (I : InstAt s.heap x ox C (some (dictOf es n))) (c : ClsF (_root_.Mine.hd.heap_39 w.params) C um ni) (hf : findIn (_root_.Mine.hd.heap_39 w.params) (.ref C) "match" = some (some (.ref 259)))
    (hl : getL "match" es = some none) (h : Q (.ref 259, [.ref x]) s) : wpAny (model prog w) A (getMethod (.ref x) "match" pl) Q E s := method_inst F X I (c.pg _) hf (by k_is) hl h
theorem kparse {pl : Sem Bool} {n : Nat} {es : List DictEntry} {Q : Value × List Value → Shared → Prop} (F : Fr g L s.heap m) (X : (_root_.Mine.hd.heap_39 w.params).In g) (I : InstAt s.heap x ox C (some (dictOf es n))) (c : ClsF (_root_.Mine.hd.heap_39 w.params) C um ni) (hf : findIn (_root_.Mine.hd.heap_39 w.params) (.ref C) "parse" = some (some (.ref 251)))
    (hl : getL "parse" es = some none) (h : Q (.ref 251, [.ref x]) s) : wpAny (model prog w) A (getMethod (.ref x) "parse" pl) Q E s := method_inst F X I (c.pg _) hf (by k_is) hl h
end
local macro_rules | `(tactic| k_room) => `(tactic| ktr_room)
local macro_rules | `(tactic| k_all) => `(tactic| first | assumption | (intro q9 hq9; (try dsimp only); first | exact allLt_ne (by assumption) (by omega) q9 hq9 | exact lt_ne (by assumption) (by omega) q9 hq9))
local macro_rules | `(tactic| k_inst) => `(tactic| (refine' instOf ?N ?h1 ?h2 ?e1 ?e2 ?e3; (case N => k_asm); (case h1 => k_mem); (case e1 => first | assumption | exact rfl); (case e2 => first | assumption | exact rfl); (case h2 => k_mem); (case e3 => first | assumption | exact rfl)))
local macro_rules | `(tactic| walk_at "call ref") => `(tactic| (k_here; (with_reducible show wpAny _ _ (call (Value.ref _) _ _) _ _ _); refine hold_of ?_))
local macro_rules | `(tactic| walk_at "call builtin:len") => `(tactic| (k_here; (with_reducible show wpAny _ _ (call (Value.builtin "len") [Value.str _ _]) _ _ _); k_dflt (refine' SBL.len ?k1 ?_; (case k1 => assumption); k_whole)))
local macro_rules | `(tactic| walk_at "exec Raise some none") => `(tactic| (k_here; (with_reducible show wpAny _ _ (exec (Stmt.Raise _ _ _) _) _ _ _); refine hold_of ?_))
local macro_rules | `(tactic| walk_at "getMethod ref") => `(tactic| (k_here; (with_reducible show wpAny _ _ (getMethod (Value.ref _) (PySem.Str.ofString "match") _) _ _ _); k_dflt (refine' kmatch ?k1 ?k2 ?k3 ?k4 ?k5 ?k6 ?_; (case k1 => k_asm); (case k2 => k_asm); (case k3 => k_inst); (case k4 => assumption); (case k5 => assumption); (case k6 => assumption); k_whole)))
variable {w : World} {p : Program} {loose : List Str} {mean : ExcName → Option Value} {mg mb : Str → Option Value} {H0 : Heap} {Γ : Cfg}
/-- a rest is left -/
abbrev RestErr (w : World) (Γ : Cfg) (hid : List Addr) (s : Shared) (fr : List Env) (k : Nat) (E : Value → Shared → Prop) : Prop :=
  ∀ hr h' tk' hx base ca de err reg' ecs' e2 d2 t1 t2 t3 t4, Inv w (Γ.run ca de err) (k + 1) (Vw hx hr) reg' ecs' → Stand (Γ.run ca de err) (Vw hx hr) ecs' → 0 ≤ Γ.E k 0 → Γ.E k 0 < Γ.n →
    (∀ a o, s.heap.get? a = some o → (∀ j, j < Γ.N → a ≠ Γ.da j) → hr.get? a = some o) → (∀ a ∈ hx, a ∈ hid ∨ s.heap.objs.size ≤ a) → s.heap.objs.size ≤ e2 → (∀ a o, (Vw hx hr).get? a = some o → a ≠ e2 → base.get? a = some o) →
    base.get? d2 = some (dictOf (errEs w t1 t2 t3 (.str Γ.text Γ.tk) (.int (Γ.E k 0) t4) (.ref (Γ.ea k))) 3) → d2 ≠ e2 → s.heap.objs.size ≤ d2 → Fly base fr e2 (.ref 132) (some d2) .none h' → hr.UpToSlots h' → E (.ref e2) { s with heap := h', toks := tk' }
abbrev bindsParse (Γ : Cfg) (k : Nat) (tp : Tok) : List (Str × Value) := [("self", .ref (Γ.ea k)), ("text", .str Γ.text Γ.tk), ("pos", .int 0 tp)]
theorem parse_ok {k : Nat} {st : Stp} {hid : List Addr} {dp un : Nat} {gd : Option (List Code)} {fr : List Env} {s : Shared} {tp : Tok} {Q E : Value → Shared → Prop} (C : Cx w p loose mean mg mb H0 Γ) (hst : Γ.plan[k]? = some st)
    (M : Amb H0 fr s.heap) (P : Pre w Γ (Vw hid s.heap)) (hhid : ∀ a ∈ hid, a < s.heap.objs.size) (hfh : ∀ a ∈ frs fr, a ∈ hid) (hdp : dp + (6 * Γ.N + 60) < recursionLimit) (hun : un + (20 * Γ.N + 150) < cLine)
    (hb : ∀ oc od fd osl, (_root_.Mine.hd.heap_39 w.params).lookup 251 = some ⟨oc, od, .func fd, osl⟩ → (_root_.Mine.hd.heap_39 w.params).In s.heap → BindsTo s fd ⟨[.ref (Γ.ea k), .str Γ.text Γ.tk], []⟩ (bindsParse Γ k tp))
    (hq : (Γ.n : Int) ≤ Γ.E k 0 → MatchOk w Γ hid s k 0 Q) (hE : MatchErr w Γ hid s fr k 0 E) (hR : RestErr w Γ hid s fr k E) :
    wpAny (model PySem.Challenge.rw_vy0014_01.row.prog w) (ar dp un gd fr) (call (.ref 251) [.ref (Γ.ea k), .str Γ.text Γ.tk] []) Q E s := by
  have hkN : k < Γ.N := (List.getElem?_eq_some_iff.mp hst).1
  refine wpAny_call ?_
  refine' enterF C.O M ?ho ?hcd ?hr ?hb ?hl ?_ ?c1 ?c2 ?c3 ?c4
  case ho => k_is
  case hcd => k_is
  case hr => omega
  case hb => exact hb _ _ _ _ (by k_is) (C.O.X.keeps M.keep)
  case hl => exact locs rfl
  case c1 => exact rfl
  case c2 => exact rfl
  case c3 => exact rfl
  case c4 => decide
  intro g L h₁ eL F K1 MG hgn Bw X T
  have hLn : s.heap.get? L = none := get_none_of_le (Nat.le_of_eq eL.symm)
  have hlen : Γ.text.length ≤ 2 ^ 62 := Nat.le_trans C.ok.small (by decide)
  have P2 := P.sub (vw_cons hLn)
  obtain ⟨hlk, ok, vok, hob⟩ := P.ex k _ hst
  have hok := Cfg.vget vok
  have lo0 : ∀ a, Γ.lo0 ≤ a → H0.get? a = none := fun a ha => get_none_of_le (Nat.le_trans C.lo ha)
  obtain ⟨pk1, pk2, pk3⟩ := hob.plain
  have ck1 := notCls_plain pk1
  have cfk := clsF w st
  have fmk := find_match w st
  obtain ⟨es, n, vda, hmm, hpp⟩ := (P.att k hkN).free
  have hda := Cfg.vget vda
  have dfr : ∀ a o, (Vw hid s.heap).get? a = some o → a ∉ frs fr := fun a o e hm => Cfg.vnot e (hfh a hm)
  have ltL : ∀ a o, (Vw hid s.heap).get? a = some o → a < L := fun a o e => eL ▸ Heap.lt_size (Cfg.vget e)
  obtain ⟨tl, hvh, hN, Cv, ev, htl⟩ := focus [] F
  have N := hN [(Γ.ea k, ok), (Γ.da k, dictOf es n)] (List.forall_mem_cons.mpr ⟨⟨K1 _ _ hok, Nat.ne_of_lt (ltL _ _ vok), hgn _ (lo0 _ hlk) (dfr _ _ vok)⟩, List.forall_mem_cons.mpr ⟨⟨K1 _ _ hda, Nat.ne_of_lt (ltL _ _ vda), hgn _ (lo0 _ (P.dl k hkN).1) (dfr _ _ vda)⟩, List.forall_mem_nil _⟩⟩)
  simp only [List.cons_append, List.nil_append] at N
  clear hN
  k_steps
  (with_reducible rename Fr _ _ _ _ => F9)
  (with_reducible rename News _ _ _ _ => N9)
  show wpAny _ _ _ _ _ _
  have S9 := Cv.now F9 N9 (fun q hq => by repeat (first | assumption | refine List.Mem.tail _ ?_))
  have kp9 : ∀ b o, s.heap.get? b = some o → _ := fun b o e => S9 b o (ev ▸ hideAll_get _ (K1 b o e) (by simp only [List.mem_singleton]; exact eL ▸ Nat.ne_of_lt (Heap.lt_size e)))
  have P9 := P2.sub (Cfg.vst kp9)
  have lL9 := F9.ns.lt
  have sz9 := Nat.le_trans (Nat.le_of_eq eL.symm) (Nat.le_of_lt lL9)
  have daL : ∀ j, j < Γ.N → Γ.da j < L := fun j hj => by obtain ⟨_, _, e, _⟩ := (P.att j hj).there; exact ltL _ _ e
  have fL : ∀ a ∈ frs fr, a < L := fun a ha => by obtain ⟨o, _, _, e, _⟩ := M.fdat a ha; exact eL ▸ Heap.lt_size e
  have hfh' : ∀ a ∈ frs fr, a ∈ L :: hid := fun a ha => .tail _ (hfh a ha)
  have b259 : ∀ (s' : Shared) oc od fd osl, (_root_.Mine.hd.heap_39 w.params).lookup 259 = some ⟨oc, od, .func fd, osl⟩ → (_root_.Mine.hd.heap_39 w.params).In s'.heap → BindsTo s' fd ⟨[.ref (Γ.ea k), .str Γ.text Γ.tk], [(Str.ofString "pos", .int 0 tp)]⟩ (bindsMatch Γ k 0 tp) := fun s' oc od fd osl hl X => by
    have key : ∀ o, (_root_.Mine.hd.heap_39 w.params).lookup 259 = some o → o = ⟨oc, od, .func fd, osl⟩ := fun o e => Option.some.inj (e.symm.trans hl)
    have e2 := key _ (by k_is)
    cases e2
    exact binds_K X rfl (by k_is) rfl rfl rfl
  refine' call_kw (kw' := [(Str.ofString "pos", Value.int 0 tp)]) ?e ?_
  case e => with_unfolding_all rfl
  refine match_ok (hid := L :: hid) (dp := dp + 1) (un := un + 3) (gd := gd) (fr := _ :: fr) (pos := 0) (tp := tp) C hst (MG.push F9 rfl) P9 (fun a ha => (List.mem_cons.mp ha).elim (fun q => q ▸ lL9) fun q => Nat.lt_trans (eL ▸ hhid a q) lL9) (fun a ha => (List.mem_cons.mp ha).elim (fun q => q ▸ .head _) fun q => .tail _ (hfh a q)) (Nat.zero_le _) (by omega) (by omega) (b259 _) ?_ ?_
  · intro v h6 tk6 ca de err reg6 ecs6 I6 St6 res6 hpE kp6 sz6
    have F6 := frBack (Mut := fun a => ∃ j, j < Γ.N ∧ a = Γ.da j) F9 (fun b o e n => kp6 b o e fun j hj q => n ⟨j, hj, q⟩) (fun ⟨j, hj, q⟩ => absurd (daL j hj) (q ▸ Nat.lt_irrefl _)) (fun a ⟨j, hj, q⟩ => q ▸ hgn _ (lo0 _ (P.dl j hj).1) (fun hf => by obtain ⟨_, _, e', _⟩ := (P.att j hj).there; exact dfr _ _ e' hf))
    have kpF : ∀ a o, s.heap.get? a = some o → (∀ j, j < Γ.N → a ≠ Γ.da j) → h6.get? a = some o := fun a o e n => kp6 a o (kp9 a o e) n
    obtain ⟨tl6, hvh6, hN6, Cv6, ev6, htl6⟩ := focus [] F6
    rcases res6 with ⟨hEi, rfl⟩ | ⟨hEi, r, rfl, rep⟩
    · exact absurd (show Γ.E k 0 = -1 from hEi) (by omega)
    obtain ⟨lor, dr, tk1, tk2, cr, odr, vr, ldr, vdr⟩ := nodeAt rep
    have hr := Cfg.vget vr
    have hdr := Cfg.vget vdr
    have N6 := hN6 [(r, _), (dr, odr)] (List.forall_mem_cons.mpr ⟨⟨hr, fun q => Cfg.vnot vr (q ▸ .head _), hgn _ (lo0 _ lor) fun hm => Cfg.vnot vr (hfh' _ hm)⟩, List.forall_mem_cons.mpr ⟨⟨hdr, fun q => Cfg.vnot vdr (q ▸ .head _), hgn _ (lo0 _ ldr) fun hm => Cfg.vnot vdr (hfh' _ hm)⟩, List.forall_mem_nil _⟩⟩)
    simp only [List.cons_append, List.nil_append] at N6
    clear hN6 F9 N9
    by_cases hlt : Γ.E k 0 < (Γ.text.length : Int)
    · k_steps
      (with_reducible rename Fr _ _ _ _ => F9)
      (with_reducible rename News _ _ _ _ => N9)
      have S7 := Cv6.now F9 N9 (fun q hq => by repeat (first | assumption | refine List.Mem.tail _ ?_))
      have kp7 : ∀ b o, h6.get? b = some o → b ≠ L → _ := fun b o e n1 => S7 b o (ev6 ▸ hideAll_get _ e (by simpa using n1))
      refine hold_of ?_
      refine raise_exc (K := _root_.Mine.hd.heap_39 w.params) (C := 132) rfl (excF_132 w).be (by k_is) ?_
      k_steps
      (with_reducible rename Fr _ _ _ _ => F8)
      (with_reducible rename News _ _ _ _ => N8)
      show wpAny _ _ _ _ _ _
      have S8 := Cv6.now F8 N8 (fun q hq => by repeat (first | assumption | refine List.Mem.tail _ ?_))
      have kp8 : ∀ b o, h6.get? b = some o → b ≠ L → _ := fun b o e n1 => S8 b o (ev6 ▸ hideAll_get _ e (by simpa using n1))
      refine err_make132 (dp := dp + 1) (un := un + 3) (gd := gd) C.O (MG.push F8 rfl) (by omega) ?_
      intro e2 tp9 d2 t1 t2 t3 h8 tk8 k8 lx ld xd hx2 hd2
      have F10 : Fr g L h8 _ := ⟨Heap.Ns.keeps F8.ns k8, fun b o e => k8 b o (F8.keep b o e), F8.above⟩
      have Lx : L < e2 := Nat.lt_of_lt_of_le F8.ns.lt lx
      have Ld : L < d2 := Nat.lt_of_lt_of_le F8.ns.lt ld
      refine ⟨e2, tp9, d2, rfl, hx2, X.keeps F10.keep, ?_⟩
      show wpAny _ _ (leaving _ _) _ _ _
      have kpH : ∀ b o, h6.get? b = some o → b ≠ L → h8.get? b = some o := fun b o e n => k8 b o (kp8 b o e n)
      have kvH : (Vw (L :: hid) h6).StaysIn (Vw (L :: hid) h8) := knV fun a o e n => kpH a o e (fun q => n (q ▸ .head _))
      refine leave_first (base := hideAll h8 (e2 :: L :: frs fr)) rfl (funFrames_off (MG.push F10 rfl).frames fun a ha => hideAll_none _ (.tail _ ha)) rfl hx2 (fun b o e => of_hideAll _ e) (hideAll_none _ (.head _)) rfl rfl fun h9 fly up => ?_
      exact hR h8 h9 _ (L :: hid) _ ca de err reg6 ecs6 e2 d2 t1 t2 t3 tk2 (I6.stay (Heap.StaysIn.nd kvH) (fun a _ o e => kvH a o e)) (St6.sub kvH) hEi hlt (fun a o e n => kpH a o (kpF a o e n) (eL ▸ Nat.ne_of_lt (Heap.lt_size e))) (fun a ha => (List.mem_cons.mp ha).elim (fun q => .inr (q ▸ Nat.le_of_eq eL.symm)) .inl) (Nat.le_trans (Nat.le_of_eq eL.symm) (Nat.le_of_lt Lx))
        (fun a o e n => hideAll_get _ (Cfg.vget e) fun hm => (List.mem_cons.mp hm).elim n fun hm => Cfg.vnot e ((List.mem_cons.mp hm).elim (fun q => q ▸ .head _) fun q => .tail _ (hfh a q)))
        (hideAll_get _ hd2 fun hm => (List.mem_cons.mp hm).elim (fun q => xd q.symm) fun hm => (List.mem_cons.mp hm).elim (fun q => absurd Ld (q ▸ Nat.lt_irrefl _)) fun q => absurd (Nat.lt_trans Ld (fL _ q)) (Nat.lt_irrefl _)) (Ne.symm xd) (Nat.le_trans (Nat.le_of_eq eL.symm) (Nat.le_of_lt Ld)) fly up
    · k_steps
      (with_reducible rename Fr _ _ _ _ => F9)
      (with_reducible rename News _ _ _ _ => N9)
      have S7 := Cv6.now F9 N9 (fun q hq => by repeat (first | assumption | refine List.Mem.tail _ ?_))
      have kp7 : ∀ b o, h6.get? b = some o → b ≠ L → _ := fun b o e n1 => S7 b o (ev6 ▸ hideAll_get _ e (by simpa using n1))
      have kv7 : (Vw (L :: hid) h6).StaysIn (Vw (L :: hid) _) := knV fun a o e n => kp7 a o e (fun q => n (q ▸ .head _))
      dsimp only
      exact hq (Int.not_lt.mp hlt) _ _ _ ca de err reg6 ecs6 ((I6.stay (Heap.StaysIn.nd kv7) (fun a _ o e => kv7 a o e)).stay (Heap.StaysIn.nd vw_one) (fun a _ o e => vw_one a o e)) ((St6.sub kv7).sub vw_one)
        (.inr ⟨hEi, r, rfl, rep.keep ((Heap.StaysIn.nd kv7).trans (Heap.StaysIn.nd vw_one))⟩) hEi (fun a o e n => kp7 a o (kpF a o e n) (eL ▸ Nat.ne_of_lt (Heap.lt_size e))) (Nat.le_trans (Nat.le_of_eq eL.symm) (Nat.le_of_lt F9.ns.lt))
  · intro hr h5 tk5 hx base ca de err reg5 ecs5 I5 St5 hEm kp5 hxs le hbs fly up
    show wpAny _ _ (leaving _ _) _ _ _
    refine leave_next rfl rfl fly fun h7 fly2 up2 => ?_
    exact hE hr h7 tk5 hx base ca de err reg5 ecs5 I5 St5 hEm (fun a o e n => kp5 a o (kp9 a o e) n) (fun a ha => (hxs a ha).elim (fun q => (List.mem_cons.mp q).elim (fun q => .inr (q ▸ Nat.le_of_eq eL.symm)) .inl) fun q => .inr (Nat.le_trans sz9 q)) (Nat.le_trans sz9 le) hbs fly2 (up.trans up2)
end Mine
end
section
open PySem PySem.W PyProof.Rows PySem.Calls PySem.Spec
set_option maxRecDepth 100000
set_option maxHeartbeats 4000000
namespace Mine
theorem rs34 : True := by
  w_top off
  trivial
section
variable {prog : Program} {w : World} {A : Around} {E : Value → Shared → Prop} {s₁ : Shared} {h₁ h₀ : Heap} {c P L : Addr} {ps : Array Value} {m : Str → Option Value}
/-- a generator over the ints of a list, from its end -/
theorem src_rev {env : Env} {elt : PySem.Expr} {x : Str} {scope : Scope} {cl : List (Str × Addr)} {pos : Pos} {Q : Value → Shared → Prop} {I l Kb : Addr} {vs : List Value} {as : List Int} {d : Int → PyData}
    (B : Based h₁ h₀ c P ps) (hit : s₁.heap.IsRevIter I l ((vs.length : Int) - 1)) (hl : s₁.heap.IsList l vs.toArray) (hi : IntsAre vs as) (F₁ : Fr h₀ L s₁.heap m) (G₁ : AllBare s₁.gens) (hlim : s₁.heap.NoLimit) (hLK : L ≤ Kb) (hK : Kb < I)
    (g2 : ∀ (c' C : Addr) (A' : Around) E' (a : Int) (t : Tok) (u : Shared) m₂, A'.handled = none → A'.depth ≤ A.depth + 1 → A'.units ≤ A.units + 8 → a ∈ as.reverse → Fr (regrown h₀ P (ps ++ #[rawInt pos.line, rawInt pos.col, .ref c'])) C u.heap m₂ → m₂ x = some (.int a t) → L < C →
          wpAny (model prog w) A' (eval elt (genEnv scope cl C (.ref c') builtinsNs env)) (fun y s₃ => Carried y (d a) ∧ Keeps u s₃) E' u)
    (g3 : ∀ (c' a : Addr) (s₅ : Shared), Based h₁ (regrown h₀ P (ps ++ #[rawInt pos.line, rawInt pos.col, .ref c'])) c P (ps ++ #[rawInt pos.line, rawInt pos.col, .ref c']) →
          Fr (regrown h₀ P (ps ++ #[rawInt pos.line, rawInt pos.col, .ref c'])) L s₅.heap m → AllBare s₅.gens → s₅.os = s₁.os → (∀ b o, b ≠ P → s₁.heap.get? b = some o → s₅.heap.get? b = some o) →
          GenOnD prog w A Kb a as.reverse (fun _ => true) d s₅ → Q (.ref a) s₅) :
    wpAny (model prog w) A (pyIter (.ref I)) (GenPost prog w A h₁ h₀ c P ps L m env scope cl x [] elt pos Q) E s₁ := by
  have hIlt : I < s₁.heap.objs.size := by obtain ⟨_, e, _⟩ := hit; exact Heap.lt_size e
  have hlt : l < s₁.heap.objs.size := by obtain ⟨_, e, _⟩ := hl; exact Heap.lt_size e
  have hne : l ≠ I := fun e => by
    obtain ⟨o, ho, hc, _⟩ := hl
    obtain ⟨o', ho', hc', _⟩ := hit
    rw [e, ho'] at ho; cases ho; rw [hc] at hc'; exact absurd hc' (by simp)
  have hPI : P ≠ I := fun e => by
    obtain ⟨o', ho', hc', _⟩ := hit
    rw [← e, (B.tabAt F₁).2] at ho'; cases ho'; exact absurd hc' (by simp)
  have hPl : P ≠ l := fun e => by
    obtain ⟨o', ho', hc', _⟩ := hl
    rw [← e, (B.tabAt F₁).2] at ho'; cases ho'; exact absurd hc' (by simp)
  have hlen : vs.length = as.length := hi.length
  refine wpAny_pyIter_revIter hit ?_
  unfold GenPost
  have at_ : ∀ (i : Nat) (v : Value), vs.toArray[vs.toArray.size - 1 - i]? = some v → i < vs.toArray.size → ∃ a t, as.reverse[i]? = some a ∧ v = .int a t := fun i v hv hlt => by
    have h1 : i < as.length := by rw [List.size_toArray] at hlt; omega
    have e1 : vs[vs.length - 1 - i]? = some v := by simpa using hv
    obtain ⟨a, t, ha, hv'⟩ : ∃ a t, as[vs.length - 1 - i]? = some a ∧ v = .int a t := by
      obtain ⟨a, ha, hk⟩ := (hi.areOf).get _ _ e1
      obtain ⟨t, e⟩ := ItemKind.int_is hk
      exact ⟨a, t, ha, e⟩
    exact ⟨a, t, by rw [List.getElem?_reverse h1, ← hlen]; exact ha, hv'⟩
  refine ⟨F₁, G₁, hlim, Kb, I, [I, l], [I], vs.toArray.size, fun i v => i < vs.toArray.size ∧ vs.toArray[vs.toArray.size - 1 - i]? = some v, _, fun _ => true, fun i y => ∃ b, as.reverse[i]? = some b ∧ Carried y (d b), hLK, Nat.lt_trans hK hIlt, rfl, (fun A' hA => (Walks.listRev hA I l hne vs.toArray).bound), ⟨Nat.zero_le _, ?_, hl⟩, ?_, ?_, ?_, ?_, ?_, fun c' a s₅ B' F' G' hos hk X => g3 c' a s₅ B' F' G' hos hk ?_⟩
  · have e : ((vs.toArray.size : Nat) : Int) - 1 - ((0 : Nat) : Int) = (vs.length : Int) - 1 := by simp
    rw [e]; exact hit
  · intro b hb
    rcases List.mem_cons.mp hb with rfl | hb
    · exact hIlt
    · rw [List.mem_singleton.mp hb]; exact hlt
  · intro hb
    rcases List.mem_cons.mp hb with e | hb
    · exact hPI e
    · exact hPl (List.mem_singleton.mp hb)
  · intro b hb; rw [List.mem_singleton.mp hb]; exact hK
  · intro c' C A' E' i v t m₂ hA hD hU hP hF hm hLC hk
    exact wpAny_pure ⟨rfl, ⟨_, _, rfl, fun _ _ e => e⟩⟩
  · intro c' C A' E' i v t m₂ hA hD hU hP hp hF hm hLC hk
    obtain ⟨a, tk, ha, rfl⟩ := at_ i v hP.2 hP.1
    exact wpAny_mono (g2 c' C A' E' a tk t m₂ hA hD hU (List.mem_of_getElem? ha) hF hm hLC) (fun y s₃ r => ⟨⟨a, ha, r.1⟩, r.2⟩) fun _ _ e => e
  · have hp : passing (fun _ => true) vs.toArray.size 0 = List.range vs.toArray.size := by simp [passing]
    rw [hp, List.length_range] at X
    have hf : as.reverse.filter (fun _ => true) = as.reverse := List.filter_eq_self.mpr fun _ _ => rfl
    unfold GenOnD
    rw [hf, List.length_reverse, ← hlen]
    rw [List.size_toArray] at X
    refine X.imp fun j y hy => ?_
    obtain ⟨i, hij, b, hb, hc⟩ := hy
    exact ⟨b, by
      have : i = j := by
        obtain ⟨h1, h2⟩ := List.getElem?_eq_some_iff.mp hij
        simpa using h2.symm
      rw [← this]; exact hb, hc⟩
theorem news_tail {g h : Heap} {L : Addr} {q : Addr × Obj} {r : List (Addr × Obj)} (N : News g L h (q :: r)) : News g L h r := fun p hp => N p (.tail _ hp)
theorem krv_revL {E : Value → Shared → Prop} {s : Shared} {l : Addr} {vs : List Value} {news : List (Addr × Obj)} {Q : Value → Shared → Prop} (F : Fr h₀ L s.heap m) (N : News h₀ L s.heap news) (hl : s.heap.IsList l vs.toArray)
    (h : ∀ D h', Fr h₀ L h' m → News h₀ L h' ((D, revObj l ((vs.length : Int) - 1)) :: news) → (∀ p ∈ news, p.1 < D) → L < D → Q (.ref D) { s with heap := h' }) : wpAny (model prog w) A (call (.type "reversed") [.ref l]) Q E s := by
  refine call_reversed_list hl ?_
  have e : ((vs.toArray.size : Nat) : Int) - 1 = (vs.length : Int) - 1 := by simp
  rw [e]
  exact h _ _ (F.push _) (News.push F N _) (fun p hp => Heap.lt_size (N p hp).1) F.ns.lt
end
end Mine
end
section
open PySem PySem.W PyProof.Rows PySem.Calls PySem.Spec
set_option maxRecDepth 100000
set_option maxHeartbeats 4000000
namespace Mine
local macro_rules | `(tactic| walk_at "0") => `(tactic| skip)
local macro_rules | `(tactic| walk_at "0") => `(tactic| skip)
local macro_rules | `(tactic| walk_at "0") => `(tactic| skip)
local macro_rules | `(tactic| walk_at "0") => `(tactic| skip)
local macro_rules | `(tactic| walk_at "0") => `(tactic| skip)
local macro_rules | `(tactic| walk_at "0") => `(tactic| skip)
local macro_rules | `(tactic| walk_at "0") => `(tactic| skip)
local macro_rules | `(tactic| walk_at "0") => `(tactic| skip)
local macro_rules | `(tactic| walk_at "0") => `(tactic| skip)
local macro_rules | `(tactic| walk_at "0") => `(tactic| skip)
local macro_rules | `(tactic| walk_at "0") => `(tactic| skip)
local macro_rules | `(tactic| walk_at "0") => `(tactic| skip)
local macro_rules | `(tactic| walk_at "0") => `(tactic| skip)
local macro_rules | `(tactic| walk_at "0") => `(tactic| skip)
local macro_rules | `(tactic| walk_at "0") => `(tactic| skip)
local macro_rules | `(tactic| walk_at "0") => `(tactic| skip)
local macro_rules | `(tactic| walk_at "0") => `(tactic| skip)
local macro_rules | `(tactic| walk_at "0") => `(tactic| skip)
local macro_rules | `(tactic| walk_at "0") => `(tactic| skip)
local macro_rules | `(tactic| walk_at "0") => `(tactic| skip)
local macro_rules | `(tactic| walk_at "0") => `(tactic| skip)
local macro_rules | `(tactic| walk_at "0") => `(tactic| skip)
local macro_rules | `(tactic| walk_at "0") => `(tactic| skip)
local macro_rules | `(tactic| walk_at "0") => `(tactic| skip)
local macro_rules | `(tactic| walk_at "0") => `(tactic| skip)
local macro_rules | `(tactic| walk_at "0") => `(tactic| skip)
local macro_rules | `(tactic| walk_at "0") => `(tactic| skip)
local macro_rules | `(tactic| walk_at "0") => `(tactic| skip)
local macro_rules | `(tactic| walk_at "0") => `(tactic| skip)
local macro_rules | `(tactic| walk_at "0") => `(tactic| skip)
local macro_rules | `(tactic| walk_at "0") => `(tactic| skip)
local macro_rules | `(tactic| walk_at "0") => `(tactic| skip)
local macro_rules | `(tactic| walk_at "0") => `(tactic| skip)
local macro_rules | `(tactic| walk_at "0") => `(tactic| skip)
local macro_rules | `(tactic| walk_at "0") => `(tactic| skip)
local macro_rules | `(tactic| walk_at "0") => `(tactic| skip)
local macro_rules | `(tactic| walk_at "0") => `(tactic| skip)
local macro_rules | `(tactic| walk_at "0") => `(tactic| skip)
local macro_rules | `(tactic| walk_at "0") => `(tactic| skip)
local macro_rules | `(tactic| walk_at "0") => `(tactic| skip)
theorem rs35 : True := by
  w_top off
  trivial
theorem classed (w : World) : noTabs (_root_.Mine.hd.heap_39 w.params) = true := by kernel_rfl
/-- the law's own table of codes may grow: the written part stands -/
theorem in_grown {h₁ h₀ : Heap} {c P : Addr} {ps ps' : Array Value} {w : World} (B : Based h₁ h₀ c P ps) (X : (_root_.Mine.hd.heap_39 w.params).In h₀) : (_root_.Mine.hd.heap_39 w.params).In (regrown h₀ P ps') := fun a o e => by
  have ha := X a o e
  have q := List.all_eq_true.mp (classed w) (a, o) (kb_mem e)
  have hne : a ≠ P := fun z => by
    subst z
    rw [B.tab.2] at ha
    cases ha
    exact absurd (show false = true from q) Bool.false_ne_true
  exact (Heap.get?_update_other _ _ (Ne.symm hne)).trans ha
theorem top_grown {h₁ h₀ : Heap} {c P : Addr} {ps ps' : Array Value} {p : Program} {loose : List Str} {mean : ExcName → Option Value} {mg mb : Str → Option Value} (B : Based h₁ h₀ c P ps) (T : Top p loose mean mg mb h₀) :
    Top topProg (loose ++ (recsOf p).map (·.name) ++ (litsOf p).map (·.1) ++ (clssOf p loose).map (·.name)) mean mg mb (regrown h₀ P ps') where
  g := LGe.ns_regrown B T.g
  b := LGe.ns_regrown B T.b
  nolimit := let ⟨mc, a, r⟩ := T.nolimit; ⟨mc, LGe.ns_regrown B a, r⟩
  nodigits := let ⟨mc, a, r⟩ := T.nodigits; ⟨mc, LGe.ns_regrown B a, r⟩
  fn := fun d hd => absurd (show d ∈ ([] : List DefRec) from hd) List.not_mem_nil
  own := fun o ho => absurd (show o ∈ ([] : List OwnSpec) from ho) List.not_mem_nil
  const := fun x d e => by cases (show (none : Option PyData) = some d from e)
  free := fun x h1 h2 _ _ _ => T.free x h1 (fun q => h2 (List.mem_append_left _ (List.mem_append_left _ (List.mem_append_left _ q))))
    (fun q => h2 (List.mem_append_left _ (List.mem_append_left _ (List.mem_append_right _ q)))) (fun q => h2 (List.mem_append_left _ (List.mem_append_right _ q))) fun q => h2 (List.mem_append_right _ q)
  builtins := T.builtins
  tab := fun d hd => absurd (show d ∈ ([] : List DefRec) from hd) List.not_mem_nil
  bmain := let ⟨bm, ob, a1, a2, a3, a4, r⟩ := T.bmain; ⟨bm, ob, a1, a2, (Heap.get?_update_other _ _ (fun q => by rw [← q, B.tab.2] at a3; cases a3; exact absurd a4 (by simp))).trans a3, a4, r⟩
  seer := fun e => absurd (show false = true from e) Bool.false_ne_true
end Mine
end
section
open PySem PySem.W PyProof.Rows PySem.Calls PySem.Spec Builtin Builtin.ObjectAttr
set_option maxRecDepth 100000
set_option maxHeartbeats 8000000
namespace Mine
theorem rs36 : True := by
  w_top off
  trivial
/-- a step of the plan, as the law holds it -/
def StepObj (h : Heap) (a : Addr) : Stp → Prop
  | .word x => ∃ t1 t2 n, h.get? a = some (tupOf [.str (Str.ofString "word") t1, .str x t2] n)
  | .both i j => ∃ t1 t2 t3 n, h.get? a = some (tupOf [.str (Str.ofString "both") t1, .int i t2, .int j t3] n)
  | .either i j => ∃ t1 t2 t3 n, h.get? a = some (tupOf [.str (Str.ofString "either") t1, .int i t2, .int j t3] n)
  | .look i => ∃ t1 t2 n, h.get? a = some (tupOf [.str (Str.ofString "look") t1, .int i t2] n)
  | .nay i => ∃ t1 t2 n, h.get? a = some (tupOf [.str (Str.ofString "not") t1, .int i t2] n)
  | .times i l m => ∃ t1 t2 t3 t4 n, h.get? a = some (tupOf [.str (Str.ofString "times") t1, .int i t2, .int l t3, .int m t4] n)
/-- a row of the table -/
def RowObj (h : Heap) (e : Nat → Int) (n : Nat) (r : Addr) : Prop := ∃ vs : List Value, ∃ cap, h.get? r = some (listOf vs.toArray cap) ∧ vs.length = n + 1 ∧ ∀ pos, pos ≤ n → ∃ t, vs[pos]? = some (Value.int (e pos) t)
/-- the table -/
def EndsObj (h : Heap) (lo : Nat) (E : Nat → Nat → Int) (n k : Nat) (a : Addr) : Prop := lo ≤ a ∧ ∃ rs : List Addr, ∃ cap, h.get? a = some (listOf (rs.map Value.ref).toArray cap) ∧ rs.length = k ∧ ∀ i r, rs[i]? = some r → lo ≤ r ∧ RowObj h (E i) n r
theorem RowObj.sub {h h' : Heap} {e : Nat → Int} {n : Nat} {r : Addr} (R : RowObj h e n r) (k : ∀ o, h.get? r = some o → h'.get? r = some o) : RowObj h' e n r := let ⟨vs, cap, a, b⟩ := R; ⟨vs, cap, k _ a, b⟩
theorem EndsObj.sub {h h' : Heap} {lo : Nat} {E : Nat → Nat → Int} {n k : Nat} {a : Addr} (R : EndsObj h lo E n k a) (kp : h.StaysIn h') : EndsObj h' lo E n k a :=
  let ⟨l, rs, cap, a, b, c⟩ := R; ⟨l, rs, cap, kp _ _ a, b, fun i r e => ⟨(c i r e).1, (c i r e).2.sub fun o e => kp _ _ e⟩⟩
theorem StepObj.sub {h h' : Heap} {a : Addr} {st : Stp} (R : StepObj h a st) (k : h.StaysIn h') : StepObj h' a st := by
  cases st with
  | word x => obtain ⟨t1, t2, n, e⟩ := R; exact ⟨t1, t2, n, k _ _ e⟩
  | both i j => obtain ⟨t1, t2, t3, n, e⟩ := R; exact ⟨t1, t2, t3, n, k _ _ e⟩
  | either i j => obtain ⟨t1, t2, t3, n, e⟩ := R; exact ⟨t1, t2, t3, n, k _ _ e⟩
  | look i => obtain ⟨t1, t2, n, e⟩ := R; exact ⟨t1, t2, n, k _ _ e⟩
  | nay i => obtain ⟨t1, t2, n, e⟩ := R; exact ⟨t1, t2, n, k _ _ e⟩
  | times i l m => obtain ⟨t1, t2, t3, t4, n, e⟩ := R; exact ⟨t1, t2, t3, t4, n, k _ _ e⟩
/-- what an entered function of the law keeps -/
abbrev Kept (s : Shared) (Q : Value → Shared → Prop) (P : Value → Heap → Prop) : Prop := ∀ v h' tk', P v h' → s.heap.StaysIn h' → Q v { s with heap := h', toks := tk' }
local macro_rules | `(tactic| k_room) => `(tactic| ktr_room)
local macro_rules | `(tactic| k_all) => `(tactic| first | assumption | (intro q9 hq9; (try dsimp only); first | exact allLt_ne (by assumption) (by omega) q9 hq9 | exact lt_ne (by assumption) (by omega) q9 hq9))
variable {w : World} {p : Program} {loose : List Str} {mean : ExcName → Option Value} {mg mb : Str → Option Value} {H0 : Heap}
theorem rowGet {vs : List Value} {e : Nat → Int} {n : Nat} (h : ∀ pos, pos ≤ n → ∃ t, vs[pos]? = some (Value.int (e pos) t)) {j : Int} (h0 : 0 ≤ j) (h1 : j ≤ n) : ∃ t, vs[j.toNat]? = some (Value.int (e j.toNat) t) := h _ (by omega)
theorem endsGet {rs : List Addr} {i : Nat} (h : i < rs.length) : ∃ r, rs[i]? = some r ∧ (rs.map Value.ref)[((i : Nat) : Int).toNat]? = some (.ref r) := ⟨rs[i], List.getElem?_eq_getElem h, by
  rw [List.getElem?_map]; show Option.map _ rs[i]? = _; rw [List.getElem?_eq_getElem h]; rfl⟩
local macro_rules | `(tactic| walk_at "subscriptTail") => `(tactic| (k_here; (with_reducible show wpAny _ _ (subscriptTail _ _ (Value.ref _) (Value.int _ _)) _ _ _); k_dflt (refine' kim_list ?N ?m ?hc ?hd ?h0 ?h1 ?hx ?_; (case N => k_asm); (case m => k_mem); (case hc => rfl); (case hd => rfl); (case h0 => first | assumption | omega); (case h1 => omega); (case hx => assumption); k_whole)))
local macro_rules | `(tactic| walk_at "subscriptTail Subscript") => `(tactic| (k_here; k_dflt (refine kba_turn (value' := PySem.Expr.Name (PySem.Str.ofString "_") ⟨0, 0, 0, 0⟩) (fun _ => rfl) ?_)))
local macro_rules | `(tactic| walk_at "subscriptTail Name Name ref int") => `(tactic| (k_here; (with_reducible show wpAny _ _ (subscriptTail _ _ (Value.ref _) (Value.int _ _)) _ _ _); k_dflt (refine' kim_list ?N ?m ?hc ?hd ?h0 ?h1 ?hx ?_; (case N => k_asm); (case m => k_mem); (case hc => rfl); (case hd => rfl); (case h0 => first | assumption | omega); (case h1 => omega); (case hx => assumption); k_whole)))
local macro_rules | `(tactic| walk_at "subscriptTail") => `(tactic| (k_here; (fail_if_success (with_reducible show wpAny _ _ (subscriptTail (PySem.Expr.Name _ _) _ _ _) _ _ _)); k_dflt (refine kba_turn (value' := PySem.Expr.Name (PySem.Str.ofString "_") ⟨0, 0, 0, 0⟩) (fun _ => rfl) ?_)))
local macro_rules | `(tactic| walk_at "subscriptTail") => `(tactic| (k_here; (with_reducible show wpAny _ _ (subscriptTail (PySem.Expr.Name _ _) (PySem.Expr.Constant _ _ _) (Value.ref _) (Value.int _ _)) _ _ _); k_dflt (refine' kim_tup ?N ?m ?hc ?hd ?hlo ?hhi ?hj ?hx ?_; (case N => k_asm); (case m => k_mem); (case hc => exact rfl); (case hd => exact rfl); (case hlo => decide); (case hhi => decide); (case hj => exact rfl); (case hx => exact rfl); k_whole)))
theorem ge_b {prog : Program} {w : World} {A : Around} {E : Value → Shared → Prop} {s : Shared} {a c : Int} {t u : Tok} {b : Bool} {Q : Value → Shared → Prop} (hb : b = decide (a ≥ c)) (h : Q (.bool b) s) : wpAny (model prog w) A (compareOp .GtE (.int a t) (.int c u)) Q E s := by
  subst hb; exact PyProof.Rows.ge_int h
local macro_rules | `(tactic| walk_at "compareOp GtE int int") => `(tactic| (k_here; (with_reducible show wpAny _ _ (compareOp CmpOp.GtE (Value.int _ _) (Value.int _ _)) _ _ _); k_dflt (refine' ge_b ?hb ?_; (case hb => first | exact (decide_eq_true (by assumption)).symm | exact (decide_eq_false (by assumption)).symm); k_whole)))
local macro_rules | `(tactic| walk_at "eval Name") => `(tactic| (k_here; k_dflt (refine' ld ?k1 ?k2 ?_; (case k1 => k_asm); (case k2 => exact rfl); k_whole)))
theorem slice_eq (x : Str) {a b : Nat} (hab : a ≤ b) (ha : a ≤ x.length) : Txt.slice x (some (a : Int)) (some (b : Int)) = ⟨x.cps.extract a b⟩ := by
  have e : PySem.Builtin.Str.strSliceIndices (some (a : Int)) (some (b : Int)) 1 x.length = PySem.Builtin.Str.strSliceIndices (some (a : Int)) (some ((min b x.length : Nat) : Int)) 1 x.length := by
    have h2 : ¬ ((b : Int) < 0) := by omega
    have h3 : ¬ (((min b x.length : Nat) : Int) < 0) := by omega
    have e2 : min (b : Int) (x.length : Int) = min ((min b x.length : Nat) : Int) (x.length : Int) := by omega
    simp only [PySem.Builtin.Str.strSliceIndices, h2, h3, if_false, e2, show ((1 : Int) > 0) = True from by simp, if_true]
  have hx : x.length = x.cps.size := rfl
  have f := PySem.StrLaws.sliced_plain x (a := a) (b := min b x.length) (by omega) (by omega)
  have g := PySem.StrLaws.strSliceIndices_plain (a := a) (b := min b x.length) (len := x.length) (by omega) (by omega)
  unfold Txt.slice
  rw [e]
  split
  · rename_i h
    rw [g] at h
    simp only [List.length_map, List.length_range, beq_self_eq_true, Bool.true_and, beq_iff_eq] at h
    have h0 : x.length = 0 ∨ (a = 0 ∧ x.length ≤ b) := by omega
    refine Str.ext' ?_
    show x.cps = x.cps.extract a b
    rcases h0 with h0 | ⟨rfl, h0⟩
    · have : x.cps = #[] := Array.eq_empty_of_size_eq_zero (hx ▸ h0)
      rw [this]; simp
    · rw [Array.extract_eq_self_of_le (hx ▸ h0)]
  · refine Str.ext' ?_
    show (List.filterMap (fun i => x.cps[i]?) _).toArray = x.cps.extract a b
    rw [f]
    apply Array.toList_inj.mp
    rw [Array.toList_extract, List.extract_eq_take_drop, List.toList_toArray]
    rw [List.take_eq_take_iff, List.length_drop, Array.length_toList]
    omega
theorem word_of {x text : Str} {pos : Nat} (hpos : pos ≤ text.length) {b : Bool} (h : (Txt.slice text (some (pos : Int)) (some ((pos : Int) + (x.length : Int))) == x) = b) : wordEnd x text pos = if b then ((pos : Int) + (x.length : Int)) else -1 := by
  have e : (pos : Int) + (x.length : Int) = ((pos + x.length : Nat) : Int) := by omega
  rw [e, slice_eq text (Nat.le_add_right _ _) hpos] at h
  unfold wordEnd
  cases b with
  | true => rw [if_pos (by simpa using h), if_pos rfl, e]
  | false => rw [if_neg (by simpa using h), if_neg (by decide)]
theorem end_word {dp un : Nat} {gd : Option (List Code)} {fr : List Env} {s : Shared} {x : Str} {k : Nat} {T : Nat → Nat → Int} {text : Str} {tt tp : Tok} {pos : Nat} {sa ea : Addr} {Q E : Value → Shared → Prop} (O : Old w p loose mean mg mb H0)
    (M : Amb H0 fr s.heap) (hst : StepObj s.heap sa (.word x)) (hsa : H0.objs.size ≤ sa) (R : EndsObj s.heap H0.objs.size T text.length k ea) (ht : text.length ≤ 1000) (hpos : pos ≤ text.length) (hdp : dp + 10 < recursionLimit) (hun : un + 50 < cLine)
    (hx : x.length ≤ 10)
    (hq : Kept s Q fun v _ => ∃ t, v = .int (stepEnd T text (.word x) pos) t) :
    wpAny (model PySem.Challenge.rw_vy0014_01.row.prog w) (ar dp un gd fr) (call (.ref 530) [.ref sa, .ref ea, .str text tt, .int pos tp] []) Q E s := by
  refine wpAny_call ?_
  refine' enterF O M ?ho ?hcd ?hr ?hb ?hl ?_ ?c1 ?c2 ?c3 ?c4
  case ho => k_is
  case hcd => k_is
  case hr => omega
  case hb => exact BindsTo.of_eq rfl
  case hl => exact locs rfl
  case c1 => exact rfl
  case c2 => exact rfl
  case c3 => exact rfl
  case c4 => decide
  intro g L h₁ eL F K1 MG hgn Bw X T'
  have lo0 : ∀ a, H0.objs.size ≤ a → H0.get? a = none := fun a ha => get_none_of_le ha
  have hlen : text.length ≤ 2 ^ 62 := Nat.le_trans ht (by decide)
  have cell : ∀ a o, s.heap.get? a = some o → (∀ es n, o.data ≠ .dict es n) → H0.objs.size ≤ a → h₁.get? a = some o ∧ a ≠ L ∧ g.get? a = none := fun a o e nd l => ⟨K1 _ _ e, eL ▸ Nat.ne_of_lt (Heap.lt_size e), hgn _ (lo0 _ l) (M.notFr e nd)⟩
  have hlen2 : x.length ≤ 2 ^ 62 := Nat.le_trans hx (by decide)
  obtain ⟨t1, t2, n, e1⟩ := hst
  obtain ⟨tl, hvh, hN, Cv, ev, htl⟩ := focus [] F
  have N := hN [(sa, _)] (List.forall_mem_cons.mpr ⟨cell _ _ e1 (fun _ _ e => by cases e) hsa, List.forall_mem_nil _⟩)
  simp only [List.cons_append, List.nil_append] at N
  clear hN
  k_steps
  · (with_reducible rename (_ == x) = true => hb)
    (with_reducible rename Fr _ _ _ _ => F9)
    (with_reducible rename News _ _ _ _ => N9)
    have S9 := Cv.now F9 N9 (fun q hq => by repeat (first | assumption | refine List.Mem.tail _ ?_))
    exact hq _ _ _ ⟨_, congrArg (fun z => Value.int z _) (show (pos : Int) + (x.length : Int) = stepEnd T text _ pos from (word_of hpos hb).symm)⟩ (fun b o e => S9 b o (ev ▸ hideAll_get _ (K1 b o e) (by simp only [List.mem_singleton]; exact eL ▸ Nat.ne_of_lt (Heap.lt_size e))))
  · (with_reducible rename (_ == x) = false => hb)
    (with_reducible rename Fr _ _ _ _ => F9)
    (with_reducible rename News _ _ _ _ => N9)
    have S9 := Cv.now F9 N9 (fun q hq => by repeat (first | assumption | refine List.Mem.tail _ ?_))
    exact hq _ _ _ ⟨_, congrArg (fun z => Value.int z _) (show -1 = stepEnd T text _ pos from (word_of hpos hb).symm)⟩ (fun b o e => S9 b o (ev ▸ hideAll_get _ (K1 b o e) (by simp only [List.mem_singleton]; exact eL ▸ Nat.ne_of_lt (Heap.lt_size e))))
theorem end_both {dp un : Nat} {gd : Option (List Code)} {fr : List Env} {s : Shared} {i j k : Nat} {T : Nat → Nat → Int} {text : Str} {tt tp : Tok} {pos : Nat} {sa ea : Addr} {Q E : Value → Shared → Prop} (O : Old w p loose mean mg mb H0)
    (M : Amb H0 fr s.heap) (hst : StepObj s.heap sa (.both i j)) (hsa : H0.objs.size ≤ sa) (R : EndsObj s.heap H0.objs.size T text.length k ea) (ht : text.length ≤ 1000) (hpos : pos ≤ text.length) (hdp : dp + 10 < recursionLimit) (hun : un + 50 < cLine)
    (hi : i < k) (hj : j < k) (hk : k ≤ 1000) (hT : T i pos ≤ text.length)
    (hq : Kept s Q fun v _ => ∃ t, v = .int (stepEnd T text (.both i j) pos) t) :
    wpAny (model PySem.Challenge.rw_vy0014_01.row.prog w) (ar dp un gd fr) (call (.ref 530) [.ref sa, .ref ea, .str text tt, .int pos tp] []) Q E s := by
  refine wpAny_call ?_
  refine' enterF O M ?ho ?hcd ?hr ?hb ?hl ?_ ?c1 ?c2 ?c3 ?c4
  case ho => k_is
  case hcd => k_is
  case hr => omega
  case hb => exact BindsTo.of_eq rfl
  case hl => exact locs rfl
  case c1 => exact rfl
  case c2 => exact rfl
  case c3 => exact rfl
  case c4 => decide
  intro g L h₁ eL F K1 MG hgn Bw X T'
  have lo0 : ∀ a, H0.objs.size ≤ a → H0.get? a = none := fun a ha => get_none_of_le ha
  have hlen : text.length ≤ 2 ^ 62 := Nat.le_trans ht (by decide)
  have cell : ∀ a o, s.heap.get? a = some o → (∀ es n, o.data ≠ .dict es n) → H0.objs.size ≤ a → h₁.get? a = some o ∧ a ≠ L ∧ g.get? a = none := fun a o e nd l => ⟨K1 _ _ e, eL ▸ Nat.ne_of_lt (Heap.lt_size e), hgn _ (lo0 _ l) (M.notFr e nd)⟩
  obtain ⟨t1, t2, t3, n, e1⟩ := hst
  obtain ⟨lea, rs, cap, e2, hrs, hrow⟩ := R
  obtain ⟨ri, g1, x1⟩ := endsGet (hrs ▸ hi)
  obtain ⟨li, vi, ci, e3, lvi, hvi⟩ := hrow _ _ g1
  obtain ⟨u1, y1⟩ := rowGet hvi (j := (pos : Int)) (Int.natCast_nonneg _) (by omega)
  replace y1 : vi[((pos : Nat) : Int).toNat]? = some (Value.int (T i pos) u1) := y1
  obtain ⟨rj, g2, x2⟩ := endsGet (hrs ▸ hj)
  obtain ⟨lj, vj, cj, e4, lvj, hvj⟩ := hrow _ _ g2
  obtain ⟨tl, hvh, hN, Cv, ev, htl⟩ := focus [] F
  have N := hN [(sa, _), (ea, _), (ri, _), (rj, _)] (List.forall_mem_cons.mpr ⟨cell _ _ e1 (fun _ _ e => by cases e) hsa, List.forall_mem_cons.mpr ⟨cell _ _ e2 (fun _ _ e => by cases e) lea, List.forall_mem_cons.mpr ⟨cell _ _ e3 (fun _ _ e => by cases e) li, List.forall_mem_cons.mpr ⟨cell _ _ e4 (fun _ _ e => by cases e) lj, List.forall_mem_nil _⟩⟩⟩⟩)
  simp only [List.cons_append, List.nil_append] at N
  clear hN
  by_cases h0 : 0 ≤ T i pos
  · obtain ⟨u2, y2⟩ := rowGet hvj (j := T i pos) h0 hT
    k_steps
    (with_reducible rename Fr _ _ _ _ => F9)
    (with_reducible rename News _ _ _ _ => N9)
    have S9 := Cv.now F9 N9 (fun q hq => by repeat (first | assumption | refine List.Mem.tail _ ?_))
    exact hq _ _ _ ⟨_, congrArg (fun z => Value.int z _) (show T j (T i pos).toNat = stepEnd T text _ pos from (if_pos h0).symm)⟩ (fun b o e => S9 b o (ev ▸ hideAll_get _ (K1 b o e) (by simp only [List.mem_singleton]; exact eL ▸ Nat.ne_of_lt (Heap.lt_size e))))
  · k_steps
    (with_reducible rename Fr _ _ _ _ => F9)
    (with_reducible rename News _ _ _ _ => N9)
    have S9 := Cv.now F9 N9 (fun q hq => by repeat (first | assumption | refine List.Mem.tail _ ?_))
    exact hq _ _ _ ⟨_, congrArg (fun z => Value.int z _) (show -1 = stepEnd T text _ pos from (if_neg h0).symm)⟩ (fun b o e => S9 b o (ev ▸ hideAll_get _ (K1 b o e) (by simp only [List.mem_singleton]; exact eL ▸ Nat.ne_of_lt (Heap.lt_size e))))
theorem end_either {dp un : Nat} {gd : Option (List Code)} {fr : List Env} {s : Shared} {i j k : Nat} {T : Nat → Nat → Int} {text : Str} {tt tp : Tok} {pos : Nat} {sa ea : Addr} {Q E : Value → Shared → Prop} (O : Old w p loose mean mg mb H0)
    (M : Amb H0 fr s.heap) (hst : StepObj s.heap sa (.either i j)) (hsa : H0.objs.size ≤ sa) (R : EndsObj s.heap H0.objs.size T text.length k ea) (ht : text.length ≤ 1000) (hpos : pos ≤ text.length) (hdp : dp + 10 < recursionLimit) (hun : un + 50 < cLine)
    (hi : i < k) (hj : j < k) (hk : k ≤ 1000)
    (hq : Kept s Q fun v _ => ∃ t, v = .int (stepEnd T text (.either i j) pos) t) :
    wpAny (model PySem.Challenge.rw_vy0014_01.row.prog w) (ar dp un gd fr) (call (.ref 530) [.ref sa, .ref ea, .str text tt, .int pos tp] []) Q E s := by
  refine wpAny_call ?_
  refine' enterF O M ?ho ?hcd ?hr ?hb ?hl ?_ ?c1 ?c2 ?c3 ?c4
  case ho => k_is
  case hcd => k_is
  case hr => omega
  case hb => exact BindsTo.of_eq rfl
  case hl => exact locs rfl
  case c1 => exact rfl
  case c2 => exact rfl
  case c3 => exact rfl
  case c4 => decide
  intro g L h₁ eL F K1 MG hgn Bw X T'
  have lo0 : ∀ a, H0.objs.size ≤ a → H0.get? a = none := fun a ha => get_none_of_le ha
  have hlen : text.length ≤ 2 ^ 62 := Nat.le_trans ht (by decide)
  have cell : ∀ a o, s.heap.get? a = some o → (∀ es n, o.data ≠ .dict es n) → H0.objs.size ≤ a → h₁.get? a = some o ∧ a ≠ L ∧ g.get? a = none := fun a o e nd l => ⟨K1 _ _ e, eL ▸ Nat.ne_of_lt (Heap.lt_size e), hgn _ (lo0 _ l) (M.notFr e nd)⟩
  obtain ⟨t1, t2, t3, n, e1⟩ := hst
  obtain ⟨lea, rs, cap, e2, hrs, hrow⟩ := R
  obtain ⟨ri, g1, x1⟩ := endsGet (hrs ▸ hi)
  obtain ⟨li, vi, ci, e3, lvi, hvi⟩ := hrow _ _ g1
  obtain ⟨u1, y1⟩ := rowGet hvi (j := (pos : Int)) (Int.natCast_nonneg _) (by omega)
  replace y1 : vi[((pos : Nat) : Int).toNat]? = some (Value.int (T i pos) u1) := y1
  obtain ⟨rj, g2, x2⟩ := endsGet (hrs ▸ hj)
  obtain ⟨lj, vj, cj, e4, lvj, hvj⟩ := hrow _ _ g2
  obtain ⟨tl, hvh, hN, Cv, ev, htl⟩ := focus [] F
  have N := hN [(sa, _), (ea, _), (ri, _), (rj, _)] (List.forall_mem_cons.mpr ⟨cell _ _ e1 (fun _ _ e => by cases e) hsa, List.forall_mem_cons.mpr ⟨cell _ _ e2 (fun _ _ e => by cases e) lea, List.forall_mem_cons.mpr ⟨cell _ _ e3 (fun _ _ e => by cases e) li, List.forall_mem_cons.mpr ⟨cell _ _ e4 (fun _ _ e => by cases e) lj, List.forall_mem_nil _⟩⟩⟩⟩)
  simp only [List.cons_append, List.nil_append] at N
  clear hN
  obtain ⟨u2, y2⟩ := rowGet hvj (j := (pos : Int)) (Int.natCast_nonneg _) (by omega)
  replace y2 : vj[((pos : Nat) : Int).toNat]? = some (Value.int (T j pos) u2) := y2
  by_cases h0 : 0 ≤ T i pos
  · k_steps
    (with_reducible rename Fr _ _ _ _ => F9)
    (with_reducible rename News _ _ _ _ => N9)
    have S9 := Cv.now F9 N9 (fun q hq => by repeat (first | assumption | refine List.Mem.tail _ ?_))
    exact hq _ _ _ ⟨_, congrArg (fun z => Value.int z _) (show T i pos = stepEnd T text _ pos from (if_pos h0).symm)⟩ (fun b o e => S9 b o (ev ▸ hideAll_get _ (K1 b o e) (by simp only [List.mem_singleton]; exact eL ▸ Nat.ne_of_lt (Heap.lt_size e))))
  · k_steps
    (with_reducible rename Fr _ _ _ _ => F9)
    (with_reducible rename News _ _ _ _ => N9)
    have S9 := Cv.now F9 N9 (fun q hq => by repeat (first | assumption | refine List.Mem.tail _ ?_))
    exact hq _ _ _ ⟨_, congrArg (fun z => Value.int z _) (show T j pos = stepEnd T text _ pos from (if_neg h0).symm)⟩ (fun b o e => S9 b o (ev ▸ hideAll_get _ (K1 b o e) (by simp only [List.mem_singleton]; exact eL ▸ Nat.ne_of_lt (Heap.lt_size e))))
theorem end_look {dp un : Nat} {gd : Option (List Code)} {fr : List Env} {s : Shared} {i k : Nat} {T : Nat → Nat → Int} {text : Str} {tt tp : Tok} {pos : Nat} {sa ea : Addr} {Q E : Value → Shared → Prop} (O : Old w p loose mean mg mb H0)
    (M : Amb H0 fr s.heap) (hst : StepObj s.heap sa (.look i)) (hsa : H0.objs.size ≤ sa) (R : EndsObj s.heap H0.objs.size T text.length k ea) (ht : text.length ≤ 1000) (hpos : pos ≤ text.length) (hdp : dp + 10 < recursionLimit) (hun : un + 50 < cLine)
    (hi : i < k) (hk : k ≤ 1000)
    (hq : Kept s Q fun v _ => ∃ t, v = .int (stepEnd T text (.look i) pos) t) :
    wpAny (model PySem.Challenge.rw_vy0014_01.row.prog w) (ar dp un gd fr) (call (.ref 530) [.ref sa, .ref ea, .str text tt, .int pos tp] []) Q E s := by
  refine wpAny_call ?_
  refine' enterF O M ?ho ?hcd ?hr ?hb ?hl ?_ ?c1 ?c2 ?c3 ?c4
  case ho => k_is
  case hcd => k_is
  case hr => omega
  case hb => exact BindsTo.of_eq rfl
  case hl => exact locs rfl
  case c1 => exact rfl
  case c2 => exact rfl
  case c3 => exact rfl
  case c4 => decide
  intro g L h₁ eL F K1 MG hgn Bw X T'
  have lo0 : ∀ a, H0.objs.size ≤ a → H0.get? a = none := fun a ha => get_none_of_le ha
  have hlen : text.length ≤ 2 ^ 62 := Nat.le_trans ht (by decide)
  have cell : ∀ a o, s.heap.get? a = some o → (∀ es n, o.data ≠ .dict es n) → H0.objs.size ≤ a → h₁.get? a = some o ∧ a ≠ L ∧ g.get? a = none := fun a o e nd l => ⟨K1 _ _ e, eL ▸ Nat.ne_of_lt (Heap.lt_size e), hgn _ (lo0 _ l) (M.notFr e nd)⟩
  obtain ⟨t1, t2, n, e1⟩ := hst
  obtain ⟨lea, rs, cap, e2, hrs, hrow⟩ := R
  obtain ⟨ri, g1, x1⟩ := endsGet (hrs ▸ hi)
  obtain ⟨li, vi, ci, e3, lvi, hvi⟩ := hrow _ _ g1
  obtain ⟨u1, y1⟩ := rowGet hvi (j := (pos : Int)) (Int.natCast_nonneg _) (by omega)
  replace y1 : vi[((pos : Nat) : Int).toNat]? = some (Value.int (T i pos) u1) := y1
  obtain ⟨tl, hvh, hN, Cv, ev, htl⟩ := focus [] F
  have N := hN [(sa, _), (ea, _), (ri, _)] (List.forall_mem_cons.mpr ⟨cell _ _ e1 (fun _ _ e => by cases e) hsa, List.forall_mem_cons.mpr ⟨cell _ _ e2 (fun _ _ e => by cases e) lea, List.forall_mem_cons.mpr ⟨cell _ _ e3 (fun _ _ e => by cases e) li, List.forall_mem_nil _⟩⟩⟩)
  simp only [List.cons_append, List.nil_append] at N
  clear hN
  by_cases h0 : 0 ≤ T i pos
  · k_steps
    (with_reducible rename Fr _ _ _ _ => F9)
    (with_reducible rename News _ _ _ _ => N9)
    have S9 := Cv.now F9 N9 (fun q hq => by repeat (first | assumption | refine List.Mem.tail _ ?_))
    exact hq _ _ _ ⟨_, congrArg (fun z => Value.int z _) (show (pos : Int) = stepEnd T text _ pos from (if_pos h0).symm)⟩ (fun b o e => S9 b o (ev ▸ hideAll_get _ (K1 b o e) (by simp only [List.mem_singleton]; exact eL ▸ Nat.ne_of_lt (Heap.lt_size e))))
  · k_steps
    (with_reducible rename Fr _ _ _ _ => F9)
    (with_reducible rename News _ _ _ _ => N9)
    have S9 := Cv.now F9 N9 (fun q hq => by repeat (first | assumption | refine List.Mem.tail _ ?_))
    exact hq _ _ _ ⟨_, congrArg (fun z => Value.int z _) (show -1 = stepEnd T text _ pos from (if_neg h0).symm)⟩ (fun b o e => S9 b o (ev ▸ hideAll_get _ (K1 b o e) (by simp only [List.mem_singleton]; exact eL ▸ Nat.ne_of_lt (Heap.lt_size e))))
theorem end_nay {dp un : Nat} {gd : Option (List Code)} {fr : List Env} {s : Shared} {i k : Nat} {T : Nat → Nat → Int} {text : Str} {tt tp : Tok} {pos : Nat} {sa ea : Addr} {Q E : Value → Shared → Prop} (O : Old w p loose mean mg mb H0)
    (M : Amb H0 fr s.heap) (hst : StepObj s.heap sa (.nay i)) (hsa : H0.objs.size ≤ sa) (R : EndsObj s.heap H0.objs.size T text.length k ea) (ht : text.length ≤ 1000) (hpos : pos ≤ text.length) (hdp : dp + 10 < recursionLimit) (hun : un + 50 < cLine)
    (hi : i < k) (hk : k ≤ 1000)
    (hq : Kept s Q fun v _ => ∃ t, v = .int (stepEnd T text (.nay i) pos) t) :
    wpAny (model PySem.Challenge.rw_vy0014_01.row.prog w) (ar dp un gd fr) (call (.ref 530) [.ref sa, .ref ea, .str text tt, .int pos tp] []) Q E s := by
  refine wpAny_call ?_
  refine' enterF O M ?ho ?hcd ?hr ?hb ?hl ?_ ?c1 ?c2 ?c3 ?c4
  case ho => k_is
  case hcd => k_is
  case hr => omega
  case hb => exact BindsTo.of_eq rfl
  case hl => exact locs rfl
  case c1 => exact rfl
  case c2 => exact rfl
  case c3 => exact rfl
  case c4 => decide
  intro g L h₁ eL F K1 MG hgn Bw X T'
  have lo0 : ∀ a, H0.objs.size ≤ a → H0.get? a = none := fun a ha => get_none_of_le ha
  have hlen : text.length ≤ 2 ^ 62 := Nat.le_trans ht (by decide)
  have cell : ∀ a o, s.heap.get? a = some o → (∀ es n, o.data ≠ .dict es n) → H0.objs.size ≤ a → h₁.get? a = some o ∧ a ≠ L ∧ g.get? a = none := fun a o e nd l => ⟨K1 _ _ e, eL ▸ Nat.ne_of_lt (Heap.lt_size e), hgn _ (lo0 _ l) (M.notFr e nd)⟩
  obtain ⟨t1, t2, n, e1⟩ := hst
  obtain ⟨lea, rs, cap, e2, hrs, hrow⟩ := R
  obtain ⟨ri, g1, x1⟩ := endsGet (hrs ▸ hi)
  obtain ⟨li, vi, ci, e3, lvi, hvi⟩ := hrow _ _ g1
  obtain ⟨u1, y1⟩ := rowGet hvi (j := (pos : Int)) (Int.natCast_nonneg _) (by omega)
  replace y1 : vi[((pos : Nat) : Int).toNat]? = some (Value.int (T i pos) u1) := y1
  obtain ⟨tl, hvh, hN, Cv, ev, htl⟩ := focus [] F
  have N := hN [(sa, _), (ea, _), (ri, _)] (List.forall_mem_cons.mpr ⟨cell _ _ e1 (fun _ _ e => by cases e) hsa, List.forall_mem_cons.mpr ⟨cell _ _ e2 (fun _ _ e => by cases e) lea, List.forall_mem_cons.mpr ⟨cell _ _ e3 (fun _ _ e => by cases e) li, List.forall_mem_nil _⟩⟩⟩)
  simp only [List.cons_append, List.nil_append] at N
  clear hN
  by_cases h0 : 0 ≤ T i pos
  · k_steps
    (with_reducible rename Fr _ _ _ _ => F9)
    (with_reducible rename News _ _ _ _ => N9)
    have S9 := Cv.now F9 N9 (fun q hq => by repeat (first | assumption | refine List.Mem.tail _ ?_))
    exact hq _ _ _ ⟨_, congrArg (fun z => Value.int z _) (show -1 = stepEnd T text _ pos from (if_pos h0).symm)⟩ (fun b o e => S9 b o (ev ▸ hideAll_get _ (K1 b o e) (by simp only [List.mem_singleton]; exact eL ▸ Nat.ne_of_lt (Heap.lt_size e))))
  · k_steps
    (with_reducible rename Fr _ _ _ _ => F9)
    (with_reducible rename News _ _ _ _ => N9)
    have S9 := Cv.now F9 N9 (fun q hq => by repeat (first | assumption | refine List.Mem.tail _ ?_))
    exact hq _ _ _ ⟨_, congrArg (fun z => Value.int z _) (show (pos : Int) = stepEnd T text _ pos from (if_neg h0).symm)⟩ (fun b o e => S9 b o (ev ▸ hideAll_get _ (K1 b o e) (by simp only [List.mem_singleton]; exact eL ▸ Nat.ne_of_lt (Heap.lt_size e))))
end Mine
end
section
open PySem PySem.W PyProof.Rows PySem.Calls PySem.Spec Builtin Builtin.ObjectAttr
set_option maxRecDepth 100000
set_option maxHeartbeats 8000000
namespace Mine
local macro_rules | `(tactic| walk_at "0") => `(tactic| skip)
local macro_rules | `(tactic| walk_at "0") => `(tactic| skip)
local macro_rules | `(tactic| walk_at "0") => `(tactic| skip)
local macro_rules | `(tactic| walk_at "0") => `(tactic| skip)
local macro_rules | `(tactic| walk_at "0") => `(tactic| skip)
local macro_rules | `(tactic| walk_at "0") => `(tactic| skip)
local macro_rules | `(tactic| walk_at "0") => `(tactic| skip)
local macro_rules | `(tactic| walk_at "0") => `(tactic| skip)
local macro_rules | `(tactic| walk_at "0") => `(tactic| skip)
local macro_rules | `(tactic| walk_at "0") => `(tactic| skip)
local macro_rules | `(tactic| walk_at "0") => `(tactic| skip)
local macro_rules | `(tactic| walk_at "0") => `(tactic| skip)
local macro_rules | `(tactic| walk_at "0") => `(tactic| skip)
local macro_rules | `(tactic| walk_at "0") => `(tactic| skip)
local macro_rules | `(tactic| walk_at "0") => `(tactic| skip)
local macro_rules | `(tactic| walk_at "0") => `(tactic| skip)
local macro_rules | `(tactic| walk_at "0") => `(tactic| skip)
local macro_rules | `(tactic| walk_at "0") => `(tactic| skip)
local macro_rules | `(tactic| walk_at "0") => `(tactic| skip)
local macro_rules | `(tactic| walk_at "0") => `(tactic| skip)
local macro_rules | `(tactic| walk_at "0") => `(tactic| skip)
local macro_rules | `(tactic| walk_at "0") => `(tactic| skip)
local macro_rules | `(tactic| walk_at "0") => `(tactic| skip)
local macro_rules | `(tactic| walk_at "0") => `(tactic| skip)
local macro_rules | `(tactic| walk_at "0") => `(tactic| skip)
local macro_rules | `(tactic| walk_at "0") => `(tactic| skip)
local macro_rules | `(tactic| walk_at "0") => `(tactic| skip)
local macro_rules | `(tactic| walk_at "0") => `(tactic| skip)
local macro_rules | `(tactic| walk_at "0") => `(tactic| skip)
local macro_rules | `(tactic| walk_at "0") => `(tactic| skip)
local macro_rules | `(tactic| walk_at "0") => `(tactic| skip)
local macro_rules | `(tactic| walk_at "0") => `(tactic| skip)
local macro_rules | `(tactic| walk_at "0") => `(tactic| skip)
local macro_rules | `(tactic| walk_at "0") => `(tactic| skip)
local macro_rules | `(tactic| walk_at "0") => `(tactic| skip)
local macro_rules | `(tactic| walk_at "0") => `(tactic| skip)
local macro_rules | `(tactic| walk_at "0") => `(tactic| skip)
local macro_rules | `(tactic| walk_at "0") => `(tactic| skip)
local macro_rules | `(tactic| walk_at "0") => `(tactic| skip)
local macro_rules | `(tactic| walk_at "0") => `(tactic| skip)
theorem rs37 : True := by
  w_top off
  trivial
local macro_rules | `(tactic| k_room) => `(tactic| ktr_room)
local macro_rules | `(tactic| k_all) => `(tactic| first | assumption | (intro q9 hq9; (try dsimp only); first | exact allLt_ne (by assumption) (by omega) q9 hq9 | exact lt_ne (by assumption) (by omega) q9 hq9))
local macro_rules | `(tactic| walk_at "subscriptTail") => `(tactic| (k_here; (with_reducible show wpAny _ _ (subscriptTail _ _ (Value.ref _) (Value.int _ _)) _ _ _); k_dflt (refine' kim_list ?N ?m ?hc ?hd ?h0 ?h1 ?hx ?_; (case N => k_asm); (case m => k_mem); (case hc => rfl); (case hd => rfl); (case h0 => first | assumption | omega); (case h1 => omega); (case hx => assumption); k_whole)))
local macro_rules | `(tactic| walk_at "subscriptTail Subscript") => `(tactic| (k_here; k_dflt (refine kba_turn (value' := PySem.Expr.Name (PySem.Str.ofString "_") ⟨0, 0, 0, 0⟩) (fun _ => rfl) ?_)))
local macro_rules | `(tactic| walk_at "subscriptTail Name Name ref int") => `(tactic| (k_here; (with_reducible show wpAny _ _ (subscriptTail _ _ (Value.ref _) (Value.int _ _)) _ _ _); k_dflt (refine' kim_list ?N ?m ?hc ?hd ?h0 ?h1 ?hx ?_; (case N => k_asm); (case m => k_mem); (case hc => rfl); (case hd => rfl); (case h0 => first | assumption | omega); (case h1 => omega); (case hx => assumption); k_whole)))
local macro_rules | `(tactic| walk_at "subscriptTail") => `(tactic| (k_here; (fail_if_success (with_reducible show wpAny _ _ (subscriptTail (PySem.Expr.Name _ _) _ _ _) _ _ _)); k_dflt (refine kba_turn (value' := PySem.Expr.Name (PySem.Str.ofString "_") ⟨0, 0, 0, 0⟩) (fun _ => rfl) ?_)))
local macro_rules | `(tactic| walk_at "subscriptTail") => `(tactic| (k_here; (with_reducible show wpAny _ _ (subscriptTail (PySem.Expr.Name _ _) (PySem.Expr.Constant _ _ _) (Value.ref _) (Value.int _ _)) _ _ _); k_dflt (refine' kim_tup ?N ?m ?hc ?hd ?hlo ?hhi ?hj ?hx ?_; (case N => k_asm); (case m => k_mem); (case hc => exact rfl); (case hd => exact rfl); (case hlo => decide); (case hhi => decide); (case hj => exact rfl); (case hx => exact rfl); k_whole)))
local macro_rules | `(tactic| walk_at "eval Name") => `(tactic| (k_here; k_dflt (refine' ld ?k1 ?k2 ?_; (case k1 => k_asm); (case k2 => exact rfl); k_whole)))
variable {w : World} {p : Program} {loose : List Str} {mean : ExcName → Option Value} {mg mb : Str → Option Value} {H0 : Heap}
local macro_rules | `(tactic| walk_at "exec While BoolOp") => `(tactic| (k_here; (with_reducible show wpAny _ _ (exec (Stmt.While _ _ _ _) _) _ _ _); k_dflt (refine whl_hold ?_)))
local macro_rules | `(tactic| walk_at "exec While BoolOp cons nil") => `(tactic| (k_here; (with_reducible show wpAny _ _ (exec (Stmt.While _ _ _ _) _) _ _ _); k_dflt (refine whl_hold ?_)))
theorem ne_b {prog : Program} {A : Around} {E : Value → Shared → Prop} {s : Shared} {a c : Int} {t u : Tok} {b : Bool} {Q : Value → Shared → Prop} (hb : b = (a != c)) (h : Q (.bool b) s) : wpAny (model prog w) A (compareOp .NotEq (.int a t) (.int c u)) Q E s := by
  subst hb; exact PyProof.Rows.ne_int h
local macro_rules | `(tactic| walk_at "compareOp NotEq int int") => `(tactic| (k_here; (with_reducible show wpAny _ _ (compareOp CmpOp.NotEq (Value.int _ _) (Value.int _ _)) _ _ _); k_dflt (refine' ne_b ?hb ?_; (case hb => assumption); k_whole)))
theorem frK {h : Heap} {ps : List (Str × Value)} {m₀ m₁ : Str → Option Value} {g : Heap} {L : Addr} (h1 : ∀ p ∈ ps, m₁ p.1 = some p.2) (h2 : ∀ z, (∀ p ∈ ps, z ≠ p.1) → m₁ z = m₀ z) (F : Fr g L h m₁) : Fr g L h (kstB m₀ ps) := by
  have em : kstB m₀ ps = m₁ := by
    funext y
    exact kstB_eq h1 fun hn => (h2 y hn).symm
  rw [em]; exact F
theorem frE {h : Heap} {m₁ m₀ : Str → Option Value} {x y : Value} {g : Heap} {L : Addr} (F : Fr g L h m₁) (h1 : m₁ (Str.ofString "pos") = some x) (h1' : m₁ (Str.ofString "count") = some y)
    (h2 : ∀ z, z ≠ Str.ofString "pos" → z ≠ Str.ofString "count" → m₁ z = m₀ z) : Fr g L h (kstB m₀ [(Str.ofString "pos", x), (Str.ofString "count", y)]) :=
  frK (List.forall_mem_cons.mpr ⟨h1, List.forall_mem_cons.mpr ⟨h1', List.forall_mem_nil _⟩⟩) (fun z a => h2 z (a (Str.ofString "pos", x) (.head _)) (a (Str.ofString "count", y) (.tail _ (.head _)))) F
theorem end_times {dp un : Nat} {gd : Option (List Code)} {fr : List Env} {s : Shared} {i least k : Nat} {most : Int} {T : Nat → Nat → Int} {text : Str} {tt tp : Tok} {pos : Nat} {sa ea : Addr} {Q E : Value → Shared → Prop} (O : Old w p loose mean mg mb H0)
    (M : Amb H0 fr s.heap) (hst : StepObj s.heap sa (.times i least most)) (hsa : H0.objs.size ≤ sa) (R : EndsObj s.heap H0.objs.size T text.length k ea) (ht : text.length ≤ 1000) (hpos : pos ≤ text.length) (hdp : dp + 10 < recursionLimit) (hun : un + 50 < cLine)
    (hi : i < k) (hk : k ≤ 1000) (hT : ∀ q, q ≤ text.length → T i q = -1 ∨ ((q : Int) < T i q ∧ T i q ≤ text.length))
    (hq : Kept s Q fun v _ => ∃ t, v = .int (stepEnd T text (.times i least most) pos) t) :
    wpAny (model PySem.Challenge.rw_vy0014_01.row.prog w) (ar dp un gd fr) (call (.ref 530) [.ref sa, .ref ea, .str text tt, .int pos tp] []) Q E s := by
  refine wpAny_call ?_
  refine' enterF O M ?ho ?hcd ?hr ?hb ?hl ?_ ?c1 ?c2 ?c3 ?c4
  case ho => k_is
  case hcd => k_is
  case hr => omega
  case hb => exact BindsTo.of_eq rfl
  case hl => exact locs rfl
  case c1 => exact rfl
  case c2 => exact rfl
  case c3 => exact rfl
  case c4 => decide
  intro g L h₁ eL F K1 MG hgn Bw X T'
  have lo0 : ∀ a, H0.objs.size ≤ a → H0.get? a = none := fun a ha => get_none_of_le ha
  have hlen : text.length ≤ 2 ^ 62 := Nat.le_trans ht (by decide)
  have cell : ∀ a o, s.heap.get? a = some o → (∀ es n, o.data ≠ .dict es n) → H0.objs.size ≤ a → h₁.get? a = some o ∧ a ≠ L ∧ g.get? a = none := fun a o e nd l => ⟨K1 _ _ e, eL ▸ Nat.ne_of_lt (Heap.lt_size e), hgn _ (lo0 _ l) (M.notFr e nd)⟩
  obtain ⟨t1, t2, t3, t4, n, e1⟩ := hst
  obtain ⟨lea, rs, cap, e2, hrs, hrow⟩ := R
  obtain ⟨ri, g1, x1⟩ := endsGet (hrs ▸ hi)
  obtain ⟨li, vi, ci, e3, lvi, hvi⟩ := hrow _ _ g1
  obtain ⟨u1, y1⟩ := rowGet hvi (j := (pos : Int)) (Int.natCast_nonneg _) (by omega)
  replace y1 : vi[((pos : Nat) : Int).toNat]? = some (Value.int (T i pos) u1) := y1
  obtain ⟨tl, hvh, hN, Cv, ev, htl⟩ := focus [] F
  have N := hN [(sa, _), (ea, _), (ri, _)] (List.forall_mem_cons.mpr ⟨cell _ _ e1 (fun _ _ e => by cases e) hsa, List.forall_mem_cons.mpr ⟨cell _ _ e2 (fun _ _ e => by cases e) lea, List.forall_mem_cons.mpr ⟨cell _ _ e3 (fun _ _ e => by cases e) li, List.forall_mem_nil _⟩⟩⟩)
  simp only [List.cons_append, List.nil_append] at N
  clear hN
  k_steps
  (with_reducible rename Fr _ _ _ _ => F9)
  (with_reducible rename News _ _ _ _ => N9)
  have S9 := Cv.now F9 N9 (fun q hq => by repeat (first | assumption | refine List.Mem.tail _ ?_))
  have K9 : s.heap.StaysIn _ := fun b o e => S9 b o (ev ▸ hideAll_get _ (K1 b o e) (by simp only [List.mem_singleton]; exact eL ▸ Nat.ne_of_lt (Heap.lt_size e)))
  refine whl_loop (m₀ := _) F9
    (fun m₀ f hh _ => ∃ (q c : Nat) (t t' : Tok) (dn : List Nat), q ≤ text.length ∧ pos + c ≤ q ∧ f = text.length - q ∧ dn.length = c ∧
      runs (T i) most (text.length + 1) 0 pos = (dn ++ (runs (T i) most (text.length + 1 - c) c q).1, (runs (T i) most (text.length + 1 - c) c q).2) ∧
      Fr g L hh (kstB m₀ [(Str.ofString "pos", .int (q : Int) t), (Str.ofString "count", .int (c : Int) t')]) ∧ s.heap.StaysIn hh)
    (fun m₀ hh _ => ∃ (q c : Nat) (t t' : Tok) (dn : List Nat), q ≤ text.length ∧ dn.length = c ∧ runs (T i) most (text.length + 1) 0 pos = (dn, q) ∧
      Fr g L hh (kstB m₀ [(Str.ofString "pos", .int (q : Int) t), (Str.ofString "count", .int (c : Int) t')]) ∧ s.heap.StaysIn hh)
    (text.length - pos) ?hE ?h0 ?turn ?exit
  case hE => passes_own
  case h0 => exact ⟨pos, 0, tp, _, [], hpos, Nat.le_refl _, rfl, rfl, rfl, frE F9 rfl rfl (fun z _ _ => rfl), K9⟩
  case exit =>
    rintro hh tk ⟨q, c, t, t', dn, hq1, hdn, hrun, F4, K4⟩
    have cell4 : ∀ a o, s.heap.get? a = some o → (∀ es n, o.data ≠ .dict es n) → H0.objs.size ≤ a → hh.get? a = some o ∧ a ≠ L ∧ g.get? a = none := fun a o e nd l => ⟨K4 _ _ e, eL ▸ Nat.ne_of_lt (Heap.lt_size e), hgn _ (lo0 _ l) (M.notFr e nd)⟩
    obtain ⟨tl4, hvh4, hN4, Cv4, ev4, htl4⟩ := focus [] F4
    have N4 := hN4 [(sa, _), (ea, _), (ri, _)] (List.forall_mem_cons.mpr ⟨cell4 _ _ e1 (fun _ _ e => by cases e) hsa, List.forall_mem_cons.mpr ⟨cell4 _ _ e2 (fun _ _ e => by cases e) lea, List.forall_mem_cons.mpr ⟨cell4 _ _ e3 (fun _ _ e => by cases e) li, List.forall_mem_nil _⟩⟩⟩)
    simp only [List.cons_append, List.nil_append] at N4
    clear hN4 F9 N9
    have hv : stepEnd T text (.times i least most) pos = if dn.length ≥ least then (q : Int) else -1 := by show (if _ then _ else _) = _; rw [hrun]
    show wpAny _ _ _ _ _ _
    by_cases hge : (c : Int) ≥ (least : Int)
    · k_steps
      (with_reducible rename Fr _ _ _ _ => F8)
      (with_reducible rename News _ _ _ _ => N8)
      have S8 := Cv4.now F8 N8 (fun q hq => by repeat (first | assumption | refine List.Mem.tail _ ?_))
      have K8 : s.heap.StaysIn _ := fun b o e => S8 b o (ev4 ▸ hideAll_get _ (K4 b o e) (by simp only [List.mem_singleton]; exact eL ▸ Nat.ne_of_lt (Heap.lt_size e)))
      exact hq _ _ _ ⟨_, congrArg (fun z => Value.int z _) (show (q : Int) = stepEnd T text _ pos from by rw [hv, if_pos (by omega)])⟩ K8
    · k_steps
      (with_reducible rename Fr _ _ _ _ => F8)
      (with_reducible rename News _ _ _ _ => N8)
      have S8 := Cv4.now F8 N8 (fun q hq => by repeat (first | assumption | refine List.Mem.tail _ ?_))
      have K8 : s.heap.StaysIn _ := fun b o e => S8 b o (ev4 ▸ hideAll_get _ (K4 b o e) (by simp only [List.mem_singleton]; exact eL ▸ Nat.ne_of_lt (Heap.lt_size e)))
      exact hq _ _ _ ⟨_, congrArg (fun z => Value.int z _) (show (-1 : Int) = stepEnd T text _ pos from by rw [hv, if_neg (by omega)])⟩ K8
  case turn =>
    rintro f hh tk ⟨q, c, t, t', dn, hq1, hq2, ef, hdn, hrun, F4, K4⟩
    obtain ⟨u1, y1⟩ := rowGet hvi (j := (q : Int)) (Int.natCast_nonneg _) (by omega)
    replace y1 : vi[((q : Nat) : Int).toNat]? = some (Value.int (T i q) u1) := y1
    have hgr := hT q hq1
    have cell4 : ∀ a o, s.heap.get? a = some o → (∀ es n, o.data ≠ .dict es n) → H0.objs.size ≤ a → hh.get? a = some o ∧ a ≠ L ∧ g.get? a = none := fun a o e nd l => ⟨K4 _ _ e, eL ▸ Nat.ne_of_lt (Heap.lt_size e), hgn _ (lo0 _ l) (M.notFr e nd)⟩
    obtain ⟨tl4, hvh4, hN4, Cv4, ev4, htl4⟩ := focus [] F4
    have N4 := hN4 [(sa, _), (ea, _), (ri, _)] (List.forall_mem_cons.mpr ⟨cell4 _ _ e1 (fun _ _ e => by cases e) hsa, List.forall_mem_cons.mpr ⟨cell4 _ _ e2 (fun _ _ e => by cases e) lea, List.forall_mem_cons.mpr ⟨cell4 _ _ e3 (fun _ _ e => by cases e) li, List.forall_mem_nil _⟩⟩⟩)
    simp only [List.cons_append, List.nil_append] at N4
    clear hN4 F9 N9
    by_cases hcm : (c : Int) = most
    · have hb9 : false = ((c : Int) != most) := by rw [hcm]; simp
      k_steps
      (with_reducible rename Fr _ _ _ _ => F8)
      (with_reducible rename News _ _ _ _ => N8)
      have S8 := Cv4.now F8 N8 (fun q hq => by repeat (first | assumption | refine List.Mem.tail _ ?_))
      have K8 : s.heap.StaysIn _ := fun b o e => S8 b o (ev4 ▸ hideAll_get _ (K4 b o e) (by simp only [List.mem_singleton]; exact eL ▸ Nat.ne_of_lt (Heap.lt_size e)))
      refine hold_of ?_
      exact ⟨_, _, rfl, q, c, t, t', dn, hq1, hdn, by rw [hrun, runs_zero (by omega)]; simp, F8, K8⟩
    have hb9 : true = ((c : Int) != most) := by simp [hcm]
    have ex : 0 ≤ T i q → T i q = (((T i q).toNat : Nat) : Int) := by omega
    by_cases h0 : 0 ≤ T i q
    · k_steps
      (with_reducible rename Fr _ _ _ _ => F8)
      (with_reducible rename News _ _ _ _ => N8)
      have S8 := Cv4.now F8 N8 (fun q hq => by repeat (first | assumption | refine List.Mem.tail _ ?_))
      have K8 : s.heap.StaysIn _ := fun b o e => S8 b o (ev4 ▸ hideAll_get _ (K4 b o e) (by simp only [List.mem_singleton]; exact eL ▸ Nat.ne_of_lt (Heap.lt_size e)))
      dsimp only
      refine hold_of ?_
      refine ⟨text.length - (T i q).toNat, _, _, by omega, rfl, (T i q).toNat, c + 1, _, _, dn ++ [q], by omega, by omega, rfl, by rw [List.length_append, hdn]; rfl, ?_, frE F8 (x := .int (((T i q).toNat : Nat) : Int) _) (y := .int ((c + 1 : Nat) : Int) _) (congrArg (fun z => some (Value.int z _)) (ex h0)) rfl (fun z a b => ?_), K8⟩
      · have e : text.length + 1 - c = (text.length + 1 - (c + 1)) + 1 := by omega
        rw [hrun, e, runs_succ ⟨hcm, h0⟩, List.append_assoc]
        rfl
      · simp only [kstB, if_neg a, if_neg b]
    · k_steps
      (with_reducible rename Fr _ _ _ _ => F8)
      (with_reducible rename News _ _ _ _ => N8)
      have S8 := Cv4.now F8 N8 (fun q hq => by repeat (first | assumption | refine List.Mem.tail _ ?_))
      have K8 : s.heap.StaysIn _ := fun b o e => S8 b o (ev4 ▸ hideAll_get _ (K4 b o e) (by simp only [List.mem_singleton]; exact eL ▸ Nat.ne_of_lt (Heap.lt_size e)))
      refine hold_of ?_
      exact ⟨_, _, rfl, q, c, t, t', dn, hq1, hdn, by rw [hrun, runs_zero (by omega)]; simp, F8, K8⟩
end Mine
end
section
open PySem PySem.W PyProof.Rows PySem.Calls PySem.Spec
set_option maxRecDepth 100000
set_option maxHeartbeats 4000000
namespace Mine
theorem rs38 : True := by
  w_top off
  trivial
section
variable {prog : Program} {w : World} {A : Around} {E : Value → Shared → Prop} {s : Shared} {env : Env} {target : Expr} {body : List Stmt}
/-- a for loop by an invariant -/
theorem kt_loop {R : Result → Shared → Prop} {I : Addr} {fp wr : List Addr} {n : Nat} {P Md : Nat → Value → Heap → Prop} {St : Nat → Heap → Prop} (W : KTurns prog w A target I fp wr n P Md St) (hst : St 0 s.heap)
    (J : Nat → Heap → Prop) (h0 : J 0 s.heap) (kJ : ∀ i h h', J i h → St i h → (∀ b o, b ∉ wr → h.get? b = some o → h'.get? b = some o) → J i h')
    (step : ∀ i v h₁ tk₁, i < n → P i v h₁ → J i h₁ → St (i + 1) h₁ → wpAny (model prog w) A (assign target env v) (fun _ s₂ => wpAny (model prog w) A (execs body env) (fun f s₃ => match f with
      | .next => Hold (∃ h' tk', s₃ = { s with heap := h', toks := tk' } ∧ J (i + 1) h' ∧ ∀ b ∈ fp, ∀ o, h₁.get? b = some o → h'.get? b = some o)
      | .cont => Hold (∃ h' tk', s₃ = { s with heap := h', toks := tk' } ∧ J (i + 1) h' ∧ ∀ b ∈ fp, ∀ o, h₁.get? b = some o → h'.get? b = some o)
      | .brk => R (.ok .next) s₃
      | .ret v => R (.ok (.ret v)) s₃) (notedBy (model prog w) A env fun e s' => R (.error e) s') s₂) (notedBy (model prog w) A env fun e s' => R (.error e) s') { s with heap := h₁, toks := tk₁ })
    (hR : ∀ h' tk, J n h' → R (.ok .next) { s with heap := h', toks := tk }) : codeAny (model prog w) A (.forLoop target (.ref I) body [] env) R s := by
  refine codeAny_forLoop_any (fun k s' => ∃ h' tk i, s' = { s with heap := h', toks := tk } ∧ St i h' ∧ J i h' ∧ i ≤ n ∧ k = n + 1 - i) ?_ (n + 1) ⟨s.heap, s.toks, 0, rfl, hst, h0, Nat.zero_le _, rfl⟩
  rintro k s' ⟨h', tk, i, rfl, hst', hJ, hi, rfl⟩
  by_cases hlt : i < n
  · refine W.item i _ _ _ hlt hst' fun v h₁ tk₁ hMd hk₁ => ?_
    refine W.go i v _ _ _ hMd fun h₂ hP hst₂ hk₂ => ?_
    have hJ₂ := kJ i h' h₂ hJ hst' fun b o hb e => hk₂ b o hb (hk₁ b o hb e)
    refine wpAny_mono (step i v h₂ tk₁ hlt hP hJ₂ hst₂) (fun _ s₂ h₂' => wpAny_mono h₂' (fun f s₃ h₃ => ?_) fun _ _ e => e) fun _ _ e => e
    cases f with
    | ret v => exact h₃
    | brk => exact h₃
    | cont => obtain ⟨h3, tk₃, rfl, hJ₃, kp⟩ := h₃; exact ⟨n + 1 - (i + 1), by omega, h3, tk₃, i + 1, rfl, W.frame _ _ _ hst₂ kp, hJ₃, hlt, rfl⟩
    | next => obtain ⟨h3, tk₃, rfl, hJ₃, kp⟩ := h₃; exact ⟨n + 1 - (i + 1), by omega, h3, tk₃, i + 1, rfl, W.frame _ _ _ hst₂ kp, hJ₃, hlt, rfl⟩
  · have hin : i = n := by omega
    subst hin
    exact W.done _ _ _ hst' fun h₁ tk₁ hk₁ => wpAny_execs_nil (hR h₁ tk₁ (kJ _ h' h₁ hJ hst' hk₁))
/-- over a list -/
theorem kt_list {R : Result → Shared → Prop} {l : Addr} {vs : List Value} (hh : A.handled = none) (hl : s.heap.IsList l vs.toArray)
    (J : Nat → Heap → Prop) (h0 : ∀ h', (∀ b o, s.heap.get? b = some o → h'.get? b = some o) → J 0 h')
    (kJ : ∀ i I h h', J i h → h.IsListIter I l i → s.heap.get? I = none → (∀ b o, b ≠ I → h.get? b = some o → h'.get? b = some o) → J i h')
    (step : ∀ i I v h₁ tk₁, s.heap.get? I = none → h₁.IsListIter I l (i + 1) → vs[i]? = some v → J i h₁ → h₁.IsList l vs.toArray → wpAny (model prog w) A (assign target env v) (fun _ s₂ => wpAny (model prog w) A (execs body env) (fun f s₃ => match f with
      | .next => Hold (∃ h' tk', s₃ = { s with heap := h', toks := tk' } ∧ J (i + 1) h' ∧ ∀ o, (h₁.get? I = some o → h'.get? I = some o) ∧ (h₁.get? l = some o → h'.get? l = some o))
      | .cont => Hold (∃ h' tk', s₃ = { s with heap := h', toks := tk' } ∧ J (i + 1) h' ∧ ∀ o, (h₁.get? I = some o → h'.get? I = some o) ∧ (h₁.get? l = some o → h'.get? l = some o))
      | .brk => R (.ok .next) s₃
      | .ret v => R (.ok (.ret v)) s₃) (notedBy (model prog w) A env fun e s' => R (.error e) s') s₂) (notedBy (model prog w) A env fun e s' => R (.error e) s') { s with heap := h₁, toks := tk₁ })
    (hR : ∀ h' tk, J vs.length h' → R (.ok .next) { s with heap := h', toks := tk }) :
    wpAny (model prog w) A (pyIter (.ref l)) (fun it s₂ => codeAny (model prog w) A (.forLoop target it body [] env) R s₂) E s := by
  refine wpAny_pyIter_list hl ?_
  have hlt : l < s.heap.objs.size := by obtain ⟨_, e, _⟩ := hl; exact Heap.lt_size e
  have hn : s.heap.get? s.heap.objs.size = none := get_none_of_le (Nat.le_refl _)
  refine kt_loop (KTurns.ofWalks (Walks.list hh s.heap.objs.size l (Nat.ne_of_lt hlt) vs.toArray) fun i v s Q E st q => letGo_listiter st.1 q) ⟨⟨_, Heap.get?_push_size _ rfl, rfl, rfl⟩, hl.at fun o e => Heap.get?_push_of_some _ e⟩ J (h0 _ fun b o e => Heap.get?_push_of_some _ e)
    (fun i h h' j st kp => kJ i _ h h' j st.1 hn fun b o hb e => kp b o (by simpa using hb) e) (fun i v h₁ tk₁ hi hp hj st => ?_) (fun h' tk j => hR h' tk (by simpa using j))
  have hp' : vs[i]? = some v := by
    have : vs.toArray[i]? = some v := hp
    simpa using this
  refine wpAny_mono (step i _ v h₁ tk₁ hn st.1 hp' hj st.2) (fun _ s₂ h₂ => wpAny_mono h₂ (fun f s₃ h₃ => ?_) fun _ _ e => e) fun _ _ e => e
  cases f with
  | ret v => exact h₃
  | brk => exact h₃
  | cont => obtain ⟨h', tk', e, j, kp⟩ := h₃; exact ⟨h', tk', e, j, fun b hb o e => by rcases List.mem_cons.mp hb with rfl | hb; exact (kp o).1 e; rw [List.mem_singleton.mp hb] at e ⊢; exact (kp o).2 e⟩
  | next => obtain ⟨h', tk', e, j, kp⟩ := h₃; exact ⟨h', tk', e, j, fun b hb o e => by rcases List.mem_cons.mp hb with rfl | hb; exact (kp o).1 e; rw [List.mem_singleton.mp hb] at e ⊢; exact (kp o).2 e⟩
theorem letGo_name {x : Str} {p : Pos} {I : Value} {v : Value} {Q' : Unit → Shared → Prop} {s' : Shared} (h : Q' () s') : wpAny (model prog w) A (letOwnedTupleGo (.Name x p) I v) Q' E s' := by
  unfold letOwnedTupleGo
  exact wpAny_pure h
/-- over a range -/
theorem kt_range {R : Result → Shared → Prop} {r : Addr} {a b c : Int} {t u v' : Tok} {x : Str} {p : Pos} {n : Nat} (hh : A.handled = none) (hr : IsRange s.heap r a b c t u v') (hs : Builtin.Range.small a b c = true) (hn : Builtin.Range.rangeSize a b c = (n : Int))
    (J : Nat → Heap → Prop) (h0 : ∀ h', (∀ b o, s.heap.get? b = some o → h'.get? b = some o) → J 0 h')
    (kJ : ∀ i I h h', J i h → s.heap.get? I = none → (∃ o, h.get? I = some o ∧ o.cls = .type "range_iterator") → (∀ b o, b ≠ I → h.get? b = some o → h'.get? b = some o) → J i h')
    (step : ∀ (i : Nat) I t h₁ tk₁ (y : Int), y = a + i * c → i < n → s.heap.get? I = none → (∃ o, h₁.get? I = some o ∧ o.cls = .type "range_iterator" ∧ ∀ es n, o.data ≠ .dict es n) → J i h₁ → wpAny (model prog w) A (assign (.Name x p) env (.int y t)) (fun _ s₂ => wpAny (model prog w) A (execs body env) (fun f s₃ => match f with
      | .next => Hold (∃ h' tk', s₃ = { s with heap := h', toks := tk' } ∧ J (i + 1) h' ∧ ∀ o, (h₁.get? I = some o → h'.get? I = some o))
      | .cont => Hold (∃ h' tk', s₃ = { s with heap := h', toks := tk' } ∧ J (i + 1) h' ∧ ∀ o, (h₁.get? I = some o → h'.get? I = some o))
      | .brk => R (.ok .next) s₃
      | .ret v => R (.ok (.ret v)) s₃) (notedBy (model prog w) A env fun e s' => R (.error e) s') s₂) (notedBy (model prog w) A env fun e s' => R (.error e) s') { s with heap := h₁, toks := tk₁ })
    (hR : ∀ h' tk, J n h' → R (.ok .next) { s with heap := h', toks := tk }) :
    wpAny (model prog w) A (pyIter (.ref r)) (fun it s₂ => codeAny (model prog w) A (.forLoop (.Name x p) it body [] env) R s₂) E s := by
  refine wpAny_pyIter_range hr hs ?_
  have hz : s.heap.get? s.heap.objs.size = none := get_none_of_le (Nat.le_refl _)
  refine kt_loop (KTurns.ofWalks (Walks.range hh s.heap.objs.size a c n) fun i v s Q E st q => letGo_name q) ?_ J (h0 _ fun b o e => Heap.get?_push_of_some _ e)
    (fun i h h' j st kp => kJ i _ h h' j hz ⟨_, st, rfl⟩ fun b o hb e => kp b o (by simpa using hb) e) (fun i v h₁ tk₁ hi hp hj st => ?_) (fun h' tk j => hR h' tk j)
  · show IsRangeIter _ _ (a + ((0 : Nat) : Int) * c) ((n : Int) - ((0 : Nat) : Int)) c
    have e1 : a + ((0 : Nat) : Int) * c = a := by simp
    have e2 : (n : Int) - ((0 : Nat) : Int) = Builtin.Range.rangeSize a b c := by rw [hn]; simp
    rw [e1, e2]
    exact Heap.get?_push_size _ rfl
  · obtain ⟨t, rfl⟩ := hp
    refine wpAny_mono (step i _ t h₁ tk₁ _ rfl hi hz ⟨_, st, rfl, fun _ _ e => by cases e⟩ hj) (fun _ s₂ h₂ => wpAny_mono h₂ (fun f s₃ h₃ => ?_) fun _ _ e => e) fun _ _ e => e
    cases f with
    | ret v => exact h₃
    | brk => exact h₃
    | cont => obtain ⟨h', tk', e, j, kp⟩ := h₃; exact ⟨h', tk', e, j, fun b hb o e => by rw [List.mem_singleton.mp hb] at e ⊢; exact kp o e⟩
    | next => obtain ⟨h', tk', e, j, kp⟩ := h₃; exact ⟨h', tk', e, j, fun b hb o e => by rw [List.mem_singleton.mp hb] at e ⊢; exact kp o e⟩
theorem KTurns.ofT {elts : List Expr} {k : Nat} {pos : Pos} {I : Addr} {fp wr : List Addr} {n : Nat} {Pt : Nat → Array Value → Prop} {St : Nat → Heap → Prop} {Mid : Nat → Addr → Heap → Prop} (W : WalksT prog w A I fp wr n Pt St Mid) (n0 : Nat) (hn : ∀ i h, St i h → n0 ≤ h.objs.size) :
    KTurns prog w A (.Tuple elts k pos) I fp wr n (fun i v h => ∃ T vals, v = .ref T ∧ Pt i vals ∧ h.IsTuple T vals ∧ n0 ≤ T) (fun i v h => ∃ T vals, v = .ref T ∧ Pt i vals ∧ h.IsTuple T vals ∧ n0 ≤ T ∧ Mid i T h) St where
  sub := W.sub
  frame := W.frame
  item := fun i s' Q E hi st hQ => W.item i s' Q E hi st fun T vals h' tk hP hle hT hm hk => hQ (.ref T) h' tk ⟨T, vals, rfl, hP, hT, Nat.le_trans (hn _ _ st) hle, hm⟩ hk
  go := fun i v s' Q E hm hQ => by
    obtain ⟨T, vals, rfl, hP, hT, hle, hm⟩ := hm
    exact W.go elts k pos i T s' Q E hm fun h' st hk => hQ h' ⟨T, vals, rfl, hP, hT.at fun o e => hk T o (W.apart i T _ hm) e, hle⟩ st hk
  done := W.done
/-- over two lists at once -/
theorem kt_zip {R : Result → Shared → Prop} {l1 l2 : Addr} {xs ys : List Value} {elts : List Expr} {k : Nat} {pos : Pos} (hh : A.handled = none) (hl1 : s.heap.IsList l1 xs.toArray) (hl2 : s.heap.IsList l2 ys.toArray) (hxy : ys.length = xs.length)
    (hL : env.locals < s.heap.objs.size) (n1 : l1 ≠ env.locals) (n2 : l2 ≠ env.locals)
    (J : Nat → Heap → Prop) (h0 : ∀ h', (∀ b o, s.heap.get? b = some o → h'.get? b = some o) → J 0 h')
    (kJ : ∀ i h h', J i h → (∀ b o, b < s.heap.objs.size → h.get? b = some o → h'.get? b = some o) → J i h')
    (step : ∀ (i : Nat) T x y h₁ tk₁, xs[i]? = some x → ys[i]? = some y → h₁.IsTuple T #[x, y] → s.heap.objs.size ≤ T → J i h₁ → wpAny (model prog w) A (assign (.Tuple elts k pos) env (.ref T)) (fun _ s₂ => wpAny (model prog w) A (execs body env) (fun f s₃ => match f with
      | .next => Hold (∃ h' tk', s₃ = { s with heap := h', toks := tk' } ∧ J (i + 1) h' ∧ ∀ b o, b ≠ env.locals → h₁.get? b = some o → h'.get? b = some o)
      | .cont => Hold (∃ h' tk', s₃ = { s with heap := h', toks := tk' } ∧ J (i + 1) h' ∧ ∀ b o, b ≠ env.locals → h₁.get? b = some o → h'.get? b = some o)
      | .brk => R (.ok .next) s₃
      | .ret v => R (.ok (.ret v)) s₃) (notedBy (model prog w) A env fun e s' => R (.error e) s') s₂) (notedBy (model prog w) A env fun e s' => R (.error e) s') { s with heap := h₁, toks := tk₁ })
    (hR : ∀ h' tk, J xs.length h' → R (.ok .next) { s with heap := h', toks := tk }) :
    wpAny (model prog w) A (call (.type "zip") [.ref l1, .ref l2]) (fun xv s₁ => wpAny (model prog w) A (pyIter xv) (fun it s₂ => codeAny (model prog w) A (.forLoop (.Tuple elts k pos) it body [] env) R s₂) E s₁) E s := by
  have hlt1 : l1 < s.heap.objs.size := by obtain ⟨_, e, _⟩ := hl1; exact Heap.lt_size e
  have hlt2 : l2 < s.heap.objs.size := by obtain ⟨_, e, _⟩ := hl2; exact Heap.lt_size e
  have D : ZipApart (s.heap.objs.size + 4) (s.heap.objs.size + 2) (s.heap.objs.size + 3) s.heap.objs.size (s.heap.objs.size + 1) l1 l2 := ktu_apart _ _ _ hlt1 hlt2
  refine call_zip_2 hl1 hl2 fun h' hz hTI hTO hi1 hi2 hsz hk => ?_
  refine wpAny_pyIter_zip hz ?_
  have W := WalksT.zip2 (prog := prog) (w := w) hh _ _ _ _ _ _ _ D xs.toArray ys.toArray
  have n : ∀ c, env.locals ≠ s.heap.objs.size + c := fun c => Nat.ne_of_lt (Nat.lt_of_lt_of_le hL (Nat.le_add_right _ _))
  have hfp : ∀ b ∈ [s.heap.objs.size + 4, s.heap.objs.size + 2, s.heap.objs.size + 3, s.heap.objs.size, s.heap.objs.size + 1, l1, l2], b ≠ env.locals := fun b hb e => by
    subst e
    simp only [List.mem_cons, List.not_mem_nil, or_false] at hb
    rcases hb with e | e | e | e | e | e | e
    · exact n _ e
    · exact n _ e
    · exact n _ e
    · exact n 0 e
    · exact n _ e
    · exact n1 e.symm
    · exact n2 e.symm
  have hwr : ∀ b ∈ [s.heap.objs.size + 4, s.heap.objs.size + 3, s.heap.objs.size, s.heap.objs.size + 1], s.heap.objs.size ≤ b := fun b hb => by
    simp only [List.mem_cons, List.not_mem_nil, or_false] at hb
    rcases hb with rfl | rfl | rfl | rfl
    · exact Nat.le_add_right _ _
    · exact Nat.le_add_right _ _
    · exact Nat.le_refl _
    · exact Nat.le_add_right _ _
  have WK := KTurns.ofT (elts := elts) (k := k) (pos := pos) W s.heap.objs.size fun i h st => Nat.le_trans (Nat.le_add_right _ 4) (Nat.le_of_lt (Heap.lt_size st.1))
  refine kt_loop WK ⟨hz, hTI, ⟨_, _, hTO⟩, hi1, hi2, hl1.at fun o e => hk _ o e, hl2.at fun o e => hk _ o e⟩ J (h0 _ hk) (fun i h h' j st kp => kJ i h h' j fun b o hb e => kp b o (fun hm => absurd hb (Nat.not_lt.mpr (hwr b hm))) e) (fun i v h₁ tk₁ hi hp hj st => ?_)
    (fun h' tk j => hR h' tk (by simpa [hxy] using j))
  obtain ⟨T, vals, rfl, ⟨x, y, hx, hy, rfl⟩, hT, hle⟩ := hp
  refine wpAny_mono (step i T x y h₁ tk₁ (by simpa using hx) (by simpa using hy) hT hle hj) (fun _ s₂ h₂ => wpAny_mono h₂ (fun f s₃ h₃ => ?_) fun _ _ e => e) fun _ _ e => e
  cases f with
  | ret v => exact h₃
  | brk => exact h₃
  | cont => obtain ⟨h', tk', e, j, kp⟩ := h₃; exact ⟨h', tk', e, j, fun b hb o e => kp b o (hfp b hb) e⟩
  | next => obtain ⟨h', tk', e, j, kp⟩ := h₃; exact ⟨h', tk', e, j, fun b hb o e => kp b o (hfp b hb) e⟩
end
end Mine
end
section
open PySem PySem.W PyProof.Rows PySem.Calls PySem.Spec Builtin Builtin.ObjectAttr
set_option maxRecDepth 100000
set_option maxHeartbeats 8000000
namespace Mine
local macro_rules | `(tactic| walk_at "0") => `(tactic| skip)
local macro_rules | `(tactic| walk_at "0") => `(tactic| skip)
local macro_rules | `(tactic| walk_at "0") => `(tactic| skip)
local macro_rules | `(tactic| walk_at "0") => `(tactic| skip)
local macro_rules | `(tactic| walk_at "0") => `(tactic| skip)
local macro_rules | `(tactic| walk_at "0") => `(tactic| skip)
local macro_rules | `(tactic| walk_at "0") => `(tactic| skip)
local macro_rules | `(tactic| walk_at "0") => `(tactic| skip)
local macro_rules | `(tactic| walk_at "0") => `(tactic| skip)
local macro_rules | `(tactic| walk_at "0") => `(tactic| skip)
local macro_rules | `(tactic| walk_at "0") => `(tactic| skip)
local macro_rules | `(tactic| walk_at "0") => `(tactic| skip)
local macro_rules | `(tactic| walk_at "0") => `(tactic| skip)
local macro_rules | `(tactic| walk_at "0") => `(tactic| skip)
local macro_rules | `(tactic| walk_at "0") => `(tactic| skip)
local macro_rules | `(tactic| walk_at "0") => `(tactic| skip)
local macro_rules | `(tactic| walk_at "0") => `(tactic| skip)
local macro_rules | `(tactic| walk_at "0") => `(tactic| skip)
local macro_rules | `(tactic| walk_at "0") => `(tactic| skip)
local macro_rules | `(tactic| walk_at "0") => `(tactic| skip)
local macro_rules | `(tactic| walk_at "0") => `(tactic| skip)
local macro_rules | `(tactic| walk_at "0") => `(tactic| skip)
local macro_rules | `(tactic| walk_at "0") => `(tactic| skip)
local macro_rules | `(tactic| walk_at "0") => `(tactic| skip)
local macro_rules | `(tactic| walk_at "0") => `(tactic| skip)
local macro_rules | `(tactic| walk_at "0") => `(tactic| skip)
local macro_rules | `(tactic| walk_at "0") => `(tactic| skip)
local macro_rules | `(tactic| walk_at "0") => `(tactic| skip)
local macro_rules | `(tactic| walk_at "0") => `(tactic| skip)
local macro_rules | `(tactic| walk_at "0") => `(tactic| skip)
local macro_rules | `(tactic| walk_at "0") => `(tactic| skip)
local macro_rules | `(tactic| walk_at "0") => `(tactic| skip)
local macro_rules | `(tactic| walk_at "0") => `(tactic| skip)
local macro_rules | `(tactic| walk_at "0") => `(tactic| skip)
local macro_rules | `(tactic| walk_at "0") => `(tactic| skip)
local macro_rules | `(tactic| walk_at "0") => `(tactic| skip)
local macro_rules | `(tactic| walk_at "0") => `(tactic| skip)
local macro_rules | `(tactic| walk_at "0") => `(tactic| skip)
local macro_rules | `(tactic| walk_at "0") => `(tactic| skip)
local macro_rules | `(tactic| walk_at "0") => `(tactic| skip)
theorem rs39 : True := by
  w_top off
  trivial
variable {w : World} {p : Program} {loose : List Str} {mean : ExcName → Option Value} {mg mb : Str → Option Value} {H0 : Heap} {Γ : Cfg}
/-- the table, and short words -/
structure Good (Γ : Cfg) : Prop where
  ok : Γ.Ok
  wl : ∀ (k : Nat) (x : Str), Γ.plan[k]? = some (.word x) → x.length ≤ 10
/-- the plan, as the law holds it -/
def PlanObj (h : Heap) (lo : Nat) (plan : List Stp) (a : Addr) : Prop := lo ≤ a ∧ ∃ ps : List Addr, ∃ cap, h.get? a = some (listOf (ps.map Value.ref).toArray cap) ∧ ps.length = plan.length ∧ ∀ (i : Nat) (q : Addr) st, ps[i]? = some q → plan[i]? = some st → lo ≤ q ∧ StepObj h q st
theorem PlanObj.sub {h h' : Heap} {lo : Nat} {plan : List Stp} {a : Addr} (R : PlanObj h lo plan a) (kp : h.StaysIn h') : PlanObj h' lo plan a :=
  let ⟨l, ps, cap, e, b, c⟩ := R; ⟨l, ps, cap, kp _ _ e, b, fun i q st e1 e2 => ⟨(c i q st e1 e2).1, (c i q st e1 e2).2.sub kp⟩⟩
theorem end_all {dp un : Nat} {gd : Option (List Code)} {fr : List Env} {s : Shared} {k : Nat} {st : Stp} {tp : Tok} {pos : Nat} {sa ea : Addr} {Q E : Value → Shared → Prop} (O : Old w p loose mean mg mb H0)
    (M : Amb H0 fr s.heap) (G : Good Γ) (hk : Γ.plan[k]? = some st) (hst : StepObj s.heap sa st) (hsa : H0.objs.size ≤ sa) (R : EndsObj s.heap H0.objs.size Γ.E Γ.text.length k ea) (hpos : pos ≤ Γ.text.length) (hdp : dp + 10 < recursionLimit) (hun : un + 50 < cLine)
    (hq : Kept s Q fun v _ => ∃ t, v = .int (Γ.E k pos) t) :
    wpAny (model PySem.Challenge.rw_vy0014_01.row.prog w) (ar dp un gd fr) (call (.ref 530) [.ref sa, .ref ea, .str Γ.text Γ.tk, .int pos tp] []) Q E s := by
  have hkN : k < Γ.N := (List.getElem?_eq_some_iff.mp hk).1
  have hf := G.ok.few
  have hk1 : k ≤ 1000 := by omega
  have rf := G.ok.refs k _ hk
  have eq := G.ok.eq k _ pos hk hpos
  have hN : ∀ i, i < k → i < Γ.N := fun i h => Nat.lt_trans h hkN
  replace hq : Kept s Q fun v _ => ∃ t, v = .int (stepEnd Γ.E Γ.text st pos) t := eq ▸ hq
  cases st with
  | word x => exact end_word O M hst hsa R G.ok.small hpos hdp hun (G.wl k x hk) hq
  | both i j => exact end_both O M hst hsa R G.ok.small hpos hdp hun rf.1 rf.2 hk1 (G.ok.hi i pos (hN i rf.1) hpos) hq
  | either i j => exact end_either O M hst hsa R G.ok.small hpos hdp hun rf.1 rf.2 hk1 hq
  | look i => exact end_look O M hst hsa R G.ok.small hpos hdp hun rf hk1 hq
  | nay i => exact end_nay O M hst hsa R G.ok.small hpos hdp hun rf hk1 hq
  | times i l m =>
    refine end_times O M hst hsa R G.ok.small hpos hdp hun rf.1 hk1 (fun q hq => ?_) hq
    have h1 := G.ok.lo i q (hN i rf.1) hq
    have h2 : Γ.E i q ≤ Γ.text.length := G.ok.hi i q (hN i rf.1) hq
    have h3 := G.ok.grows k i l m q hk hq
    omega
local macro_rules | `(tactic| k_room) => `(tactic| ktr_room)
local macro_rules | `(tactic| k_all) => `(tactic| first | assumption | (intro q9 hq9; (try dsimp only); first | exact allLt_ne (by assumption) (by omega) q9 hq9 | exact lt_ne (by assumption) (by omega) q9 hq9))
local macro_rules | `(tactic| walk_at "call ref") => `(tactic| (k_here; (with_reducible show wpAny _ _ (call (Value.ref _) _ _) _ _ _); refine hold_of ?_))
local macro_rules | `(tactic| walk_at "exec For") => `(tactic| (k_here; (with_reducible show wpAny _ _ (exec (Stmt.For _ _ _ _ _) _) _ _ _); k_dflt (refine for_hold ?_)))
local macro_rules | `(tactic| walk_at "exec For Name Call cons nil") => `(tactic| (k_here; (with_reducible show wpAny _ _ (exec (Stmt.For _ _ _ _ _) _) _ _ _); k_dflt (refine for_hold ?_)))
local macro_rules | `(tactic| walk_at "call builtin:len") => `(tactic| (k_here; (with_reducible show wpAny _ _ (call (Value.builtin "len") [Value.str _ _]) _ _ _); k_dflt (refine' SBL.len ?k1 ?_; (case k1 => assumption); k_whole)))
local macro_rules | `(tactic| walk_at "newList") => `(tactic| (k_here; k_dflt (refine' newList_KL ?k1 ?k2 ?_; (case k1 => k_asm); (case k2 => k_asm); k_whole); intro l' h' F' N' l1 lL; (try k_lt l1); (try k_sweep)))
theorem fr2 {h : Heap} {m₁ : Str → Option Value} {x y : Str} {a b : Value} {g : Heap} {L : Addr} (F : Fr g L h m₁) (h1 : m₁ x = some a) (h2 : m₁ y = some b) : Fr g L h (kstB m₁ [(x, a), (y, b)]) :=
  frK (List.forall_mem_cons.mpr ⟨h1, List.forall_mem_cons.mpr ⟨h2, List.forall_mem_nil _⟩⟩) (fun _ _ => rfl) F
theorem ends_ok {dp un : Nat} {gd : Option (List Code)} {fr : List Env} {s : Shared} {pa : Addr} {Q E : Value → Shared → Prop} (O : Old w p loose mean mg mb H0)
    (M : Amb H0 fr s.heap) (G : Good Γ) (hp : PlanObj s.heap H0.objs.size Γ.plan pa) (hdp : dp + 20 < recursionLimit) (hun : un + 100 < cLine)
    (hq : Kept s Q fun v h' => ∃ a, v = .ref a ∧ EndsObj h' H0.objs.size Γ.E Γ.n Γ.N a) :
    wpAny (model PySem.Challenge.rw_vy0014_01.row.prog w) (ar dp un gd fr) (call (.ref 523) [.ref pa, .str Γ.text Γ.tk] []) Q E s := by
  refine wpAny_call ?_
  refine' enterF O M ?ho ?hcd ?hr ?hb ?hl ?_ ?c1 ?c2 ?c3 ?c4
  case ho => k_is
  case hcd => k_is
  case hr => omega
  case hb => exact BindsTo.of_eq rfl
  case hl => exact locs rfl
  case c1 => exact rfl
  case c2 => exact rfl
  case c3 => exact rfl
  case c4 => decide
  intro g L h₁ eL F K1 MG hgn Bw X T'
  have lo0 : ∀ a, H0.objs.size ≤ a → H0.get? a = none := fun a ha => get_none_of_le ha
  have hlen : Γ.text.length ≤ 2 ^ 62 := Nat.le_trans G.ok.small (by decide)
  have cell : ∀ a o, s.heap.get? a = some o → (∀ es n, o.data ≠ .dict es n) → H0.objs.size ≤ a → h₁.get? a = some o ∧ a ≠ L ∧ g.get? a = none := fun a o e nd l => ⟨K1 _ _ e, eL ▸ Nat.ne_of_lt (Heap.lt_size e), hgn _ (lo0 _ l) (M.notFr e nd)⟩
  obtain ⟨lpa, ps, cap, e1, hps, hstep⟩ := id hp
  obtain ⟨tl, hvh, hN, Cv, ev, htl⟩ := focus [] F
  have N := hN [(pa, _)] (List.forall_mem_cons.mpr ⟨cell _ _ e1 (fun _ _ e => by cases e) lpa, List.forall_mem_nil _⟩)
  simp only [List.cons_append, List.nil_append] at N
  clear hN
  k_steps
  (with_reducible rename Fr _ _ _ _ => F9)
  (with_reducible rename News _ _ _ _ => N9)
  (with_reducible rename (@LT.lt Addr _ L _) => Lea)
  (with_reducible rename (And _ _) => l1)
  rename_i ea hA hB
  have S9 := Cv.now F9 N9 (fun q hq => by repeat (first | assumption | refine List.Mem.tail _ ?_))
  have kB : s.heap.StaysIn hB := fun b o e => S9 b o (ev ▸ hideAll_get _ (K1 b o e) (by simp only [List.mem_singleton]; exact eL ▸ Nat.ne_of_lt (Heap.lt_size e)))
  have hea := N9.get (.head _)
  have gea := (N9 _ (.head _)).2.2
  have hsz : H0.objs.size ≤ s.heap.objs.size := Nat.le_trans lpa (Nat.le_of_lt (Heap.lt_size e1))
  have lea : H0.objs.size ≤ ea := Nat.le_trans hsz (Nat.le_trans (Nat.le_of_eq eL.symm) (Nat.le_of_lt Lea))
  have sea : ∀ b o, s.heap.get? b = some o → b ≠ ea := fun b o e q => by have := Heap.lt_size e; rw [q, ← eL] at this; exact absurd (Nat.lt_trans this Lea) (Nat.lt_irrefl _)
  have nth : ∀ (i : Nat) v, (ps.map Value.ref)[i]? = some v → ∃ q st, v = .ref q ∧ Γ.plan[i]? = some st ∧ H0.objs.size ≤ q ∧ StepObj s.heap q st := fun i v e => by
    rw [List.getElem?_map] at e
    obtain ⟨q, e2, rfl⟩ := Option.map_eq_some_iff.mp e
    have hi : i < Γ.plan.length := hps ▸ (List.getElem?_eq_some_iff.mp e2).1
    exact ⟨q, _, rfl, List.getElem?_eq_getElem hi, hstep i q _ e2 (List.getElem?_eq_getElem hi)⟩
  refine hold_of ?_
  refine kt_list (vs := ps.map Value.ref) rfl ⟨_, N9.get (by k_mem), rfl, _, rfl⟩
    (fun i h => ∃ u : Str → Option Value, Fr g L h (kstB u [(Str.ofString "ends", .ref ea), (Str.ofString "text", .str Γ.text Γ.tk)]) ∧ s.heap.StaysIn h ∧
      ∃ rs : List Addr, ∃ cap, h.get? ea = some (listOf (rs.map Value.ref).toArray cap) ∧ rs.length = i ∧ ∀ (j : Nat) r, rs[j]? = some r → ea < r ∧ RowObj h (Γ.E j) Γ.n r)
    ?h0 ?kJ ?step ?hR
  case h0 =>
    intro h' kp
    exact ⟨_, Fr.keeps (fr2 F9 rfl rfl) kp, fun b o e => kp b o (kB b o e), [], _, kp _ _ hea, rfl, fun j r e => by cases e⟩
  case kJ =>
    rintro i I h h' ⟨u, F, k1, rs, cp, e2, hrs, hr⟩ ⟨oI, eI, cI, _⟩ hn kp
    have nI : ∀ b o, hB.get? b = some o → b ≠ I := fun b o e q => by rw [q, hn] at e; cases e
    have nL : L ≠ I := by obtain ⟨o, _, _, e, _⟩ := F9.ns; exact nI _ _ e
    refine ⟨u, ⟨Heap.Ns.at' F.ns fun o e => kp _ o nL e, fun b o e => kp b o (nI b o (F9.keep b o e)) (F.keep b o e), F.above⟩, fun b o e => kp b o (nI b o (kB b o e)) (k1 b o e), rs, cp, kp _ _ (nI _ _ hea) e2, hrs, fun j r e => ⟨(hr j r e).1, (hr j r e).2.sub fun o e3 => kp r o (fun q => ?_) e3⟩⟩
    obtain ⟨vs, c, e4, _⟩ := (hr j r e).2
    rw [q, eI] at e4
    have q2 := congrArg Obj.cls (Option.some.inj e4)
    rw [cI] at q2
    exact absurd q2 (by simp)
  case hR =>
    rintro h' tk ⟨u, F, k1, rs, cp, e2, hrs, hr⟩
    rw [List.length_map, hps] at hrs
    obtain ⟨tl5, hvh5, hN5, Cv5, ev5, htl5⟩ := focus [] F
    have N5 := hN5 [] (List.forall_mem_nil _)
    simp only [List.nil_append] at N5
    clear hN5 F9 N9
    show wpAny _ _ _ _ _ _
    k_steps
    (with_reducible rename Fr _ _ _ _ => F9)
    (with_reducible rename News _ _ _ _ => N9)
    have S8 := Cv5.now F9 N9 (fun q hq => by repeat (first | assumption | refine List.Mem.tail _ ?_))
    have k8 : ∀ b o, h'.get? b = some o → b ≠ L → _ := fun b o e n1 => S8 b o (ev5 ▸ hideAll_get _ e (by simpa using n1))
    exact hq _ _ _ ⟨ea, rfl, lea, rs, cp, k8 _ _ e2 (Nat.ne_of_gt Lea), hrs, fun j r e => ⟨Nat.le_trans lea (Nat.le_of_lt (hr j r e).1), (hr j r e).2.sub fun o e9 => k8 _ _ e9 (Nat.ne_of_gt (Nat.lt_trans Lea (hr j r e).1))⟩⟩ fun b o e => k8 b o (k1 b o e) (eL ▸ Nat.ne_of_lt (Heap.lt_size e))
  case step =>
    rintro i I v h2 tk2 hnI ⟨oI, eI, cI, dI⟩ hv ⟨u, F2, k2, rs, cp, e2, hrs, hr⟩ hpl
    obtain ⟨q, st, rfl, hst, lq, sq⟩ := nth i v hv
    have nI2 : I ≠ L ∧ I ≠ ea := by
      refine ⟨fun q => ?_, fun q => ?_⟩
      · obtain ⟨o, _, _, e, _⟩ := F9.ns
        rw [q, show hB.get? L = some _ from e] at hnI
        cases hnI
      · rw [q, show hB.get? ea = some _ from hea] at hnI
        cases hnI
    obtain ⟨tl4, hvh4, hN4, Cv4, ev4, htl4⟩ := focus [] F2
    have N4 := hN4 [] (List.forall_mem_nil _)
    simp only [List.nil_append] at N4
    clear hN4 F9 N9
    clear cell
    k_steps
    (with_reducible rename Fr _ _ _ _ => F9)
    (with_reducible rename News _ _ _ _ => N9)
    (with_reducible rename (@LT.lt Addr _ L _) => Lra)
    rename_i ra hX la hY Fx Nx hC tkx ta tb tc hrg kC
    have S3 := Cv4.now F9 N9 (fun q hq => by repeat (first | assumption | refine List.Mem.tail _ ?_))
    have k3 : ∀ b o, h2.get? b = some o → b ≠ L → hC.get? b = some o := fun b o e n => S3 b o (ev4 ▸ hideAll_get _ e (by simpa using n))
    have hra := N9.get (.head _)
    have gra := (N9 _ (.head _)).2.2
    have nra : h2.get? ra = none := freshOf Cv4 ev4 N9 (fun q hq => la q hq)
    have nL2 : ∀ b o, s.heap.get? b = some o → b ≠ L := fun b o e => eL ▸ Nat.ne_of_lt (Heap.lt_size e)
    have alt : ea < ra := (Cv4 ea _ (ev4 ▸ hideAll_get _ e2 (by simpa using Nat.ne_of_gt Lea))).elim (fun e => by rw [show g.get? ea = none from gea] at e; cases e) fun hm => la _ hm
    have hnr : ∀ (j : Nat) r, rs[j]? = some r → r ≠ L ∧ r ≠ ra ∧ r ≠ ea ∧ H0.objs.size ≤ r := fun j r e => by
      obtain ⟨h1, vs, c, h2', _⟩ := hr j r e
      exact ⟨Nat.ne_of_gt (Nat.lt_trans Lea h1), (fun q => by rw [q, nra] at h2'; cases h2'), Nat.ne_of_gt h1, Nat.le_trans lea (Nat.le_of_lt h1)⟩
    have era : ra ≠ ea := fun e => by rw [e, e2] at nra; cases nra
    have eaL : ea ≠ L := Nat.ne_of_gt Lea
    refine hold_of ?_
    refine kt_range (n := Γ.n + 1) rfl hrg ?hsm ?hsz
      (fun j h => ∃ u, Fr g L h (kstB u [(Str.ofString "ends", .ref ea), (Str.ofString "text", .str Γ.text Γ.tk), (Str.ofString "step", .ref q), (Str.ofString "row", .ref ra)]) ∧
        (∀ b o, hC.get? b = some o → b ≠ L → b ≠ ra → h.get? b = some o) ∧ ∃ vs : List Value, ∃ cap, h.get? ra = some (listOf vs.toArray cap) ∧ vs.length = j ∧ ∀ p, p < j → ∃ t, vs[p]? = some (Value.int (Γ.E i p) t))
      ?h0 ?kJ ?step ?hR
    case hsm => exact small_one (by decide) (by decide) (by omega) (by have : Γ.text.length ≤ 1000 := G.ok.small; omega)
    case hsz => rw [rangeSize_one, if_pos (by omega)]; simp
    case h0 =>
      intro h' kp
      exact ⟨_, Fr.keeps (frK (List.forall_mem_cons.mpr ⟨rfl, List.forall_mem_cons.mpr ⟨rfl, List.forall_mem_cons.mpr ⟨rfl, List.forall_mem_cons.mpr ⟨rfl, List.forall_mem_nil _⟩⟩⟩⟩) (fun _ _ => rfl) F9) kp, fun b o e _ _ => kp b o e, [], _, kp _ _ hra, rfl, fun p hp => absurd hp (Nat.not_lt_zero p)⟩
    case kJ =>
      rintro j I2 h h' ⟨u2, F, k1, vs, c2, e4, hl, hv2⟩ hn _ kp
      have nI : ∀ b o, hC.get? b = some o → b ≠ I2 := fun b o e q => by rw [q, show hC.get? I2 = none from hn] at e; cases e
      have nL : L ≠ I2 := by obtain ⟨o, _, _, e, _⟩ := F9.ns; exact nI _ _ e
      exact ⟨u2, ⟨Heap.Ns.at' F.ns fun o e => kp _ o nL e, fun b o e => kp b o (nI b o (F9.keep b o e)) (F.keep b o e), F.above⟩, fun b o e a b' => kp b o (nI b o e) (k1 b o e a b'), vs, c2, kp _ _ (nI _ _ hra) e4, hl, hv2⟩
    case hR =>
      rintro h4 tk4 ⟨u2, F4, k4, vs, c2, e4, hl, hv2⟩
      have hea4 : h4.get? ea = some (listOf (rs.map Value.ref).toArray cp) := k4 _ _ (k3 _ _ e2 eaL) eaL era.symm
      have sk4 : s.heap.StaysIn h4 := fun b o e => k4 b o (k3 b o (k2 b o e) (nL2 b o e)) (nL2 b o e) (fun q => by rw [q] at e; rw [k2 _ _ e] at nra; cases nra)
      have kI : ∀ b o, h2.get? b = some o → b ≠ L → h4.get? b = some o := fun b o e n1 => k4 b o (k3 b o e n1) n1 (fun q => by rw [q, nra] at e; cases e)
      obtain ⟨tl5, hvh5, hN5, Cv5, ev5, htl5⟩ := focus [ea] F4
      have N5 := hN5 [(ea, listOf (rs.map Value.ref).toArray cp)] (List.forall_mem_cons.mpr ⟨⟨hea4, eaL, gea⟩, List.forall_mem_nil _⟩)
      have tc5 : ∀ q ∈ tl5, q.1 ≠ ea := fun q hq => htl5 q hq _ (.head _)
      simp only [List.cons_append, List.nil_append] at N5
      clear hN5 F9 N9
      have hs1 : (rs.map Value.ref).toArray.size = i := by rw [List.size_toArray, List.length_map, hrs]
      have hz1 : i ≤ 2000 := by have h1 : Γ.plan.length ≤ 100 := G.ok.few; have h2 := (List.getElem?_eq_some_iff.mp hst).1; omega
      show wpAny _ _ _ _ _ _
      k_steps
      (with_reducible rename Fr _ _ _ _ => F9)
      (with_reducible rename News _ _ _ _ => N9)
      have S8 := Cv5.now F9 N9 (fun q hq => by repeat (first | assumption | refine List.Mem.tail _ ?_))
      have k8 : ∀ b o, h4.get? b = some o → b ≠ L → b ≠ ea → _ := fun b o e n1 n2 => S8 b o (ev5 ▸ hideAll_get _ e (by simp [n1, n2]))
      (try dsimp only)
      refine hold_of ?_
      refine ⟨_, _, rfl, ⟨_, fr2 F9 rfl rfl, fun b o e => k8 b o (sk4 b o e) (nL2 b o e) (sea b o e), rs ++ [ra], cp + 1, ?_, by rw [List.length_append, hrs]; rfl, fun j r e => ?_⟩, fun o => ⟨fun e => k8 _ _ (kI _ _ e nI2.1) nI2.1 nI2.2, fun e => k8 _ _ (kI _ _ e (nL2 _ _ e1)) (nL2 _ _ e1) (sea _ _ e1)⟩⟩
      · rw [show ((rs ++ [ra]).map Value.ref).toArray = (rs.map Value.ref).toArray.push (.ref ra) by simp]
        exact N9.get (.head _)
      · by_cases hj : j < i
        · rw [List.getElem?_append_left (hrs ▸ hj)] at e
          obtain ⟨n1, n2, n3, _⟩ := hnr j r e
          exact ⟨(hr j r e).1, (hr j r e).2.sub fun o e9 => k8 _ _ (kI _ _ e9 n1) n1 n3⟩
        · have hj2 : j = i := by have := (List.getElem?_eq_some_iff.mp e).1; rw [List.length_append, hrs] at this; simp at this; omega
          subst hj2
          rw [List.getElem?_append_right (Nat.le_of_eq hrs), hrs] at e
          simp at e
          subst e
          exact ⟨alt, vs, c2, k8 _ _ e4 (Nat.ne_of_gt Lra) era, hl, fun p hp => hv2 p (Nat.lt_succ_of_le hp)⟩
    case step =>
      rintro j I2 t4 h4 tk4 y hy hj hn2 ⟨oI2, eI2, cI2, dI2⟩ ⟨u2, F4, k4, vs, c2, e4, hl, hv2⟩
      obtain rfl : y = (j : Int) := by omega
      have hea4 : h4.get? ea = some (listOf (rs.map Value.ref).toArray cp) := k4 _ _ (k3 _ _ e2 eaL) eaL era.symm
      have sk4 : s.heap.StaysIn h4 := fun b o e => k4 b o (k3 b o (k2 b o e) (nL2 b o e)) (nL2 b o e) (fun q => by rw [q] at e; rw [k2 _ _ e] at nra; cases nra)
      obtain ⟨tl5, hvh5, hN5, Cv5, ev5, htl5⟩ := focus [ra] F4
      have N5 := hN5 [(ra, listOf vs.toArray c2)] (List.forall_mem_cons.mpr ⟨⟨e4, Nat.ne_of_gt Lra, gra⟩, List.forall_mem_nil _⟩)
      have tc5 : ∀ q ∈ tl5, q.1 ≠ ra := fun q hq => htl5 q hq _ (.head _)
      simp only [List.cons_append, List.nil_append] at N5
      clear hN5 F9 N9
      have nI2 : I2 ≠ L ∧ I2 ≠ ra := ⟨fun q => by obtain ⟨o, es, n, e, d, _⟩ := F4.ns; rw [q, e] at eI2; cases eI2; exact dI2 _ _ d, fun q => by rw [q, show hC.get? ra = some _ from hra] at hn2; cases hn2⟩
      k_steps
      (with_reducible rename Fr _ _ _ _ => F9)
      (with_reducible rename News _ _ _ _ => N9)
      have S6 := Cv5.now F9 N9 (fun q hq => by repeat (first | assumption | refine List.Mem.tail _ ?_))
      have k6 : ∀ b o, h4.get? b = some o → b ≠ L → b ≠ ra → _ := fun b o e n1 n2 => S6 b o (ev5 ▸ hideAll_get _ e (by simp [n1, n2]))
      have sk6 : s.heap.StaysIn _ := fun b o e => k6 b o (sk4 b o e) (nL2 b o e) (fun q => by rw [q] at e; rw [k2 _ _ e] at nra; cases nra)
      have EO : EndsObj _ H0.objs.size Γ.E Γ.text.length i ea := ⟨lea, rs, cp, k6 _ _ hea4 eaL era.symm, hrs, fun j r e => by
        obtain ⟨n1, n2, n3, l9⟩ := hnr j r e
        exact ⟨l9, (hr j r e).2.sub fun o e9 => k6 _ _ (k4 _ _ (k3 _ _ e9 n1) n1 n2) n1 n2⟩⟩
      refine hold_of ?_
      refine end_all (dp := dp + 1) (un := un + 3) (gd := gd) (fr := _ :: fr) O (MG.push F9 rfl) G hst (sq.sub sk6) lq EO (Nat.le_of_lt_succ hj) (by omega) (by omega) ?_
      rintro v h7 tk7 ⟨t7, rfl⟩ k7
      have F7 := Fr.keeps F9 k7
      have N7 : News g L h7 _ := fun p hp => ⟨k7 _ _ (N9 p hp).1, (N9 p hp).2⟩
      clear F9 N9
      have hs1 : vs.toArray.size = j := by rw [List.size_toArray, hl]
      have hz1 : j ≤ 2000 := by have : Γ.n ≤ 1000 := G.ok.small; omega
      k_steps
      (with_reducible rename Fr _ _ _ _ => F9)
      (with_reducible rename News _ _ _ _ => N9)
      have S8 := Cv5.now F9 N9 (fun q hq => by repeat (first | assumption | refine List.Mem.tail _ ?_))
      have k8 : ∀ b o, h4.get? b = some o → b ≠ L → b ≠ ra → _ := fun b o e n1 n2 => S8 b o (ev5 ▸ hideAll_get _ e (by simp [n1, n2]))
      (try dsimp only)
      refine hold_of ?_
      refine ⟨_, _, rfl, ⟨_, frK (List.forall_mem_cons.mpr ⟨rfl, List.forall_mem_cons.mpr ⟨rfl, List.forall_mem_cons.mpr ⟨rfl, List.forall_mem_cons.mpr ⟨rfl, List.forall_mem_nil _⟩⟩⟩⟩) (fun _ _ => rfl) F9, fun b o e n1 n2 => k8 b o (k4 b o e n1 n2) n1 n2, vs ++ [.int (Γ.E i j) t7], c2 + 1, ?_, by rw [List.length_append, hl]; rfl, fun p hp => ?_⟩, fun o e => k8 _ _ e nI2.1 nI2.2⟩
      · rw [show (vs ++ [Value.int (Γ.E i j) t7]).toArray = vs.toArray.push (.int (Γ.E i j) t7) by simp]
        exact N9.get (.head _)
      · by_cases hpj : p < j
        · rw [List.getElem?_append_left (hl ▸ hpj)]; exact hv2 p hpj
        · have : p = j := by omega
          subst this
          exact ⟨t7, by rw [List.getElem?_append_right (Nat.le_of_eq hl), hl]; simp⟩
end Mine
end
section
open PySem PySem.W PyProof.Rows
set_option maxRecDepth 100000
namespace Mine
theorem rs40 : True := by
  w_top off
  trivial
/-- the table that the plan and the text say -/
def tabF (plan : List Stp) (text : Str) : Nat → Nat → Nat → Int
  | 0, _, _ => -1
  | f + 1, k, pos => match plan[k]? with
    | some st => stepEnd (tabF plan text f) text st pos
    | none => -1
def tab (plan : List Stp) (text : Str) (k pos : Nat) : Int := tabF plan text (k + 1) k pos
theorem stepEnd_congr {T T' : Nat → Nat → Int} {text : Str} {k pos : Nat} {st : Stp} (h : stepRefs k st) (e : ∀ i, i < k → T i = T' i) : stepEnd T text st pos = stepEnd T' text st pos := by
  cases st with
  | word x => rfl
  | both i j => simp only [stepEnd, e i h.1, e j h.2]
  | either i j => simp only [stepEnd, e i h.1, e j h.2]
  | look i => simp only [stepEnd, e i h]
  | nay i => simp only [stepEnd, e i h]
  | times i l m => simp only [stepEnd, e i h.1]
theorem tabF_fuel {plan : List Stp} {text : Str} (refs : ∀ k st, plan[k]? = some st → stepRefs k st) : ∀ k f f', k < f → k < f' → tabF plan text f k = tabF plan text f' k := by
  intro k
  induction k using Nat.strongRecOn with
  | _ k ih =>
    intro f f' h h'
    cases f with
    | zero => omega
    | succ f =>
      cases f' with
      | zero => omega
      | succ f' =>
        funext pos
        cases hp : plan[k]? with
        | none => simp only [tabF, hp]
        | some st =>
          simp only [tabF, hp]
          exact stepEnd_congr (refs k st hp) fun i hi => ih i hi f f' (by omega) (by omega)
theorem tab_eq {plan : List Stp} {text : Str} (refs : ∀ k st, plan[k]? = some st → stepRefs k st) {k pos : Nat} {st : Stp} (hp : plan[k]? = some st) : tab plan text k pos = stepEnd (tab plan text) text st pos := by
  show tabF plan text (k + 1) k pos = _
  simp only [tabF, hp]
  exact stepEnd_congr (refs k st hp) fun i hi => by
    funext p
    exact congrFun (tabF_fuel refs i k (i + 1) hi (Nat.lt_succ_self i)) p
theorem runs_zero' {E : Nat → Int} {most : Int} {f c p : Nat} (h : ¬ ((c : Int) ≠ most ∧ 0 ≤ E p)) : runs E most f c p = ([], p) := by
  cases f with
  | zero => rfl
  | succ f => unfold runs; rw [if_neg h]
theorem runs_succ' {E : Nat → Int} {most : Int} {f c p : Nat} (h : (c : Int) ≠ most ∧ 0 ≤ E p) : runs E most (f + 1) c p = (p :: (runs E most f (c + 1) (E p).toNat).1, (runs E most f (c + 1) (E p).toNat).2) := by
  show (if _ then _ else _) = _
  rw [if_pos h]
/-- may a step match nothing -/
def stepEmp (e : Nat → Bool) : Stp → Bool
  | .word x => decide (x.length = 0)
  | .both i j => e i && e j
  | .either i j => e i || e j
  | .look _ => true
  | .nay _ => true
  | .times _ l _ => decide (l = 0)
structure Valid (plan : List Stp) (em : List Bool) : Prop where
  len : em.length = plan.length
  refs : ∀ (k : Nat) (st : Stp), plan[k]? = some st → stepRefs k st
  emp : ∀ (k : Nat) (st : Stp), plan[k]? = some st → em[k]? = some (stepEmp (fun i => em.getD i false) st)
  tm : ∀ (k i l : Nat) (m : Int), plan[k]? = some (Stp.times i l m) → em.getD i false = false
  wl : ∀ (k : Nat) (x : Str), plan[k]? = some (.word x) → x.length ≤ 10
theorem stepEmp_congr {e e' : Nat → Bool} {k : Nat} {st : Stp} (h : stepRefs k st) (q : ∀ i, i < k → e i = e' i) : stepEmp e st = stepEmp e' st := by
  cases st with
  | word x => rfl
  | both i j => simp only [stepEmp, q i h.1, q j h.2]
  | either i j => simp only [stepEmp, q i h.1, q j h.2]
  | look i => rfl
  | nay i => rfl
  | times i l m => rfl
theorem getD_snoc {em : List Bool} {b : Bool} {i : Nat} (h : i < em.length) : (em ++ [b]).getD i false = em.getD i false := by
  simp only [List.getD_eq_getElem?_getD, List.getElem?_append_left h]
theorem Valid.snoc {plan : List Stp} {em : List Bool} (V : Valid plan em) {st : Stp} (hr : stepRefs plan.length st) (ht : ∀ i l m, st = Stp.times i l m → em.getD i false = false) (hw : ∀ x, st = .word x → x.length ≤ 10) :
    Valid (plan ++ [st]) (em ++ [stepEmp (fun i => em.getD i false) st]) := by
  have at_ : ∀ k st', (plan ++ [st])[k]? = some st' → (plan[k]? = some st' ∧ k < plan.length) ∨ (k = plan.length ∧ st' = st) := fun k st' e => by
    by_cases hk : k < plan.length
    · rw [List.getElem?_append_left hk] at e; exact .inl ⟨e, hk⟩
    · have h1 := (List.getElem?_eq_some_iff.mp e).1
      rw [List.length_append] at h1
      have hk2 : k = plan.length := by simp at h1; omega
      subst hk2
      simp at e
      exact .inr ⟨rfl, e.symm⟩
  refine ⟨by simp [V.len], fun k st' e => ?_, fun k st' e => ?_, fun k i l m e => ?_, fun k x e => ?_⟩
  · rcases at_ k st' e with ⟨e1, _⟩ | ⟨rfl, rfl⟩
    · exact V.refs k st' e1
    · exact hr
  · rcases at_ k st' e with ⟨e1, hk⟩ | ⟨rfl, rfl⟩
    · have hk2 : k < em.length := by rw [V.len]; exact hk
      rw [List.getElem?_append_left hk2, V.emp k st' e1]
      exact congrArg some (stepEmp_congr (V.refs k st' e1) fun i hi => (getD_snoc (by omega)).symm)
    · rw [List.getElem?_append_right (by rw [V.len]; exact Nat.le_refl _), V.len, Nat.sub_self]
      exact congrArg some (stepEmp_congr hr fun i hi => (getD_snoc (by rw [V.len]; exact hi)).symm)
  · rcases at_ k _ e with ⟨e1, hk⟩ | ⟨rfl, e1⟩
    · have := (V.refs k _ e1).1
      rw [getD_snoc (by rw [V.len]; omega)]
      exact V.tm k i l m e1
    · subst e1
      rw [getD_snoc (by rw [V.len]; exact hr.1)]
      exact ht i l m rfl
  · rcases at_ k _ e with ⟨e1, hk⟩ | ⟨rfl, e1⟩
    · exact V.wl k x e1
    · exact hw x e1.symm
theorem runs_end {E : Nat → Int} {most : Int} {n : Nat} (hE : ∀ p, p ≤ n → (E p = -1 ∨ (p : Int) ≤ E p) ∧ E p ≤ n) : ∀ f c p, p ≤ n → p ≤ (runs E most f c p).2 ∧ (runs E most f c p).2 ≤ n ∧ (∀ x ∈ (runs E most f c p).1, x ≤ n ∧ 0 ≤ E x)
  | 0, c, p, h => ⟨Nat.le_refl _, h, fun x hx => absurd hx List.not_mem_nil⟩
  | f + 1, c, p, h => by
    by_cases hc : (c : Int) ≠ most ∧ 0 ≤ E p
    · rw [runs_succ' hc]
      have h1 := hE p h
      have ih := runs_end hE (most := most) f (c + 1) (E p).toNat (by omega)
      refine ⟨?_, ih.2.1, fun x hx => ?_⟩
      · show p ≤ (runs E most f (c + 1) (E p).toNat).2
        have := ih.1; omega
      · rcases List.mem_cons.mp hx with rfl | hx
        · exact ⟨h, hc.2⟩
        · exact ih.2.2 x hx
    · rw [runs_zero' hc]
      exact ⟨Nat.le_refl _, h, fun x hx => absurd hx List.not_mem_nil⟩
theorem runs_grow {E : Nat → Int} {most : Int} {n : Nat} (hE : ∀ p, p ≤ n → (E p = -1 ∨ (p : Int) ≤ E p) ∧ E p ≤ n) (hg : ∀ p, p ≤ n → E p ≠ p) {f c p : Nat} (h : p ≤ n) (hl : 0 < (runs E most f c p).1.length) : p < (runs E most f c p).2 := by
  cases f with
  | zero => exact absurd hl (Nat.lt_irrefl _)
  | succ f =>
    by_cases hc : (c : Int) ≠ most ∧ 0 ≤ E p
    · rw [runs_succ' hc]
      have h1 := hE p h
      have h2 := hg p h
      have ih := runs_end hE (most := most) f (c + 1) (E p).toNat (by omega)
      show p < (runs E most f (c + 1) (E p).toNat).2
      have := ih.1; omega
    · rw [runs_zero' hc] at hl; exact absurd hl (Nat.lt_irrefl _)
theorem wordEnd_le {x text : Str} {pos : Nat} (hp : pos ≤ text.length) : (wordEnd x text pos = -1 ∨ wordEnd x text pos = (pos + x.length : Nat)) ∧ wordEnd x text pos ≤ text.length := by
  unfold wordEnd
  by_cases h : (Str.mk (text.cps.extract pos (pos + x.length))) = x
  · rw [if_pos h]
    refine ⟨.inr rfl, ?_⟩
    have e : (text.cps.extract pos (pos + x.length)).size = x.length := by
      have := congrArg Str.length h
      exact this
    rw [Array.size_extract] at e
    have hx : text.length = text.cps.size := rfl
    omega
  · rw [if_neg h]
    exact ⟨.inl rfl, by omega⟩
theorem Valid.sound {plan : List Stp} {em : List Bool} (V : Valid plan em) (text : Str) : ∀ k, k < plan.length → ∀ pos, pos ≤ text.length →
    ((tab plan text k pos = -1 ∨ (pos : Int) ≤ tab plan text k pos) ∧ tab plan text k pos ≤ text.length) ∧ (em.getD k false = false → tab plan text k pos ≠ pos) := by
  intro k
  induction k using Nat.strongRecOn with
  | _ k ih =>
    intro hk pos hpos
    obtain ⟨st, hst⟩ : ∃ st, plan[k]? = some st := ⟨_, List.getElem?_eq_getElem hk⟩
    have hr := V.refs k st hst
    have he : em.getD k false = stepEmp (fun i => em.getD i false) st := by rw [List.getD_eq_getElem?_getD, V.emp k st hst]; rfl
    rw [tab_eq V.refs hst, he]
    have IH : ∀ i, i < k → ∀ p, p ≤ text.length → _ := fun i hi => ih i hi (Nat.lt_trans hi hk)
    cases st with
    | word x =>
      have h1 := wordEnd_le (x := x) hpos
      simp only [stepEnd, stepEmp]
      refine ⟨⟨by omega, h1.2⟩, fun hx => ?_⟩
      have : x.length ≠ 0 := by simpa using hx
      omega
    | both i j =>
      have a := IH i hr.1 pos hpos
      simp only [stepEnd, stepEmp]
      by_cases h0 : 0 ≤ tab plan text i pos
      · have b := IH j hr.2 (tab plan text i pos).toNat (by omega)
        rw [if_pos h0]
        refine ⟨⟨by omega, b.1.2⟩, fun hx => ?_⟩
        rcases Bool.and_eq_false_iff.mp hx with hx | hx
        · have := a.2 hx; omega
        · have := b.2 hx; omega
      · rw [if_neg h0]
        exact ⟨⟨.inl rfl, by omega⟩, fun _ => by omega⟩
    | either i j =>
      have a := IH i hr.1 pos hpos
      have b := IH j hr.2 pos hpos
      simp only [stepEnd, stepEmp]
      by_cases h0 : 0 ≤ tab plan text i pos
      · rw [if_pos h0]
        exact ⟨a.1, fun hx => a.2 (Bool.or_eq_false_iff.mp hx).1⟩
      · rw [if_neg h0]
        exact ⟨b.1, fun hx => b.2 (Bool.or_eq_false_iff.mp hx).2⟩
    | look i =>
      simp only [stepEnd, stepEmp]
      by_cases h0 : 0 ≤ tab plan text i pos
      · rw [if_pos h0]; exact ⟨⟨by omega, by omega⟩, fun hx => by cases hx⟩
      · rw [if_neg h0]; exact ⟨⟨by omega, by omega⟩, fun hx => by cases hx⟩
    | nay i =>
      simp only [stepEnd, stepEmp]
      by_cases h0 : 0 ≤ tab plan text i pos
      · rw [if_pos h0]; exact ⟨⟨by omega, by omega⟩, fun hx => by cases hx⟩
      · rw [if_neg h0]; exact ⟨⟨by omega, by omega⟩, fun hx => by cases hx⟩
    | times i l m =>
      have hE : ∀ p, p ≤ text.length → (tab plan text i p = -1 ∨ (p : Int) ≤ tab plan text i p) ∧ tab plan text i p ≤ text.length := fun p hp => (IH i hr.1 p hp).1
      have hg : ∀ p, p ≤ text.length → tab plan text i p ≠ p := fun p hp => (IH i hr.1 p hp).2 (V.tm k i l m hst)
      simp only [stepEnd, stepEmp]
      have e := runs_end hE (most := m) (text.length + 1) 0 pos hpos
      by_cases h0 : (runs (tab plan text i) m (text.length + 1) 0 pos).1.length ≥ l
      · rw [if_pos h0]
        refine ⟨⟨by omega, by omega⟩, fun hx => ?_⟩
        have hl : l ≠ 0 := by simpa using hx
        have := runs_grow hE hg (most := m) (f := text.length + 1) (c := 0) hpos (by omega)
        omega
      · rw [if_neg h0]
        exact ⟨⟨by omega, by omega⟩, fun _ => by omega⟩
end Mine
end
section
open PySem PySem.W PyProof.Rows PySem.Calls PySem.Spec
set_option maxRecDepth 100000
namespace Mine
local macro_rules | `(tactic| walk_at "0") => `(tactic| skip)
local macro_rules | `(tactic| walk_at "0") => `(tactic| skip)
local macro_rules | `(tactic| walk_at "0") => `(tactic| skip)
local macro_rules | `(tactic| walk_at "0") => `(tactic| skip)
local macro_rules | `(tactic| walk_at "0") => `(tactic| skip)
local macro_rules | `(tactic| walk_at "0") => `(tactic| skip)
local macro_rules | `(tactic| walk_at "0") => `(tactic| skip)
local macro_rules | `(tactic| walk_at "0") => `(tactic| skip)
local macro_rules | `(tactic| walk_at "0") => `(tactic| skip)
local macro_rules | `(tactic| walk_at "0") => `(tactic| skip)
local macro_rules | `(tactic| walk_at "0") => `(tactic| skip)
local macro_rules | `(tactic| walk_at "0") => `(tactic| skip)
local macro_rules | `(tactic| walk_at "0") => `(tactic| skip)
local macro_rules | `(tactic| walk_at "0") => `(tactic| skip)
local macro_rules | `(tactic| walk_at "0") => `(tactic| skip)
local macro_rules | `(tactic| walk_at "0") => `(tactic| skip)
local macro_rules | `(tactic| walk_at "0") => `(tactic| skip)
local macro_rules | `(tactic| walk_at "0") => `(tactic| skip)
local macro_rules | `(tactic| walk_at "0") => `(tactic| skip)
local macro_rules | `(tactic| walk_at "0") => `(tactic| skip)
local macro_rules | `(tactic| walk_at "0") => `(tactic| skip)
local macro_rules | `(tactic| walk_at "0") => `(tactic| skip)
local macro_rules | `(tactic| walk_at "0") => `(tactic| skip)
local macro_rules | `(tactic| walk_at "0") => `(tactic| skip)
local macro_rules | `(tactic| walk_at "0") => `(tactic| skip)
local macro_rules | `(tactic| walk_at "0") => `(tactic| skip)
local macro_rules | `(tactic| walk_at "0") => `(tactic| skip)
local macro_rules | `(tactic| walk_at "0") => `(tactic| skip)
local macro_rules | `(tactic| walk_at "0") => `(tactic| skip)
local macro_rules | `(tactic| walk_at "0") => `(tactic| skip)
local macro_rules | `(tactic| walk_at "0") => `(tactic| skip)
local macro_rules | `(tactic| walk_at "0") => `(tactic| skip)
local macro_rules | `(tactic| walk_at "0") => `(tactic| skip)
local macro_rules | `(tactic| walk_at "0") => `(tactic| skip)
local macro_rules | `(tactic| walk_at "0") => `(tactic| skip)
local macro_rules | `(tactic| walk_at "0") => `(tactic| skip)
local macro_rules | `(tactic| walk_at "0") => `(tactic| skip)
local macro_rules | `(tactic| walk_at "0") => `(tactic| skip)
local macro_rules | `(tactic| walk_at "0") => `(tactic| skip)
local macro_rules | `(tactic| walk_at "0") => `(tactic| skip)
theorem rs41 : True := by
  w_top off
  trivial
variable {w : World} {p : Program} {loose : List Str} {mean : ExcName → Option Value} {mg mb : Str → Option Value} {H0 : Heap} {Γ : Cfg}
/-- the same expressions, another text, the tables of the first run -/
abbrev Cfg.next (Γ : Cfg) (t : Str) (u : Tok) (T : Nat → Nat → Int) (ecs : List Addr) : Cfg := { Γ with text := t, tk := u, E := T, olds := ecs }
theorem ExprObj.cfg {Γ Γ' : Cfg} {h : Heap} {d : Addr} {st : Stp} {o : Obj} {k : Nat} (x : ExprObj Γ h d st o) (hr : stepRefs k st) (he : ∀ i, i < k → Γ'.ea i = Γ.ea i) (hl : Γ'.lo0 = Γ.lo0) : ExprObj Γ' h d st o := by
  cases st with
  | word _ => exact x
  | both i j => obtain ⟨mt, mn, it, nm, tn, e0, e, l, q⟩ := x; exact ⟨mt, mn, it, nm, tn, e0, e, hl ▸ l, by rw [he i hr.1, he j hr.2]; exact q⟩
  | either i j => obtain ⟨mt, mn, it, nm, tn, e0, e, l, q⟩ := x; exact ⟨mt, mn, it, nm, tn, e0, e, hl ▸ l, by rw [he i hr.1, he j hr.2]; exact q⟩
  | look i => obtain ⟨mt, mn, it, nm, tn, e0, e, l, q⟩ := x; exact ⟨mt, mn, it, nm, tn, e0, e, hl ▸ l, by rw [he i hr]; exact q⟩
  | nay i => obtain ⟨mt, mn, it, nm, tn, e0, e, l, q⟩ := x; exact ⟨mt, mn, it, nm, tn, e0, e, hl ▸ l, by rw [he i hr]; exact q⟩
  | times i least most => obtain ⟨mx, tl, mt, mn, it, nm, tn, e0, e, l, q, r⟩ := x; exact ⟨mx, tl, mt, mn, it, nm, tn, e0, e, hl ▸ l, by rw [he i hr.1]; exact q, r⟩
theorem Inv.pre {h : Heap} {b : Nat} {ca de err : Addr} {reg : Nat → Option Nat} {ecs : List Addr} (I : Inv w (Γ.run ca de err) b h reg ecs) (S : Stand (Γ.run ca de err) h ecs) (refs : ∀ k st, Γ.plan[k]? = some st → stepRefs k st) (ho : Γ.olds = []) (t : Str) (u : Tok) (T : Nat → Nat → Int) : Pre w (Γ.next t u T ecs) h := by
  have nd := I.nd
  unfold dictAddrs at nd
  rw [List.nodup_cons, List.nodup_cons, List.nodup_append] at nd
  obtain ⟨n1, n2, n3, n4, n5⟩ := nd
  refine ⟨fun k st e => ?_, n3, fun k hk => ?_, fun k hk => ?_, fun a ha => ?_⟩
  · obtain ⟨l, o, h1, h2⟩ := I.ex k st e
    exact ⟨l, o, h1, h2.cfg (refs k st e) (fun _ _ => rfl) rfl⟩
  · exact ⟨I.dl _ (I.mem_da hk), fun hm => n5 _ (List.mem_map.mpr ⟨k, List.mem_range.mpr hk, rfl⟩) _ hm rfl⟩
  · have := I.att k hk
    cases hr : reg k with
    | some oid =>
      rw [hr] at this
      obtain ⟨n, t', tp, tn, pr, pn, tk', rest, ec, h1, h2, h3, h4, h5, h6, h7⟩ := this
      have e := h7 ho
      subst e
      exact .inr ⟨oid, n, t', tp, tn, pr, pn, tk', ec, h2, h3, h4, h5, h6, List.mem_of_getElem? h1⟩
    | none =>
      rw [hr] at this
      rcases this with ⟨n, h2⟩ | ⟨o', n, t', tp, tn, pr, pn, tk', ec, h2, _, _, _, _, h7⟩
      · exact .inl ⟨n, h2⟩
      · exact absurd (show ec ∈ Γ.olds from h7) (by rw [ho]; exact List.not_mem_nil)
  · obtain ⟨o, e, c⟩ := S.new a ha
    exact ⟨o, e, c, I.dl _ (mem_ecs ha)⟩
/-- an object of no class of the text but those of the expressions stands -/
theorem Pre.move {h h' : Heap} (P : Pre w Γ h) (kp : ∀ a o, h.get? a = some o → (o.cls = .type "dict" ∨ o.cls = .type "tuple" ∨ ∃ st, o.cls = .ref (clsOf st)) → h'.get? a = some o) : Pre w Γ h' := by
  have kt : ∀ {a vs n}, h.get? a = some (tupOf vs n) → h'.get? a = some (tupOf vs n) := fun e => kp _ _ e (.inr (.inl rfl))
  have kd : ∀ {a es n}, h.get? a = some (dictOf es n) → h'.get? a = some (dictOf es n) := fun e => kp _ _ e (.inl rfl)
  refine ⟨fun k st e => ?_, P.nd, P.dl, fun k hk => ?_, fun a ha => ?_⟩
  · obtain ⟨l, o, h1, h2⟩ := P.ex k st e
    refine ⟨l, o, kp _ _ h1 (.inr (.inr ⟨st, h2.plain.2.2⟩)), ?_⟩
    cases st with
    | word _ => exact h2
    | both i j => obtain ⟨mt, mn, it, nm, tn, e0, e, l, q⟩ := h2; exact ⟨mt, mn, it, nm, tn, e0, e, l, kt q⟩
    | either i j => obtain ⟨mt, mn, it, nm, tn, e0, e, l, q⟩ := h2; exact ⟨mt, mn, it, nm, tn, e0, e, l, kt q⟩
    | look i => obtain ⟨mt, mn, it, nm, tn, e0, e, l, q⟩ := h2; exact ⟨mt, mn, it, nm, tn, e0, e, l, kt q⟩
    | nay i => obtain ⟨mt, mn, it, nm, tn, e0, e, l, q⟩ := h2; exact ⟨mt, mn, it, nm, tn, e0, e, l, kt q⟩
    | times i least most => obtain ⟨mx, tl, mt, mn, it, nm, tn, e0, e, l, q, r⟩ := h2; exact ⟨mx, tl, mt, mn, it, nm, tn, e0, e, l, kt q, r⟩
  · rcases P.att k hk with ⟨n, h1⟩ | ⟨o, n, t, tp, tn, pr, pn, tk', ec, h2, h3, h4, h5, h6, h7⟩
    · exact .inl ⟨n, kd h1⟩
    · exact .inr ⟨o, n, t, tp, tn, pr, pn, tk', ec, kd h2, h3, h4, kt h5, kt h6, h7⟩
  · obtain ⟨o, e, c, l⟩ := P.old a ha
    exact ⟨o, kp _ _ e (.inl c), c, l⟩
theorem clsOf_in (st : Stp) : clsOf st ∈ ([336, 394, 420, 458, 504] : List Addr) := by
  cases st <;> (unfold clsOf; simp)
theorem clsOf_ne (st : Stp) : clsOf st ≠ 94 ∧ clsOf st ≠ 132 := by
  have h := clsOf_in st
  have k : ∀ a ∈ ([336, 394, 420, 458, 504] : List Addr), a ≠ 94 ∧ a ≠ 132 := by decide
  exact k _ h
/-- the list of the expressions -/
def MadeObj (h : Heap) (lo : Nat) (Γ : Cfg) (a : Addr) : Prop := lo ≤ a ∧ ∃ cap, h.get? a = some (listOf ((List.range Γ.N).map fun k => Value.ref (Γ.ea k)).toArray cap)
theorem MadeObj.sub {h h' : Heap} {lo : Nat} {a : Addr} (R : MadeObj h lo Γ a) (kp : h.StaysIn h') : MadeObj h' lo Γ a := let ⟨l, c, e⟩ := R; ⟨l, c, kp _ _ e⟩
theorem NodeRep.run {h : Heap} {ca de err r : Addr} {k pos : Nat} (x : NodeRep (Γ.run ca de err) h r k pos) : NodeRep Γ h r k pos := by
  induction x with
  | mk ch l1 l2 h1 h2 ld hd h3 _ ih => exact .mk ch l1 l2 h1 h2 ld hd h3 ih
end Mine
end
section
open PySem PySem.W PyProof.Rows PySem.Calls PySem.Spec Builtin Builtin.ObjectAttr
set_option maxRecDepth 100000
set_option maxHeartbeats 8000000
namespace Mine
theorem rs42 : True := by
  w_top off
  trivial
variable {w : World} {p : Program} {loose : List Str} {mean : ExcName → Option Value} {mg mb : Str → Option Value} {H0 : Heap} {Γ : Cfg}
/-- what a node's children are due to match, matches -/
theorem due_ok (C : Γ.Ok) {k pos : Nat} (hk : k < Γ.N) (hp : pos ≤ Γ.n) (h0 : 0 ≤ Γ.E k pos) : ∀ q ∈ Γ.due k pos, q.1 < k ∧ q.2 ≤ Γ.n ∧ 0 ≤ Γ.E q.1 q.2 := by
  obtain ⟨st, hst⟩ : ∃ st, Γ.plan[k]? = some st := ⟨_, List.getElem?_eq_getElem hk⟩
  have hr := C.refs k st hst
  have hE := C.eq k st pos hst hp
  intro q hq
  unfold Cfg.due at hq
  rw [hst] at hq
  rw [hE] at h0
  cases st with
  | word x => cases hq
  | look i => cases hq
  | nay i => cases hq
  | both i j =>
    simp only [stepEnd] at h0
    have h1 : 0 ≤ Γ.E i pos := by
      apply Classical.byContradiction
      intro hn
      rw [if_neg hn] at h0
      omega
    rw [if_pos h1] at h0
    have h2 := C.hi i pos (Nat.lt_trans hr.1 hk) hp
    rcases List.mem_cons.mp hq with rfl | hq
    · exact ⟨hr.1, hp, h1⟩
    · rw [List.mem_singleton.mp hq]
      exact ⟨hr.2, by show (Γ.E i pos).toNat ≤ _; omega, h0⟩
  | either i j =>
    simp only [stepEnd] at h0
    rw [List.mem_singleton.mp hq]
    by_cases h1 : 0 ≤ Γ.E i pos
    · rw [if_pos h1]; exact ⟨hr.1, hp, h1⟩
    · rw [if_neg h1] at h0 ⊢; exact ⟨hr.2, hp, h0⟩
  | times i l m =>
    obtain ⟨x, hx, rfl⟩ := List.mem_map.mp hq
    have hE : ∀ p, p ≤ Γ.n → (Γ.E i p = -1 ∨ (p : Int) ≤ Γ.E i p) ∧ Γ.E i p ≤ Γ.n := fun p h => ⟨C.lo i p (Nat.lt_trans hr.1 hk) h, C.hi i p (Nat.lt_trans hr.1 hk) h⟩
    have := (runs_end hE (most := m) (Γ.text.length + 1) 0 pos hp).2.2 x hx
    exact ⟨hr.1, this.1, this.2⟩
theorem runs_len {E : Nat → Int} {most : Int} : ∀ f c p, (runs E most f c p).1.length ≤ f
  | 0, c, p => Nat.le_refl _
  | f + 1, c, p => by
    by_cases h : (c : Int) ≠ most ∧ 0 ≤ E p
    · rw [runs_succ h]; exact Nat.succ_le_succ (runs_len f (c + 1) _)
    · rw [runs_zero h]; exact Nat.zero_le _
theorem due_len (h : Γ.text.length ≤ 1000) (k pos : Nat) : (Γ.due k pos).length ≤ 2000 := by
  unfold Cfg.due
  cases Γ.plan[k]? with
  | none => exact Nat.zero_le _
  | some st =>
    cases st with
    | times i l m =>
      show (List.map _ _).length ≤ _
      rw [List.length_map]
      have := runs_len (E := Γ.E i) (most := m) (Γ.text.length + 1) 0 pos
      omega
    | word x => exact Nat.zero_le _
    | look i => exact Nat.zero_le _
    | nay i => exact Nat.zero_le _
    | both i j => show 2 ≤ 2000; decide
    | either i j => show 1 ≤ 2000; decide
def Stop : Prop := True
section
variable {prog : Program} {A : Around} {E : Value → Shared → Prop} {s : Shared}
theorem ne_b' {a c : Int} {t u : Tok} {b : Bool} {Q : Value → Shared → Prop} (hb : b = (a != c)) (h : Q (.bool b) s) : wpAny (model prog w) A (compareOp .NotEq (.int a t) (.int c u)) Q E s := by
  subst hb; exact PyProof.Rows.ne_int h
theorem get_propS {K : Frag} {x C p fget L : Addr} {ox od : Obj} {h₀ : Heap} {m : Str → Option Value} {name : Str} {expr : Bool} {Q : Value → Shared → Prop} {rest : List Value} (F : Fr h₀ L s.heap m) (X₀ : K.In h₀) (I : InstAt s.heap x ox C (some od)) (hg : plainGet K C name = true) (hc : isClsIn K C = true)
    (ha : findIn K (.ref C) name = some (some (.ref p))) (hn : specialIn K (.ref p) "__get__" = some (some (.builtin "property.__get__"))) (ht : takesIn K (.ref p) = some true) (hp : recIn K p "property" = some (.ref fget :: rest))
    (h : codeAny (model prog w) A.in1 (.call (.ref fget) ⟨[.ref x], []⟩) (fun r s' => match r with | .ok (.ret v) => wpAny (model prog w) A (handedOut v) Q E s' | .ok _ => False | .error e => wpAny (model prog w) A (noteIf true (.ref x) (.str name s.toks) e) (fun _ s'' => E e s'') E s') { s with toks := s.toks + 1 }) :
    wpAny (model prog w) A (getAttr (.ref x) name expr) Q E s :=
  get_bind (X₀.keeps F.keep) I (plainGet_of hg).1 (findObj_data hc ha hn ht) (plainGet_of hg).2 (wpAny_call (prop_get (s := { s with toks := s.toks + 1 }) (X₀.keeps F.keep) hp h))
theorem wp_cut {α : Type} {M : Model} {m : Sem α} {Q : α → Shared → Prop} (J : α → Shared → Prop) (h1 : wpAny M A m (fun a s' => Hold (J a s')) E s) (h2 : ∀ a s', J a s' → Q a s') : wpAny M A m Q E s := wpAny_mono h1 (fun a s' h => h2 a s' h) fun _ _ e => e
theorem ne_sself {a : Str} {t u : Tok} {Q : Value → Shared → Prop} (h : Q (.bool false) s) : wpAny (model prog w) A (compareOp .NotEq (.str a t) (.str a u)) Q E s := by
  refine PyProof.Rows.ne_str ?_
  simpa using h
theorem ne_self {a : Int} {t u : Tok} {Q : Value → Shared → Prop} (h : Q (.bool false) s) : wpAny (model prog w) A (compareOp .NotEq (.int a t) (.int a u)) Q E s := by
  refine PyProof.Rows.ne_int ?_
  simpa using h
end
local macro_rules | `(tactic| k_room) => `(tactic| ktr_room)
local macro_rules | `(tactic| k_all) => `(tactic| first | assumption | (intro q9 hq9; (try dsimp only); first | exact allLt_ne (by assumption) (by omega) q9 hq9 | exact lt_ne (by assumption) (by omega) q9 hq9))
local macro_rules | `(tactic| k_inst) => `(tactic| (refine' instOf ?N ?h1 ?h2 ?e1 ?e2 ?e3; (case N => k_asm); (case h1 => k_mem); (case e1 => first | assumption | exact rfl); (case e2 => first | assumption | exact rfl); (case h2 => k_mem); (case e3 => first | assumption | exact rfl)))
local macro_rules | `(tactic| walk_at "subscriptTail") => `(tactic| (k_here; (with_reducible show wpAny _ _ (subscriptTail _ _ (Value.ref _) (Value.int _ _)) _ _ _); k_dflt (refine' kim_list ?N ?m ?hc ?hd ?h0 ?h1 ?hx ?_; (case N => k_asm); (case m => k_mem); (case hc => rfl); (case hd => rfl); (case h0 => first | assumption | omega); (case h1 => omega); (case hx => assumption); k_whole)))
local macro_rules | `(tactic| walk_at "subscriptTail Subscript") => `(tactic| (k_here; k_dflt (refine kba_turn (value' := PySem.Expr.Name (PySem.Str.ofString "_") ⟨0, 0, 0, 0⟩) (fun _ => rfl) ?_)))
local macro_rules | `(tactic| walk_at "subscriptTail Name Name ref int") => `(tactic| (k_here; (with_reducible show wpAny _ _ (subscriptTail _ _ (Value.ref _) (Value.int _ _)) _ _ _); k_dflt (refine' kim_list ?N ?m ?hc ?hd ?h0 ?h1 ?hx ?_; (case N => k_asm); (case m => k_mem); (case hc => rfl); (case hd => rfl); (case h0 => first | assumption | omega); (case h1 => omega); (case hx => assumption); k_whole)))
local macro_rules | `(tactic| walk_at "subscriptTail") => `(tactic| (k_here; (fail_if_success (with_reducible show wpAny _ _ (subscriptTail (PySem.Expr.Name _ _) _ _ _) _ _ _)); k_dflt (refine kba_turn (value' := PySem.Expr.Name (PySem.Str.ofString "_") ⟨0, 0, 0, 0⟩) (fun _ => rfl) ?_)))
local macro_rules | `(tactic| walk_at "subscriptTail") => `(tactic| (k_here; (with_reducible show wpAny _ _ (subscriptTail (PySem.Expr.Name _ _) (PySem.Expr.Constant _ _ _) (Value.ref _) (Value.int _ _)) _ _ _); k_dflt (refine' kim_tup ?N ?m ?hc ?hd ?hlo ?hhi ?hj ?hx ?_; (case N => k_asm); (case m => k_mem); (case hc => exact rfl); (case hd => exact rfl); (case hlo => decide); (case hhi => decide); (case hj => exact rfl); (case hx => exact rfl); k_whole)))
local macro_rules | `(tactic| walk_at "compareOp GtE int int") => `(tactic| (k_here; (with_reducible show wpAny _ _ (compareOp CmpOp.GtE (Value.int _ _) (Value.int _ _)) _ _ _); k_dflt (refine' ge_b ?hb ?_; (case hb => first | exact (decide_eq_true (by assumption)).symm | exact (decide_eq_false (by assumption)).symm); k_whole)))
local macro_rules | `(tactic| walk_at "eval Name") => `(tactic| (k_here; k_dflt (refine' ld ?k1 ?k2 ?_; (case k1 => k_asm); (case k2 => exact rfl); k_whole)))
local macro_rules | `(tactic| walk_at "call ref") => `(tactic| (k_here; (with_reducible show wpAny _ _ (call (Value.ref _) _ _) _ _ _); refine hold_of ?_))
local macro_rules | `(tactic| walk_at "exec For") => `(tactic| (k_here; (with_reducible show wpAny _ _ (exec (Stmt.For _ _ _ _ _) _) _ _ _); k_dflt (refine for_hold ?_)))
local macro_rules | `(tactic| walk_at "exec If") => `(tactic| (k_here; (with_reducible show wpAny _ _ (exec (Stmt.If (PySem.Expr.Compare (PySem.Expr.Subscript _ _ _) _ _ _) _ _ _) _) _ _ _); (with_reducible rename Stop => stp'); refine hold_of ?_))
local macro_rules | `(tactic| walk_at "compareOp NotEq int int") => `(tactic| (k_here; (with_reducible show wpAny _ _ (compareOp CmpOp.NotEq (Value.int _ _) (Value.int _ _)) _ _ _); k_dflt (first | (refine' ne_b' ?hb ?_; (case hb => with_reducible assumption); k_whole) | (refine ne_self ?_; k_whole))))
local macro_rules | `(tactic| walk_at "compareOp NotEq str str") => `(tactic| (k_here; (with_reducible show wpAny _ _ (compareOp CmpOp.NotEq (Value.str _ _) (Value.str _ _)) _ _ _); k_dflt (refine ne_sself ?_; k_whole)))
local macro_rules | `(tactic| walk_at "call builtin:len") => `(tactic| (k_here; (with_reducible show wpAny _ _ (call (Value.builtin "len") [Value.ref _]) _ _ _); k_dflt (refine' len_its ?N ?m ?hc ?hz ?_; (case N => k_asm); (case m => k_mem); (case hc => assumption); (case hz => assumption); k_whole)))
local macro_rules | `(tactic| walk_at "call type:zip") => `(tactic| (k_here; (with_reducible show wpAny _ _ (call (Value.type _) [Value.ref _, Value.ref _]) _ _ _); refine hold_of ?_))
local macro_rules | `(tactic| walk_at "exec While BoolOp") => `(tactic| (k_here; (with_reducible show wpAny _ _ (exec (Stmt.While _ _ _ _) _) _ _ _); k_dflt (refine whl_hold ?_)))
local macro_rules | `(tactic| walk_at "exec While BoolOp cons nil") => `(tactic| (k_here; (with_reducible show wpAny _ _ (exec (Stmt.While _ _ _ _) _) _ _ _); k_dflt (refine whl_hold ?_)))
local macro_rules | `(tactic| walk_at "newList") => `(tactic| (k_here; k_dflt (refine' newList_KL ?k1 ?k2 ?_; (case k1 => k_asm); (case k2 => k_asm); k_whole); intro l' h' F' N' l1 lL; (try k_lt l1); (try k_sweep)))
theorem node_text (O : Old w p loose mean mg mb H0) {dp un : Nat} {gd : Option (List Code)} {fr : List Env} {s : Shared} {r d ex c : Addr} {t : Str} {tk tk1 tk2 : Tok} {i j : Int} {od : Obj} {R : Result → Shared → Prop}
    (M : Amb H0 fr s.heap) (hr : s.heap.get? r = some (nodeObj d ex t tk i tk1 j tk2 c)) (hd : s.heap.get? d = some od) (lr : H0.objs.size ≤ r) (ld : H0.objs.size ≤ d) (nd : d ∉ frs fr) (ht : t.length ≤ 1000) (hdp : dp + 4 < recursionLimit)
    (hR : ∀ h' tk' t', s.heap.StaysIn h' → R (.ok (.ret (.str (Txt.slice t (some i) (some j)) t'))) { s with heap := h', toks := tk' }) :
    codeAny (model PySem.Challenge.rw_vy0014_01.row.prog w) (ar dp un gd fr) (.call (.ref 172) ⟨[.ref r], []⟩) R s := by
  refine' enterF O M ?ho ?hcd ?hr ?hb ?hl ?_ ?c1 ?c2 ?c3 ?c4
  case ho => k_is
  case hcd => k_is
  case hr => omega
  case hb => exact BindsTo.of_eq rfl
  case hl => exact locs rfl
  case c1 => exact rfl
  case c2 => exact rfl
  case c3 => exact rfl
  case c4 => decide
  intro g L h₁ eL F K1 MG hgn Bw X T'
  have lo0 : ∀ a, H0.objs.size ≤ a → H0.get? a = none := fun a ha => get_none_of_le ha
  have hlen : t.length ≤ 2 ^ 62 := Nat.le_trans ht (by decide)
  have neL : ∀ b o, s.heap.get? b = some o → b ≠ L := fun b o e => eL ▸ Nat.ne_of_lt (Heap.lt_size e)
  obtain ⟨tl, hvh, hN, Cv, ev, htl⟩ := focus [] F
  have N := hN [(r, _), (d, od)] (List.forall_mem_cons.mpr ⟨⟨K1 _ _ hr, neL _ _ hr, hgn _ (lo0 _ lr) (M.notFr hr (fun _ _ e => by cases e))⟩, List.forall_mem_cons.mpr ⟨⟨K1 _ _ hd, neL _ _ hd, hgn _ (lo0 _ ld) nd⟩, List.forall_mem_nil _⟩⟩)
  simp only [List.cons_append, List.nil_append] at N
  clear hN
  k_steps
  (with_reducible rename Fr _ _ _ _ => F9)
  (with_reducible rename News _ _ _ _ => N9)
  have S9 := Cv.now F9 N9 (fun q hq => by repeat (first | assumption | refine List.Mem.tail _ ?_))
  exact hR _ _ _ fun b o e => S9 b o (ev ▸ hideAll_get _ (K1 b o e) (by simpa using neL b o e))
local macro_rules | `(tactic| walk_at "getAttr ref") => `(tactic| (k_here; (with_reducible show wpAny _ _ (getAttr (Value.ref _) (PySem.Str.ofString "text") _) _ _ _); k_dflt (refine' get_propS (K := _root_.Mine.hd.heap_39 _) (C := 212) (p := 173) (fget := 172) ?k1 ?k2 ?k3 ?k4 ?k5 ?k6 ?k7 ?k8 ?k9 (hold_of ?_); (case k1 => k_asm); (case k2 => k_asm); (case k3 => k_inst); (case k4 => k_is); (case k5 => k_is); (case k6 => k_is); (case k7 => k_is); (case k8 => k_is); (case k9 => k_is); k_whole)))
/-- the list of what is due -/
def DueObj (h g : Heap) (L : Addr) (due : List (Nat × Nat)) (da : Addr) : Prop := da ≠ L ∧ g.get? da = none ∧ ∃ ds : List Addr, ∃ cap, h.get? da = some (listOf (ds.map Value.ref).toArray cap) ∧ ds.length = due.length ∧ ∀ (i : Nat) q d, due[i]? = some q → ds[i]? = some d → (d ≠ L ∧ g.get? d = none) ∧ ∃ t1 t2 n, h.get? d = some (tupOf [.int (q.1 : Nat) t1, .int (q.2 : Nat) t2] n)
theorem due2 {g h : Heap} {L da D1 D2 : Addr} {rest : List (Addr × Obj)} {cap n1 n2 i j p : Nat} {t1 t2 t3 t4 : Tok} {b : Int} {due : List (Nat × Nat)} (N : News g L h ((da, listOf #[.ref D1, .ref D2] cap) :: (D2, tupOf [.int (j : Nat) t3, .int b t4] n2) :: (D1, tupOf [.int (i : Nat) t1, .int (p : Nat) t2] n1) :: rest))
    (hdue : due = [(i, p), (j, b.toNat)]) (hb : 0 ≤ b) : DueObj h g L due da := by
  obtain ⟨e1, n1, g1⟩ := N _ (.head _)
  obtain ⟨e2, n2, g2⟩ := N _ (.tail _ (.head _))
  obtain ⟨e3, n3, g3⟩ := N _ (.tail _ (.tail _ (.head _)))
  subst hdue
  refine ⟨n1, g1, [D1, D2], cap, e1, rfl, fun x q d a c => ?_⟩
  cases x with
  | zero => cases a; cases c; exact ⟨⟨n3, g3⟩, _, _, _, e3⟩
  | succ x => cases x with
    | zero => cases a; cases c; exact ⟨⟨n2, g2⟩, t3, t4, _, by rw [show ((b.toNat : Nat) : Int) = b from Int.toNat_of_nonneg hb]; exact e2⟩
    | succ x => simp at a
theorem due1 {g h : Heap} {L da D1 : Addr} {rest : List (Addr × Obj)} {cap n1 i p : Nat} {t1 t2 : Tok} {due : List (Nat × Nat)} (N : News g L h ((da, listOf #[.ref D1] cap) :: (D1, tupOf [.int (i : Nat) t1, .int (p : Nat) t2] n1) :: rest))
    (hdue : due = [(i, p)]) : DueObj h g L due da := by
  obtain ⟨e1, n1, g1⟩ := N _ (.head _)
  obtain ⟨e3, n3, g3⟩ := N _ (.tail _ (.head _))
  subst hdue
  refine ⟨n1, g1, [D1], cap, e1, rfl, fun x q d a c => ?_⟩
  cases x with
  | zero => cases a; cases c; exact ⟨⟨n3, g3⟩, _, _, _, e3⟩
  | succ x => simp at a
/-- the list of what is due stands -/
theorem dueKeep {h h' g : Heap} {L du : Addr} {due : List (Nat × Nat)} {vs : Array Value} {cap : Nat} (D : DueObj h g L due du) (k : ∀ b o, h.get? b = some o → b ≠ L → b ≠ du → h'.get? b = some o) (e' : h'.get? du = some (listOf vs cap)) (e : h.get? du = some (listOf vs cap)) : DueObj h' g L due du := by
  obtain ⟨n1, g1, ds, c, a, b, r⟩ := D
  have : some (listOf vs cap) = some (listOf (ds.map Value.ref).toArray c) := e.symm.trans a
  refine ⟨n1, g1, ds, c, e'.trans this, b, fun i q d x y => ?_⟩
  obtain ⟨⟨p1, p2⟩, t1, t2, n, z⟩ := r i q d x y
  exact ⟨⟨p1, p2⟩, t1, t2, n, k _ _ z p1 fun q => by rw [q, a] at z; exact absurd (congrArg Obj.cls (Option.some.inj z)) (by simp)⟩
theorem dueSnoc {h h' g : Heap} {L du D : Addr} {due : List (Nat × Nat)} {ds : List Addr} {cap c' n i p : Nat} {t1 t2 : Tok} (n1 : du ≠ L) (g1 : g.get? du = none) (b : ds.length = due.length)
    (r : ∀ (i : Nat) q d, due[i]? = some q → ds[i]? = some d → (d ≠ L ∧ g.get? d = none) ∧ ∃ t1 t2 n, h.get? d = some (tupOf [.int (q.1 : Nat) t1, .int (q.2 : Nat) t2] n))
    (ed : h.get? du = some (listOf (ds.map Value.ref).toArray cap)) (k : ∀ b o, h.get? b = some o → b ≠ L → b ≠ du → h'.get? b = some o) (e' : h'.get? du = some (listOf ((ds.map Value.ref).toArray.push (.ref D)) c'))
    (eD : h'.get? D = some (tupOf [.int (i : Nat) t1, .int (p : Nat) t2] n)) (nD : D ≠ L) (gD : g.get? D = none) : DueObj h' g L (due ++ [(i, p)]) du := by
  refine ⟨n1, g1, ds ++ [D], c', by rw [e']; simp, by simp [b], fun x q d a c => ?_⟩
  by_cases hx : x < due.length
  · rw [List.getElem?_append_left hx] at a
    rw [List.getElem?_append_left (b ▸ hx)] at c
    obtain ⟨⟨p1, p2⟩, t1, t2, n, z⟩ := r x q d a c
    exact ⟨⟨p1, p2⟩, t1, t2, n, k _ _ z p1 fun q => by rw [q, ed] at z; exact absurd (congrArg Obj.cls (Option.some.inj z)) (by simp)⟩
  · have hx2 : x = due.length := by have := (List.getElem?_eq_some_iff.mp a).1; simp at this; omega
    subst hx2
    rw [List.getElem?_append_right (Nat.le_refl _), Nat.sub_self] at a
    rw [← b, List.getElem?_append_right (Nat.le_refl _), Nat.sub_self] at c
    cases a; cases c
    exact ⟨⟨nD, gD⟩, t1, t2, n, eD⟩
theorem fr6 {h : Heap} {m₁ : Str → Option Value} {x1 x2 x3 x4 x5 x6 : Str} {a1 a2 a3 a4 a5 a6 : Value} {g : Heap} {L : Addr} (F : Fr g L h m₁) (h1 : m₁ x1 = some a1) (h2 : m₁ x2 = some a2) (h3 : m₁ x3 = some a3) (h4 : m₁ x4 = some a4) (h5 : m₁ x5 = some a5) (h6 : m₁ x6 = some a6) :
    Fr g L h (kstB m₁ [(x1, a1), (x2, a2), (x3, a3), (x4, a4), (x5, a5), (x6, a6)]) :=
  frK (List.forall_mem_cons.mpr ⟨h1, List.forall_mem_cons.mpr ⟨h2, List.forall_mem_cons.mpr ⟨h3, List.forall_mem_cons.mpr ⟨h4, List.forall_mem_cons.mpr ⟨h5, List.forall_mem_cons.mpr ⟨h6, List.forall_mem_nil _⟩⟩⟩⟩⟩⟩) (fun _ _ => rfl) F
theorem tree_ok (G : Good Γ) (O : Old w p loose mean mg mb H0) (hlo0 : H0.objs.size ≤ Γ.lo0) {k : Nat} {st : Stp} {hid : List Addr} {dp un : Nat} {gd : Option (List Code)} {fr : List Env} {s : Shared} {pos : Nat} {tkk tp : Tok} {r ma pa ea : Addr} {Q E : Value → Shared → Prop}
    (M : Amb H0 fr s.heap) (hfh : ∀ a ∈ frs fr, a ∈ hid) (hst : Γ.plan[k]? = some st) (hpos : pos ≤ Γ.n) (h0 : 0 ≤ Γ.E k pos) (rep : NodeRep Γ (Vw hid s.heap) r k pos)
    (hm : MadeObj s.heap H0.objs.size Γ ma) (hp : PlanObj s.heap H0.objs.size Γ.plan pa) (he : EndsObj s.heap H0.objs.size Γ.E Γ.n Γ.N ea) (hdp : dp + 20 + 2 * k < recursionLimit) (hun : un + 100 + 10 * k < cLine)
    (IH : ∀ (k' : Nat) (st' : Stp) (hid' : List Addr) (dp' un' : Nat) (fr' : List Env) (s' : Shared) (pos' : Nat) (tkk' tp' : Tok) (r' : Addr) (Q' E' : Value → Shared → Prop), k' < k → Amb H0 fr' s'.heap → (∀ a ∈ frs fr', a ∈ hid') → Γ.plan[k']? = some st' → pos' ≤ Γ.n → 0 ≤ Γ.E k' pos' → NodeRep Γ (Vw hid' s'.heap) r' k' pos' →
      MadeObj s'.heap H0.objs.size Γ ma → PlanObj s'.heap H0.objs.size Γ.plan pa → EndsObj s'.heap H0.objs.size Γ.E Γ.n Γ.N ea → dp' + 20 + 2 * k' < recursionLimit → un' + 100 + 10 * k' < cLine → Kept s' Q' (fun v _ => v = .bool true) →
      wpAny (model PySem.Challenge.rw_vy0014_01.row.prog w) (ar dp' un' gd fr') (call (.ref 537) [.ref r', .int k' tkk', .int pos' tp', .ref ma, .ref pa, .ref ea, .str Γ.text Γ.tk] []) Q' E' s')
    (hq : Kept s Q fun v _ => v = .bool true) :
    wpAny (model PySem.Challenge.rw_vy0014_01.row.prog w) (ar dp un gd fr) (call (.ref 537) [.ref r, .int k tkk, .int pos tp, .ref ma, .ref pa, .ref ea, .str Γ.text Γ.tk] []) Q E s := by
  refine wpAny_call ?_
  refine' enterF O M ?ho ?hcd ?hr ?hb ?hl ?_ ?c1 ?c2 ?c3 ?c4
  case ho => k_is
  case hcd => k_is
  case hr => omega
  case hb => exact BindsTo.of_eq rfl
  case hl => exact locs rfl
  case c1 => exact rfl
  case c2 => exact rfl
  case c3 => exact rfl
  case c4 => decide
  intro g L h₁ eL F K1 MG hgn Bw X T'
  have lo0 : ∀ a, H0.objs.size ≤ a → H0.get? a = none := fun a ha => get_none_of_le ha
  have hLn : s.heap.get? L = none := get_none_of_le (Nat.le_of_eq eL.symm)
  have hs9 : Γ.text.length ≤ 1000 := G.ok.small
  have hlen : Γ.text.length ≤ 2 ^ 62 := Nat.le_trans G.ok.small (by decide)
  have hN9 : Γ.N ≤ 100 := G.ok.few
  have hkN : k < Γ.N := (List.getElem?_eq_some_iff.mp hst).1
  have hk9 : k < 100 := by omega
  have neL : ∀ b o, s.heap.get? b = some o → b ≠ L := fun b o e => eL ▸ Nat.ne_of_lt (Heap.lt_size e)
  have cell : ∀ {hh : Heap}, s.heap.StaysIn hh → ∀ a o, s.heap.get? a = some o → (∀ es n, o.data ≠ .dict es n) → H0.objs.size ≤ a → hh.get? a = some o ∧ a ≠ L ∧ g.get? a = none := fun kk a o e nd l => ⟨kk _ _ e, neL _ _ e, hgn _ (lo0 _ l) (M.notFr e nd)⟩
  have rep1 := rep.keep (Heap.StaysIn.nd (vw_cons hLn))
  have hfh' : ∀ a ∈ frs fr, a ∈ L :: hid := fun a ha => .tail _ (hfh a ha)
  have cellv : ∀ {hh : Heap}, s.heap.StaysIn hh → ∀ a o, (Vw (L :: hid) s.heap).get? a = some o → Γ.lo0 ≤ a → hh.get? a = some o ∧ a ≠ L ∧ g.get? a = none := fun kk a o e l => ⟨kk _ _ (Cfg.vget e), fun q => Cfg.vnot e (q ▸ .head _), hgn _ (lo0 _ (Nat.le_trans hlo0 l)) fun hm => Cfg.vnot e (hfh' _ hm)⟩
  obtain ⟨lma, cm, em⟩ := id hm
  obtain ⟨lpa, ps, cp, ep, hps, hstep⟩ := id hp
  obtain ⟨lea, rs, ce, ee, hrs, hrow⟩ := id he
  obtain ⟨rk, g1, x1⟩ := endsGet (hrs ▸ hkN)
  obtain ⟨lrk, vk, ck, e3, lvk, hvk⟩ := hrow _ _ g1
  obtain ⟨u1, y1⟩ := rowGet hvk (j := (pos : Int)) (Int.natCast_nonneg _) (by omega)
  replace y1 : vk[((pos : Nat) : Int).toNat]? = some (Value.int (Γ.E k pos) u1) := y1
  have hpos' : pos ≤ Γ.text.length := hpos
  obtain ⟨q, gq, xq⟩ := endsGet (rs := ps) (i := k) (by rw [hps]; exact hkN)
  obtain ⟨lq, sq⟩ := hstep _ _ _ gq hst
  have z1 : ((List.range Γ.N).map fun k => Value.ref (Γ.ea k))[((k : Nat) : Int).toNat]? = some (.ref (Γ.ea k)) := by
    show (_ : List Value)[k]? = _
    rw [List.getElem?_map, List.getElem?_range hkN]; rfl
  cases rep1 with
  | @mk _ _ _ d tk1 tk2 c n ch lr lc hr hc ld hd hl hch =>
  obtain ⟨od, hd⟩ := hd
  obtain ⟨tl, hvh, hN, Cv, ev, htl⟩ := focus [] F
  have N := hN [(r, _), (d, od), (ma, _), (pa, _), (ea, _), (rk, _)] (List.forall_mem_cons.mpr ⟨cellv K1 _ _ hr lr, List.forall_mem_cons.mpr ⟨cellv K1 _ _ hd ld, List.forall_mem_cons.mpr ⟨cell K1 _ _ em (fun _ _ e => by cases e) lma, List.forall_mem_cons.mpr ⟨cell K1 _ _ ep (fun _ _ e => by cases e) lpa, List.forall_mem_cons.mpr ⟨cell K1 _ _ ee (fun _ _ e => by cases e) lea, List.forall_mem_cons.mpr ⟨cell K1 _ _ e3 (fun _ _ e => by cases e) lrk, List.forall_mem_nil _⟩⟩⟩⟩⟩⟩)
  simp only [List.cons_append, List.nil_append] at N
  clear hN
  k_steps
  (with_reducible rename Fr _ _ _ _ => F9)
  (with_reducible rename News _ _ _ _ => N9)
  refine hold_of ?_
  refine node_text (dp := dp + 1) (un := un + 4) (gd := gd) (fr := _ :: fr) O (MG.push F9 rfl) (N9.get (a := r) (.head _)) (N9.get (a := d) (.tail _ (.head _))) (Nat.le_trans hlo0 lr) (Nat.le_trans hlo0 ld) ?_ G.ok.small (by omega) ?_
  · rw [frs_push]
    exact fun hm => (List.mem_cons.mp hm).elim (fun q => Cfg.vnot hd (q ▸ .head _)) fun hm => Cfg.vnot hd (hfh' _ hm)
  intro h5 tk5 t5 k5
  show wpAny _ _ (handedOut _) _ _ _
  rw [handedOut_of rfl]
  refine wpAny_pure ?_
  have F5 := Fr.keeps F9 k5
  have N5 : News g L h5 _ := fun p hp => ⟨k5 _ _ (N9 p hp).1, (N9 p hp).2⟩
  clear F9 N9
  have stp : Stop := trivial
  k_steps
  (with_reducible rename Stop => stp)
  clear stp
  (with_reducible rename Fr _ _ _ _ => F9)
  (with_reducible rename News _ _ _ _ => N9)
  (with_reducible rename (@LT.lt Addr _ L _) => Ldu)
  (with_reducible rename (And _ _) => l1)
  rename_i du hX h6
  have S6 := Cv.now F9 N9 (fun q hq => by repeat (first | assumption | refine List.Mem.tail _ ?_))
  have k6 : s.heap.StaysIn h6 := fun b o e => S6 b o (ev ▸ hideAll_get _ (K1 b o e) (by simpa using neL b o e))
  have celldu : h6.get? du = some (listOf #[] 0) ∧ du ≠ L ∧ g.get? du = none := N9 _ (.head _)
  have ndu : ∀ b o, s.heap.get? b = some o → b ≠ du := fun b o e q => by have := Heap.lt_size e; rw [q, ← eL] at this; exact absurd (Nat.lt_trans this Ldu) (Nat.lt_irrefl _)
  refine hold_of ?_
  refine wp_cut (fun fl s' => fl = .next ∧ ∃ u h' tk' da, s' = { s with heap := h', toks := tk' } ∧ Fr g L h' (kstB u [(Str.ofString "node", .ref r), (Str.ofString "made", .ref ma), (Str.ofString "plan", .ref pa), (Str.ofString "ends", .ref ea), (Str.ofString "text", .str Γ.text Γ.tk), (Str.ofString "due", .ref da)]) ∧ s.heap.StaysIn h' ∧ DueObj h' g L (Γ.due k pos) da) ?ifp ?rest
  case ifp =>
    obtain ⟨tl6, hv6, hN6, Cv6, ev6, htl6⟩ := focus [du] F9
    have tc6 : ∀ q ∈ tl6, q.1 ≠ du := fun q hq => htl6 q hq _ (.head _)
    cases st with
    | word x =>
      obtain ⟨t1, t2, n9, e1⟩ := sq
      have hdue : Γ.due k pos = [] := by unfold Cfg.due; rw [hst]; rfl
      have N6 := hN6 [(q, _), (du, _)] (List.forall_mem_cons.mpr ⟨cell k6 _ _ e1 (fun _ _ e => by cases e) lq, List.forall_mem_cons.mpr ⟨celldu, List.forall_mem_nil _⟩⟩)
      simp only [List.cons_append, List.nil_append] at N6
      clear hN6 N9
      k_steps
      (with_reducible rename Fr _ _ _ _ => F9)
      (with_reducible rename News _ _ _ _ => N9)
      have S8 := Cv6.now F9 N9 (fun q hq => by repeat (first | assumption | refine List.Mem.tail _ ?_))
      have k8 : s.heap.StaysIn _ := fun b o e => S8 b o (ev6 ▸ hideAll_get _ (k6 b o e) (by simp [neL b o e, ndu b o e]))
      refine hold_of ?_
      exact ⟨rfl, _, _, _, du, rfl, fr6 F9 rfl rfl rfl rfl rfl rfl, k8, celldu.2.1, celldu.2.2, [], _, N9.get (a := du) (.tail _ (.head _)), by rw [hdue]; rfl, fun i q d e => by rw [hdue] at e; cases e⟩
    | look i =>
      obtain ⟨t1, t2, n9, e1⟩ := sq
      have hdue : Γ.due k pos = [] := by unfold Cfg.due; rw [hst]; rfl
      have N6 := hN6 [(q, _), (du, _)] (List.forall_mem_cons.mpr ⟨cell k6 _ _ e1 (fun _ _ e => by cases e) lq, List.forall_mem_cons.mpr ⟨celldu, List.forall_mem_nil _⟩⟩)
      simp only [List.cons_append, List.nil_append] at N6
      clear hN6 N9
      k_steps
      (with_reducible rename Fr _ _ _ _ => F9)
      (with_reducible rename News _ _ _ _ => N9)
      have S8 := Cv6.now F9 N9 (fun q hq => by repeat (first | assumption | refine List.Mem.tail _ ?_))
      have k8 : s.heap.StaysIn _ := fun b o e => S8 b o (ev6 ▸ hideAll_get _ (k6 b o e) (by simp [neL b o e, ndu b o e]))
      refine hold_of ?_
      exact ⟨rfl, _, _, _, du, rfl, fr6 F9 rfl rfl rfl rfl rfl rfl, k8, celldu.2.1, celldu.2.2, [], _, N9.get (a := du) (.tail _ (.head _)), by rw [hdue]; rfl, fun i q d e => by rw [hdue] at e; cases e⟩
    | nay i =>
      obtain ⟨t1, t2, n9, e1⟩ := sq
      have hdue : Γ.due k pos = [] := by unfold Cfg.due; rw [hst]; rfl
      have N6 := hN6 [(q, _), (du, _)] (List.forall_mem_cons.mpr ⟨cell k6 _ _ e1 (fun _ _ e => by cases e) lq, List.forall_mem_cons.mpr ⟨celldu, List.forall_mem_nil _⟩⟩)
      simp only [List.cons_append, List.nil_append] at N6
      clear hN6 N9
      k_steps
      (with_reducible rename Fr _ _ _ _ => F9)
      (with_reducible rename News _ _ _ _ => N9)
      have S8 := Cv6.now F9 N9 (fun q hq => by repeat (first | assumption | refine List.Mem.tail _ ?_))
      have k8 : s.heap.StaysIn _ := fun b o e => S8 b o (ev6 ▸ hideAll_get _ (k6 b o e) (by simp [neL b o e, ndu b o e]))
      refine hold_of ?_
      exact ⟨rfl, _, _, _, du, rfl, fr6 F9 rfl rfl rfl rfl rfl rfl, k8, celldu.2.1, celldu.2.2, [], _, N9.get (a := du) (.tail _ (.head _)), by rw [hdue]; rfl, fun i q d e => by rw [hdue] at e; cases e⟩
    | both i j =>
      obtain ⟨t1, t2, t3, n9, e1⟩ := sq
      have hik : i < k := (G.ok.refs k _ hst).1
      obtain ⟨ri, g4, x4⟩ := endsGet (rs := rs) (i := i) (by rw [hrs]; omega)
      obtain ⟨lri, vi, ci, e4, lvi, hvi⟩ := hrow _ _ g4
      obtain ⟨u4, y4⟩ := rowGet hvi (j := (pos : Int)) (Int.natCast_nonneg _) (by omega)
      replace y4 : vi[((pos : Nat) : Int).toNat]? = some (Value.int (Γ.E i pos) u4) := y4
      have hE : Γ.E k pos = if 0 ≤ Γ.E i pos then Γ.E j (Γ.E i pos).toNat else -1 := G.ok.eq k _ pos hst hpos
      have hEi : 0 ≤ Γ.E i pos := by
        apply Classical.byContradiction
        intro hn
        rw [hE, if_neg hn] at h0
        omega
      have hdue : Γ.due k pos = [(i, pos), (j, (Γ.E i pos).toNat)] := by unfold Cfg.due; rw [hst]; rfl
      have N6 := hN6 [(q, _), (du, _), (ea, _), (ri, _)] (List.forall_mem_cons.mpr ⟨cell k6 _ _ e1 (fun _ _ e => by cases e) lq, List.forall_mem_cons.mpr ⟨celldu, List.forall_mem_cons.mpr ⟨cell k6 _ _ ee (fun _ _ e => by cases e) lea, List.forall_mem_cons.mpr ⟨cell k6 _ _ e4 (fun _ _ e => by cases e) lri, List.forall_mem_nil _⟩⟩⟩⟩)
      simp only [List.cons_append, List.nil_append] at N6
      clear hN6 N9
      k_steps
      (with_reducible rename Fr _ _ _ _ => F9)
      (with_reducible rename News _ _ _ _ => N9)
      have S8 := Cv6.now F9 N9 (fun q hq => by repeat (first | assumption | refine List.Mem.tail _ ?_))
      have k8 : s.heap.StaysIn _ := fun b o e => S8 b o (ev6 ▸ hideAll_get _ (k6 b o e) (by simp [neL b o e, ndu b o e]))
      refine hold_of ?_
      exact ⟨rfl, _, _, _, _, rfl, fr6 F9 rfl rfl rfl rfl rfl rfl, k8, due2 N9 hdue hEi⟩
    | either i j =>
      obtain ⟨t1, t2, t3, n9, e1⟩ := sq
      have hik : i < k := (G.ok.refs k _ hst).1
      obtain ⟨ri, g4, x4⟩ := endsGet (rs := rs) (i := i) (by rw [hrs]; omega)
      obtain ⟨lri, vi, ci, e4, lvi, hvi⟩ := hrow _ _ g4
      obtain ⟨u4, y4⟩ := rowGet hvi (j := (pos : Int)) (Int.natCast_nonneg _) (by omega)
      replace y4 : vi[((pos : Nat) : Int).toNat]? = some (Value.int (Γ.E i pos) u4) := y4
      have hdue : Γ.due k pos = [(if 0 ≤ Γ.E i pos then i else j, pos)] := by unfold Cfg.due; rw [hst]; rfl
      have N6 := hN6 [(q, _), (du, _), (ea, _), (ri, _)] (List.forall_mem_cons.mpr ⟨cell k6 _ _ e1 (fun _ _ e => by cases e) lq, List.forall_mem_cons.mpr ⟨celldu, List.forall_mem_cons.mpr ⟨cell k6 _ _ ee (fun _ _ e => by cases e) lea, List.forall_mem_cons.mpr ⟨cell k6 _ _ e4 (fun _ _ e => by cases e) lri, List.forall_mem_nil _⟩⟩⟩⟩)
      simp only [List.cons_append, List.nil_append] at N6
      clear hN6 N9
      by_cases hEi : 0 ≤ Γ.E i pos
      · rw [if_pos hEi] at hdue
        k_steps
        (with_reducible rename Fr _ _ _ _ => F9)
        (with_reducible rename News _ _ _ _ => N9)
        have S8 := Cv6.now F9 N9 (fun q hq => by repeat (first | assumption | refine List.Mem.tail _ ?_))
        have k8 : s.heap.StaysIn _ := fun b o e => S8 b o (ev6 ▸ hideAll_get _ (k6 b o e) (by simp [neL b o e, ndu b o e]))
        refine hold_of ?_
        exact ⟨rfl, _, _, _, _, rfl, fr6 F9 rfl rfl rfl rfl rfl rfl, k8, due1 N9 hdue⟩
      · rw [if_neg hEi] at hdue
        k_steps
        (with_reducible rename Fr _ _ _ _ => F9)
        (with_reducible rename News _ _ _ _ => N9)
        have S8 := Cv6.now F9 N9 (fun q hq => by repeat (first | assumption | refine List.Mem.tail _ ?_))
        have k8 : s.heap.StaysIn _ := fun b o e => S8 b o (ev6 ▸ hideAll_get _ (k6 b o e) (by simp [neL b o e, ndu b o e]))
        refine hold_of ?_
        exact ⟨rfl, _, _, _, _, rfl, fr6 F9 rfl rfl rfl rfl rfl rfl, k8, due1 N9 hdue⟩
    | times i l m =>
      obtain ⟨t1, t2, t3, t4, n9, e1⟩ := sq
      have hik : i < k := (G.ok.refs k _ hst).1
      obtain ⟨ri, g4, x4⟩ := endsGet (rs := rs) (i := i) (by rw [hrs]; omega)
      obtain ⟨lri, vi, ci, e4, lvi, hvi⟩ := hrow _ _ g4
      have hiN : i < Γ.N := Nat.lt_trans hik hkN
      have hdue : Γ.due k pos = (runs (Γ.E i) m (Γ.text.length + 1) 0 pos).1.map fun p => (i, p) := by unfold Cfg.due; rw [hst]; rfl
      have hT : ∀ q, q ≤ Γ.text.length → Γ.E i q = -1 ∨ ((q : Int) < Γ.E i q ∧ Γ.E i q ≤ Γ.text.length) := fun q hq => by
        have h1 := G.ok.lo i q hiN hq
        have h2 : Γ.E i q ≤ Γ.text.length := G.ok.hi i q hiN hq
        have h3 := G.ok.grows k i l m q hst hq
        omega
      have N6 := hN6 [(q, _), (du, _)] (List.forall_mem_cons.mpr ⟨cell k6 _ _ e1 (fun _ _ e => by cases e) lq, List.forall_mem_cons.mpr ⟨celldu, List.forall_mem_nil _⟩⟩)
      simp only [List.cons_append, List.nil_append] at N6
      clear hN6 N9
      k_steps
      (with_reducible rename Fr _ _ _ _ => F9)
      (with_reducible rename News _ _ _ _ => N9)
      have S8 := Cv6.now F9 N9 (fun q hq => by repeat (first | assumption | refine List.Mem.tail _ ?_))
      have k8 : s.heap.StaysIn _ := fun b o e => S8 b o (ev6 ▸ hideAll_get _ (k6 b o e) (by simp [neL b o e, ndu b o e]))
      refine whl_loop (m₀ := _) F9
        (fun m₀ f hh _ => ∃ (q c : Nat) (t : Tok) (dn : List Nat), q ≤ Γ.text.length ∧ pos + c ≤ q ∧ f = Γ.text.length - q ∧ dn.length = c ∧
          runs (Γ.E i) m (Γ.text.length + 1) 0 pos = (dn ++ (runs (Γ.E i) m (Γ.text.length + 1 - c) c q).1, (runs (Γ.E i) m (Γ.text.length + 1 - c) c q).2) ∧
          Fr g L hh (kstB m₀ [(Str.ofString "place", .int (q : Int) t)]) ∧ s.heap.StaysIn hh ∧ DueObj hh g L (dn.map fun p => (i, p)) du)
        (fun m₀ hh _ => ∃ (q : Nat) (t : Tok) (dn : List Nat), runs (Γ.E i) m (Γ.text.length + 1) 0 pos = (dn, q) ∧
          Fr g L hh (kstB m₀ [(Str.ofString "place", .int (q : Int) t)]) ∧ s.heap.StaysIn hh ∧ DueObj hh g L (dn.map fun p => (i, p)) du)
        (Γ.text.length - pos) ?hE ?h0 ?turn ?exit
      case hE => passes_own
      case h0 => exact ⟨pos, 0, tp, [], hpos, Nat.le_refl _, rfl, rfl, rfl, frK (List.forall_mem_cons.mpr ⟨rfl, List.forall_mem_nil _⟩) (fun _ _ => rfl) F9, k8, celldu.2.1, celldu.2.2, [], _, N9.get (a := du) (by k_mem), rfl, fun i q d e => by cases e⟩
      case exit =>
        rintro hh tk ⟨q', t', dn, hrun, F4, K4, D4⟩
        repeat refine wpAny_execs_nil ?_
        refine hold_of ?_
        refine ⟨rfl, _, _, _, du, rfl, fr6 F4 rfl rfl rfl rfl rfl rfl, K4, ?_⟩
        rw [hdue, hrun]; exact D4
      case turn =>
        rintro f hh tk ⟨q', c', t', dn, hq1, hq2, ef, hdn, hrun, F4, K4, D4⟩
        obtain ⟨nd4, gd4, ds, cap, ed4, hds, hdi⟩ := id D4
        have hq1' : q' ≤ Γ.n := hq1
        obtain ⟨u4, y4⟩ := rowGet hvi (j := (q' : Int)) (Int.natCast_nonneg _) (by omega)
        replace y4 : vi[((q' : Nat) : Int).toNat]? = some (Value.int (Γ.E i q') u4) := y4
        have hgr := hT q' hq1
        have hs1 : (ds.map Value.ref).toArray.size = c' := by rw [List.size_toArray, List.length_map, hds, List.length_map, hdn]
        have hz1 : c' ≤ 2000 := by omega
        obtain ⟨tl4, hvh4, hN4, Cv4, ev4, htl4⟩ := focus [du] F4
        have tc4 : ∀ q ∈ tl4, q.1 ≠ du := fun q hq => htl4 q hq _ (.head _)
        have N4 := hN4 [(q, _), (du, _), (ea, _), (ri, _)] (List.forall_mem_cons.mpr ⟨cell K4 _ _ e1 (fun _ _ e => by cases e) lq, List.forall_mem_cons.mpr ⟨⟨ed4, nd4, gd4⟩, List.forall_mem_cons.mpr ⟨cell K4 _ _ ee (fun _ _ e => by cases e) lea, List.forall_mem_cons.mpr ⟨cell K4 _ _ e4 (fun _ _ e => by cases e) lri, List.forall_mem_nil _⟩⟩⟩⟩)
        simp only [List.cons_append, List.nil_append] at N4
        have q1 := neN (ndu _ _ e1)
        have q2 := neN (ndu _ _ ee)
        have q3 := neN (ndu _ _ e4)
        clear hN4 F9 N9
        by_cases hcm : (c' : Int) = m
        · have hb9 : false = ((c' : Int) != m) := by rw [hcm]; simp
          k_steps
          (with_reducible rename Fr _ _ _ _ => F8)
          (with_reducible rename News _ _ _ _ => N8)
          have S9 := Cv4.now F8 N8 (fun q hq => by repeat (first | assumption | refine List.Mem.tail _ ?_))
          have K9 : ∀ b o, hh.get? b = some o → b ≠ L → b ≠ du → _ := fun b o e n1 n2 => S9 b o (ev4 ▸ hideAll_get _ e (by simp [n1, n2]))
          have D9 := dueKeep D4 (fun b o e n1 n2 => K9 b o e n1 n2) (N8.get (a := du) (.tail _ (.head _))) ed4
          have r9 : runs (Γ.E i) m (Γ.text.length + 1) 0 pos = (dn, q') := by rw [hrun, runs_zero (by omega)]; simp
          have kk9 := fun b o e => K9 b o (K4 b o e) (neL b o e) (ndu b o e)
          refine hold_of ?_
          exact ⟨_, _, rfl, q', t', dn, r9, F8, kk9, D9⟩
        have hb9 : true = ((c' : Int) != m) := by simp [hcm]
        have ex : 0 ≤ Γ.E i q' → Γ.E i q' = (((Γ.E i q').toNat : Nat) : Int) := by omega
        by_cases h0' : 0 ≤ Γ.E i q'
        · k_steps
          (with_reducible rename Fr _ _ _ _ => F8)
          (with_reducible rename News _ _ _ _ => N8)
          have S9 := Cv4.now F8 N8 (fun q hq => by repeat (first | assumption | refine List.Mem.tail _ ?_))
          have K9 : ∀ b o, hh.get? b = some o → b ≠ L → b ≠ du → _ := fun b o e n1 n2 => S9 b o (ev4 ▸ hideAll_get _ e (by simp [n1, n2]))
          have D9 := dueSnoc nd4 gd4 hds hdi ed4 K9 (N8.get (.tail _ (.tail _ (.head _)))) (N8.get (.head _)) (N8 _ (.head _)).2.1 (N8 _ (.head _)).2.2
          have e9 : (dn ++ [q']).map (fun p => (i, p)) = dn.map (fun p => (i, p)) ++ [(i, q')] := by rw [List.map_append]; rfl
          rw [← e9] at D9
          have r9 : runs (Γ.E i) m (Γ.text.length + 1) 0 pos = ((dn ++ [q']) ++ (runs (Γ.E i) m (Γ.text.length + 1 - (c' + 1)) (c' + 1) (Γ.E i q').toNat).1, (runs (Γ.E i) m (Γ.text.length + 1 - (c' + 1)) (c' + 1) (Γ.E i q').toNat).2) := by
            have e : Γ.text.length + 1 - c' = (Γ.text.length + 1 - (c' + 1)) + 1 := by omega
            rw [hrun, e, runs_succ ⟨hcm, h0'⟩, List.append_assoc]
            rfl
          have F9 := frK (ps := [(Str.ofString "place", Value.int (((Γ.E i q').toNat : Nat) : Int) _)]) (List.forall_mem_cons.mpr ⟨congrArg (fun z => some (Value.int z _)) (ex h0'), List.forall_mem_nil _⟩) (fun z a => by
            have a1 := a _ (.head _)
            exact (if_neg a1).trans (if_neg a1)) F8
          have kk9 := fun b o e => K9 b o (K4 b o e) (neL b o e) (ndu b o e)
          have o1 : Γ.text.length - (Γ.E i q').toNat < f := by omega
          have o2 : (Γ.E i q').toNat ≤ Γ.text.length := by omega
          have o3 : pos + (c' + 1) ≤ (Γ.E i q').toNat := by omega
          have o4 : (dn ++ [q']).length = c' + 1 := by rw [List.length_append, hdn]; rfl
          (try dsimp only)
          refine hold_of ?_
          exact ⟨Γ.text.length - (Γ.E i q').toNat, _, _, o1, rfl, (Γ.E i q').toNat, c' + 1, _, dn ++ [q'], o2, o3, rfl, o4, r9, F9, kk9, D9⟩
        · k_steps
          (with_reducible rename Fr _ _ _ _ => F8)
          (with_reducible rename News _ _ _ _ => N8)
          have S9 := Cv4.now F8 N8 (fun q hq => by repeat (first | assumption | refine List.Mem.tail _ ?_))
          have K9 : ∀ b o, hh.get? b = some o → b ≠ L → b ≠ du → _ := fun b o e n1 n2 => S9 b o (ev4 ▸ hideAll_get _ e (by simp [n1, n2]))
          have D9 := dueKeep D4 (fun b o e n1 n2 => K9 b o e n1 n2) (N8.get (a := du) (.tail _ (.head _))) ed4
          have r9 : runs (Γ.E i) m (Γ.text.length + 1) 0 pos = (dn, q') := by rw [hrun, runs_zero (by omega)]; simp
          have kk9 := fun b o e => K9 b o (K4 b o e) (neL b o e) (ndu b o e)
          refine hold_of ?_
          exact ⟨_, _, rfl, q', t', dn, r9, F8, kk9, D9⟩
  case rest =>
    rintro fl s' ⟨rfl, u, h7, tk7, da, rfl, F7, k7, dO⟩
    obtain ⟨nda, gda, ds, cap, eda, hds, hdi⟩ := id dO
    have hz1 : (ch.map Value.ref).toArray.size = (Γ.due k pos).length := by rw [List.size_toArray, List.length_map, hl]
    have hz2 : (ds.map Value.ref).toArray.size = (Γ.due k pos).length := by rw [List.size_toArray, List.length_map, hds]
    have hz3 : (Γ.due k pos).length ≤ 2000 := due_len hs9 k pos
    obtain ⟨tl7, hv7, hN7, Cv7, ev7, htl7⟩ := focus [] F7
    have N7 := hN7 [(r, _), (d, od), (c, _), (da, _)] (List.forall_mem_cons.mpr ⟨cellv k7 _ _ hr lr, List.forall_mem_cons.mpr ⟨cellv k7 _ _ hd ld, List.forall_mem_cons.mpr ⟨cellv k7 _ _ hc lc, List.forall_mem_cons.mpr ⟨⟨eda, nda, gda⟩, List.forall_mem_nil _⟩⟩⟩⟩)
    simp only [List.cons_append, List.nil_append] at N7
    clear hN7 F9 N9
    show wpAny _ _ _ _ _ _
    k_steps
    refine hold_of ?_
    refine kt_zip (xs := ch.map Value.ref) (ys := ds.map Value.ref) rfl ⟨_, (cellv k7 _ _ hc lc).1, rfl, _, rfl⟩ ⟨_, eda, rfl, _, rfl⟩ (by rw [List.length_map, List.length_map, hds, hl]) F7.ns.lt (cellv k7 _ _ hc lc).2.1 nda
      (fun i h => ∃ u, Fr g L h (kstB u [(Str.ofString "made", .ref ma), (Str.ofString "plan", .ref pa), (Str.ofString "ends", .ref ea), (Str.ofString "text", .str Γ.text Γ.tk)]) ∧ ∀ b o, h7.get? b = some o → b ≠ L → h.get? b = some o)
      ?h0 ?kJ ?step ?hR
    case h0 =>
      intro h' kp
      exact ⟨_, Fr.keeps (frK (List.forall_mem_cons.mpr ⟨rfl, List.forall_mem_cons.mpr ⟨rfl, List.forall_mem_cons.mpr ⟨rfl, List.forall_mem_cons.mpr ⟨rfl, List.forall_mem_nil _⟩⟩⟩⟩) (fun _ _ => rfl) F7) kp, fun b o e _ => kp b o e⟩
    case kJ =>
      rintro i h h' ⟨u, F, k1⟩ kp
      exact ⟨u, ⟨Heap.Ns.at' F.ns fun o e => kp _ o F7.ns.lt e, fun b o e => kp b o (Heap.lt_size (F7.keep b o e)) (F.keep b o e), F.above⟩, fun b o e n => kp b o (Heap.lt_size e) (k1 b o e n)⟩
    case step =>
      rintro i T x y h2 tk2 hx hy hT lT ⟨u, F2, k2⟩
      rw [List.getElem?_map] at hx hy
      obtain ⟨a, ha, rfl⟩ := Option.map_eq_some_iff.mp hx
      obtain ⟨dd, hdd, rfl⟩ := Option.map_eq_some_iff.mp hy
      obtain ⟨⟨k', pos'⟩, hq'⟩ : ∃ q, (Γ.due k pos)[i]? = some q := ⟨_, List.getElem?_eq_getElem (hl ▸ (List.getElem?_eq_some_iff.mp ha).1)⟩
      obtain ⟨⟨nd1, nd2⟩, t1, t2, n2, ed⟩ := hdi i _ dd hq' hdd
      obtain ⟨kk, kp', kE⟩ := due_ok G.ok hkN hpos h0 _ (List.mem_of_getElem? hq')
      have rep' := hch i _ a hq' ha
      have hT' : IsTup h2 T #[.ref a, .ref dd] := hT
      dsimp only at t1 t2 ed kk kp' kE rep'
      obtain ⟨tl8, hv8, hN8, Cv8, ev8, htl8⟩ := focus [] F2
      have N8 := hN8 [(dd, _)] (List.forall_mem_cons.mpr ⟨⟨k2 _ _ ed nd1, nd1, nd2⟩, List.forall_mem_nil _⟩)
      simp only [List.cons_append, List.nil_append] at N8
      clear hN8 N7
      k_steps
      (with_reducible rename Fr _ _ _ _ => F9)
      (with_reducible rename News _ _ _ _ => N9)
      have S9 := Cv8.now F9 N9 (fun q hq => by repeat (first | assumption | refine List.Mem.tail _ ?_))
      have k9 : ∀ b o, h2.get? b = some o → b ≠ L → _ := fun b o e n1 => S9 b o (ev8 ▸ hideAll_get _ e (by simpa using n1))
      have s9 : s.heap.StaysIn _ := fun b o e => k9 b o (k2 b o (k7 b o e) (neL b o e)) (neL b o e)
      refine hold_of ?_
      refine IH k' _ (L :: hid) (dp + 1) (un + 3) (_ :: fr) _ pos' _ _ a _ _ kk (MG.push F9 rfl) ?fh (List.getElem?_eq_getElem (Nat.lt_trans kk hkN)) kp' kE (rep'.keep (Heap.StaysIn.nd (Cfg.vst s9))) (hm.sub s9) (hp.sub s9) (he.sub s9) (by omega) (by omega) ?_
      case fh =>
        intro b hb
        rw [frs_push] at hb
        exact (List.mem_cons.mp hb).elim (fun q => q ▸ .head _) fun q => .tail _ (hfh b q)
      rintro v h5 tk5 rfl k5
      have F5 := Fr.keeps F9 k5
      have N5 : News g L h5 _ := fun p hp => ⟨k5 _ _ (N9 p hp).1, (N9 p hp).2⟩
      clear F9 N9
      k_steps
      (with_reducible rename Fr _ _ _ _ => F9)
      (with_reducible rename News _ _ _ _ => N9)
      have S9 := Cv8.now F9 N9 (fun q hq => by repeat (first | assumption | refine List.Mem.tail _ ?_))
      have k9 : ∀ b o, h2.get? b = some o → b ≠ L → _ := fun b o e n1 => S9 b o (ev8 ▸ hideAll_get _ e (by simpa using n1))
      (try dsimp only)
      refine hold_of ?_
      exact ⟨_, _, rfl, ⟨_, frK (List.forall_mem_cons.mpr ⟨rfl, List.forall_mem_cons.mpr ⟨rfl, List.forall_mem_cons.mpr ⟨rfl, List.forall_mem_cons.mpr ⟨rfl, List.forall_mem_nil _⟩⟩⟩⟩) (fun _ _ => rfl) F9, fun b o e n => k9 b o (k2 b o e n) n⟩, fun b o n e => k9 b o e n⟩
    case hR =>
      rintro h' tk ⟨u, F2, k2⟩
      obtain ⟨tl8, hv8, hN8, Cv8, ev8, htl8⟩ := focus [] F2
      have N8 := hN8 [] (List.forall_mem_nil _)
      simp only [List.nil_append] at N8
      clear hN8 N7
      show wpAny _ _ _ _ _ _
      k_steps
      (with_reducible rename Fr _ _ _ _ => F9)
      (with_reducible rename News _ _ _ _ => N9)
      have S9 := Cv8.now F9 N9 (fun q hq => by repeat (first | assumption | refine List.Mem.tail _ ?_))
      have k9 : ∀ b o, h'.get? b = some o → b ≠ L → _ := fun b o e n1 => S9 b o (ev8 ▸ hideAll_get _ e (by simpa using n1))
      exact hq _ _ _ rfl fun b o e => k9 b o (k2 b o (k7 b o e) (neL b o e)) (neL b o e)
theorem tree_all (G : Good Γ) (O : Old w p loose mean mg mb H0) (hlo0 : H0.objs.size ≤ Γ.lo0) {gd : Option (List Code)} {ma pa ea : Addr} : ∀ (k : Nat) (st : Stp) (hid : List Addr) (dp un : Nat) (fr : List Env) (s : Shared) (pos : Nat) (tkk tp : Tok) (r : Addr) (Q E : Value → Shared → Prop),
    Amb H0 fr s.heap → (∀ a ∈ frs fr, a ∈ hid) → Γ.plan[k]? = some st → pos ≤ Γ.n → 0 ≤ Γ.E k pos → NodeRep Γ (Vw hid s.heap) r k pos →
      MadeObj s.heap H0.objs.size Γ ma → PlanObj s.heap H0.objs.size Γ.plan pa → EndsObj s.heap H0.objs.size Γ.E Γ.n Γ.N ea → dp + 20 + 2 * k < recursionLimit → un + 100 + 10 * k < cLine → Kept s Q (fun v _ => v = .bool true) →
      wpAny (model PySem.Challenge.rw_vy0014_01.row.prog w) (ar dp un gd fr) (call (.ref 537) [.ref r, .int k tkk, .int pos tp, .ref ma, .ref pa, .ref ea, .str Γ.text Γ.tk] []) Q E s := by
  intro k
  induction k using Nat.strongRecOn with
  | _ k ih =>
    intro st hid dp un fr s pos tkk tp r Q E M hfh hst hpos h0 rep hm hp he hdp hun hq
    exact tree_ok G O hlo0 M hfh hst hpos h0 rep hm hp he hdp hun (fun k' st' hid' dp' un' fr' s' pos' tkk' tp' r' Q' E' hk => ih k' hk st' hid' dp' un' fr' s' pos' tkk' tp' r' Q' E') hq
end Mine
end
section
open PySem PySem.W PyProof.Rows PySem.Calls PySem.Spec
set_option maxRecDepth 100000
namespace Mine
local macro_rules | `(tactic| walk_at "0") => `(tactic| skip)
local macro_rules | `(tactic| walk_at "0") => `(tactic| skip)
local macro_rules | `(tactic| walk_at "0") => `(tactic| skip)
local macro_rules | `(tactic| walk_at "0") => `(tactic| skip)
local macro_rules | `(tactic| walk_at "0") => `(tactic| skip)
local macro_rules | `(tactic| walk_at "0") => `(tactic| skip)
local macro_rules | `(tactic| walk_at "0") => `(tactic| skip)
local macro_rules | `(tactic| walk_at "0") => `(tactic| skip)
local macro_rules | `(tactic| walk_at "0") => `(tactic| skip)
local macro_rules | `(tactic| walk_at "0") => `(tactic| skip)
local macro_rules | `(tactic| walk_at "0") => `(tactic| skip)
local macro_rules | `(tactic| walk_at "0") => `(tactic| skip)
local macro_rules | `(tactic| walk_at "0") => `(tactic| skip)
local macro_rules | `(tactic| walk_at "0") => `(tactic| skip)
local macro_rules | `(tactic| walk_at "0") => `(tactic| skip)
local macro_rules | `(tactic| walk_at "0") => `(tactic| skip)
local macro_rules | `(tactic| walk_at "0") => `(tactic| skip)
local macro_rules | `(tactic| walk_at "0") => `(tactic| skip)
local macro_rules | `(tactic| walk_at "0") => `(tactic| skip)
local macro_rules | `(tactic| walk_at "0") => `(tactic| skip)
local macro_rules | `(tactic| walk_at "0") => `(tactic| skip)
local macro_rules | `(tactic| walk_at "0") => `(tactic| skip)
local macro_rules | `(tactic| walk_at "0") => `(tactic| skip)
local macro_rules | `(tactic| walk_at "0") => `(tactic| skip)
local macro_rules | `(tactic| walk_at "0") => `(tactic| skip)
local macro_rules | `(tactic| walk_at "0") => `(tactic| skip)
local macro_rules | `(tactic| walk_at "0") => `(tactic| skip)
local macro_rules | `(tactic| walk_at "0") => `(tactic| skip)
local macro_rules | `(tactic| walk_at "0") => `(tactic| skip)
local macro_rules | `(tactic| walk_at "0") => `(tactic| skip)
local macro_rules | `(tactic| walk_at "0") => `(tactic| skip)
local macro_rules | `(tactic| walk_at "0") => `(tactic| skip)
local macro_rules | `(tactic| walk_at "0") => `(tactic| skip)
local macro_rules | `(tactic| walk_at "0") => `(tactic| skip)
local macro_rules | `(tactic| walk_at "0") => `(tactic| skip)
local macro_rules | `(tactic| walk_at "0") => `(tactic| skip)
local macro_rules | `(tactic| walk_at "0") => `(tactic| skip)
local macro_rules | `(tactic| walk_at "0") => `(tactic| skip)
local macro_rules | `(tactic| walk_at "0") => `(tactic| skip)
local macro_rules | `(tactic| walk_at "0") => `(tactic| skip)
theorem rs43 : True := by
  w_top off
  trivial
variable {w : World}
/-- the expressions alone -/
def cfgOf (lo : Nat) (plan : List Stp) (eas das : List Addr) : Cfg := { text := "", tk := 0, plan := plan, E := fun _ _ => 0, ea := fun k => eas.getD k 0, da := fun k => das.getD k 0, ca := 0, err := 0, de := 0, olds := [], lo0 := lo }
/-- what is made -/
def MadeIn (w : World) (lo : Nat) (v : Value) (h : Heap) (Hid : List Addr) : Prop := ∃ (plan : List Stp) (em : List Bool) (eas das : List Addr) (T ma pa : Addr) (n : Nat), v = .ref T ∧ h.get? T = some (tupOf [.ref ma, .ref pa] n) ∧ lo ≤ T ∧ Valid plan em ∧ 2 ≤ plan.length ∧ plan.length ≤ 60 ∧
  Pre w (cfgOf lo plan eas das) (Vw Hid h) ∧ eas.length = plan.length ∧ MadeObj h lo (cfgOf lo plan eas das) ma ∧ PlanObj h lo plan pa
theorem listOf_inj {a b : Array Value} {m n : Nat} (e : some (listOf a m) = some (listOf b n)) : a = b := (Data.seq.inj (congrArg Obj.data (Option.some.inj e))).1
/-- what stands between the turns -/
structure MI (w : World) (lo : Nat) (Hid : List Addr) (h : Heap) (ma pa ea : Addr) (plan : List Stp) (em : List Bool) (eas das : List Addr) : Prop where
  va : Valid plan em
  pre : Pre w (cfgOf lo plan eas das) (Vw Hid h)
  le : eas.length = plan.length
  ld : das.length = plan.length
  two : 2 ≤ plan.length
  em0 : em.getD 0 false = false
  em1 : em.getD 1 false = false
  m : ∃ c, h.get? ma = some (listOf (eas.map Value.ref).toArray c)
  p : ∃ (ps : List Addr) (c : Nat), h.get? pa = some (listOf (ps.map Value.ref).toArray c) ∧ ps.length = plan.length ∧ ∀ (i : Nat) q st, ps[i]? = some q → plan[i]? = some st → lo ≤ q ∧ StepObj h q st
  e : ∃ c, h.get? ea = some (listOf (em.map Value.bool).toArray c)
theorem StepObj.tup {h : Heap} {q : Addr} {st : Stp} (x : StepObj h q st) : ∃ vs n, h.get? q = some (tupOf vs n) := by
  cases st with
  | word x => obtain ⟨t1, t2, n, e⟩ := x; exact ⟨_, _, e⟩
  | both i j => obtain ⟨t1, t2, t3, n, e⟩ := x; exact ⟨_, _, e⟩
  | either i j => obtain ⟨t1, t2, t3, n, e⟩ := x; exact ⟨_, _, e⟩
  | look i => obtain ⟨t1, t2, n, e⟩ := x; exact ⟨_, _, e⟩
  | nay i => obtain ⟨t1, t2, n, e⟩ := x; exact ⟨_, _, e⟩
  | times i l m => obtain ⟨t1, t2, t3, t4, n, e⟩ := x; exact ⟨_, _, e⟩
theorem StepObj.at' {h h' : Heap} {q : Addr} {st : Stp} (x : StepObj h q st) (k : ∀ vs n, h.get? q = some (tupOf vs n) → h'.get? q = some (tupOf vs n)) : StepObj h' q st := by
  cases st with
  | word x => obtain ⟨t1, t2, n, e⟩ := x; exact ⟨t1, t2, n, k _ _ e⟩
  | both i j => obtain ⟨t1, t2, t3, n, e⟩ := x; exact ⟨t1, t2, t3, n, k _ _ e⟩
  | either i j => obtain ⟨t1, t2, t3, n, e⟩ := x; exact ⟨t1, t2, t3, n, k _ _ e⟩
  | look i => obtain ⟨t1, t2, n, e⟩ := x; exact ⟨t1, t2, n, k _ _ e⟩
  | nay i => obtain ⟨t1, t2, n, e⟩ := x; exact ⟨t1, t2, n, k _ _ e⟩
  | times i l m => obtain ⟨t1, t2, t3, t4, n, e⟩ := x; exact ⟨t1, t2, t3, t4, n, k _ _ e⟩
/-- all but L and lists stands -/
def KeepL (L : Addr) (h h' : Heap) : Prop := ∀ b o, h.get? b = some o → b ≠ L → o.cls ≠ .type "list" → h'.get? b = some o
theorem Pre.step {Γ : Cfg} {Hid : List Addr} {L : Addr} {h h' : Heap} (P : Pre w Γ (Vw Hid h)) (hL : L ∈ Hid) (kp : KeepL L h h') : Pre w Γ (Vw Hid h') :=
  P.move fun a o e c => Cfg.vto e (kp a o (Cfg.vget e) (fun q => Cfg.vnot e (q ▸ hL)) fun q => by
    rcases c with c | c | ⟨st, c⟩ <;> rw [q] at c <;> simp at c)
section
variable {lo : Nat} {Hid : List Addr} {h h' : Heap} {ma pa ea L : Addr} {plan : List Stp} {em : List Bool} {eas das : List Addr}
theorem MI.keep (I : MI w lo Hid h ma pa ea plan em eas das) (hL : L ∈ Hid) (nd : ∃ es n o, h.get? L = some o ∧ o.data = .dict es n) (kp : ∀ b o, h.get? b = some o → b ≠ L → h'.get? b = some o) : MI w lo Hid h' ma pa ea plan em eas das := by
  obtain ⟨es, n, oL, eL, dL⟩ := nd
  have nl : ∀ {a vs c}, h.get? a = some (listOf vs c) → a ≠ L := fun e q => by rw [q, eL] at e; cases e; cases dL
  have nt : ∀ {a vs c}, h.get? a = some (tupOf vs c) → a ≠ L := fun e q => by rw [q, eL] at e; cases e; cases dL
  refine { I with pre := I.pre.step hL fun b o e n _ => kp b o e n, m := ?_, p := ?_, e := ?_ }
  · obtain ⟨c, e⟩ := I.m; exact ⟨c, kp _ _ e (nl e)⟩
  · obtain ⟨ps, c, e, l, r⟩ := I.p
    exact ⟨ps, c, kp _ _ e (nl e), l, fun i q st a b => ⟨(r i q st a b).1, (r i q st a b).2.at' fun vs n e => kp _ _ e (nt e)⟩⟩
  · obtain ⟨c, e⟩ := I.e; exact ⟨c, kp _ _ e (nl e)⟩
theorem getD_app {α : Type} {l : List α} {x d : α} {i : Nat} (h : i < l.length) : (l ++ [x]).getD i d = l.getD i d := by
  simp only [List.getD_eq_getElem?_getD, List.getElem?_append_left h]
theorem getD_last {α : Type} {l : List α} {x d : α} {n : Nat} (h : l.length = n) : (l ++ [x]).getD n d = x := by
  subst h; simp [List.getD_eq_getElem?_getD]
theorem snoc_at {α : Type} {l : List α} {x y : α} {k : Nat} (e : (l ++ [x])[k]? = some y) : (l[k]? = some y ∧ k < l.length) ∨ (k = l.length ∧ y = x) := by
  by_cases hk : k < l.length
  · rw [List.getElem?_append_left hk] at e; exact .inl ⟨e, hk⟩
  · have h1 := (List.getElem?_eq_some_iff.mp e).1
    rw [List.length_append] at h1
    have hk2 : k = l.length := by simp at h1; omega
    subst hk2
    simp at e
    exact .inr ⟨rfl, e.symm⟩
theorem Pre.snoc {v : Heap} {st : Stp} {x dx : Addr} {ox : Obj} {n : Nat} (P : Pre w (cfgOf lo plan eas das) v) (refs : ∀ k st, plan[k]? = some st → stepRefs k st) (le : eas.length = plan.length) (ld : das.length = plan.length) (hx : v.get? x = some ox) (ho : ExprObj (cfgOf lo (plan ++ [st]) (eas ++ [x]) (das ++ [dx])) v dx st ox)
    (hd : v.get? dx = some (dictOf [] n)) (lx : lo ≤ x) (ldx : lo ≤ dx) (nd : dx ∉ das) : Pre w (cfgOf lo (plan ++ [st]) (eas ++ [x]) (das ++ [dx])) v := by
  have hN : (cfgOf lo (plan ++ [st]) (eas ++ [x]) (das ++ [dx])).N = plan.length + 1 := by show (plan ++ [st]).length = _; simp
  have dmap : ∀ (l : List Addr), (List.range l.length).map (fun k => l.getD k 0) = l := fun l => by
    apply List.ext_getElem
    · simp
    · intro i h1 h2
      simp [List.getD_eq_getElem?_getD, List.getElem?_eq_getElem h2]
  have nd0 : das.Nodup := by
    have := P.nd
    rw [show (cfgOf lo plan eas das).N = das.length from ld.symm] at this
    exact (dmap das) ▸ this
  refine ⟨fun k st' e => ?_, ?_, fun k hk => ?_, fun k hk => ?_, fun a ha => absurd ha List.not_mem_nil⟩
  · rcases snoc_at e with ⟨e1, hk⟩ | ⟨rfl, rfl⟩
    · obtain ⟨l, o, h1, h2⟩ := P.ex k st' e1
      have e2 : (cfgOf lo (plan ++ [st]) (eas ++ [x]) (das ++ [dx])).ea k = (cfgOf lo plan eas das).ea k := getD_app (by omega)
      have e3 : (cfgOf lo (plan ++ [st]) (eas ++ [x]) (das ++ [dx])).da k = (cfgOf lo plan eas das).da k := getD_app (by omega)
      rw [e2, e3]
      exact ⟨l, o, h1, h2.cfg (refs k st' e1) (fun i hi => getD_app (by omega)) rfl⟩
    · have e2 : (cfgOf lo (plan ++ [st']) (eas ++ [x]) (das ++ [dx])).ea plan.length = x := getD_last le
      have e3 : (cfgOf lo (plan ++ [st']) (eas ++ [x]) (das ++ [dx])).da plan.length = dx := getD_last ld
      rw [e2, e3]
      exact ⟨lx, ox, hx, ho⟩
  · rw [hN, show plan.length + 1 = (das ++ [dx]).length by simp [ld]]
    rw [show (List.range (das ++ [dx]).length).map (cfgOf lo (plan ++ [st]) (eas ++ [x]) (das ++ [dx])).da = das ++ [dx] from dmap _]
    refine List.nodup_append.mpr ⟨nd0, by simp, fun a ha b hb => ?_⟩
    rw [List.mem_singleton.mp hb]
    exact fun q => nd (q ▸ ha)
  · rw [hN] at hk
    refine ⟨?_, List.not_mem_nil⟩
    by_cases h : k < plan.length
    · rw [show (cfgOf lo (plan ++ [st]) (eas ++ [x]) (das ++ [dx])).da k = (cfgOf lo plan eas das).da k from getD_app (by omega)]
      exact (P.dl k h).1
    · obtain rfl : k = plan.length := by omega
      rw [show (cfgOf lo (plan ++ [st]) (eas ++ [x]) (das ++ [dx])).da plan.length = dx from getD_last ld]
      exact ldx
  · rw [hN] at hk
    refine .inl ?_
    by_cases h : k < plan.length
    · rw [show (cfgOf lo (plan ++ [st]) (eas ++ [x]) (das ++ [dx])).da k = (cfgOf lo plan eas das).da k from getD_app (by omega)]
      rcases P.att k h with q | ⟨_, _, _, _, _, _, _, _, _, _, _, _, _, _, q⟩
      · exact q
      · exact absurd q List.not_mem_nil
    · obtain rfl : k = plan.length := by omega
      rw [show (cfgOf lo (plan ++ [st]) (eas ++ [x]) (das ++ [dx])).da plan.length = dx from getD_last ld]
      exact ⟨n, hd⟩
theorem MI.snoc {st : Stp} {x dx q L : Addr} {ox : Obj} {n c1 c2 c3 c4 : Nat} {ps : List Addr} {b : Bool} (I : MI w lo Hid h ma pa ea plan em eas das) (hL : L ∈ Hid)
    (kp : ∀ b o, h.get? b = some o → b ≠ L → b ≠ ma → b ≠ pa → b ≠ ea → h'.get? b = some o) (hps : h.get? pa = some (listOf (ps.map Value.ref).toArray c4))
    (m9 : h'.get? ma = some (listOf ((eas.map Value.ref).toArray.push (.ref x)) c1)) (p9 : h'.get? pa = some (listOf ((ps.map Value.ref).toArray.push (.ref q)) c2)) (e9 : h'.get? ea = some (listOf ((em.map Value.bool).toArray.push (.bool b)) c3))
    (hb : b = stepEmp (fun i => em.getD i false) st) (hr : stepRefs plan.length st) (ht : ∀ i l m, st = Stp.times i l m → em.getD i false = false) (hw : ∀ x, st = .word x → x.length ≤ 10)
    (sq : StepObj h' q st) (lq : lo ≤ q) (hx : (Vw Hid h').get? x = some ox) (ho : ExprObj (cfgOf lo (plan ++ [st]) (eas ++ [x]) (das ++ [dx])) (Vw Hid h') dx st ox) (hd : (Vw Hid h').get? dx = some (dictOf [] n)) (lx : lo ≤ x) (ldx : lo ≤ dx) (nd : h.get? dx = none)
    (dL : ∃ es n o, h.get? L = some o ∧ o.data = .dict es n) : MI w lo Hid h' ma pa ea (plan ++ [st]) (em ++ [b]) (eas ++ [x]) (das ++ [dx]) := by
  obtain ⟨es, n', oL, eL, dL⟩ := dL
  have nt : ∀ {a vs c}, h.get? a = some (tupOf vs c) → a ≠ L := fun e q => by rw [q, eL] at e; cases e; cases dL
  have ls : ∀ a, (a = ma ∨ a = pa ∨ a = ea) → ∀ o, h.get? a = some o → o.cls = .type "list" := fun a ha o e => by
    obtain ⟨_, e1⟩ := I.m
    obtain ⟨_, e3⟩ := I.e
    rcases ha with rfl | rfl | rfl
    · rw [e1] at e; cases e; rfl
    · rw [hps] at e; cases e; rfl
    · rw [e3] at e; cases e; rfl
  have kl : KeepL L h h' := fun b o e n1 n2 => kp b o e n1 (fun q => n2 (ls b (.inl q) o e)) (fun q => n2 (ls b (.inr (.inl q)) o e)) (fun q => n2 (ls b (.inr (.inr q)) o e))
  have hmem : dx ∉ das := fun hm => by
    obtain ⟨i, hi, e⟩ := List.mem_iff_getElem.mp hm
    have hk : i < plan.length := I.ld ▸ hi
    have e2 : (cfgOf lo plan eas das).da i = dx := by show das.getD i 0 = dx; rw [List.getD_eq_getElem?_getD, List.getElem?_eq_getElem hi]; exact e
    obtain ⟨_, _, q, _⟩ := (I.pre.att i hk).free
    rw [e2] at q
    rw [Cfg.vget q] at nd; cases nd
  subst hb
  have hel : em.length = plan.length := I.va.len
  refine ⟨I.va.snoc hr ht hw, (I.pre.step hL kl).snoc I.va.refs I.le I.ld hx ho hd lx ldx hmem, by simp [I.le], by simp [I.ld], by have := I.two; simp; omega, ?_, ?_, ⟨c1, by rw [m9]; simp⟩, ⟨ps ++ [q], c2, by rw [p9]; simp, ?_, ?_⟩, ⟨c3, by rw [e9]; simp⟩⟩
  · rw [getD_app (by have := I.two; omega)]; exact I.em0
  · rw [getD_app (by have := I.two; omega)]; exact I.em1
  · obtain ⟨ps', c', e', l', _⟩ := I.p
    rw [hps] at e'
    have : (ps.map Value.ref).toArray = (ps'.map Value.ref).toArray := listOf_inj e'
    have := congrArg Array.size this
    simp at this
    simp [this, l']
  · obtain ⟨ps', c', e', l', r'⟩ := I.p
    rw [hps] at e'
    have e1 : (ps.map Value.ref).toArray = (ps'.map Value.ref).toArray := listOf_inj e'
    have e2 : ps = ps' := (List.map_inj_right fun a b q => Value.ref.inj q).mp (by simpa using e1)
    subst e2
    intro i q' st' a c
    rcases snoc_at a with ⟨a1, h1⟩ | ⟨rfl, rfl⟩
    · rw [List.getElem?_append_left (by omega)] at c
      obtain ⟨l, s1⟩ := r' i q' st' a1 c
      exact ⟨l, s1.at' fun vs n e => kl _ _ e (nt e) (by simp)⟩
    · rw [l', List.getElem?_append_right (Nat.le_refl _), Nat.sub_self] at c
      cases c
      exact ⟨lq, sq⟩
theorem MI.keepI {I : Addr} (M : MI w lo Hid h ma pa ea plan em eas das) (hI : ∃ o, h.get? I = some o ∧ o.cls = .type "range_iterator") (kp : ∀ b o, b ≠ I → h.get? b = some o → h'.get? b = some o) : MI w lo Hid h' ma pa ea plan em eas das := by
  obtain ⟨oI, eI, cI⟩ := hI
  have ne : ∀ {b o}, h.get? b = some o → o.cls ≠ .type "range_iterator" → b ≠ I := fun e n q => by rw [q, eI] at e; cases e; exact n cI
  have nl : ∀ {a vs c}, h.get? a = some (listOf vs c) → h'.get? a = some (listOf vs c) := fun e => kp _ _ (ne e (by simp)) e
  refine { M with pre := M.pre.move fun a o e c => Cfg.vto e (kp a o (ne (Cfg.vget e) fun q => ?_) (Cfg.vget e)), m := ?_, p := ?_, e := ?_ }
  · rcases c with c | c | ⟨st, c⟩ <;> rw [q] at c <;> simp at c
  · obtain ⟨c, e⟩ := M.m; exact ⟨c, nl e⟩
  · obtain ⟨ps, c, e, l, r⟩ := M.p
    exact ⟨ps, c, nl e, l, fun i q st a b => ⟨(r i q st a b).1, (r i q st a b).2.at' fun vs n e => kp _ _ (ne e (by simp)) e⟩⟩
  · obtain ⟨c, e⟩ := M.e; exact ⟨c, nl e⟩
theorem MI.made {T : Addr} {n : Nat} (M : MI w lo (L :: Hid) h ma pa ea plan em eas das) (hl : plan.length ≤ 60) (g0 : h.get? T = some (tupOf [.ref ma, .ref pa] n)) (lT : lo ≤ T) (lm : lo ≤ ma) (lp : lo ≤ pa) : MadeIn w lo (.ref T) h Hid := by
  obtain ⟨c, e⟩ := M.m
  obtain ⟨ps, c2, e2, l2, r2⟩ := M.p
  refine ⟨plan, em, eas, das, T, ma, pa, n, rfl, g0, lT, M.va, M.two, hl, M.pre.sub (vw_one (hid := Hid) (L := L) (h1 := h)), M.le, ⟨lm, c, ?_⟩, ⟨lp, ps, c2, e2, l2, r2⟩⟩
  rw [e]
  have : eas = (List.range plan.length).map (fun k => eas.getD k 0) := by
    apply List.ext_getElem
    · simp [M.le]
    · intro i h1 h2
      simp [List.getD_eq_getElem?_getD, List.getElem?_eq_getElem h1]
  have e3 : eas.map Value.ref = (List.range (cfgOf lo plan eas das).N).map fun k => Value.ref ((cfgOf lo plan eas das).ea k) := by
    conv => lhs; rw [this]
    rw [List.map_map]; rfl
  rw [e3]
theorem valid_nil : Valid [] [] := ⟨rfl, fun k st e => by simp at e, fun k st e => by simp at e, fun k i l m e => by simp at e, fun k x e => by simp at e⟩
theorem pre_nil {v : Heap} : Pre w (cfgOf lo [] [] []) v := ⟨fun k st e => by
  have e' : ([] : List Stp)[k]? = some st := e
  simp at e', List.nodup_nil, fun k hk => absurd hk (Nat.not_lt_zero k), fun k hk => absurd hk (Nat.not_lt_zero k), fun a ha => absurd ha List.not_mem_nil⟩
abbrev litObj (x : Str) (t : Tok) (it d : Addr) (nm : Str) (tn : Tok) : Obj := { cls := .ref 336, dict := some d, data := .plain, slots := #[some (.str x t), some (.ref it), some (.str nm tn)] }
theorem pre_two {v : Heap} {x0 x1 d0 d1 it0 it1 : Addr} {a b n0 n1 : Str} {ta tb t0 t1 : Tok} (h0 : v.get? x0 = some (litObj a ta it0 d0 n0 t0)) (h1 : v.get? x1 = some (litObj b tb it1 d1 n1 t1)) (l0 : n0.length ≤ 10) (l1 : n1.length ≤ 10)
    (e0 : v.get? d0 = some (dictOf [] 0)) (e1 : v.get? d1 = some (dictOf [] 0)) (lx0 : lo ≤ x0) (lx1 : lo ≤ x1) (ld0 : lo ≤ d0) (ld1 : lo ≤ d1) (nd : d0 ≠ d1) : Pre w (cfgOf lo [.word a, .word b] [x0, x1] [d0, d1]) v :=
  Pre.snoc (plan := [.word a]) (eas := [x0]) (das := [d0]) (Pre.snoc (plan := []) (eas := []) (das := []) pre_nil (fun k st e => by simp at e) rfl rfl h0 ⟨_, _, _, _, l0, rfl⟩ e0 lx0 ld0 List.not_mem_nil)
    (fun k st e => by
      cases k with
      | zero => simp at e; subst e; trivial
      | succ k => simp at e) rfl rfl h1 ⟨_, _, _, _, l1, rfl⟩ e1 lx1 ld1 (by simpa using nd.symm)
theorem valid_two {a b : Str} (ha : 0 < a.length ∧ a.length ≤ 10) (hb : 0 < b.length ∧ b.length ≤ 10) : Valid [.word a, .word b] [false, false] := by
  have h1 := valid_nil.snoc (st := .word a) trivial (fun _ _ _ e => by cases e) (fun x e => by cases e; exact ha.2)
  have h2 := h1.snoc (st := .word b) trivial (fun _ _ _ e => by cases e) (fun x e => by cases e; exact hb.2)
  have ea : stepEmp (fun i => ([] : List Bool).getD i false) (.word a) = false := by simp only [stepEmp]; exact decide_eq_false (by omega)
  have eb : ∀ f, stepEmp f (.word b) = false := fun f => by simp only [stepEmp]; exact decide_eq_false (by omega)
  rw [eb, ea] at h2
  exact h2
theorem ea_app {st : Stp} {x dx : Addr} {i : Nat} (le : eas.length = plan.length) (hi : i < plan.length) : (cfgOf lo (plan ++ [st]) (eas ++ [x]) (das ++ [dx])).ea i = eas.getD i 0 := getD_app (by omega)
theorem ex_word {st : Stp} {x dx it : Addr} {v : Heap} {wd nm : Str} {tw tn : Tok} (hnm : nm.length ≤ 10) : ExprObj (cfgOf lo (plan ++ [st]) (eas ++ [x]) (das ++ [dx])) v dx (.word wd) (litObj wd tw it dx nm tn) := ⟨_, _, _, _, hnm, rfl⟩
theorem ex_both {st : Stp} {x dx mt it : Addr} {v : Heap} {i j : Nat} {nm : Str} {tn : Tok} (le : eas.length = plan.length) (hi : i < plan.length) (hj : j < plan.length) (hnm : nm.length ≤ 10) (lm : lo ≤ mt) (e : v.get? mt = some (tupOf [.ref (eas.getD i 0), .ref (eas.getD j 0)] 0)) :
    ExprObj (cfgOf lo (plan ++ [st]) (eas ++ [x]) (das ++ [dx])) v dx (.both i j) { cls := .ref 394, dict := some dx, data := .plain, slots := #[some (.ref mt), some (.ref it), some (.str nm tn)] } :=
  ⟨mt, 0, it, nm, tn, hnm, rfl, lm, by rw [ea_app le hi, ea_app le hj]; exact e⟩
theorem ex_either {st : Stp} {x dx mt it : Addr} {v : Heap} {i j : Nat} {nm : Str} {tn : Tok} (le : eas.length = plan.length) (hi : i < plan.length) (hj : j < plan.length) (hnm : nm.length ≤ 10) (lm : lo ≤ mt) (e : v.get? mt = some (tupOf [.ref (eas.getD i 0), .ref (eas.getD j 0)] 0)) :
    ExprObj (cfgOf lo (plan ++ [st]) (eas ++ [x]) (das ++ [dx])) v dx (.either i j) { cls := .ref 420, dict := some dx, data := .plain, slots := #[some (.ref mt), some (.ref it), some (.str nm tn)] } :=
  ⟨mt, 0, it, nm, tn, hnm, rfl, lm, by rw [ea_app le hi, ea_app le hj]; exact e⟩
theorem ex_look {st : Stp} {x dx mt it : Addr} {v : Heap} {i : Nat} {nm : Str} {tn : Tok} (le : eas.length = plan.length) (hi : i < plan.length) (hnm : nm.length ≤ 10) (lm : lo ≤ mt) (e : v.get? mt = some (tupOf [.ref (eas.getD i 0)] 0)) :
    ExprObj (cfgOf lo (plan ++ [st]) (eas ++ [x]) (das ++ [dx])) v dx (.look i) { cls := .ref 458, dict := some dx, data := .plain, slots := #[some (.bool false), some (.ref mt), some (.ref it), some (.str nm tn)] } :=
  ⟨mt, 0, it, nm, tn, hnm, rfl, lm, by rw [ea_app le hi]; exact e⟩
theorem ex_nay {st : Stp} {x dx mt it : Addr} {v : Heap} {i : Nat} {nm : Str} {tn : Tok} (le : eas.length = plan.length) (hi : i < plan.length) (hnm : nm.length ≤ 10) (lm : lo ≤ mt) (e : v.get? mt = some (tupOf [.ref (eas.getD i 0)] 0)) :
    ExprObj (cfgOf lo (plan ++ [st]) (eas ++ [x]) (das ++ [dx])) v dx (.nay i) { cls := .ref 458, dict := some dx, data := .plain, slots := #[some (.bool true), some (.ref mt), some (.ref it), some (.str nm tn)] } :=
  ⟨mt, 0, it, nm, tn, hnm, rfl, lm, by rw [ea_app le hi]; exact e⟩
theorem ex_times {st : Stp} {x dx mt it : Addr} {v : Heap} {i l : Nat} {m : Int} {mx : Value} {nm : Str} {tn tl : Tok} (le : eas.length = plan.length) (hi : i < plan.length) (hnm : nm.length ≤ 10) (lm : lo ≤ mt) (e : v.get? mt = some (tupOf [.ref (eas.getD i 0)] 0))
    (hm : (m = -1 ∧ ∃ t, mx = .float 9218868437227405312 t) ∨ (0 ≤ m ∧ ∃ t, mx = .int m t)) :
    ExprObj (cfgOf lo (plan ++ [st]) (eas ++ [x]) (das ++ [dx])) v dx (.times i l m) { cls := .ref 504, dict := some dx, data := .plain, slots := #[some mx, some (.int (l : Int) tl), some (.ref mt), some (.ref it), some (.str nm tn)] } :=
  ⟨mx, tl, mt, 0, it, nm, tn, hnm, rfl, lm, by rw [ea_app le hi]; exact e, hm⟩
end
end Mine
end
section
open PySem PySem.W PyProof.Rows PySem.Calls PySem.Spec Builtin Builtin.ObjectAttr
set_option maxRecDepth 100000
set_option maxHeartbeats 8000000
namespace Mine
theorem rs44 : True := by
  w_top off
  trivial
def StopM : Prop := True
local macro_rules | `(tactic| k_room) => `(tactic| ktr_room)
local macro_rules | `(tactic| k_all) => `(tactic| first | assumption | (intro q9 hq9; (try dsimp only); first | exact allLt_ne (by assumption) (by omega) q9 hq9 | exact lt_ne (by assumption) (by omega) q9 hq9))
local macro_rules | `(tactic| walk_at "call ref") => `(tactic| (k_here; (with_reducible show wpAny _ _ (call (Value.ref _) _ _) _ _ _); refine hold_of ?_))
local macro_rules | `(tactic| walk_at "exec For") => `(tactic| (k_here; (with_reducible show wpAny _ _ (exec (Stmt.For _ _ _ _ _) _) _ _ _); k_dflt (refine for_hold ?_)))
local macro_rules | `(tactic| walk_at "exec For Name Call cons nil") => `(tactic| (k_here; (with_reducible show wpAny _ _ (exec (Stmt.For _ _ _ _ _) _) _ _ _); k_dflt (refine for_hold ?_)))
local macro_rules | `(tactic| walk_at "call builtin:len") => `(tactic| (k_here; (with_reducible show wpAny _ _ (call (Value.builtin "len") [Value.ref _]) _ _ _); k_dflt (refine' len_its ?N ?m ?hc ?hz ?_; (case N => k_asm); (case m => k_mem); (case hc => assumption); (case hz => assumption); k_whole)))
local macro_rules | `(tactic| walk_at "subscriptTail") => `(tactic| (k_here; (with_reducible show wpAny _ _ (subscriptTail _ _ (Value.ref _) (Value.int _ _)) _ _ _); k_dflt (refine' kim_list ?N ?m ?hc ?hd ?h0 ?h1 ?hx ?_; (case N => k_asm); (case m => k_mem); (case hc => rfl); (case hd => rfl); (case h0 => first | assumption | omega); (case h1 => omega); (case hx => assumption); k_whole)))
local macro_rules | `(tactic| walk_at "subscriptTail Subscript") => `(tactic| (k_here; k_dflt (refine kba_turn (value' := PySem.Expr.Name (PySem.Str.ofString "_") ⟨0, 0, 0, 0⟩) (fun _ => rfl) ?_)))
local macro_rules | `(tactic| walk_at "subscriptTail Name Name ref int") => `(tactic| (k_here; (with_reducible show wpAny _ _ (subscriptTail _ _ (Value.ref _) (Value.int _ _)) _ _ _); k_dflt (refine' kim_list ?N ?m ?hc ?hd ?h0 ?h1 ?hx ?_; (case N => k_asm); (case m => k_mem); (case hc => rfl); (case hd => rfl); (case h0 => first | assumption | omega); (case h1 => omega); (case hx => assumption); k_whole)))
local macro_rules | `(tactic| walk_at "subscriptTail") => `(tactic| (k_here; (fail_if_success (with_reducible show wpAny _ _ (subscriptTail (PySem.Expr.Name _ _) _ _ _) _ _ _)); k_dflt (refine kba_turn (value' := PySem.Expr.Name (PySem.Str.ofString "_") ⟨0, 0, 0, 0⟩) (fun _ => rfl) ?_)))
local macro_rules | `(tactic| walk_at "subscriptTail") => `(tactic| (k_here; (with_reducible show wpAny _ _ (subscriptTail (PySem.Expr.Name _ _) (PySem.Expr.Constant _ _ _) (Value.ref _) (Value.int _ _)) _ _ _); k_dflt (refine' kim_tup ?N ?m ?hc ?hd ?hlo ?hhi ?hj ?hx ?_; (case N => k_asm); (case m => k_mem); (case hc => exact rfl); (case hd => exact rfl); (case hlo => decide); (case hhi => decide); (case hj => exact rfl); (case hx => exact rfl); k_whole)))
local macro_rules | `(tactic| walk_at "eval Name") => `(tactic| (k_here; k_dflt (refine' ld ?k1 ?k2 ?_; (case k1 => k_asm); (case k2 => exact rfl); k_whole)))
local macro_rules | `(tactic| walk_at "exec If") => `(tactic| (k_here; (with_reducible show wpAny _ _ (exec (Stmt.If (PySem.Expr.Compare (PySem.Expr.Name _ _) _ _ _) _ _ _) _) _ _ _); (with_reducible rename StopM => stp'); refine hold_of ?_))
local macro_rules | `(tactic| walk_at "newList") => `(tactic| (k_here; k_dflt (refine' newList_KL ?k1 ?k2 ?_; (case k1 => k_asm); (case k2 => k_asm); k_whole); intro l' h' F' N' l1 lL; (try k_lt l1); (try k_sweep)))
variable {w : World} {p : Program} {loose : List Str} {mean : ExcName → Option Value} {mg mb : Str → Option Value} {H0 : Heap}
section
variable {prog : Program} {w : World} {A : Around} {E : Value → Shared → Prop} {s : Shared} {a c : Int} {t u : Tok} {b : Bool} {Q : Value → Shared → Prop}
theorem eq_b (hb : b = (a == c)) (h : Q (.bool b) s) : wpAny (model prog w) A (compareOp .Eq (.int a t) (.int c u)) Q E s := by
  subst hb; exact PyProof.Rows.eq_int h
theorem lt_b (hb : b = decide (a < c)) (h : Q (.bool b) s) : wpAny (model prog w) A (compareOp .Lt (.int a t) (.int c u)) Q E s := by
  subst hb; exact lt_int h
end
local macro_rules | `(tactic| walk_at "compareOp Eq int int") => `(tactic| (k_here; (with_reducible show wpAny _ _ (compareOp CmpOp.Eq (Value.int _ _) (Value.int _ _)) _ _ _); k_dflt (refine' eq_b ?hb ?_; (case hb => with_reducible assumption); k_whole)))
local macro_rules | `(tactic| walk_at "compareOp Lt int int") => `(tactic| (k_here; (with_reducible show wpAny _ _ (compareOp CmpOp.Lt (Value.int _ _) (Value.int _ _)) _ _ _); k_dflt (refine' lt_b ?hb ?_; (case hb => with_reducible assumption); k_whole)))
theorem two_at {prog : Program} {w : World} {A : Around} {E : Value → Shared → Prop} {s : Shared} {g : Heap} {L D : Addr} {news : List (Addr × Obj)} {a b : Str} {ta tb u : Tok} {lo : Obj} {c : Nat} {n : Int} {value slice : Expr} {Q : Value → Shared → Prop}
    (N : News g L s.heap news) (hm : (D, lo) ∈ news) (hc : lo.cls = .type "tuple") (hd : lo.data = .seq [Value.str a ta, Value.str b tb].toArray c) (ha : a.length ≤ 10) (hb : b.length ≤ 10) (h : ∀ nm t, nm.length ≤ 10 → Q (.str nm t) s)
    (hs : subscripted slice false (.ref D) (.int (n.fmod 2) u) = operate [.ref D, .int (n.fmod 2) u] (getItem (.ref D) (.int (n.fmod 2) u)) := by with_unfolding_all rfl) (hg : ∀ r, letTemporaryGo value (.ref D) r = pure () := by intro _; with_unfolding_all rfl) :
    wpAny (model prog w) A (subscriptTail value slice (.ref D) (.int (n.fmod 2) u)) Q E s := by
  have h0 := Int.fmod_nonneg_of_pos n (show (0 : Int) < 2 by decide)
  have h1 := Int.fmod_lt_of_pos n (show (0 : Int) < 2 by decide)
  rcases (show n.fmod 2 = 0 ∨ n.fmod 2 = 1 by omega) with e | e
  · rw [e] at hs ⊢
    exact kim_tup (j := 0) N hm hc hd (by decide) (by decide) rfl rfl (h _ _ ha) hs hg
  · rw [e] at hs ⊢
    exact kim_tup (j := 1) N hm hc hd (by decide) (by decide) rfl rfl (h _ _ hb) hs hg
local macro_rules | `(tactic| walk_at "subscriptTail") => `(tactic| (k_here; (with_reducible show wpAny _ _ (subscriptTail _ _ (Value.ref _) (Value.int (Int.fmod _ 2) _)) _ _ _); k_dflt (refine' two_at ?N ?m ?hc ?hd ?ha ?hb ?_; (case N => k_asm); (case m => k_mem); (case hc => rfl); (case hd => rfl); (case ha => decide); (case hb => decide)); intro nm9 tn9 hnm9))
theorem back_at {N : Nat} {y : Int} (h0 : 0 ≤ y) (hN : 0 < N) : ∃ i : Nat, (if ((N : Nat) : Int) - 1 - y > 0 then ((N : Nat) : Int) - 1 - y else 0) = ((i : Nat) : Int) ∧ i < N := by
  by_cases h : ((N : Nat) : Int) - 1 - y > 0
  · rw [if_pos h]; exact ⟨(((N : Nat) : Int) - 1 - y).toNat, by omega, by omega⟩
  · rw [if_neg h]; exact ⟨0, rfl, hN⟩
theorem words_at {prog : Program} {w : World} {A : Around} {E : Value → Shared → Prop} {s : Shared} {T : Addr} {vs : List Value} {ws : List Str} {u : Tok} {n : Int} {value slice : Expr} {Q : Value → Shared → Prop}
    (ht : IsTup s.heap T vs.toArray) (hw : StrsAre vs ws) (h6 : ws.length = 6) (hl : ∀ x ∈ ws, x.length ≤ 10) (h : ∀ x t, x.length ≤ 10 → Q (.str x t) s)
    (hs : subscripted slice false (.ref T) (.int (n.fmod 6) u) = operate [.ref T, .int (n.fmod 6) u] (getItem (.ref T) (.int (n.fmod 6) u)) := by with_unfolding_all rfl) :
    wpAny (model prog w) A (subscriptTail value slice (.ref T) (.int (n.fmod 6) u)) Q E s := by
  have h0 := Int.fmod_nonneg_of_pos n (show (0 : Int) < 6 by decide)
  have h1 := Int.fmod_lt_of_pos n (show (0 : Int) < 6 by decide)
  refine KTb.item_tup ht hw h0 (by omega) (by omega) (fun t' hlt => h _ _ ?_) hs
  rw [List.getD_eq_getElem?_getD, List.getElem?_eq_getElem hlt]
  exact hl _ (List.getElem_mem hlt)
local macro_rules | `(tactic| walk_at "subscriptTail") => `(tactic| (k_here; (with_reducible show wpAny _ _ (subscriptTail _ _ (Value.ref _) (Value.int (Int.fmod _ 6) _)) _ _ _); k_dflt (refine' words_at ?ht ?hw ?h6 ?hl ?_; (case ht => exact kun_topT (by k_asm) (by k_asm) (by k_is)); (case hw => repeat constructor); (case h6 => rfl); (case hl => decide)); intro wd9 wt9 hwd9))
theorem intAt {vs : List Value} {as : List Int} (h : IntsAre vs as) {j : Nat} (hj : j < vs.length) : ∃ a t, vs[j]? = some (.int a t) := by
  obtain ⟨v, hv⟩ : ∃ v, vs[j]? = some v := ⟨_, List.getElem?_eq_getElem hj⟩
  obtain ⟨a, _, hk⟩ := (h.areOf).get _ _ hv
  obtain ⟨t, e⟩ := ItemKind.int_is hk
  exact ⟨a, t, by rw [hv, e]⟩
theorem str_emp (x : Str) : (x == Str.ofString "") = decide (x.length = 0) := by
  by_cases h : x.length = 0
  · rw [decide_eq_true h]
    have : x = Str.ofString "" := by
      refine Str.ext' ?_
      exact Array.eq_empty_of_size_eq_zero h
    rw [this]; rfl
  · rw [decide_eq_false h, beq_eq_false_iff_ne]
    rintro rfl
    exact h rfl
theorem fmod_nat {a n : Int} (h : 0 < n) : ∃ j : Nat, a.fmod n = (j : Int) ∧ (j : Int) < n := by
  have h0 := Int.fmod_nonneg_of_pos a h
  have h1 := Int.fmod_lt_of_pos a h
  exact ⟨(a.fmod n).toNat, by omega, by omega⟩
/-- Not(term) -/
theorem mk_not {dp un : Nat} {gd : Option (List Code)} {fr : List Env} {s : Shared} {m1 : Addr} {Q E : Value → Shared → Prop} (O : Old w p loose mean mg mb H0) (M : Amb H0 fr s.heap) (hs : H0.objs.size ≤ s.heap.objs.size) (hd : dp + 15 < recursionLimit) (hu : un + 60 < cLine)
    (hq : MadePost s (fun dx h' o => ∃ mt it tn, o = { cls := .ref 458, dict := some dx, data := .plain, slots := #[some (.bool true), some (.ref mt), some (.ref it), some (.str (Str.ofString "") tn)] } ∧ h'.get? mt = some (tupOf [.ref m1] 0) ∧ s.heap.objs.size ≤ mt) Q) :
    wpAny (model PySem.Challenge.rw_vy0014_01.row.prog w) (ar dp un gd fr) (call (.ref 468) [.ref m1] []) Q E s := by
  refine wpAny_call ?_
  refine' enterF O M ?ho ?hcd ?hr ?hb ?hl ?_ ?c1 ?c2 ?c3 ?c4
  case ho => k_is
  case hcd => k_is
  case hr => omega
  case hb => exact BindsTo.of_eq rfl
  case hl => exact locs rfl
  case c1 => exact rfl
  case c2 => exact rfl
  case c3 => exact rfl
  case c4 => decide
  intro g L h₁ eL F K1 MG hgn Bw X T'
  have neL : ∀ b o, s.heap.get? b = some o → b ≠ L := fun b o e => eL ▸ Nat.ne_of_lt (Heap.lt_size e)
  obtain ⟨tl, hvh, hN, Cv, ev, htl⟩ := focus [] F
  have N := hN [] (List.forall_mem_nil _)
  simp only [List.nil_append] at N
  clear hN
  k_steps
  (with_reducible rename Fr _ _ _ _ => F9)
  (with_reducible rename News _ _ _ _ => N9)
  have S9 := Cv.now F9 N9 (fun q hq => by repeat (first | assumption | refine List.Mem.tail _ ?_))
  have k9 : s.heap.StaysIn _ := fun b o e => S9 b o (ev ▸ hideAll_get _ (K1 b o e) (by simpa using neL b o e))
  have sz9 := Nat.le_trans (Nat.le_of_eq eL.symm) (Nat.le_of_lt F9.ns.lt)
  show wpAny _ _ _ _ _ _
  refine' call_kw (kw' := [(Str.ofString "negative", Value.bool true)]) ?e ?_
  case e => with_unfolding_all rfl
  refine mk_look_n (dp := dp + 1) (un := un + 3) O (MG.push F9 rfl) (Nat.le_trans hs sz9) (by omega) (by omega) ?_
  intro x dx ox h2 tk2 k2 lx ldx xdx ex edx ok2
  have F2 := Fr.keeps F9 k2
  obtain ⟨tl2, hv2, hN2, Cv2, ev2, _⟩ := focus [] F2
  have N2 := hN2 [] (List.forall_mem_nil _)
  simp only [List.nil_append] at N2
  have LA := F9.ns.lt
  clear hN2 F9 N9
  k_steps
  (with_reducible rename Fr _ _ _ _ => F9)
  (with_reducible rename News _ _ _ _ => N9)
  have S8 := Cv2.now F9 N9 (fun q hq => by repeat (first | assumption | refine List.Mem.tail _ ?_))
  have k8 : ∀ b o, h2.get? b = some o → b ≠ L → _ := fun b o e n => S8 b o (ev2 ▸ hideAll_get _ e (by simpa using n))
  obtain ⟨mt, it, tn, rfl, hmt, lmt⟩ := ok2
  have gt : ∀ a : Addr, _ ≤ a → a ≠ L := fun a l => Nat.ne_of_gt (Nat.lt_of_lt_of_le LA l)
  exact hq _ _ _ _ _ (fun b o e => k8 b o (k2 b o (k9 b o e)) (neL b o e)) (Nat.le_trans sz9 lx) (Nat.le_trans sz9 ldx) xdx (k8 _ _ ex (gt _ lx)) (k8 _ _ edx (gt _ ldx)) ⟨mt, it, tn, rfl, k8 _ _ hmt (gt _ lmt), Nat.le_trans sz9 lmt⟩
theorem small_three {n : Nat} (h : n ≤ 60) : Builtin.Range.small 0 ((n : Int) - 2) 3 = true := by
  unfold Builtin.Range.small
  have e : Builtin.Range.rangeSize 0 ((n : Int) - 2) 3 = if (0 : Int) < (n : Int) - 2 then ((n : Int) - 2 - 0 - 1) / 3 + 1 else 0 := rfl
  rw [e]
  simp only [Builtin.Range.rangeFitsLong, Bool.and_eq_true, Bool.or_eq_true, decide_eq_true_eq, beq_iff_eq, show (3 : Int) > 0 by decide, if_true]
  split <;> omega
theorem made_ok {dp un : Nat} {gd : Option (List Code)} {fr : List Env} {s : Shared} {sc : Addr} {vs : List Value} {as : List Int} {cap : Nat} {Q E : Value → Shared → Prop} (O : Old w p loose mean mg mb H0)
    (M : Amb H0 fr s.heap) (hsc : s.heap.get? sc = some (listOf vs.toArray cap)) (lsc : H0.get? sc = none) (hsz : H0.objs.size ≤ s.heap.objs.size) (hi : IntsAre vs as) (hlen : vs.length ≤ 60) (hdp : dp + 20 < recursionLimit) (hun : un + 100 < cLine)
    (hq : Kept s Q fun v h' => MadeIn w H0.objs.size v h' (frs fr)) :
    wpAny (model PySem.Challenge.rw_vy0014_01.row.prog w) (ar dp un gd fr) (call (.ref 516) [.ref sc] []) Q E s := by
  refine wpAny_call ?_
  refine' enterF O M ?ho ?hcd ?hr ?hb ?hl ?_ ?c1 ?c2 ?c3 ?c4
  case ho => k_is
  case hcd => k_is
  case hr => omega
  case hb => exact BindsTo.of_eq rfl
  case hl => exact locs rfl
  case c1 => exact rfl
  case c2 => exact rfl
  case c3 => exact rfl
  case c4 => decide
  intro g L h₁ eL F K1 MG hgn Bw X T'
  have lo0 : ∀ a, H0.objs.size ≤ a → H0.get? a = none := fun a ha => get_none_of_le ha
  have neL : ∀ b o, s.heap.get? b = some o → b ≠ L := fun b o e => eL ▸ Nat.ne_of_lt (Heap.lt_size e)
  have cell : ∀ {hh : Heap}, s.heap.StaysIn hh → ∀ a o, s.heap.get? a = some o → (∀ es n, o.data ≠ .dict es n) → H0.get? a = none → hh.get? a = some o ∧ a ≠ L ∧ g.get? a = none := fun kk a o e nd l => ⟨kk _ _ e, neL _ _ e, hgn _ l (M.notFr e nd)⟩
  obtain ⟨tl, hvh, hN, Cv, ev, htl⟩ := focus [] F
  have N := hN [(sc, _)] (List.forall_mem_cons.mpr ⟨cell K1 _ _ hsc (fun _ _ e => by cases e) lsc, List.forall_mem_nil _⟩)
  simp only [List.cons_append, List.nil_append] at N
  clear hN
  have hs0 : vs.toArray.size = vs.length := List.size_toArray
  have hz0 : vs.length ≤ 2000 := by omega
  k_steps
  (with_reducible rename Fr _ _ _ _ => F9)
  (with_reducible rename News _ _ _ _ => N9)
  have S9 := Cv.now F9 N9 (fun q hq => by repeat (first | assumption | refine List.Mem.tail _ ?_))
  have k9 : s.heap.StaysIn _ := fun b o e => S9 b o (ev ▸ hideAll_get _ (K1 b o e) (by simpa using neL b o e))
  have sz9 := Nat.le_trans hsz (Nat.le_trans (Nat.le_of_eq eL.symm) (Nat.le_of_lt F9.ns.lt))
  refine hold_of ?_
  refine mk_lit0 (dp := dp + 1) (un := un + 3) O (MG.push F9 rfl) sz9 (by omega) (by omega) ?_
  have LA0 := F9.ns.lt
  intro x0 d0 o0 h2 tk2 k2 lx0 ld0 xd0 e0 ed0 ok0
  have F2 := Fr.keeps F9 k2
  have z2 := Nat.le_trans sz9 (Nat.le_trans lx0 (Nat.le_of_lt (Heap.lt_size e0)))
  have k2' : s.heap.StaysIn h2 := fun b o e => k2 b o (k9 b o e)
  obtain ⟨tl2, hv2, hN2, Cv2, ev2, _⟩ := focus [] F2
  have N2 := hN2 [(sc, _)] (List.forall_mem_cons.mpr ⟨cell k2' _ _ hsc (fun _ _ e => by cases e) lsc, List.forall_mem_nil _⟩)
  simp only [List.cons_append, List.nil_append] at N2
  clear F9 N9 hN2 S9
  k_steps
  (with_reducible rename Fr _ _ _ _ => F9)
  (with_reducible rename News _ _ _ _ => N9)
  have S9 := Cv2.now F9 N9 (fun q hq => by repeat (first | assumption | refine List.Mem.tail _ ?_))
  have k4 : ∀ b o, h2.get? b = some o → b ≠ L → _ := fun b o e n => S9 b o (ev2 ▸ hideAll_get _ e (by simpa using n))
  refine hold_of ?_
  have zz2 := Nat.le_trans sz9 (Nat.le_trans lx0 (Nat.le_of_lt (Heap.lt_size (k4 _ _ e0 (Nat.ne_of_gt (Nat.lt_of_lt_of_le LA0 lx0))))))
  refine' call_kw (kw' := [(Str.ofString "name", Value.str (Str.ofString "n") _)]) ?e ?_
  case e => with_unfolding_all rfl
  refine mk_lit (dp := dp + 1) (un := un + 3) O (MG.push F9 rfl) zz2 (by omega) (by omega) (by decide) ?_
  have LA1 := F9.ns.lt
  intro x1 d1 o1 h3 tk3 k3 lx1 ld1 xd1 e1 ed1 ok1
  have F3 := Fr.keeps F9 k3
  obtain ⟨tl3, hv3, hN3, Cv3, ev3, _⟩ := focus [] F3
  have sk3 : s.heap.StaysIn h3 := fun b o e => k3 b o (k4 b o (k2' b o e) (neL b o e))
  have N3 := hN3 [(sc, _)] (List.forall_mem_cons.mpr ⟨cell sk3 _ _ hsc (fun _ _ e => by cases e) lsc, List.forall_mem_nil _⟩)
  simp only [List.cons_append, List.nil_append] at N3
  clear F9 N9 hN3 S9
  k_steps
  (with_reducible rename Fr _ _ _ _ => F9)
  (with_reducible rename News _ _ _ _ => N9)
  have S9 := Cv3.now F9 N9 (fun q hq => by repeat (first | assumption | refine List.Mem.tail _ ?_))
  (with_reducible rename IsRange _ _ _ _ _ _ _ _ => hrg)
  rename_i ma h'1 lL1 l11 h'2 tk1 D0 h'3 l12 D1 h'4 l13 pa h'5 lL2 l14 h'6 tk2 ee h'7 lL3 l15 hA FA NA hB tkC t1 u1 v1 aB
  have kB : s.heap.StaysIn hB := fun b o e => S9 b o (ev3 ▸ hideAll_get _ (sk3 b o e) (by simpa using neL b o e))
  have k3B : ∀ b o, h3.get? b = some o → b ≠ L → hB.get? b = some o := fun b o e n => S9 b o (ev3 ▸ hideAll_get _ e (by simpa using n))
  have ltB : ∀ a o, s.heap.get? a = some o → a < L := fun a o e => eL ▸ Heap.lt_size e
  have newH : ∀ {v : Heap} {a : Addr} {o : Obj}, L < a → v.get? a = some o → (Vw (L :: frs fr) v).get? a = some o := fun l e => Cfg.vput (fun hm => (List.mem_cons.mp hm).elim (fun q => absurd l (q ▸ Nat.lt_irrefl _)) fun q => absurd (Nat.lt_trans l (eL ▸ frs_lt M.frames _ q)) (Nat.lt_irrefl _)) e
  obtain ⟨it0, rfl⟩ := ok0
  obtain ⟨it1, rfl⟩ := ok1
  have LX0 : L < x0 := Nat.lt_of_lt_of_le LA0 lx0
  have LD0 : L < d0 := Nat.lt_of_lt_of_le LA0 ld0
  have LX1 : L < x1 := Nat.lt_of_lt_of_le LA1 lx1
  have LD1 : L < d1 := Nat.lt_of_lt_of_le LA1 ld1
  have lnew : ∀ a, L < a → H0.objs.size ≤ a := fun a l => Nat.le_trans hsz (Nat.le_trans (Nat.le_of_eq eL.symm) (Nat.le_of_lt l))
  have up0 : ∀ a o, L < a → h2.get? a = some o → hB.get? a = some o := fun a o l e => k3B _ _ (k3 _ _ (k4 _ _ e (Nat.ne_of_gt l))) (Nat.ne_of_gt l)
  have nd01 : d0 ≠ d1 := fun q => absurd (Heap.lt_size (k4 _ _ ed0 (Nat.ne_of_gt LD0))) (Nat.not_lt.mpr (q ▸ ld1))
  have I0 : MI w H0.objs.size (L :: frs fr) hB ma pa ee [.word (Str.ofString "a"), .word (Str.ofString "b")] [false, false] [x0, x1] [d0, d1] :=
    ⟨valid_two (by decide) (by decide), pre_two (newH LX0 (up0 _ _ LX0 e0)) (newH LX1 (k3B _ _ e1 (Nat.ne_of_gt LX1))) (by decide) (by decide) (newH LD0 (up0 _ _ LD0 ed0)) (newH LD1 (k3B _ _ ed1 (Nat.ne_of_gt LD1))) (lnew _ LX0) (lnew _ LX1) (lnew _ LD0) (lnew _ LD1) nd01,
      rfl, rfl, Nat.le_refl 2, rfl, rfl, ⟨_, N9.get (.tail _ (.tail _ (.tail _ (.tail _ (.head _)))))⟩, ⟨[D0, D1], _, N9.get (.tail _ (.head _)), rfl, fun i q st a b => by
        match i, a, b with
        | 0, a, b => cases a; cases b; exact ⟨lnew _ (Nat.lt_trans lL1 l12.1), _, _, _, N9.get (.tail _ (.tail _ (.tail _ (.head _))))⟩
        | 1, a, b => cases a; cases b; exact ⟨lnew _ (Nat.lt_trans lL1 l13.2.1), _, _, _, N9.get (.tail _ (.tail _ (.head _)))⟩
        | i + 2, a, b => simp at a⟩, ⟨_, N9.get (.head _)⟩⟩
  refine hold_of ?_
  have hn : Builtin.Range.rangeSize 0 ((vs.length : Int) - 2) 3 = ((Builtin.Range.rangeSize 0 ((vs.length : Int) - 2) 3).toNat : Int) := rangeSize_toNat _ _ _
  have hnn : (Builtin.Range.rangeSize 0 ((vs.length : Int) - 2) 3).toNat ≤ 40 := by
    have h1 : Builtin.Range.rangeSize 0 ((vs.length : Int) - 2) 3 = if (0 : Int) < (vs.length : Int) - 2 then ((vs.length : Int) - 2 - 0 - 1) / 3 + 1 else 0 := rfl
    rw [h1]
    split <;> omega
  have hn3 : ∀ i, i < (Builtin.Range.rangeSize 0 ((vs.length : Int) - 2) 3).toNat → 3 * i + 2 < vs.length := fun i hi => by
    have h1 : Builtin.Range.rangeSize 0 ((vs.length : Int) - 2) 3 = if (0 : Int) < (vs.length : Int) - 2 then ((vs.length : Int) - 2 - 0 - 1) / 3 + 1 else 0 := rfl
    rw [h1] at hi
    split at hi <;> omega
  refine kt_range (n := (Builtin.Range.rangeSize 0 ((vs.length : Int) - 2) 3).toNat) rfl hrg ?hsm hn
    (fun i h => ∃ u plan em eas das, Fr g L h (kstB u [(Str.ofString "script", .ref sc), (Str.ofString "made", .ref ma), (Str.ofString "plan", .ref pa), (Str.ofString "empty", .ref ee)]) ∧ s.heap.StaysIn h ∧ MI w H0.objs.size (L :: frs fr) h ma pa ee plan em eas das ∧ plan.length = 2 + i) ?h0 ?kJ ?step ?hR
  case hsm => exact small_three hlen
  case h0 =>
    intro h' kp
    exact ⟨_, _, _, _, _, Fr.keeps (frK (List.forall_mem_cons.mpr ⟨rfl, List.forall_mem_cons.mpr ⟨rfl, List.forall_mem_cons.mpr ⟨rfl, List.forall_mem_cons.mpr ⟨rfl, List.forall_mem_nil _⟩⟩⟩⟩) (fun _ _ => rfl) F9) kp, fun b o e => kp b o (kB b o e), I0.keep (L := L) (.head _) (by obtain ⟨o, es, n, e, d, _⟩ := F9.ns; exact ⟨es, n, o, e, d⟩) fun b o e _ => kp b o e, rfl⟩
  case kJ =>
    rintro i I h h' ⟨u, plan, em, eas, das, F, k1, MI1, hpl⟩ hn hI kp
    have nI : ∀ b o, hB.get? b = some o → b ≠ I := fun b o e q => by rw [q, show hB.get? I = none from hn] at e; cases e
    have nL : L ≠ I := by obtain ⟨o, _, _, e, _⟩ := F9.ns; exact nI _ _ e
    exact ⟨u, plan, em, eas, das, ⟨Heap.Ns.at' F.ns fun o e => kp _ o nL e, fun b o e => kp b o (nI b o (F9.keep b o e)) (F.keep b o e), F.above⟩, fun b o e => kp b o (nI b o (kB b o e)) (k1 b o e), MI1.keepI hI kp, hpl⟩
  case hR =>
    rintro h5 tk5 ⟨u, plan, em, eas, das, F5, k5, M5, hpl⟩
    obtain ⟨tl5, hv5, hN5, Cv5, ev5, htl5⟩ := focus [] F5
    obtain ⟨cm5, em5⟩ := M5.m
    have N5 := hN5 [(ma, _)] (List.forall_mem_cons.mpr ⟨⟨em5, Nat.ne_of_gt lL1, hgn _ (lo0 _ (lnew _ lL1)) (fun hm => absurd (Nat.lt_trans lL1 (eL ▸ frs_lt M.frames _ hm)) (Nat.lt_irrefl _))⟩, List.forall_mem_nil _⟩)
    simp only [List.cons_append, List.nil_append] at N5
    have dL5 : ∃ es n o, h5.get? L = some o ∧ o.data = .dict es n := by obtain ⟨o, es, n, e, d, _⟩ := F5.ns; exact ⟨es, n, o, e, d⟩
    clear hN5 F9 N9 FA NA
    show wpAny _ _ _ _ _ _
    k_steps
    (with_reducible rename Fr _ _ _ _ => F9)
    (with_reducible rename News _ _ _ _ => N9)
    have S8 := Cv5.now F9 N9 (fun q hq => by repeat (first | assumption | refine List.Mem.tail _ ?_))
    have k8 : ∀ b o, h5.get? b = some o → b ≠ L → _ := fun b o e n1 => S8 b o (ev5 ▸ hideAll_get _ e (by simpa using n1))
    have M8 := M5.keep (.head _) dL5 k8
    have g0 := N9.get (.head _)
    have lT := (N9 _ (.head _)).2.1
    (with_reducible rename And _ _ => lD)
    exact hq _ _ _ (MI.made M8 (by have := hnn; omega) g0 (lnew _ (Nat.lt_trans lL1 lD.1)) (lnew _ lL1) (lnew _ lL2)) fun b o e => k8 b o (k5 b o e) (neL b o e)
  case step =>
    rintro i I2 t4 h4 tk4 y hy hj hn2 ⟨oI2, eI2, cI2, dI2⟩ ⟨u4, plan, em, eas, das, F4, K4, I4, hpl⟩
    have h3i := hn3 i hj
    have dL4 : ∃ es n o, h4.get? L = some o ∧ o.data = .dict es n := by obtain ⟨o, es, n, e, d, _⟩ := F4.ns; exact ⟨es, n, o, e, d⟩
    obtain rfl : y = ((3 * i : Nat) : Int) := by omega
    obtain ⟨c1, em4⟩ := I4.m
    obtain ⟨ps, c2, ep4, hps, hst⟩ := I4.p
    obtain ⟨c3, ee4⟩ := I4.e
    have hsM : (eas.map Value.ref).toArray.size = plan.length := by rw [List.size_toArray, List.length_map, I4.le]
    have hsP : (ps.map Value.ref).toArray.size = plan.length := by rw [List.size_toArray, List.length_map, hps]
    have hsE : (em.map Value.bool).toArray.size = plan.length := by rw [List.size_toArray, List.length_map, I4.va.len]
    have hz1 : plan.length ≤ 2000 := by omega
    obtain ⟨tl4, hv4, hN4, Cv4, ev4, htl4⟩ := focus [] F4
    have gnew : ∀ a, L < a → g.get? a = none := fun a l => hgn _ (lo0 _ (Nat.le_trans hsz (Nat.le_trans (Nat.le_of_eq eL.symm) (Nat.le_of_lt l)))) (fun hm => absurd (Nat.lt_trans l (eL ▸ frs_lt M.frames _ hm)) (Nat.lt_irrefl _))
    have N4 := hN4 [(sc, _), (ma, _), (ee, _)] (List.forall_mem_cons.mpr ⟨cell K4 _ _ hsc (fun _ _ e => by cases e) lsc, List.forall_mem_cons.mpr ⟨⟨em4, Nat.ne_of_gt lL1, gnew _ lL1⟩, List.forall_mem_cons.mpr ⟨⟨ee4, Nat.ne_of_gt lL3, gnew _ lL3⟩, List.forall_mem_nil _⟩⟩⟩)
    simp only [List.cons_append, List.nil_append] at N4
    clear hN4 F9 N9 FA NA
    have stp : StopM := trivial
    k_steps
    (with_reducible rename StopM => stp)
    clear stp
    (with_reducible rename Fr _ _ _ _ => F9)
    (with_reducible rename News _ _ _ _ => N9)
    (with_reducible rename @LE.le Nat _ _ 10 => hnm)
    rename_i hX lX nm tn h9
    have hK0 := Int.fmod_nonneg_of_pos (as.getD ((3 * i : Nat) : Int).toNat 0) (show (0 : Int) < 8 by decide)
    have hK1 := Int.fmod_lt_of_pos (as.getD ((3 * i : Nat) : Int).toNat 0) (show (0 : Int) < 8 by decide)
    have h10 := Int.fmod_nonneg_of_pos (as.getD (((3 * i : Nat) : Int) + 1).toNat 0) (show (0 : Int) < 4 by decide)
    have h20 := Int.fmod_nonneg_of_pos (as.getD (((3 * i : Nat) : Int) + 2).toNat 0) (show (0 : Int) < 4 by decide)
    have tw := I4.two
    obtain ⟨i1, h1, hi1⟩ := back_at (N := plan.length) h10 (by omega)
    obtain ⟨i2, h2, hi2⟩ := back_at (N := plan.length) h20 (by omega)
    obtain ⟨K, hK⟩ : ∃ K, (as.getD ((3 * i : Nat) : Int).toNat 0).fmod 8 = K := ⟨_, rfl⟩
    rw [hK] at hK0 hK1
    have F5 := frK (m₀ := u4) (ps := [(Str.ofString "script", .ref sc), (Str.ofString "made", .ref ma), (Str.ofString "plan", .ref pa), (Str.ofString "empty", .ref ee), (Str.ofString "name", .str nm tn), (Str.ofString "k", .int ((3 * i : Nat) : Int) _), (Str.ofString "kind", .int K _), (Str.ofString "one", .int ((i1 : Nat) : Int) _), (Str.ofString "two", .int ((i2 : Nat) : Int) _)])
      (List.forall_mem_cons.mpr ⟨rfl, List.forall_mem_cons.mpr ⟨rfl, List.forall_mem_cons.mpr ⟨rfl, List.forall_mem_cons.mpr ⟨rfl, List.forall_mem_cons.mpr ⟨rfl, List.forall_mem_cons.mpr ⟨rfl, List.forall_mem_cons.mpr ⟨congrArg (fun z => some (Value.int z _)) hK, List.forall_mem_cons.mpr ⟨congrArg (fun z => some (Value.int z _)) h1, List.forall_mem_cons.mpr ⟨congrArg (fun z => some (Value.int z _)) h2, List.forall_mem_nil _⟩⟩⟩⟩⟩⟩⟩⟩⟩) (fun z hz => by
        simp only [List.forall_mem_cons] at hz
        obtain ⟨a1, a2, a3, a4, a5, a6, a7, a8, a9, _⟩ := hz
        simp only [kstB, if_neg a1, if_neg a2, if_neg a3, if_neg a4, if_neg a5, if_neg a6, if_neg a7, if_neg a8, if_neg a9]) F9
    --TURN
    clear hK h1 h2 h10 h20
    have lnew : ∀ a, L < a → H0.objs.size ≤ a := fun a l => Nat.le_trans hsz (Nat.le_trans (Nat.le_of_eq eL.symm) (Nat.le_of_lt l))
    have S5 := Cv4.now F5 N9 (fun q hq => by repeat (first | assumption | refine List.Mem.tail _ ?_))
    have k45 : ∀ b o, h4.get? b = some o → b ≠ L → h9.get? b = some o := fun b o e n => S5 b o (ev4 ▸ hideAll_get _ e (by simpa using n))
    have em5 := k45 _ _ em4 (Nat.ne_of_gt lL1)
    have ep5 := k45 _ _ ep4 (Nat.ne_of_gt lL2)
    have ee5 := k45 _ _ ee4 (Nat.ne_of_gt lL3)
    have nS : ∀ b o {a : Addr}, s.heap.get? b = some o → L < a → b ≠ a := fun b o a e l => Nat.ne_of_lt (Nat.lt_trans (ltB _ _ e) l)
    have mp := l14.2.2.1
    have me := l15.2.2.2.1
    have pe := l15.1
    have nI2 : I2 ≠ L ∧ I2 ≠ ma ∧ I2 ≠ pa ∧ I2 ≠ ee := by
      refine ⟨fun q => ?_, fun q => ?_, fun q => ?_, fun q => ?_⟩
      · obtain ⟨es, n, o, e, d⟩ := dL4
        rw [q, e] at eI2; cases eI2; exact dI2 _ _ d
      · rw [q, em4] at eI2; cases eI2; simp at cI2
      · rw [q, ep4] at eI2; cases eI2; simp at cI2
      · rw [q, ee4] at eI2; cases eI2; simp at cI2
    have z9 : H0.objs.size ≤ h9.objs.size := Nat.le_trans (lnew _ lL1) (Nat.le_of_lt (Heap.lt_size em5))
    have refAt : ∀ {i : Nat}, i < plan.length → (eas.map Value.ref)[((i : Nat) : Int).toNat]? = some (.ref (eas.getD i 0)) := fun {i} hi => by
      show (eas.map Value.ref)[i]? = _
      have h : i < eas.length := by rw [I4.le]; exact hi
      rw [List.getElem?_map, List.getD_eq_getElem?_getD, List.getElem?_eq_getElem h]; rfl
    have boolAt : ∀ {i : Nat}, i < plan.length → (em.map Value.bool)[((i : Nat) : Int).toNat]? = some (.bool (em.getD i false)) := fun {i} hi => by
      show (em.map Value.bool)[i]? = _
      have h : i < em.length := by rw [I4.va.len]; exact hi
      rw [List.getElem?_map, List.getD_eq_getElem?_getD, List.getElem?_eq_getElem h]; rfl
    clear F9
    show wpAny _ _ _ _ _ _
    rcases (show K = 0 ∨ (0 < K ∧ K < 3) ∨ (3 ≤ K ∧ K < 5) ∨ K = 5 ∨ K = 6 ∨ K = 7 by omega) with rfl | ⟨kk1, kk2⟩ | ⟨kk1, kk2⟩ | rfl | rfl | rfl
    · skip
      k_steps
      (with_reducible rename Fr _ _ _ _ => F9)
      (with_reducible rename News _ _ _ _ => N9')
      have SA := Cv4.now F9 N9' (fun q hq => by repeat (first | assumption | refine List.Mem.tail _ ?_))
      have kA : ∀ b o, h4.get? b = some o → b ≠ L → _ := fun b o e n => SA b o (ev4 ▸ hideAll_get _ e (by simpa using n))
      have LA := F9.ns.lt
      have zm := Heap.lt_size (kA _ _ em4 (Nat.ne_of_gt lL1))
      have zp := Heap.lt_size (kA _ _ ep4 (Nat.ne_of_gt lL2))
      have ze := Heap.lt_size (kA _ _ ee4 (Nat.ne_of_gt lL3))
      have nw : ∀ a : Addr, _ ≤ a → L < a ∧ a ≠ ma ∧ a ≠ pa ∧ a ≠ ee := fun a l => ⟨Nat.lt_of_lt_of_le LA l, Nat.ne_of_gt (Nat.lt_of_lt_of_le zm l), Nat.ne_of_gt (Nat.lt_of_lt_of_le zp l), Nat.ne_of_gt (Nat.lt_of_lt_of_le ze l)⟩
      have zA := Nat.le_trans (lnew _ lL1) (Nat.le_of_lt (Heap.lt_size (kA _ _ em4 (Nat.ne_of_gt lL1))))
      (with_reducible rename @LE.le Nat _ _ 10 => hwd)
      show wpAny _ _ _ _ _ _
      refine' call_kw (kw' := [(Str.ofString "name", Value.str nm _)]) ?e ?_
      case e => with_unfolding_all rfl
      refine mk_lit (dp := dp + 1) (un := un + 3) O (MG.push F9 rfl) zA (by omega) (by omega) hnm ?_
      intro x dx ox h6 tk6 k6 lx ldx xdx ex edx ok6
      have F6 := Fr.keeps F9 k6
      have k46 : ∀ b o, h4.get? b = some o → b ≠ L → h6.get? b = some o := fun b o e n => k6 b o (kA b o e n)
      obtain ⟨Lx, xm⟩ := nw _ lx
      obtain ⟨Ldx, dm⟩ := nw _ ldx
      have dn : h4.get? dx = none := by
        cases q : h4.get? dx with
        | none => rfl
        | some o => exact absurd (Heap.lt_size (kA _ _ q (Nat.ne_of_gt Ldx))) (Nat.not_lt.mpr ldx)
      obtain ⟨tl6, hv6, hN6, Cv6, ev6, htl6⟩ := focus [ma, pa, ee] F6
      have tc1 : ∀ q ∈ tl6, q.1 ≠ ma := fun q hq => htl6 q hq _ (.head _)
      have tc2 : ∀ q ∈ tl6, q.1 ≠ pa := fun q hq => htl6 q hq _ (.tail _ (.head _))
      have tc3 : ∀ q ∈ tl6, q.1 ≠ ee := fun q hq => htl6 q hq _ (.tail _ (.tail _ (.head _)))
      have N6 := hN6 [(ma, _), (pa, _), (ee, _)] (List.forall_mem_cons.mpr ⟨⟨k46 _ _ em4 (Nat.ne_of_gt lL1), Nat.ne_of_gt lL1, gnew _ lL1⟩, List.forall_mem_cons.mpr ⟨⟨k46 _ _ ep4 (Nat.ne_of_gt lL2), Nat.ne_of_gt lL2, gnew _ lL2⟩, List.forall_mem_cons.mpr ⟨⟨k46 _ _ ee4 (Nat.ne_of_gt lL3), Nat.ne_of_gt lL3, gnew _ lL3⟩, List.forall_mem_nil _⟩⟩⟩)
      simp only [List.cons_append, List.nil_append] at N6
      have qa := neN (Nat.ne_of_lt mp)
      have qb := neN (Nat.ne_of_lt me)
      have qc := neN (Nat.ne_of_lt pe)
      clear hN6 F9 N9'
      obtain ⟨it, rfl⟩ := ok6
      k_steps
      (with_reducible rename Fr _ _ _ _ => F9)
      (with_reducible rename News _ _ _ _ => N9')
      have SB := Cv6.now F9 N9' (fun q hq => by repeat (first | assumption | refine List.Mem.tail _ ?_))
      have kB6 : ∀ b o, h6.get? b = some o → b ≠ L → b ≠ ma → b ≠ pa → b ≠ ee → _ := fun b o e n1 n2 n3 n4 => SB b o (ev6 ▸ hideAll_get _ e (by simp [n1, n2, n3, n4]))
      have g0 := N9'.get (.head _)
      have m9 := N9'.get (.tail _ (.head _))
      have p9 := N9'.get (.tail _ (.tail _ (.head _)))
      have e9 := N9'.get (.tail _ (.tail _ (.tail _ (.head _))))
      (with_reducible rename And _ _ => lD)
      have x9 := kB6 _ _ ex (Nat.ne_of_gt Lx) xm.1 xm.2.1 xm.2.2
      have dx9 := kB6 _ _ edx (Nat.ne_of_gt Ldx) dm.1 dm.2.1 dm.2.2
      (try dsimp only)
      refine hold_of ?_
      have I9 := MI.snoc (st := .word _) I4 (.head _) (fun b o e n1 n2 n3 n4 => kB6 b o (k46 b o e n1) n1 n2 n3 n4) ep4 m9 p9 e9 (by simp only [stepEmp]; exact str_emp _) True.intro (fun _ _ _ e => by cases e) (fun _ e => by cases e; exact hwd) ⟨_, _, _, g0⟩ (lnew _ (Nat.lt_trans lL1 lD.1)) (newH Lx x9) (ex_word hnm) (newH Ldx dx9) (lnew _ Lx) (lnew _ Ldx) dn dL4
      exact ⟨_, _, rfl, ⟨_, _, _, _, _, frK (List.forall_mem_cons.mpr ⟨rfl, List.forall_mem_cons.mpr ⟨rfl, List.forall_mem_cons.mpr ⟨rfl, List.forall_mem_cons.mpr ⟨rfl, List.forall_mem_nil _⟩⟩⟩⟩) (fun _ _ => rfl) F9, fun b o e => kB6 b o (k46 b o (K4 b o e) (neL b o e)) (neL b o e) (nS _ _ e lL1) (nS _ _ e lL2) (nS _ _ e lL3), I9, by rw [List.length_append, hpl]; rfl⟩, fun o e => kB6 _ _ (k46 _ _ e nI2.1) nI2.1 nI2.2.1 nI2.2.2.1 nI2.2.2.2⟩
    · have e0 : false = (K == 0) := by rw [eq_comm, beq_eq_false_iff_ne]; omega
      have l3 : true = decide (K < 3) := (decide_eq_true kk2).symm
      have x1 := refAt hi1
      have x2 := refAt hi2
      k_steps
      (with_reducible rename Fr _ _ _ _ => F9)
      (with_reducible rename News _ _ _ _ => N9')
      have SA := Cv4.now F9 N9' (fun q hq => by repeat (first | assumption | refine List.Mem.tail _ ?_))
      have kA : ∀ b o, h4.get? b = some o → b ≠ L → _ := fun b o e n => SA b o (ev4 ▸ hideAll_get _ e (by simpa using n))
      have LA := F9.ns.lt
      have zm := Heap.lt_size (kA _ _ em4 (Nat.ne_of_gt lL1))
      have zp := Heap.lt_size (kA _ _ ep4 (Nat.ne_of_gt lL2))
      have ze := Heap.lt_size (kA _ _ ee4 (Nat.ne_of_gt lL3))
      have nw : ∀ a : Addr, _ ≤ a → L < a ∧ a ≠ ma ∧ a ≠ pa ∧ a ≠ ee := fun a l => ⟨Nat.lt_of_lt_of_le LA l, Nat.ne_of_gt (Nat.lt_of_lt_of_le zm l), Nat.ne_of_gt (Nat.lt_of_lt_of_le zp l), Nat.ne_of_gt (Nat.lt_of_lt_of_le ze l)⟩
      have zA := Nat.le_trans (lnew _ lL1) (Nat.le_of_lt (Heap.lt_size (kA _ _ em4 (Nat.ne_of_gt lL1))))
      show wpAny _ _ _ _ _ _
      refine' call_kw (kw' := [(Str.ofString "name", Value.str nm _)]) ?e ?_
      case e => with_unfolding_all rfl
      refine mk_both (dp := dp + 1) (un := un + 3) O (MG.push F9 rfl) zA (by omega) (by omega) ?_
      intro x dx ox h6 tk6 k6 lx ldx xdx ex edx ok6
      have F6 := Fr.keeps F9 k6
      have k46 : ∀ b o, h4.get? b = some o → b ≠ L → h6.get? b = some o := fun b o e n => k6 b o (kA b o e n)
      obtain ⟨Lx, xm⟩ := nw _ lx
      obtain ⟨Ldx, dm⟩ := nw _ ldx
      have dn : h4.get? dx = none := by
        cases q : h4.get? dx with
        | none => rfl
        | some o => exact absurd (Heap.lt_size (kA _ _ q (Nat.ne_of_gt Ldx))) (Nat.not_lt.mpr ldx)
      obtain ⟨tl6, hv6, hN6, Cv6, ev6, htl6⟩ := focus [ma, pa, ee] F6
      have tc1 : ∀ q ∈ tl6, q.1 ≠ ma := fun q hq => htl6 q hq _ (.head _)
      have tc2 : ∀ q ∈ tl6, q.1 ≠ pa := fun q hq => htl6 q hq _ (.tail _ (.head _))
      have tc3 : ∀ q ∈ tl6, q.1 ≠ ee := fun q hq => htl6 q hq _ (.tail _ (.tail _ (.head _)))
      have N6 := hN6 [(ma, _), (pa, _), (ee, _)] (List.forall_mem_cons.mpr ⟨⟨k46 _ _ em4 (Nat.ne_of_gt lL1), Nat.ne_of_gt lL1, gnew _ lL1⟩, List.forall_mem_cons.mpr ⟨⟨k46 _ _ ep4 (Nat.ne_of_gt lL2), Nat.ne_of_gt lL2, gnew _ lL2⟩, List.forall_mem_cons.mpr ⟨⟨k46 _ _ ee4 (Nat.ne_of_gt lL3), Nat.ne_of_gt lL3, gnew _ lL3⟩, List.forall_mem_nil _⟩⟩⟩)
      simp only [List.cons_append, List.nil_append] at N6
      have qa := neN (Nat.ne_of_lt mp)
      have qb := neN (Nat.ne_of_lt me)
      have qc := neN (Nat.ne_of_lt pe)
      clear hN6 F9 N9'
      obtain ⟨mt, it, rfl, hmt, lmt⟩ := ok6
      obtain ⟨Lmt, mt1, mt2, mt3⟩ := nw _ lmt
      have y1 := boolAt hi1
      have y2 := boolAt hi2
      cases hb1 : em.getD i1 false
      · rw [hb1] at y1
        k_steps
        (with_reducible rename Fr _ _ _ _ => F9)
        (with_reducible rename News _ _ _ _ => N9')
        have SB := Cv6.now F9 N9' (fun q hq => by repeat (first | assumption | refine List.Mem.tail _ ?_))
        have kB6 : ∀ b o, h6.get? b = some o → b ≠ L → b ≠ ma → b ≠ pa → b ≠ ee → _ := fun b o e n1 n2 n3 n4 => SB b o (ev6 ▸ hideAll_get _ e (by simp [n1, n2, n3, n4]))
        have g0 := N9'.get (.head _)
        have m9 := N9'.get (.tail _ (.head _))
        have p9 := N9'.get (.tail _ (.tail _ (.head _)))
        have e9 := N9'.get (.tail _ (.tail _ (.tail _ (.head _))))
        (with_reducible rename And _ _ => lD)
        have x9 := kB6 _ _ ex (Nat.ne_of_gt Lx) xm.1 xm.2.1 xm.2.2
        have dx9 := kB6 _ _ edx (Nat.ne_of_gt Ldx) dm.1 dm.2.1 dm.2.2
        (try dsimp only)
        refine hold_of ?_
        have I9 := MI.snoc (st := .both i1 i2) I4 (.head _) (fun b o e n1 n2 n3 n4 => kB6 b o (k46 b o e n1) n1 n2 n3 n4) ep4 m9 p9 e9 (by simp only [stepEmp, hb1]; simp) ⟨hi1, hi2⟩ (fun _ _ _ e => by cases e) (fun _ e => by cases e) ⟨_, _, _, _, g0⟩ (lnew _ (Nat.lt_trans lL1 lD.1)) (newH Lx x9) (ex_both I4.le hi1 hi2 hnm (lnew _ Lmt) (newH Lmt (kB6 _ _ hmt (Nat.ne_of_gt Lmt) mt1 mt2 mt3))) (newH Ldx dx9) (lnew _ Lx) (lnew _ Ldx) dn dL4
        exact ⟨_, _, rfl, ⟨_, _, _, _, _, frK (List.forall_mem_cons.mpr ⟨rfl, List.forall_mem_cons.mpr ⟨rfl, List.forall_mem_cons.mpr ⟨rfl, List.forall_mem_cons.mpr ⟨rfl, List.forall_mem_nil _⟩⟩⟩⟩) (fun _ _ => rfl) F9, fun b o e => kB6 b o (k46 b o (K4 b o e) (neL b o e)) (neL b o e) (nS _ _ e lL1) (nS _ _ e lL2) (nS _ _ e lL3), I9, by rw [List.length_append, hpl]; rfl⟩, fun o e => kB6 _ _ (k46 _ _ e nI2.1) nI2.1 nI2.2.1 nI2.2.2.1 nI2.2.2.2⟩
      · rw [hb1] at y1
        k_steps
        (with_reducible rename Fr _ _ _ _ => F9)
        (with_reducible rename News _ _ _ _ => N9')
        have SB := Cv6.now F9 N9' (fun q hq => by repeat (first | assumption | refine List.Mem.tail _ ?_))
        have kB6 : ∀ b o, h6.get? b = some o → b ≠ L → b ≠ ma → b ≠ pa → b ≠ ee → _ := fun b o e n1 n2 n3 n4 => SB b o (ev6 ▸ hideAll_get _ e (by simp [n1, n2, n3, n4]))
        have g0 := N9'.get (.head _)
        have m9 := N9'.get (.tail _ (.head _))
        have p9 := N9'.get (.tail _ (.tail _ (.head _)))
        have e9 := N9'.get (.tail _ (.tail _ (.tail _ (.head _))))
        (with_reducible rename And _ _ => lD)
        have x9 := kB6 _ _ ex (Nat.ne_of_gt Lx) xm.1 xm.2.1 xm.2.2
        have dx9 := kB6 _ _ edx (Nat.ne_of_gt Ldx) dm.1 dm.2.1 dm.2.2
        (try dsimp only)
        refine hold_of ?_
        have I9 := MI.snoc (st := .both i1 i2) I4 (.head _) (fun b o e n1 n2 n3 n4 => kB6 b o (k46 b o e n1) n1 n2 n3 n4) ep4 m9 p9 e9 (by simp only [stepEmp, hb1]; simp) ⟨hi1, hi2⟩ (fun _ _ _ e => by cases e) (fun _ e => by cases e) ⟨_, _, _, _, g0⟩ (lnew _ (Nat.lt_trans lL1 lD.1)) (newH Lx x9) (ex_both I4.le hi1 hi2 hnm (lnew _ Lmt) (newH Lmt (kB6 _ _ hmt (Nat.ne_of_gt Lmt) mt1 mt2 mt3))) (newH Ldx dx9) (lnew _ Lx) (lnew _ Ldx) dn dL4
        exact ⟨_, _, rfl, ⟨_, _, _, _, _, frK (List.forall_mem_cons.mpr ⟨rfl, List.forall_mem_cons.mpr ⟨rfl, List.forall_mem_cons.mpr ⟨rfl, List.forall_mem_cons.mpr ⟨rfl, List.forall_mem_nil _⟩⟩⟩⟩) (fun _ _ => rfl) F9, fun b o e => kB6 b o (k46 b o (K4 b o e) (neL b o e)) (neL b o e) (nS _ _ e lL1) (nS _ _ e lL2) (nS _ _ e lL3), I9, by rw [List.length_append, hpl]; rfl⟩, fun o e => kB6 _ _ (k46 _ _ e nI2.1) nI2.1 nI2.2.1 nI2.2.2.1 nI2.2.2.2⟩
    · have e0 : false = (K == 0) := by rw [eq_comm, beq_eq_false_iff_ne]; omega
      have l3 : false = decide (K < 3) := (decide_eq_false (by omega)).symm
      have l5 : true = decide (K < 5) := (decide_eq_true kk2).symm
      have x1 := refAt hi1
      have x2 := refAt hi2
      k_steps
      (with_reducible rename Fr _ _ _ _ => F9)
      (with_reducible rename News _ _ _ _ => N9')
      have SA := Cv4.now F9 N9' (fun q hq => by repeat (first | assumption | refine List.Mem.tail _ ?_))
      have kA : ∀ b o, h4.get? b = some o → b ≠ L → _ := fun b o e n => SA b o (ev4 ▸ hideAll_get _ e (by simpa using n))
      have LA := F9.ns.lt
      have zm := Heap.lt_size (kA _ _ em4 (Nat.ne_of_gt lL1))
      have zp := Heap.lt_size (kA _ _ ep4 (Nat.ne_of_gt lL2))
      have ze := Heap.lt_size (kA _ _ ee4 (Nat.ne_of_gt lL3))
      have nw : ∀ a : Addr, _ ≤ a → L < a ∧ a ≠ ma ∧ a ≠ pa ∧ a ≠ ee := fun a l => ⟨Nat.lt_of_lt_of_le LA l, Nat.ne_of_gt (Nat.lt_of_lt_of_le zm l), Nat.ne_of_gt (Nat.lt_of_lt_of_le zp l), Nat.ne_of_gt (Nat.lt_of_lt_of_le ze l)⟩
      have zA := Nat.le_trans (lnew _ lL1) (Nat.le_of_lt (Heap.lt_size (kA _ _ em4 (Nat.ne_of_gt lL1))))
      show wpAny _ _ _ _ _ _
      refine' call_kw (kw' := [(Str.ofString "name", Value.str nm _)]) ?e ?_
      case e => with_unfolding_all rfl
      refine mk_either (dp := dp + 1) (un := un + 3) O (MG.push F9 rfl) zA (by omega) (by omega) ?_
      intro x dx ox h6 tk6 k6 lx ldx xdx ex edx ok6
      have F6 := Fr.keeps F9 k6
      have k46 : ∀ b o, h4.get? b = some o → b ≠ L → h6.get? b = some o := fun b o e n => k6 b o (kA b o e n)
      obtain ⟨Lx, xm⟩ := nw _ lx
      obtain ⟨Ldx, dm⟩ := nw _ ldx
      have dn : h4.get? dx = none := by
        cases q : h4.get? dx with
        | none => rfl
        | some o => exact absurd (Heap.lt_size (kA _ _ q (Nat.ne_of_gt Ldx))) (Nat.not_lt.mpr ldx)
      obtain ⟨tl6, hv6, hN6, Cv6, ev6, htl6⟩ := focus [ma, pa, ee] F6
      have tc1 : ∀ q ∈ tl6, q.1 ≠ ma := fun q hq => htl6 q hq _ (.head _)
      have tc2 : ∀ q ∈ tl6, q.1 ≠ pa := fun q hq => htl6 q hq _ (.tail _ (.head _))
      have tc3 : ∀ q ∈ tl6, q.1 ≠ ee := fun q hq => htl6 q hq _ (.tail _ (.tail _ (.head _)))
      have N6 := hN6 [(ma, _), (pa, _), (ee, _)] (List.forall_mem_cons.mpr ⟨⟨k46 _ _ em4 (Nat.ne_of_gt lL1), Nat.ne_of_gt lL1, gnew _ lL1⟩, List.forall_mem_cons.mpr ⟨⟨k46 _ _ ep4 (Nat.ne_of_gt lL2), Nat.ne_of_gt lL2, gnew _ lL2⟩, List.forall_mem_cons.mpr ⟨⟨k46 _ _ ee4 (Nat.ne_of_gt lL3), Nat.ne_of_gt lL3, gnew _ lL3⟩, List.forall_mem_nil _⟩⟩⟩)
      simp only [List.cons_append, List.nil_append] at N6
      have qa := neN (Nat.ne_of_lt mp)
      have qb := neN (Nat.ne_of_lt me)
      have qc := neN (Nat.ne_of_lt pe)
      clear hN6 F9 N9'
      obtain ⟨mt, it, rfl, hmt, lmt⟩ := ok6
      obtain ⟨Lmt, mt1, mt2, mt3⟩ := nw _ lmt
      have y1 := boolAt hi1
      have y2 := boolAt hi2
      cases hb1 : em.getD i1 false
      · rw [hb1] at y1
        k_steps
        (with_reducible rename Fr _ _ _ _ => F9)
        (with_reducible rename News _ _ _ _ => N9')
        have SB := Cv6.now F9 N9' (fun q hq => by repeat (first | assumption | refine List.Mem.tail _ ?_))
        have kB6 : ∀ b o, h6.get? b = some o → b ≠ L → b ≠ ma → b ≠ pa → b ≠ ee → _ := fun b o e n1 n2 n3 n4 => SB b o (ev6 ▸ hideAll_get _ e (by simp [n1, n2, n3, n4]))
        have g0 := N9'.get (.head _)
        have m9 := N9'.get (.tail _ (.head _))
        have p9 := N9'.get (.tail _ (.tail _ (.head _)))
        have e9 := N9'.get (.tail _ (.tail _ (.tail _ (.head _))))
        (with_reducible rename And _ _ => lD)
        have x9 := kB6 _ _ ex (Nat.ne_of_gt Lx) xm.1 xm.2.1 xm.2.2
        have dx9 := kB6 _ _ edx (Nat.ne_of_gt Ldx) dm.1 dm.2.1 dm.2.2
        (try dsimp only)
        refine hold_of ?_
        have I9 := MI.snoc (st := .either i1 i2) I4 (.head _) (fun b o e n1 n2 n3 n4 => kB6 b o (k46 b o e n1) n1 n2 n3 n4) ep4 m9 p9 e9 (by simp only [stepEmp, hb1]; simp) ⟨hi1, hi2⟩ (fun _ _ _ e => by cases e) (fun _ e => by cases e) ⟨_, _, _, _, g0⟩ (lnew _ (Nat.lt_trans lL1 lD.1)) (newH Lx x9) (ex_either I4.le hi1 hi2 hnm (lnew _ Lmt) (newH Lmt (kB6 _ _ hmt (Nat.ne_of_gt Lmt) mt1 mt2 mt3))) (newH Ldx dx9) (lnew _ Lx) (lnew _ Ldx) dn dL4
        exact ⟨_, _, rfl, ⟨_, _, _, _, _, frK (List.forall_mem_cons.mpr ⟨rfl, List.forall_mem_cons.mpr ⟨rfl, List.forall_mem_cons.mpr ⟨rfl, List.forall_mem_cons.mpr ⟨rfl, List.forall_mem_nil _⟩⟩⟩⟩) (fun _ _ => rfl) F9, fun b o e => kB6 b o (k46 b o (K4 b o e) (neL b o e)) (neL b o e) (nS _ _ e lL1) (nS _ _ e lL2) (nS _ _ e lL3), I9, by rw [List.length_append, hpl]; rfl⟩, fun o e => kB6 _ _ (k46 _ _ e nI2.1) nI2.1 nI2.2.1 nI2.2.2.1 nI2.2.2.2⟩
      · rw [hb1] at y1
        k_steps
        (with_reducible rename Fr _ _ _ _ => F9)
        (with_reducible rename News _ _ _ _ => N9')
        have SB := Cv6.now F9 N9' (fun q hq => by repeat (first | assumption | refine List.Mem.tail _ ?_))
        have kB6 : ∀ b o, h6.get? b = some o → b ≠ L → b ≠ ma → b ≠ pa → b ≠ ee → _ := fun b o e n1 n2 n3 n4 => SB b o (ev6 ▸ hideAll_get _ e (by simp [n1, n2, n3, n4]))
        have g0 := N9'.get (.head _)
        have m9 := N9'.get (.tail _ (.head _))
        have p9 := N9'.get (.tail _ (.tail _ (.head _)))
        have e9 := N9'.get (.tail _ (.tail _ (.tail _ (.head _))))
        (with_reducible rename And _ _ => lD)
        have x9 := kB6 _ _ ex (Nat.ne_of_gt Lx) xm.1 xm.2.1 xm.2.2
        have dx9 := kB6 _ _ edx (Nat.ne_of_gt Ldx) dm.1 dm.2.1 dm.2.2
        (try dsimp only)
        refine hold_of ?_
        have I9 := MI.snoc (st := .either i1 i2) I4 (.head _) (fun b o e n1 n2 n3 n4 => kB6 b o (k46 b o e n1) n1 n2 n3 n4) ep4 m9 p9 e9 (by simp only [stepEmp, hb1]; simp) ⟨hi1, hi2⟩ (fun _ _ _ e => by cases e) (fun _ e => by cases e) ⟨_, _, _, _, g0⟩ (lnew _ (Nat.lt_trans lL1 lD.1)) (newH Lx x9) (ex_either I4.le hi1 hi2 hnm (lnew _ Lmt) (newH Lmt (kB6 _ _ hmt (Nat.ne_of_gt Lmt) mt1 mt2 mt3))) (newH Ldx dx9) (lnew _ Lx) (lnew _ Ldx) dn dL4
        exact ⟨_, _, rfl, ⟨_, _, _, _, _, frK (List.forall_mem_cons.mpr ⟨rfl, List.forall_mem_cons.mpr ⟨rfl, List.forall_mem_cons.mpr ⟨rfl, List.forall_mem_cons.mpr ⟨rfl, List.forall_mem_nil _⟩⟩⟩⟩) (fun _ _ => rfl) F9, fun b o e => kB6 b o (k46 b o (K4 b o e) (neL b o e)) (neL b o e) (nS _ _ e lL1) (nS _ _ e lL2) (nS _ _ e lL3), I9, by rw [List.length_append, hpl]; rfl⟩, fun o e => kB6 _ _ (k46 _ _ e nI2.1) nI2.1 nI2.2.1 nI2.2.2.1 nI2.2.2.2⟩
    · have x1 := refAt hi1
      by_cases hp : (as.getD (((3 * i : Nat) : Int) + 2).toNat 0).fmod 2 = 0
      · have e2 : true = ((as.getD (((3 * i : Nat) : Int) + 2).toNat 0).fmod 2 == 0) := by rw [hp]; rfl
        k_steps
        (with_reducible rename Fr _ _ _ _ => F9)
        (with_reducible rename News _ _ _ _ => N9')
        have SA := Cv4.now F9 N9' (fun q hq => by repeat (first | assumption | refine List.Mem.tail _ ?_))
        have kA : ∀ b o, h4.get? b = some o → b ≠ L → _ := fun b o e n => SA b o (ev4 ▸ hideAll_get _ e (by simpa using n))
        have LA := F9.ns.lt
        have zm := Heap.lt_size (kA _ _ em4 (Nat.ne_of_gt lL1))
        have zp := Heap.lt_size (kA _ _ ep4 (Nat.ne_of_gt lL2))
        have ze := Heap.lt_size (kA _ _ ee4 (Nat.ne_of_gt lL3))
        have nw : ∀ a : Addr, _ ≤ a → L < a ∧ a ≠ ma ∧ a ≠ pa ∧ a ≠ ee := fun a l => ⟨Nat.lt_of_lt_of_le LA l, Nat.ne_of_gt (Nat.lt_of_lt_of_le zm l), Nat.ne_of_gt (Nat.lt_of_lt_of_le zp l), Nat.ne_of_gt (Nat.lt_of_lt_of_le ze l)⟩
        have zA := Nat.le_trans (lnew _ lL1) (Nat.le_of_lt (Heap.lt_size (kA _ _ em4 (Nat.ne_of_gt lL1))))
        show wpAny _ _ _ _ _ _
        refine' call_kw (kw' := []) ?e ?_
        case e => with_unfolding_all rfl
        refine mk_not (dp := dp + 1) (un := un + 3) O (MG.push F9 rfl) zA (by omega) (by omega) ?_
        intro x dx ox h6 tk6 k6 lx ldx xdx ex edx ok6
        have F6 := Fr.keeps F9 k6
        have k46 : ∀ b o, h4.get? b = some o → b ≠ L → h6.get? b = some o := fun b o e n => k6 b o (kA b o e n)
        obtain ⟨Lx, xm⟩ := nw _ lx
        obtain ⟨Ldx, dm⟩ := nw _ ldx
        have dn : h4.get? dx = none := by
          cases q : h4.get? dx with
          | none => rfl
          | some o => exact absurd (Heap.lt_size (kA _ _ q (Nat.ne_of_gt Ldx))) (Nat.not_lt.mpr ldx)
        obtain ⟨tl6, hv6, hN6, Cv6, ev6, htl6⟩ := focus [ma, pa, ee] F6
        have tc1 : ∀ q ∈ tl6, q.1 ≠ ma := fun q hq => htl6 q hq _ (.head _)
        have tc2 : ∀ q ∈ tl6, q.1 ≠ pa := fun q hq => htl6 q hq _ (.tail _ (.head _))
        have tc3 : ∀ q ∈ tl6, q.1 ≠ ee := fun q hq => htl6 q hq _ (.tail _ (.tail _ (.head _)))
        have N6 := hN6 [(ma, _), (pa, _), (ee, _)] (List.forall_mem_cons.mpr ⟨⟨k46 _ _ em4 (Nat.ne_of_gt lL1), Nat.ne_of_gt lL1, gnew _ lL1⟩, List.forall_mem_cons.mpr ⟨⟨k46 _ _ ep4 (Nat.ne_of_gt lL2), Nat.ne_of_gt lL2, gnew _ lL2⟩, List.forall_mem_cons.mpr ⟨⟨k46 _ _ ee4 (Nat.ne_of_gt lL3), Nat.ne_of_gt lL3, gnew _ lL3⟩, List.forall_mem_nil _⟩⟩⟩)
        simp only [List.cons_append, List.nil_append] at N6
        have qa := neN (Nat.ne_of_lt mp)
        have qb := neN (Nat.ne_of_lt me)
        have qc := neN (Nat.ne_of_lt pe)
        clear hN6 F9 N9'
        obtain ⟨mt, it, tn', rfl, hmt, lmt⟩ := ok6
        obtain ⟨Lmt, mt1, mt2, mt3⟩ := nw _ lmt
        k_steps
        (with_reducible rename Fr _ _ _ _ => F9)
        (with_reducible rename News _ _ _ _ => N9')
        have SB := Cv6.now F9 N9' (fun q hq => by repeat (first | assumption | refine List.Mem.tail _ ?_))
        have kB6 : ∀ b o, h6.get? b = some o → b ≠ L → b ≠ ma → b ≠ pa → b ≠ ee → _ := fun b o e n1 n2 n3 n4 => SB b o (ev6 ▸ hideAll_get _ e (by simp [n1, n2, n3, n4]))
        have g0 := N9'.get (.head _)
        have m9 := N9'.get (.tail _ (.head _))
        have p9 := N9'.get (.tail _ (.tail _ (.head _)))
        have e9 := N9'.get (.tail _ (.tail _ (.tail _ (.head _))))
        (with_reducible rename And _ _ => lD)
        have x9 := kB6 _ _ ex (Nat.ne_of_gt Lx) xm.1 xm.2.1 xm.2.2
        have dx9 := kB6 _ _ edx (Nat.ne_of_gt Ldx) dm.1 dm.2.1 dm.2.2
        (try dsimp only)
        refine hold_of ?_
        have I9 := MI.snoc (st := .nay i1) I4 (.head _) (fun b o e n1 n2 n3 n4 => kB6 b o (k46 b o e n1) n1 n2 n3 n4) ep4 m9 p9 e9 rfl hi1 (fun _ _ _ e => by cases e) (fun _ e => by cases e) ⟨_, _, _, g0⟩ (lnew _ (Nat.lt_trans lL1 lD.1)) (newH Lx x9) (ex_nay I4.le hi1 (by decide) (lnew _ Lmt) (newH Lmt (kB6 _ _ hmt (Nat.ne_of_gt Lmt) mt1 mt2 mt3))) (newH Ldx dx9) (lnew _ Lx) (lnew _ Ldx) dn dL4
        exact ⟨_, _, rfl, ⟨_, _, _, _, _, frK (List.forall_mem_cons.mpr ⟨rfl, List.forall_mem_cons.mpr ⟨rfl, List.forall_mem_cons.mpr ⟨rfl, List.forall_mem_cons.mpr ⟨rfl, List.forall_mem_nil _⟩⟩⟩⟩) (fun _ _ => rfl) F9, fun b o e => kB6 b o (k46 b o (K4 b o e) (neL b o e)) (neL b o e) (nS _ _ e lL1) (nS _ _ e lL2) (nS _ _ e lL3), I9, by rw [List.length_append, hpl]; rfl⟩, fun o e => kB6 _ _ (k46 _ _ e nI2.1) nI2.1 nI2.2.1 nI2.2.2.1 nI2.2.2.2⟩
      · have e2 : false = ((as.getD (((3 * i : Nat) : Int) + 2).toNat 0).fmod 2 == 0) := by rw [eq_comm, beq_eq_false_iff_ne]; exact hp
        k_steps
        (with_reducible rename Fr _ _ _ _ => F9)
        (with_reducible rename News _ _ _ _ => N9')
        have SA := Cv4.now F9 N9' (fun q hq => by repeat (first | assumption | refine List.Mem.tail _ ?_))
        have kA : ∀ b o, h4.get? b = some o → b ≠ L → _ := fun b o e n => SA b o (ev4 ▸ hideAll_get _ e (by simpa using n))
        have LA := F9.ns.lt
        have zm := Heap.lt_size (kA _ _ em4 (Nat.ne_of_gt lL1))
        have zp := Heap.lt_size (kA _ _ ep4 (Nat.ne_of_gt lL2))
        have ze := Heap.lt_size (kA _ _ ee4 (Nat.ne_of_gt lL3))
        have nw : ∀ a : Addr, _ ≤ a → L < a ∧ a ≠ ma ∧ a ≠ pa ∧ a ≠ ee := fun a l => ⟨Nat.lt_of_lt_of_le LA l, Nat.ne_of_gt (Nat.lt_of_lt_of_le zm l), Nat.ne_of_gt (Nat.lt_of_lt_of_le zp l), Nat.ne_of_gt (Nat.lt_of_lt_of_le ze l)⟩
        have zA := Nat.le_trans (lnew _ lL1) (Nat.le_of_lt (Heap.lt_size (kA _ _ em4 (Nat.ne_of_gt lL1))))
        show wpAny _ _ _ _ _ _
        refine' call_kw (kw' := [(Str.ofString "name", Value.str nm _)]) ?e ?_
        case e => with_unfolding_all rfl
        refine mk_look (dp := dp + 1) (un := un + 3) O (MG.push F9 rfl) zA (by omega) (by omega) ?_
        intro x dx ox h6 tk6 k6 lx ldx xdx ex edx ok6
        have F6 := Fr.keeps F9 k6
        have k46 : ∀ b o, h4.get? b = some o → b ≠ L → h6.get? b = some o := fun b o e n => k6 b o (kA b o e n)
        obtain ⟨Lx, xm⟩ := nw _ lx
        obtain ⟨Ldx, dm⟩ := nw _ ldx
        have dn : h4.get? dx = none := by
          cases q : h4.get? dx with
          | none => rfl
          | some o => exact absurd (Heap.lt_size (kA _ _ q (Nat.ne_of_gt Ldx))) (Nat.not_lt.mpr ldx)
        obtain ⟨tl6, hv6, hN6, Cv6, ev6, htl6⟩ := focus [ma, pa, ee] F6
        have tc1 : ∀ q ∈ tl6, q.1 ≠ ma := fun q hq => htl6 q hq _ (.head _)
        have tc2 : ∀ q ∈ tl6, q.1 ≠ pa := fun q hq => htl6 q hq _ (.tail _ (.head _))
        have tc3 : ∀ q ∈ tl6, q.1 ≠ ee := fun q hq => htl6 q hq _ (.tail _ (.tail _ (.head _)))
        have N6 := hN6 [(ma, _), (pa, _), (ee, _)] (List.forall_mem_cons.mpr ⟨⟨k46 _ _ em4 (Nat.ne_of_gt lL1), Nat.ne_of_gt lL1, gnew _ lL1⟩, List.forall_mem_cons.mpr ⟨⟨k46 _ _ ep4 (Nat.ne_of_gt lL2), Nat.ne_of_gt lL2, gnew _ lL2⟩, List.forall_mem_cons.mpr ⟨⟨k46 _ _ ee4 (Nat.ne_of_gt lL3), Nat.ne_of_gt lL3, gnew _ lL3⟩, List.forall_mem_nil _⟩⟩⟩)
        simp only [List.cons_append, List.nil_append] at N6
        have qa := neN (Nat.ne_of_lt mp)
        have qb := neN (Nat.ne_of_lt me)
        have qc := neN (Nat.ne_of_lt pe)
        clear hN6 F9 N9'
        obtain ⟨mt, it, rfl, hmt, lmt⟩ := ok6
        obtain ⟨Lmt, mt1, mt2, mt3⟩ := nw _ lmt
        k_steps
        (with_reducible rename Fr _ _ _ _ => F9)
        (with_reducible rename News _ _ _ _ => N9')
        have SB := Cv6.now F9 N9' (fun q hq => by repeat (first | assumption | refine List.Mem.tail _ ?_))
        have kB6 : ∀ b o, h6.get? b = some o → b ≠ L → b ≠ ma → b ≠ pa → b ≠ ee → _ := fun b o e n1 n2 n3 n4 => SB b o (ev6 ▸ hideAll_get _ e (by simp [n1, n2, n3, n4]))
        have g0 := N9'.get (.head _)
        have m9 := N9'.get (.tail _ (.head _))
        have p9 := N9'.get (.tail _ (.tail _ (.head _)))
        have e9 := N9'.get (.tail _ (.tail _ (.tail _ (.head _))))
        (with_reducible rename And _ _ => lD)
        have x9 := kB6 _ _ ex (Nat.ne_of_gt Lx) xm.1 xm.2.1 xm.2.2
        have dx9 := kB6 _ _ edx (Nat.ne_of_gt Ldx) dm.1 dm.2.1 dm.2.2
        (try dsimp only)
        refine hold_of ?_
        have I9 := MI.snoc (st := .look i1) I4 (.head _) (fun b o e n1 n2 n3 n4 => kB6 b o (k46 b o e n1) n1 n2 n3 n4) ep4 m9 p9 e9 rfl hi1 (fun _ _ _ e => by cases e) (fun _ e => by cases e) ⟨_, _, _, g0⟩ (lnew _ (Nat.lt_trans lL1 lD.1)) (newH Lx x9) (ex_look I4.le hi1 hnm (lnew _ Lmt) (newH Lmt (kB6 _ _ hmt (Nat.ne_of_gt Lmt) mt1 mt2 mt3))) (newH Ldx dx9) (lnew _ Lx) (lnew _ Ldx) dn dL4
        exact ⟨_, _, rfl, ⟨_, _, _, _, _, frK (List.forall_mem_cons.mpr ⟨rfl, List.forall_mem_cons.mpr ⟨rfl, List.forall_mem_cons.mpr ⟨rfl, List.forall_mem_cons.mpr ⟨rfl, List.forall_mem_nil _⟩⟩⟩⟩) (fun _ _ => rfl) F9, fun b o e => kB6 b o (k46 b o (K4 b o e) (neL b o e)) (neL b o e) (nS _ _ e lL1) (nS _ _ e lL2) (nS _ _ e lL3), I9, by rw [List.length_append, hpl]; rfl⟩, fun o e => kB6 _ _ (k46 _ _ e nI2.1) nI2.1 nI2.2.1 nI2.2.2.1 nI2.2.2.2⟩
    · obtain ⟨j, hj, hj2⟩ := fmod_nat (a := as.getD (((3 * i : Nat) : Int) + 1).toNat 0) (n := 2) (by decide)
      obtain ⟨l, hl, hl3⟩ := fmod_nat (a := as.getD (((3 * i : Nat) : Int) + 2).toNat 0) (n := 3) (by decide)
      obtain ⟨d, hd, hd3⟩ := fmod_nat (a := (as.getD (((3 * i : Nat) : Int) + 2).toNat 0).fdiv 3) (n := 3) (by decide)
      obtain ⟨b0, hb0⟩ : ∃ b, b = ((as.getD (((3 * i : Nat) : Int) + 2).toNat 0).fmod 3 == 0) := ⟨_, rfl⟩
      have hb0' : b0 = decide (l = 0) := by rw [hb0, hl]; by_cases h : l = 0 <;> simp [h]
      have hjN : j < plan.length := by omega
      have hje : em.getD j false = false := by
        rcases (show j = 0 ∨ j = 1 by omega) with rfl | rfl
        · exact I4.em0
        · exact I4.em1
      have x1 := refAt hi1
      have x3 : (eas.map Value.ref)[((as.getD (((3 * i : Nat) : Int) + 1).toNat 0).fmod 2).toNat]? = some (.ref (eas.getD j 0)) := by rw [hj]; exact refAt hjN
      have y1 := boolAt hi1
      cases hb1 : em.getD i1 false
      · rw [hb1] at y1
        k_steps
        (with_reducible rename Fr _ _ _ _ => F9)
        (with_reducible rename News _ _ _ _ => N9')
        have SA := Cv4.now F9 N9' (fun q hq => by repeat (first | assumption | refine List.Mem.tail _ ?_))
        have kA : ∀ b o, h4.get? b = some o → b ≠ L → _ := fun b o e n => SA b o (ev4 ▸ hideAll_get _ e (by simpa using n))
        have LA := F9.ns.lt
        have zm := Heap.lt_size (kA _ _ em4 (Nat.ne_of_gt lL1))
        have zp := Heap.lt_size (kA _ _ ep4 (Nat.ne_of_gt lL2))
        have ze := Heap.lt_size (kA _ _ ee4 (Nat.ne_of_gt lL3))
        have nw : ∀ a : Addr, _ ≤ a → L < a ∧ a ≠ ma ∧ a ≠ pa ∧ a ≠ ee := fun a l => ⟨Nat.lt_of_lt_of_le LA l, Nat.ne_of_gt (Nat.lt_of_lt_of_le zm l), Nat.ne_of_gt (Nat.lt_of_lt_of_le zp l), Nat.ne_of_gt (Nat.lt_of_lt_of_le ze l)⟩
        have zA := Nat.le_trans (lnew _ lL1) (Nat.le_of_lt (Heap.lt_size (kA _ _ em4 (Nat.ne_of_gt lL1))))
        show wpAny _ _ _ _ _ _
        refine' call_kw (kw' := [(Str.ofString "min", Value.int _ _), (Str.ofString "name", Value.str nm _)]) ?e ?_
        case e => with_unfolding_all rfl
        refine mk_times0 (dp := dp + 1) (un := un + 3) O (MG.push F9 rfl) zA (by omega) (by omega) ?_
        intro x dx ox h6 tk6 k6 lx ldx xdx ex edx ok6
        have F6 := Fr.keeps F9 k6
        have k46 : ∀ b o, h4.get? b = some o → b ≠ L → h6.get? b = some o := fun b o e n => k6 b o (kA b o e n)
        obtain ⟨Lx, xm⟩ := nw _ lx
        obtain ⟨Ldx, dm⟩ := nw _ ldx
        have dn : h4.get? dx = none := by
          cases q : h4.get? dx with
          | none => rfl
          | some o => exact absurd (Heap.lt_size (kA _ _ q (Nat.ne_of_gt Ldx))) (Nat.not_lt.mpr ldx)
        obtain ⟨tl6, hv6, hN6, Cv6, ev6, htl6⟩ := focus [ma, pa, ee] F6
        have tc1 : ∀ q ∈ tl6, q.1 ≠ ma := fun q hq => htl6 q hq _ (.head _)
        have tc2 : ∀ q ∈ tl6, q.1 ≠ pa := fun q hq => htl6 q hq _ (.tail _ (.head _))
        have tc3 : ∀ q ∈ tl6, q.1 ≠ ee := fun q hq => htl6 q hq _ (.tail _ (.tail _ (.head _)))
        have N6 := hN6 [(ma, _), (pa, _), (ee, _)] (List.forall_mem_cons.mpr ⟨⟨k46 _ _ em4 (Nat.ne_of_gt lL1), Nat.ne_of_gt lL1, gnew _ lL1⟩, List.forall_mem_cons.mpr ⟨⟨k46 _ _ ep4 (Nat.ne_of_gt lL2), Nat.ne_of_gt lL2, gnew _ lL2⟩, List.forall_mem_cons.mpr ⟨⟨k46 _ _ ee4 (Nat.ne_of_gt lL3), Nat.ne_of_gt lL3, gnew _ lL3⟩, List.forall_mem_nil _⟩⟩⟩)
        simp only [List.cons_append, List.nil_append] at N6
        have qa := neN (Nat.ne_of_lt mp)
        have qb := neN (Nat.ne_of_lt me)
        have qc := neN (Nat.ne_of_lt pe)
        clear hN6 F9 N9'
        obtain ⟨mt, it, rfl, hmt, lmt⟩ := ok6
        obtain ⟨Lmt, mt1, mt2, mt3⟩ := nw _ lmt
        k_steps
        (with_reducible rename Fr _ _ _ _ => F9)
        (with_reducible rename News _ _ _ _ => N9')
        have SB := Cv6.now F9 N9' (fun q hq => by repeat (first | assumption | refine List.Mem.tail _ ?_))
        have kB6 : ∀ b o, h6.get? b = some o → b ≠ L → b ≠ ma → b ≠ pa → b ≠ ee → _ := fun b o e n1 n2 n3 n4 => SB b o (ev6 ▸ hideAll_get _ e (by simp [n1, n2, n3, n4]))
        have g0 := N9'.get (.head _)
        rw [hl] at g0
        have m9 := N9'.get (.tail _ (.head _))
        have p9 := N9'.get (.tail _ (.tail _ (.head _)))
        have e9 := N9'.get (.tail _ (.tail _ (.tail _ (.head _))))
        (with_reducible rename And _ _ => lD)
        have x9 := kB6 _ _ ex (Nat.ne_of_gt Lx) xm.1 xm.2.1 xm.2.2
        rw [hl] at x9
        have dx9 := kB6 _ _ edx (Nat.ne_of_gt Ldx) dm.1 dm.2.1 dm.2.2
        (try dsimp only)
        refine hold_of ?_
        have I9 := MI.snoc (st := .times i1 l (-1)) I4 (.head _) (fun b o e n1 n2 n3 n4 => kB6 b o (k46 b o e n1) n1 n2 n3 n4) ep4 m9 p9 e9 (by simp only [stepEmp]; exact hb0') ⟨hi1, .inl rfl⟩ (fun _ _ _ e => by cases e; exact hb1) (fun _ e => by cases e) ⟨_, _, _, _, _, g0⟩ (lnew _ (Nat.lt_trans lL1 lD.1)) (newH Lx x9) (ex_times I4.le hi1 hnm (lnew _ Lmt) (newH Lmt (kB6 _ _ hmt (Nat.ne_of_gt Lmt) mt1 mt2 mt3)) (.inl ⟨rfl, _, rfl⟩)) (newH Ldx dx9) (lnew _ Lx) (lnew _ Ldx) dn dL4
        exact ⟨_, _, rfl, ⟨_, _, _, _, _, frK (List.forall_mem_cons.mpr ⟨rfl, List.forall_mem_cons.mpr ⟨rfl, List.forall_mem_cons.mpr ⟨rfl, List.forall_mem_cons.mpr ⟨rfl, List.forall_mem_nil _⟩⟩⟩⟩) (fun _ _ => rfl) F9, fun b o e => kB6 b o (k46 b o (K4 b o e) (neL b o e)) (neL b o e) (nS _ _ e lL1) (nS _ _ e lL2) (nS _ _ e lL3), I9, by rw [List.length_append, hpl]; rfl⟩, fun o e => kB6 _ _ (k46 _ _ e nI2.1) nI2.1 nI2.2.1 nI2.2.2.1 nI2.2.2.2⟩
      · rw [hb1] at y1
        k_steps
        (with_reducible rename Fr _ _ _ _ => F9)
        (with_reducible rename News _ _ _ _ => N9')
        have SA := Cv4.now F9 N9' (fun q hq => by repeat (first | assumption | refine List.Mem.tail _ ?_))
        have kA : ∀ b o, h4.get? b = some o → b ≠ L → _ := fun b o e n => SA b o (ev4 ▸ hideAll_get _ e (by simpa using n))
        have LA := F9.ns.lt
        have zm := Heap.lt_size (kA _ _ em4 (Nat.ne_of_gt lL1))
        have zp := Heap.lt_size (kA _ _ ep4 (Nat.ne_of_gt lL2))
        have ze := Heap.lt_size (kA _ _ ee4 (Nat.ne_of_gt lL3))
        have nw : ∀ a : Addr, _ ≤ a → L < a ∧ a ≠ ma ∧ a ≠ pa ∧ a ≠ ee := fun a l => ⟨Nat.lt_of_lt_of_le LA l, Nat.ne_of_gt (Nat.lt_of_lt_of_le zm l), Nat.ne_of_gt (Nat.lt_of_lt_of_le zp l), Nat.ne_of_gt (Nat.lt_of_lt_of_le ze l)⟩
        have zA := Nat.le_trans (lnew _ lL1) (Nat.le_of_lt (Heap.lt_size (kA _ _ em4 (Nat.ne_of_gt lL1))))
        show wpAny _ _ _ _ _ _
        refine' call_kw (kw' := [(Str.ofString "min", Value.int _ _), (Str.ofString "name", Value.str nm _)]) ?e ?_
        case e => with_unfolding_all rfl
        refine mk_times0 (dp := dp + 1) (un := un + 3) O (MG.push F9 rfl) zA (by omega) (by omega) ?_
        intro x dx ox h6 tk6 k6 lx ldx xdx ex edx ok6
        have F6 := Fr.keeps F9 k6
        have k46 : ∀ b o, h4.get? b = some o → b ≠ L → h6.get? b = some o := fun b o e n => k6 b o (kA b o e n)
        obtain ⟨Lx, xm⟩ := nw _ lx
        obtain ⟨Ldx, dm⟩ := nw _ ldx
        have dn : h4.get? dx = none := by
          cases q : h4.get? dx with
          | none => rfl
          | some o => exact absurd (Heap.lt_size (kA _ _ q (Nat.ne_of_gt Ldx))) (Nat.not_lt.mpr ldx)
        obtain ⟨tl6, hv6, hN6, Cv6, ev6, htl6⟩ := focus [ma, pa, ee] F6
        have tc1 : ∀ q ∈ tl6, q.1 ≠ ma := fun q hq => htl6 q hq _ (.head _)
        have tc2 : ∀ q ∈ tl6, q.1 ≠ pa := fun q hq => htl6 q hq _ (.tail _ (.head _))
        have tc3 : ∀ q ∈ tl6, q.1 ≠ ee := fun q hq => htl6 q hq _ (.tail _ (.tail _ (.head _)))
        have N6 := hN6 [(ma, _), (pa, _), (ee, _)] (List.forall_mem_cons.mpr ⟨⟨k46 _ _ em4 (Nat.ne_of_gt lL1), Nat.ne_of_gt lL1, gnew _ lL1⟩, List.forall_mem_cons.mpr ⟨⟨k46 _ _ ep4 (Nat.ne_of_gt lL2), Nat.ne_of_gt lL2, gnew _ lL2⟩, List.forall_mem_cons.mpr ⟨⟨k46 _ _ ee4 (Nat.ne_of_gt lL3), Nat.ne_of_gt lL3, gnew _ lL3⟩, List.forall_mem_nil _⟩⟩⟩)
        simp only [List.cons_append, List.nil_append] at N6
        have qa := neN (Nat.ne_of_lt mp)
        have qb := neN (Nat.ne_of_lt me)
        have qc := neN (Nat.ne_of_lt pe)
        clear hN6 F9 N9'
        obtain ⟨mt, it, rfl, hmt, lmt⟩ := ok6
        obtain ⟨Lmt, mt1, mt2, mt3⟩ := nw _ lmt
        k_steps
        (with_reducible rename Fr _ _ _ _ => F9)
        (with_reducible rename News _ _ _ _ => N9')
        have SB := Cv6.now F9 N9' (fun q hq => by repeat (first | assumption | refine List.Mem.tail _ ?_))
        have kB6 : ∀ b o, h6.get? b = some o → b ≠ L → b ≠ ma → b ≠ pa → b ≠ ee → _ := fun b o e n1 n2 n3 n4 => SB b o (ev6 ▸ hideAll_get _ e (by simp [n1, n2, n3, n4]))
        have g0 := N9'.get (.head _)
        rw [hl, hj] at g0
        have m9 := N9'.get (.tail _ (.head _))
        have p9 := N9'.get (.tail _ (.tail _ (.head _)))
        have e9 := N9'.get (.tail _ (.tail _ (.tail _ (.head _))))
        (with_reducible rename And _ _ => lD)
        have x9 := kB6 _ _ ex (Nat.ne_of_gt Lx) xm.1 xm.2.1 xm.2.2
        rw [hl] at x9
        have dx9 := kB6 _ _ edx (Nat.ne_of_gt Ldx) dm.1 dm.2.1 dm.2.2
        (try dsimp only)
        refine hold_of ?_
        have I9 := MI.snoc (st := .times j l (-1)) I4 (.head _) (fun b o e n1 n2 n3 n4 => kB6 b o (k46 b o e n1) n1 n2 n3 n4) ep4 m9 p9 e9 (by simp only [stepEmp]; exact hb0') ⟨hjN, .inl rfl⟩ (fun _ _ _ e => by cases e; exact hje) (fun _ e => by cases e) ⟨_, _, _, _, _, g0⟩ (lnew _ (Nat.lt_trans lL1 lD.1)) (newH Lx x9) (ex_times I4.le hjN hnm (lnew _ Lmt) (newH Lmt (kB6 _ _ hmt (Nat.ne_of_gt Lmt) mt1 mt2 mt3)) (.inl ⟨rfl, _, rfl⟩)) (newH Ldx dx9) (lnew _ Lx) (lnew _ Ldx) dn dL4
        exact ⟨_, _, rfl, ⟨_, _, _, _, _, frK (List.forall_mem_cons.mpr ⟨rfl, List.forall_mem_cons.mpr ⟨rfl, List.forall_mem_cons.mpr ⟨rfl, List.forall_mem_cons.mpr ⟨rfl, List.forall_mem_nil _⟩⟩⟩⟩) (fun _ _ => rfl) F9, fun b o e => kB6 b o (k46 b o (K4 b o e) (neL b o e)) (neL b o e) (nS _ _ e lL1) (nS _ _ e lL2) (nS _ _ e lL3), I9, by rw [List.length_append, hpl]; rfl⟩, fun o e => kB6 _ _ (k46 _ _ e nI2.1) nI2.1 nI2.2.1 nI2.2.2.1 nI2.2.2.2⟩
    · obtain ⟨j, hj, hj2⟩ := fmod_nat (a := as.getD (((3 * i : Nat) : Int) + 1).toNat 0) (n := 2) (by decide)
      obtain ⟨l, hl, hl3⟩ := fmod_nat (a := as.getD (((3 * i : Nat) : Int) + 2).toNat 0) (n := 3) (by decide)
      obtain ⟨d, hd, hd3⟩ := fmod_nat (a := (as.getD (((3 * i : Nat) : Int) + 2).toNat 0).fdiv 3) (n := 3) (by decide)
      obtain ⟨b0, hb0⟩ : ∃ b, b = ((as.getD (((3 * i : Nat) : Int) + 2).toNat 0).fmod 3 == 0) := ⟨_, rfl⟩
      have hb0' : b0 = decide (l = 0) := by rw [hb0, hl]; by_cases h : l = 0 <;> simp [h]
      have hjN : j < plan.length := by omega
      have hje : em.getD j false = false := by
        rcases (show j = 0 ∨ j = 1 by omega) with rfl | rfl
        · exact I4.em0
        · exact I4.em1
      have x1 := refAt hi1
      have x3 : (eas.map Value.ref)[((as.getD (((3 * i : Nat) : Int) + 1).toNat 0).fmod 2).toNat]? = some (.ref (eas.getD j 0)) := by rw [hj]; exact refAt hjN
      have y1 := boolAt hi1
      cases hb1 : em.getD i1 false
      · rw [hb1] at y1
        k_steps
        (with_reducible rename Fr _ _ _ _ => F9)
        (with_reducible rename News _ _ _ _ => N9')
        have SA := Cv4.now F9 N9' (fun q hq => by repeat (first | assumption | refine List.Mem.tail _ ?_))
        have kA : ∀ b o, h4.get? b = some o → b ≠ L → _ := fun b o e n => SA b o (ev4 ▸ hideAll_get _ e (by simpa using n))
        have LA := F9.ns.lt
        have zm := Heap.lt_size (kA _ _ em4 (Nat.ne_of_gt lL1))
        have zp := Heap.lt_size (kA _ _ ep4 (Nat.ne_of_gt lL2))
        have ze := Heap.lt_size (kA _ _ ee4 (Nat.ne_of_gt lL3))
        have nw : ∀ a : Addr, _ ≤ a → L < a ∧ a ≠ ma ∧ a ≠ pa ∧ a ≠ ee := fun a l => ⟨Nat.lt_of_lt_of_le LA l, Nat.ne_of_gt (Nat.lt_of_lt_of_le zm l), Nat.ne_of_gt (Nat.lt_of_lt_of_le zp l), Nat.ne_of_gt (Nat.lt_of_lt_of_le ze l)⟩
        have zA := Nat.le_trans (lnew _ lL1) (Nat.le_of_lt (Heap.lt_size (kA _ _ em4 (Nat.ne_of_gt lL1))))
        show wpAny _ _ _ _ _ _
        refine' call_kw (kw' := [(Str.ofString "min", Value.int _ _), (Str.ofString "max", Value.int _ _), (Str.ofString "name", Value.str nm _)]) ?e ?_
        case e => with_unfolding_all rfl
        refine mk_times1 (dp := dp + 1) (un := un + 3) O (MG.push F9 rfl) zA (by omega) (by omega) ?_
        intro x dx ox h6 tk6 k6 lx ldx xdx ex edx ok6
        have F6 := Fr.keeps F9 k6
        have k46 : ∀ b o, h4.get? b = some o → b ≠ L → h6.get? b = some o := fun b o e n => k6 b o (kA b o e n)
        obtain ⟨Lx, xm⟩ := nw _ lx
        obtain ⟨Ldx, dm⟩ := nw _ ldx
        have dn : h4.get? dx = none := by
          cases q : h4.get? dx with
          | none => rfl
          | some o => exact absurd (Heap.lt_size (kA _ _ q (Nat.ne_of_gt Ldx))) (Nat.not_lt.mpr ldx)
        obtain ⟨tl6, hv6, hN6, Cv6, ev6, htl6⟩ := focus [ma, pa, ee] F6
        have tc1 : ∀ q ∈ tl6, q.1 ≠ ma := fun q hq => htl6 q hq _ (.head _)
        have tc2 : ∀ q ∈ tl6, q.1 ≠ pa := fun q hq => htl6 q hq _ (.tail _ (.head _))
        have tc3 : ∀ q ∈ tl6, q.1 ≠ ee := fun q hq => htl6 q hq _ (.tail _ (.tail _ (.head _)))
        have N6 := hN6 [(ma, _), (pa, _), (ee, _)] (List.forall_mem_cons.mpr ⟨⟨k46 _ _ em4 (Nat.ne_of_gt lL1), Nat.ne_of_gt lL1, gnew _ lL1⟩, List.forall_mem_cons.mpr ⟨⟨k46 _ _ ep4 (Nat.ne_of_gt lL2), Nat.ne_of_gt lL2, gnew _ lL2⟩, List.forall_mem_cons.mpr ⟨⟨k46 _ _ ee4 (Nat.ne_of_gt lL3), Nat.ne_of_gt lL3, gnew _ lL3⟩, List.forall_mem_nil _⟩⟩⟩)
        simp only [List.cons_append, List.nil_append] at N6
        have qa := neN (Nat.ne_of_lt mp)
        have qb := neN (Nat.ne_of_lt me)
        have qc := neN (Nat.ne_of_lt pe)
        clear hN6 F9 N9'
        obtain ⟨mt, it, rfl, hmt, lmt⟩ := ok6
        obtain ⟨Lmt, mt1, mt2, mt3⟩ := nw _ lmt
        k_steps
        (with_reducible rename Fr _ _ _ _ => F9)
        (with_reducible rename News _ _ _ _ => N9')
        have SB := Cv6.now F9 N9' (fun q hq => by repeat (first | assumption | refine List.Mem.tail _ ?_))
        have kB6 : ∀ b o, h6.get? b = some o → b ≠ L → b ≠ ma → b ≠ pa → b ≠ ee → _ := fun b o e n1 n2 n3 n4 => SB b o (ev6 ▸ hideAll_get _ e (by simp [n1, n2, n3, n4]))
        have g0 := N9'.get (.head _)
        rw [hl, hd] at g0
        have m9 := N9'.get (.tail _ (.head _))
        have p9 := N9'.get (.tail _ (.tail _ (.head _)))
        have e9 := N9'.get (.tail _ (.tail _ (.tail _ (.head _))))
        (with_reducible rename And _ _ => lD)
        have x9 := kB6 _ _ ex (Nat.ne_of_gt Lx) xm.1 xm.2.1 xm.2.2
        rw [hl, hd] at x9
        have dx9 := kB6 _ _ edx (Nat.ne_of_gt Ldx) dm.1 dm.2.1 dm.2.2
        (try dsimp only)
        refine hold_of ?_
        have I9 := MI.snoc (st := .times i1 l ((l : Int) + (d : Int))) I4 (.head _) (fun b o e n1 n2 n3 n4 => kB6 b o (k46 b o e n1) n1 n2 n3 n4) ep4 m9 p9 e9 (by simp only [stepEmp]; exact hb0') ⟨hi1, .inr (by omega)⟩ (fun _ _ _ e => by cases e; exact hb1) (fun _ e => by cases e) ⟨_, _, _, _, _, g0⟩ (lnew _ (Nat.lt_trans lL1 lD.1)) (newH Lx x9) (ex_times I4.le hi1 hnm (lnew _ Lmt) (newH Lmt (kB6 _ _ hmt (Nat.ne_of_gt Lmt) mt1 mt2 mt3)) (.inr ⟨by omega, _, rfl⟩)) (newH Ldx dx9) (lnew _ Lx) (lnew _ Ldx) dn dL4
        exact ⟨_, _, rfl, ⟨_, _, _, _, _, frK (List.forall_mem_cons.mpr ⟨rfl, List.forall_mem_cons.mpr ⟨rfl, List.forall_mem_cons.mpr ⟨rfl, List.forall_mem_cons.mpr ⟨rfl, List.forall_mem_nil _⟩⟩⟩⟩) (fun _ _ => rfl) F9, fun b o e => kB6 b o (k46 b o (K4 b o e) (neL b o e)) (neL b o e) (nS _ _ e lL1) (nS _ _ e lL2) (nS _ _ e lL3), I9, by rw [List.length_append, hpl]; rfl⟩, fun o e => kB6 _ _ (k46 _ _ e nI2.1) nI2.1 nI2.2.1 nI2.2.2.1 nI2.2.2.2⟩
      · rw [hb1] at y1
        k_steps
        (with_reducible rename Fr _ _ _ _ => F9)
        (with_reducible rename News _ _ _ _ => N9')
        have SA := Cv4.now F9 N9' (fun q hq => by repeat (first | assumption | refine List.Mem.tail _ ?_))
        have kA : ∀ b o, h4.get? b = some o → b ≠ L → _ := fun b o e n => SA b o (ev4 ▸ hideAll_get _ e (by simpa using n))
        have LA := F9.ns.lt
        have zm := Heap.lt_size (kA _ _ em4 (Nat.ne_of_gt lL1))
        have zp := Heap.lt_size (kA _ _ ep4 (Nat.ne_of_gt lL2))
        have ze := Heap.lt_size (kA _ _ ee4 (Nat.ne_of_gt lL3))
        have nw : ∀ a : Addr, _ ≤ a → L < a ∧ a ≠ ma ∧ a ≠ pa ∧ a ≠ ee := fun a l => ⟨Nat.lt_of_lt_of_le LA l, Nat.ne_of_gt (Nat.lt_of_lt_of_le zm l), Nat.ne_of_gt (Nat.lt_of_lt_of_le zp l), Nat.ne_of_gt (Nat.lt_of_lt_of_le ze l)⟩
        have zA := Nat.le_trans (lnew _ lL1) (Nat.le_of_lt (Heap.lt_size (kA _ _ em4 (Nat.ne_of_gt lL1))))
        show wpAny _ _ _ _ _ _
        refine' call_kw (kw' := [(Str.ofString "min", Value.int _ _), (Str.ofString "max", Value.int _ _), (Str.ofString "name", Value.str nm _)]) ?e ?_
        case e => with_unfolding_all rfl
        refine mk_times1 (dp := dp + 1) (un := un + 3) O (MG.push F9 rfl) zA (by omega) (by omega) ?_
        intro x dx ox h6 tk6 k6 lx ldx xdx ex edx ok6
        have F6 := Fr.keeps F9 k6
        have k46 : ∀ b o, h4.get? b = some o → b ≠ L → h6.get? b = some o := fun b o e n => k6 b o (kA b o e n)
        obtain ⟨Lx, xm⟩ := nw _ lx
        obtain ⟨Ldx, dm⟩ := nw _ ldx
        have dn : h4.get? dx = none := by
          cases q : h4.get? dx with
          | none => rfl
          | some o => exact absurd (Heap.lt_size (kA _ _ q (Nat.ne_of_gt Ldx))) (Nat.not_lt.mpr ldx)
        obtain ⟨tl6, hv6, hN6, Cv6, ev6, htl6⟩ := focus [ma, pa, ee] F6
        have tc1 : ∀ q ∈ tl6, q.1 ≠ ma := fun q hq => htl6 q hq _ (.head _)
        have tc2 : ∀ q ∈ tl6, q.1 ≠ pa := fun q hq => htl6 q hq _ (.tail _ (.head _))
        have tc3 : ∀ q ∈ tl6, q.1 ≠ ee := fun q hq => htl6 q hq _ (.tail _ (.tail _ (.head _)))
        have N6 := hN6 [(ma, _), (pa, _), (ee, _)] (List.forall_mem_cons.mpr ⟨⟨k46 _ _ em4 (Nat.ne_of_gt lL1), Nat.ne_of_gt lL1, gnew _ lL1⟩, List.forall_mem_cons.mpr ⟨⟨k46 _ _ ep4 (Nat.ne_of_gt lL2), Nat.ne_of_gt lL2, gnew _ lL2⟩, List.forall_mem_cons.mpr ⟨⟨k46 _ _ ee4 (Nat.ne_of_gt lL3), Nat.ne_of_gt lL3, gnew _ lL3⟩, List.forall_mem_nil _⟩⟩⟩)
        simp only [List.cons_append, List.nil_append] at N6
        have qa := neN (Nat.ne_of_lt mp)
        have qb := neN (Nat.ne_of_lt me)
        have qc := neN (Nat.ne_of_lt pe)
        clear hN6 F9 N9'
        obtain ⟨mt, it, rfl, hmt, lmt⟩ := ok6
        obtain ⟨Lmt, mt1, mt2, mt3⟩ := nw _ lmt
        k_steps
        (with_reducible rename Fr _ _ _ _ => F9)
        (with_reducible rename News _ _ _ _ => N9')
        have SB := Cv6.now F9 N9' (fun q hq => by repeat (first | assumption | refine List.Mem.tail _ ?_))
        have kB6 : ∀ b o, h6.get? b = some o → b ≠ L → b ≠ ma → b ≠ pa → b ≠ ee → _ := fun b o e n1 n2 n3 n4 => SB b o (ev6 ▸ hideAll_get _ e (by simp [n1, n2, n3, n4]))
        have g0 := N9'.get (.head _)
        rw [hl, hd, hj] at g0
        have m9 := N9'.get (.tail _ (.head _))
        have p9 := N9'.get (.tail _ (.tail _ (.head _)))
        have e9 := N9'.get (.tail _ (.tail _ (.tail _ (.head _))))
        (with_reducible rename And _ _ => lD)
        have x9 := kB6 _ _ ex (Nat.ne_of_gt Lx) xm.1 xm.2.1 xm.2.2
        rw [hl, hd] at x9
        have dx9 := kB6 _ _ edx (Nat.ne_of_gt Ldx) dm.1 dm.2.1 dm.2.2
        (try dsimp only)
        refine hold_of ?_
        have I9 := MI.snoc (st := .times j l ((l : Int) + (d : Int))) I4 (.head _) (fun b o e n1 n2 n3 n4 => kB6 b o (k46 b o e n1) n1 n2 n3 n4) ep4 m9 p9 e9 (by simp only [stepEmp]; exact hb0') ⟨hjN, .inr (by omega)⟩ (fun _ _ _ e => by cases e; exact hje) (fun _ e => by cases e) ⟨_, _, _, _, _, g0⟩ (lnew _ (Nat.lt_trans lL1 lD.1)) (newH Lx x9) (ex_times I4.le hjN hnm (lnew _ Lmt) (newH Lmt (kB6 _ _ hmt (Nat.ne_of_gt Lmt) mt1 mt2 mt3)) (.inr ⟨by omega, _, rfl⟩)) (newH Ldx dx9) (lnew _ Lx) (lnew _ Ldx) dn dL4
        exact ⟨_, _, rfl, ⟨_, _, _, _, _, frK (List.forall_mem_cons.mpr ⟨rfl, List.forall_mem_cons.mpr ⟨rfl, List.forall_mem_cons.mpr ⟨rfl, List.forall_mem_cons.mpr ⟨rfl, List.forall_mem_nil _⟩⟩⟩⟩) (fun _ _ => rfl) F9, fun b o e => kB6 b o (k46 b o (K4 b o e) (neL b o e)) (neL b o e) (nS _ _ e lL1) (nS _ _ e lL2) (nS _ _ e lL3), I9, by rw [List.length_append, hpl]; rfl⟩, fun o e => kB6 _ _ (k46 _ _ e nI2.1) nI2.1 nI2.2.1 nI2.2.2.1 nI2.2.2.2⟩
end Mine
end
section
open PySem PySem.W PyProof.Rows PySem.Calls PySem.Spec
set_option maxRecDepth 100000
set_option maxHeartbeats 4000000
namespace Mine
local macro_rules | `(tactic| walk_at "0") => `(tactic| skip)
local macro_rules | `(tactic| walk_at "0") => `(tactic| skip)
local macro_rules | `(tactic| walk_at "0") => `(tactic| skip)
local macro_rules | `(tactic| walk_at "0") => `(tactic| skip)
local macro_rules | `(tactic| walk_at "0") => `(tactic| skip)
local macro_rules | `(tactic| walk_at "0") => `(tactic| skip)
local macro_rules | `(tactic| walk_at "0") => `(tactic| skip)
local macro_rules | `(tactic| walk_at "0") => `(tactic| skip)
local macro_rules | `(tactic| walk_at "0") => `(tactic| skip)
local macro_rules | `(tactic| walk_at "0") => `(tactic| skip)
local macro_rules | `(tactic| walk_at "0") => `(tactic| skip)
local macro_rules | `(tactic| walk_at "0") => `(tactic| skip)
local macro_rules | `(tactic| walk_at "0") => `(tactic| skip)
local macro_rules | `(tactic| walk_at "0") => `(tactic| skip)
local macro_rules | `(tactic| walk_at "0") => `(tactic| skip)
local macro_rules | `(tactic| walk_at "0") => `(tactic| skip)
local macro_rules | `(tactic| walk_at "0") => `(tactic| skip)
local macro_rules | `(tactic| walk_at "0") => `(tactic| skip)
local macro_rules | `(tactic| walk_at "0") => `(tactic| skip)
local macro_rules | `(tactic| walk_at "0") => `(tactic| skip)
local macro_rules | `(tactic| walk_at "0") => `(tactic| skip)
local macro_rules | `(tactic| walk_at "0") => `(tactic| skip)
local macro_rules | `(tactic| walk_at "0") => `(tactic| skip)
local macro_rules | `(tactic| walk_at "0") => `(tactic| skip)
local macro_rules | `(tactic| walk_at "0") => `(tactic| skip)
local macro_rules | `(tactic| walk_at "0") => `(tactic| skip)
local macro_rules | `(tactic| walk_at "0") => `(tactic| skip)
local macro_rules | `(tactic| walk_at "0") => `(tactic| skip)
local macro_rules | `(tactic| walk_at "0") => `(tactic| skip)
local macro_rules | `(tactic| walk_at "0") => `(tactic| skip)
local macro_rules | `(tactic| walk_at "0") => `(tactic| skip)
local macro_rules | `(tactic| walk_at "0") => `(tactic| skip)
local macro_rules | `(tactic| walk_at "0") => `(tactic| skip)
local macro_rules | `(tactic| walk_at "0") => `(tactic| skip)
local macro_rules | `(tactic| walk_at "0") => `(tactic| skip)
local macro_rules | `(tactic| walk_at "0") => `(tactic| skip)
local macro_rules | `(tactic| walk_at "0") => `(tactic| skip)
local macro_rules | `(tactic| walk_at "0") => `(tactic| skip)
local macro_rules | `(tactic| walk_at "0") => `(tactic| skip)
local macro_rules | `(tactic| walk_at "0") => `(tactic| skip)
theorem rs45 : True := by
  w_top off
  trivial
section
variable {M : Model} {A : Around} {E : Value → Shared → Prop} {s : Shared} {base : Heap} {env : Env} {outer l : List Env} {L e : Addr} {cls : Value} {dv : Option Addr}
/-- the try statement takes the exception down -/
theorem fly_land {G : Shared → Prop} (hfr : A.frames = some (env :: outer)) (hf : env.frame = some L) (F : Fly base (env :: outer) e cls dv .none s.heap)
    (h : ∀ h', Fly base (env :: outer) e cls dv .none h' → s.heap.UpToSlots h' → G { s with heap := h' }) :
    wpAny M A (noteFrame (.ref e) env) (fun _ s₂ => wpAny M A (setFlight (.ref e) none) (fun _ s₃ => G s₃) E s₂) E s :=
  note_next hfr hf F fun h' a b => flight_none (s := { s with heap := h' }) a fun h'' c d => h h'' c (b.trans d)
theorem Fly.keeps {h h' : Heap} {fl : Value} (F : Fly base l e cls dv fl h) (k : ∀ b o, h.get? b = some o → h'.get? b = some o) : Fly base l e cls dv fl h' := by
  obtain ⟨f1, f2, f3, oe, vs, T, oT, ts, he, hc, hd, h1, hnT, hTe, hT, hdT, h3⟩ := F
  exact ⟨fun b o q => k b o (f1 b o q), f2, f3.of_keeps fun b o q _ => ⟨o, k b o q, rfl⟩, oe, vs, T, oT, ts, k _ _ he, hc, hd, h1, hnT, hTe, k _ _ hT, hdT, h3⟩
theorem Fly.ty {h : Heap} {fl : Value} (F : Fly base l e cls dv fl h) : Looks M h (typeOf (.ref e)) cls := by
  obtain ⟨f1, f2, f3, oe, vs, T, oT, ts, he, hc, _⟩ := F
  obtain ⟨hc, _⟩ := hc
  subst hc
  exact (Looks.ld he).andThen .now
end
section
variable {w : World} {p : Program} {loose : List Str} {mean : ExcName → Option Value} {mg mb : Str → Option Value} {H0 : Heap} {prog : Program} {dp un : Nat} {gd : Option (List Code)} {fr : List Env}
/-- the ground, its frames as they lie now -/
theorem fly_ground {g h₅ : Heap} (M : Amb H0 fr g) (hg : ∀ b o, g.get? b = some o → b ∉ frs fr → h₅.get? b = some o) (hsm : ∀ b o, g.get? b = some o → b ∈ frs fr → ∃ sl, h₅.get? b = some { o with slots := sl }) :
    ∃ g', g'.objs.size = g.objs.size ∧ g'.StaysIn h₅ ∧ Amb H0 fr g' ∧ ∀ a, g.get? a = none → g'.get? a = none := by
  obtain ⟨T, S⟩ := kts_turn_at (h := h₅) (fs := frs fr) (g := g) (fun b hb => by obtain ⟨o, _, _, e, _⟩ := M.fdat b hb; exact ⟨o, e⟩) hg hsm
  refine ⟨_, T.size, S, ⟨fun b o e => T.other b o (M.keep b o e) (fun hm => by rw [frs_off M.frames b hm] at e; cases e), M.frames.of_keeps fun b o e _ => ?_, fun a ha => ?_⟩, T.none_⟩
  · obtain ⟨sl, hs⟩ := T.up e
    exact ⟨_, hs, rfl⟩
  · obtain ⟨o, es, n, e, d⟩ := M.fdat a ha
    obtain ⟨sl, hs⟩ := T.frame a o e ha
    exact ⟨_, es, n, hs, d⟩
variable {E : Value → Shared → Prop} {s : Shared} {Q : Flow → Shared → Prop} {env : Env} {outer : List Env} {base g : Heap} {L a e : Addr} {m : Str → Option Value} {name : Str} {scope : Scope} {cd cls : Value} {dv : Option Addr} {tt : Expr} {nm : Option Str} {body : List Stmt} {pos : Pos} {rest : List ExceptHandler} {KF : Frag} {A : Around} {b₀ : Stmt} {suite : List Stmt}
/-- a clause that does not take it -/
theorem fly_pass (F : Fr g L s.heap m) (Fl : Fly base (envOf name scope L a cd :: outer) e cls dv .none s.heap) (X : KF.In g) (T : Top p loose mean mg mb g)
    (Te : KtsTest prog w KF p loose mg mb name scope L a cd cls tt false)
    (k : ∀ h', (∀ b o, s.heap.get? b = some o → h'.get? b = some o) → wpAny (model prog w) A (handleBy (.ref e) (envOf name scope L a cd) rest) Q E { s with heap := h' }) :
    wpAny (model prog w) A (handleBy (.ref e) (envOf name scope L a cd) (.ExceptHandler (some tt) nm body pos :: rest)) Q E s :=
  wpAny_handleBy_cons (codeAny_handlers_test (Te _ _ _ _ g e m F X (topRead_of T) Fl.ty fun h' kp => k h' kp)) (by intro q; cases q)
/-- a clause that takes it -/
theorem fly_hit (F : Fr g L s.heap m) (Fl : Fly base (envOf name scope L a cd :: outer) e cls dv .none s.heap) (X : KF.In g) (T : Top p loose mean mg mb g)
    (Te : KtsTest prog w KF p loose mg mb name scope L a cd cls tt true)
    (k : ∀ h', Fly base (envOf name scope L a cd :: outer) e cls dv .none h' → s.heap.UpToSlots h' → wpAny (model prog w) (A.mark (some (.ref e))) (execs (b₀ :: suite) (envOf name scope L a cd)) Q E { s with heap := h' })
    (hE : PassesOwnAt (model prog w) (A.mark (some (.ref e))) A (envOf name scope L a cd) E) :
    wpAny (model prog w) A (handleBy (.ref e) (envOf name scope L a cd) (.ExceptHandler (some tt) none (b₀ :: suite) pos :: rest)) Q E s := by
  refine wpAny_handleBy_cons (codeAny_handlers_test (Te _ _ _ _ g e m F X (topRead_of T) Fl.ty fun h' kp => ?_)) (by intro q; cases q)
  refine codeAny_handlers_suite ?_
  refine flight_none (s := { s with heap := h' }) (Fl.keeps kp) fun h'' fl up => ?_
  exact wpAny_passesOwnAt hE (k h'' fl ((Heap.UpToSlots.of_keeps kp).trans up))
/-- the same, with a name -/
theorem fly_hit_as {n : Str} {news : List (Addr × Obj)} (F : Fr g L s.heap m) (Fl : Fly base (envOf name scope L a cd :: outer) e cls dv .none s.heap) (X : KF.In g) (T : Top p loose mean mg mb g)
    (Te : KtsTest prog w KF p loose mg mb name scope L a cd cls tt true)
    (k : ∀ h', Fly base (envOf name scope L a cd :: outer) e cls dv .none h' → s.heap.UpToSlots h' → wpAny (model prog w) (A.mark (some (.ref e))) (storeName (envOf name scope L a cd) n (.ref e)) (fun _ s₂ =>
      wpAny (model prog w) (A.mark (some (.ref e))) (execs (b₀ :: suite) (envOf name scope L a cd))
        (fun f s₄ => wpAny (model prog w) A (do bindName (envOf name scope L a cd) n .none; unbindBehindTheSuite (envOf name scope L a cd) n pos) (fun _ s₅ => Q f s₅) E s₄)
        (AsSuiteRaised (model prog w) (A.mark (some (.ref e))) (envOf name scope L a cd) n pos (notedBy (model prog w) (A.mark (some (.ref e))) (envOf name scope L a cd) (cameBackBy (model prog w) A (envOf name scope L a cd) E))) s₂)
        (notedBy (model prog w) (A.mark (some (.ref e))) (envOf name scope L a cd) (cameBackBy (model prog w) A (envOf name scope L a cd) E)) { s with heap := h' }) :
    wpAny (model prog w) A (handleBy (.ref e) (envOf name scope L a cd) (.ExceptHandler (some tt) (some n) (b₀ :: suite) pos :: rest)) Q E s := by
  refine wpAny_handleBy_cons (codeAny_handlers_test (Te _ _ _ _ g e m F X (topRead_of T) Fl.ty fun h' kp => ?_)) (by intro q; cases q)
  refine codeAny_handlers_suite_as ?_
  refine flight_none (s := { s with heap := h' }) (Fl.keeps kp) fun h'' fl up => ?_
  exact k h'' fl ((Heap.UpToSlots.of_keeps kp).trans up)
end
/-- which clauses take which -/
theorem exm_94_two (w : World) : exmAny (_root_.Mine.hd.heap_39 w.params) (.ref 94) [.ref 132, .ref 113] = some false := by kernel_rfl
theorem exm_94 (w : World) : exmOne (_root_.Mine.hd.heap_39 w.params) (.ref 94) (.ref 94) = some true := by kernel_rfl
theorem exm_94_132 (w : World) : exmOne (_root_.Mine.hd.heap_39 w.params) (.ref 94) (.ref 132) = some false := by kernel_rfl
theorem exm_94_113 (w : World) : exmOne (_root_.Mine.hd.heap_39 w.params) (.ref 94) (.ref 113) = some false := by kernel_rfl
theorem exm_132 (w : World) : exmOne (_root_.Mine.hd.heap_39 w.params) (.ref 132) (.ref 132) = some true := by kernel_rfl
theorem kn_94 (w : World) : KtsName (_root_.Mine.hd.heap_39 w.params) (Str.ofString "ParseError") (.ref 94) := .inl (by k_is)
theorem kn_113 (w : World) : KtsName (_root_.Mine.hd.heap_39 w.params) (Str.ofString "LeftRecursionError") (.ref 113) := .inl (by k_is)
theorem kn_132 (w : World) : KtsName (_root_.Mine.hd.heap_39 w.params) (Str.ofString "IncompleteParseError") (.ref 132) := .inl (by k_is)
variable {Γ : Cfg}
/-- all but dicts stands -/
abbrev NDk (h h' : Heap) : Prop := ∀ b o, h.get? b = some o → (∀ es n, o.data ≠ .dict es n) → h'.get? b = some o
theorem MadeObj.subND {h h' : Heap} {lo : Nat} {a : Addr} (R : MadeObj h lo Γ a) (kp : NDk h h') : MadeObj h' lo Γ a := let ⟨l, c, e⟩ := R; ⟨l, c, kp _ _ e (fun _ _ e => by cases e)⟩
theorem StepObj.subND {h h' : Heap} {q : Addr} {st : Stp} (x : StepObj h q st) (kp : NDk h h') : StepObj h' q st := by
  have k : ∀ {vs n}, h.get? q = some (tupOf vs n) → h'.get? q = some (tupOf vs n) := fun e => kp _ _ e (fun _ _ e => by cases e)
  cases st with
  | word x => obtain ⟨t1, t2, n, e⟩ := x; exact ⟨t1, t2, n, k e⟩
  | both i j => obtain ⟨t1, t2, t3, n, e⟩ := x; exact ⟨t1, t2, t3, n, k e⟩
  | either i j => obtain ⟨t1, t2, t3, n, e⟩ := x; exact ⟨t1, t2, t3, n, k e⟩
  | look i => obtain ⟨t1, t2, n, e⟩ := x; exact ⟨t1, t2, n, k e⟩
  | nay i => obtain ⟨t1, t2, n, e⟩ := x; exact ⟨t1, t2, n, k e⟩
  | times i l m => obtain ⟨t1, t2, t3, t4, n, e⟩ := x; exact ⟨t1, t2, t3, t4, n, k e⟩
theorem PlanObj.subND {h h' : Heap} {lo : Nat} {plan : List Stp} {a : Addr} (R : PlanObj h lo plan a) (kp : NDk h h') : PlanObj h' lo plan a :=
  let ⟨l, ps, cap, e, b, c⟩ := R; ⟨l, ps, cap, kp _ _ e (fun _ _ e => by cases e), b, fun i q st e1 e2 => ⟨(c i q st e1 e2).1, (c i q st e1 e2).2.subND kp⟩⟩
theorem EndsObj.subND {h h' : Heap} {lo : Nat} {E : Nat → Nat → Int} {n k : Nat} {a : Addr} (R : EndsObj h lo E n k a) (kp : NDk h h') : EndsObj h' lo E n k a :=
  let ⟨l, rs, cap, a, b, c⟩ := R; ⟨l, rs, cap, kp _ _ a (fun _ _ e => by cases e), b, fun i r e => ⟨(c i r e).1, (c i r e).2.sub fun o e => by
    obtain ⟨vs, cp, e2, _⟩ := (c i r ‹_›).2
    rw [e] at e2; cases e2
    exact kp _ _ e (fun _ _ e => by cases e)⟩⟩
end Mine
end
section
open PySem PySem.W PyProof.Rows PySem.Calls PySem.Spec Builtin Builtin.ObjectAttr
set_option maxRecDepth 100000
set_option maxHeartbeats 8000000
namespace Mine
theorem rs46 : True := by
  w_top off
  trivial
local macro_rules | `(tactic| k_room) => `(tactic| ktr_room)
local macro_rules | `(tactic| k_all) => `(tactic| first | assumption | (intro q9 hq9; (try dsimp only); first | exact allLt_ne (by assumption) (by omega) q9 hq9 | exact lt_ne (by assumption) (by omega) q9 hq9))
local macro_rules | `(tactic| k_inst) => `(tactic| (refine' instOf ?N ?h1 ?h2 ?e1 ?e2 ?e3; (case N => k_asm); (case h1 => k_mem); (case e1 => first | assumption | exact rfl); (case e2 => first | assumption | exact rfl); (case h2 => k_mem); (case e3 => first | assumption | exact rfl)))
local macro_rules | `(tactic| walk_at "subscriptTail") => `(tactic| (k_here; (with_reducible show wpAny _ _ (subscriptTail _ _ (Value.ref _) (Value.int _ _)) _ _ _); k_dflt (refine' kim_list ?N ?m ?hc ?hd ?h0 ?h1 ?hx ?_; (case N => k_asm); (case m => k_mem); (case hc => rfl); (case hd => rfl); (case h0 => first | assumption | omega); (case h1 => omega); (case hx => assumption); k_whole)))
local macro_rules | `(tactic| walk_at "subscriptTail Subscript") => `(tactic| (k_here; k_dflt (refine kba_turn (value' := PySem.Expr.Name (PySem.Str.ofString "_") ⟨0, 0, 0, 0⟩) (fun _ => rfl) ?_)))
local macro_rules | `(tactic| walk_at "subscriptTail Name Name ref int") => `(tactic| (k_here; (with_reducible show wpAny _ _ (subscriptTail _ _ (Value.ref _) (Value.int _ _)) _ _ _); k_dflt (refine' kim_list ?N ?m ?hc ?hd ?h0 ?h1 ?hx ?_; (case N => k_asm); (case m => k_mem); (case hc => rfl); (case hd => rfl); (case h0 => first | assumption | omega); (case h1 => omega); (case hx => assumption); k_whole)))
local macro_rules | `(tactic| walk_at "subscriptTail") => `(tactic| (k_here; (fail_if_success (with_reducible show wpAny _ _ (subscriptTail (PySem.Expr.Name _ _) _ _ _) _ _ _)); k_dflt (refine kba_turn (value' := PySem.Expr.Name (PySem.Str.ofString "_") ⟨0, 0, 0, 0⟩) (fun _ => rfl) ?_)))
local macro_rules | `(tactic| walk_at "eval Name") => `(tactic| (k_here; k_dflt (refine' nameX_L ?F ?v ?_ ?a ?b; (case F => k_asm); (case a => rfl); (case b => rfl); (case v => rfl); k_whole)))
local macro_rules | `(tactic| walk_at "call ref") => `(tactic| (k_here; (with_reducible show wpAny _ _ (call (Value.ref _) _ _) _ _ _); refine hold_of ?_))
local macro_rules | `(tactic| walk_at "call builtin:len") => `(tactic| (k_here; (with_reducible show wpAny _ _ (call (Value.builtin "len") [Value.ref _]) _ _ _); k_dflt (refine' len_its ?N ?m ?hc ?hz ?_; (case N => k_asm); (case m => k_mem); (case hc => assumption); (case hz => assumption); k_whole)))
local macro_rules | `(tactic| walk_at "getMethod ref") => `(tactic| (k_here; (with_reducible show wpAny _ _ (getMethod (Value.ref _) (PySem.Str.ofString "match") _) _ _ _); k_dflt (refine' kmatch ?k1 ?k2 ?k3 ?k4 ?k5 ?k6 ?_; (case k1 => k_asm); (case k2 => k_asm); (case k3 => k_inst); (case k4 => assumption); (case k5 => assumption); (case k6 => assumption); k_whole)))
local macro_rules | `(tactic| walk_at "exec Try") => `(tactic| (k_here; (with_reducible show wpAny _ _ (exec (Stmt.Try _ (_ :: _) _ [] _) (envOf _ _ _ _ _)) _ _ _); refine wpAny_Try_except ?_))
variable {w : World} {p : Program} {loose : List Str} {mean : ExcName → Option Value} {mg mb : Str → Option Value} {H0 : Heap} {Γ : Cfg}
/-- what a run of the law's half hands on -/
abbrev RunPost (w : World) (Γ : Cfg) (fr : List Env) (s : Shared) (Q : Value → Shared → Prop) : Prop :=
  ∀ h' tk' ecs, (∀ t u T, Pre w (Γ.next t u T ecs) (Vw (frs fr) h')) → (∀ a o, s.heap.get? a = some o → (∀ j, j < Γ.N → a ≠ Γ.da j) → a ∉ frs fr → h'.get? a = some o) →
    (∀ a o, s.heap.get? a = some o → a ∈ frs fr → ∃ sl, h'.get? a = some { o with slots := sl }) → s.heap.objs.size ≤ h'.objs.size → Q (.bool true) { s with heap := h', toks := tk' }
theorem EndsObj.keepL {h h' : Heap} {lo : Nat} {E : Nat → Nat → Int} {n k : Nat} {a L : Addr} (R : EndsObj h lo E n k a) (dL : ∃ o es n, h.get? L = some o ∧ o.data = .dict es n) (kp : ∀ b o, h.get? b = some o → b ≠ L → h'.get? b = some o) : EndsObj h' lo E n k a :=
  R.subND fun b o e nd => kp b o e fun q => by
    obtain ⟨o', es, n, e', d⟩ := dL
    rw [q, e'] at e; cases e; exact nd _ _ d
theorem NDk.ofL {h h' : Heap} {L : Addr} (dL : ∃ o es n, h.get? L = some o ∧ o.data = .dict es n) (kp : ∀ b o, h.get? b = some o → b ≠ L → h'.get? b = some o) : NDk h h' := fun b o e nd => kp b o e fun q => by
  obtain ⟨o', es, n, e', d⟩ := dL
  rw [q, e'] at e; cases e; exact nd _ _ d
theorem matched_ok {dp un : Nat} {gd : Option (List Code)} {fr : List Env} {s : Shared} {ma pa : Addr} {pos : Nat} {tp : Tok} {Q E : Value → Shared → Prop} (O : Old w p loose mean mg mb H0) (G : Good Γ) (hol : Γ.olds = []) (hlo0 : Γ.lo0 = H0.objs.size) (hN0 : 0 < Γ.N)
    (M : Amb H0 fr s.heap) (P : Pre w Γ (Vw (frs fr) s.heap)) (hm : MadeObj s.heap H0.objs.size Γ ma) (hp : PlanObj s.heap H0.objs.size Γ.plan pa) (hpos : pos ≤ Γ.n) (hdp : dp + (6 * Γ.N + 100) < recursionLimit) (hun : un + (20 * Γ.N + 300) < cLine)
    (hq : RunPost w Γ fr s Q) :
    wpAny (model PySem.Challenge.rw_vy0014_01.row.prog w) (ar dp un gd fr) (call (.ref 544) [.ref ma, .ref pa, .str Γ.text Γ.tk, .int pos tp] []) Q E s := by
  refine wpAny_call ?_
  refine' enterF O M ?ho ?hcd ?hr ?hb ?hl ?_ ?c1 ?c2 ?c3 ?c4
  case ho => k_is
  case hcd => k_is
  case hr => omega
  case hb => exact BindsTo.of_eq rfl
  case hl => exact locs rfl
  case c1 => exact rfl
  case c2 => exact rfl
  case c3 => exact rfl
  case c4 => decide
  intro g L h₁ eL F K1 MG hgn Bw X T'
  have lo0 : ∀ a, H0.objs.size ≤ a → H0.get? a = none := fun a ha => get_none_of_le ha
  have neL : ∀ b o, s.heap.get? b = some o → b ≠ L := fun b o e => eL ▸ Nat.ne_of_lt (Heap.lt_size e)
  have few := G.ok.few
  have hs9 : Γ.text.length ≤ 1000 := G.ok.small
  have hpos' : pos ≤ Γ.text.length := hpos
  obtain ⟨tl, hvh, hN, Cv, ev, htl⟩ := focus [] F
  have N := hN [] (List.forall_mem_nil _)
  simp only [List.nil_append] at N
  clear hN
  k_steps
  (with_reducible rename Fr _ _ _ _ => F9)
  (with_reducible rename News _ _ _ _ => N9)
  have S9 := Cv.now F9 N9 (fun q hq => by repeat (first | assumption | refine List.Mem.tail _ ?_))
  have k9 : s.heap.StaysIn _ := fun b o e => S9 b o (ev ▸ hideAll_get _ (K1 b o e) (by simpa using neL b o e))
  show wpAny _ _ _ _ _ _
  refine ends_ok (dp := dp + 1) (un := un + 3) O (MG.push F9 rfl) G (hp.sub k9) (by omega) (by omega) ?_
  rintro v h2 tk2 ⟨ea, rfl, he⟩ k2
  have F2 := Fr.keeps F9 k2
  have dF2 : ∃ o es n, h2.get? L = some o ∧ o.data = .dict es n := by obtain ⟨o, es, n, e, d, _⟩ := F2.ns; exact ⟨o, es, n, e, d⟩
  have s2 : s.heap.StaysIn h2 := fun b o e => k2 b o (k9 b o e)
  have lastN : ∃ k, Γ.N = k + 1 := ⟨Γ.N - 1, by omega⟩
  obtain ⟨k, hk⟩ := lastN
  have hkN : k < Γ.N := by omega
  obtain ⟨st, hst⟩ : ∃ st, Γ.plan[k]? = some st := ⟨_, List.getElem?_eq_getElem hkN⟩
  have hLn : s.heap.get? L = none := get_none_of_le (Nat.le_of_eq eL.symm)
  obtain ⟨hlk, ok, vok, hob⟩ := P.ex k _ hst
  have hok := Cfg.vget vok
  obtain ⟨pk1, pk2, pk3⟩ := hob.plain
  have ck1 := notCls_plain pk1
  have cfk := clsF w st
  have fmk := find_match w st
  obtain ⟨es, n, vda, hmm, hpp⟩ := (P.att k hkN).free
  have hda := Cfg.vget vda
  have hs1 : ((List.range Γ.N).map fun k => Value.ref (Γ.ea k)).toArray.size = k + 1 := by simp [hk]
  have hz1 : k + 1 ≤ 2000 := by omega
  have ek : ((k + 1 : Nat) : Int) - 1 = ((k : Nat) : Int) := by omega
  have x1 : ((List.range Γ.N).map fun k => Value.ref (Γ.ea k))[(((k + 1 : Nat) : Int) - 1).toNat]? = some (.ref (Γ.ea k)) := by
    rw [ek]
    show (_ : List Value)[k]? = _
    rw [List.getElem?_map, List.getElem?_range hkN]; rfl
  obtain ⟨lma, cm, em⟩ := id hm
  obtain ⟨tl2, hv2, hN2, Cv2, ev2, htl2⟩ := focus [] F2
  have cell : ∀ a o, s.heap.get? a = some o → H0.objs.size ≤ a → a ∉ frs fr → h2.get? a = some o ∧ a ≠ L ∧ g.get? a = none := fun a o e l nf => ⟨s2 _ _ e, neL _ _ e, hgn _ (lo0 _ l) nf⟩
  have N2 := hN2 [(ma, _), (Γ.ea k, ok), (Γ.da k, dictOf es n)] (List.forall_mem_cons.mpr ⟨cell _ _ em lma (M.notFr em (fun _ _ e => by cases e)), List.forall_mem_cons.mpr ⟨cell _ _ hok (hlo0 ▸ hlk) (Cfg.vnot vok), List.forall_mem_cons.mpr ⟨cell _ _ hda (hlo0 ▸ (P.dl k hkN).1) (Cfg.vnot vda), List.forall_mem_nil _⟩⟩⟩)
  simp only [List.cons_append, List.nil_append] at N2
  clear hN2 F9 N9 S9
  k_steps
  (with_reducible rename Fr _ _ _ _ => F9)
  (with_reducible rename News _ _ _ _ => N9)
  have S9 := Cv2.now F9 N9 (fun q hq => by repeat (first | assumption | refine List.Mem.tail _ ?_))
  have k29 : ∀ b o, h2.get? b = some o → b ≠ L → _ := fun b o e n => S9 b o (ev2 ▸ hideAll_get _ e (by simpa using n))
  have s9 : s.heap.StaysIn _ := fun b o e => k29 b o (s2 b o e) (neL b o e)
  rw [ek] at F9
  have P9 : Pre w Γ (Vw (L :: frs fr) _) := (P.sub (vw_cons hLn)).sub (Cfg.vst s9)
  have lL9 := F9.ns.lt
  have fL : ∀ a ∈ frs fr, a < L := fun a ha => eL ▸ frs_lt M.frames _ ha
  have daL : ∀ j, j < Γ.N → Γ.da j < L := fun j hj => by obtain ⟨_, _, e, _⟩ := (P.att j hj).there; exact eL ▸ Heap.lt_size (Cfg.vget e)
  have gda : ∀ j, j < Γ.N → g.get? (Γ.da j) = none := fun j hj => hgn _ (lo0 _ (hlo0 ▸ (P.dl j hj).1)) (fun hf => by obtain ⟨_, _, e', _⟩ := (P.att j hj).there; exact Cfg.vnot e' hf)
  have he9 := he.keepL dF2 k29
  have b259 : ∀ (s' : Shared) oc od fd osl, (_root_.Mine.hd.heap_39 w.params).lookup 259 = some ⟨oc, od, .func fd, osl⟩ → (_root_.Mine.hd.heap_39 w.params).In s'.heap → BindsTo s' fd ⟨[.ref (Γ.ea k), .str Γ.text Γ.tk, .int ((pos : Nat) : Int) tp], []⟩ (bindsMatch Γ k pos tp) := fun s' oc od fd osl hl X => by
    have key : ∀ o, (_root_.Mine.hd.heap_39 w.params).lookup 259 = some o → o = ⟨oc, od, .func fd, osl⟩ := fun o e => Option.some.inj (e.symm.trans hl)
    have e2 := key _ (by k_is)
    cases e2
    exact binds_K X rfl (by k_is) rfl rfl rfl
  show wpAny _ _ _ _ _ _
  refine match_ok (hid := L :: frs fr) (dp := dp + 1) (un := un + 3) (gd := gd) (fr := _ :: fr) (pos := pos) (tp := tp) ⟨O, Nat.le_of_eq hlo0.symm, G.ok⟩ hst (MG.push F9 rfl) P9 (fun a ha => (List.mem_cons.mp ha).elim (fun q => q ▸ lL9) fun q => Nat.lt_trans (fL a q) lL9) (fun a ha => ha) hpos (by omega) (by omega) (b259 _) ?_ ?_
  · intro v h6 tk6 ca de err reg6 ecs6 I6 St6 res6 hpE kp6 sz6
    have F6 := frBack (Mut := fun a => ∃ j, j < Γ.N ∧ a = Γ.da j) F9 (fun b o e n => kp6 b o e fun j hj q => n ⟨j, hj, q⟩) (fun ⟨j, hj, q⟩ => absurd (daL j hj) (q ▸ Nat.lt_irrefl _)) (fun a ⟨j, hj, q⟩ => q ▸ gda j hj)
    have nd6 : NDk _ h6 := fun b o e nd => kp6 b o e fun j hj q => by
      obtain ⟨_, _, e', _⟩ := (P9.att j hj).there
      rw [← q] at e'
      rw [Cfg.vget e'] at e; cases e; exact nd _ _ rfl
    rcases res6 with ⟨hEi, rfl⟩ | ⟨hEi, r, rfl, rep⟩
    · exact absurd (show Γ.E k pos = -1 from hEi) (by omega)
    have he6 := he9.subND nd6
    have hm6 := (hm.sub s9).subND nd6
    have hp6 := (hp.sub s9).subND nd6
    have kX6 : ∀ a o, s.heap.get? a = some o → (∀ j, j < Γ.N → a ≠ Γ.da j) → h6.get? a = some o := fun a o e n => kp6 a o (s9 a o e) n
    obtain ⟨lea, rs, ce, ee, hrs, hrow⟩ := id he6
    obtain ⟨rk, g1, x2⟩ := endsGet (i := k) (hrs ▸ hkN)
    obtain ⟨lrk, vk, ck, e3, lvk, hvk⟩ := hrow _ _ g1
    obtain ⟨u1, y1⟩ := rowGet hvk (j := (pos : Int)) (Int.natCast_nonneg _) (by omega)
    replace y1 : vk[((pos : Nat) : Int).toNat]? = some (Value.int (Γ.E k pos) u1) := y1
    have hE9 : (0 : Int) ≤ Γ.E k pos := hEi
    have dF6 : ∃ o es n, h6.get? L = some o ∧ o.data = .dict es n := by obtain ⟨o, es, n, e, d, _⟩ := F6.ns; exact ⟨o, es, n, e, d⟩
    obtain ⟨tl6, hv6, hN6, Cv6, ev6, htl6⟩ := focus [] F6
    have N6 := hN6 [(ea, _), (rk, _)] (List.forall_mem_cons.mpr ⟨⟨ee, Fr.neL F6 ee (fun _ _ e => by cases e), ?ga⟩, List.forall_mem_cons.mpr ⟨⟨e3, Fr.neL F6 e3 (fun _ _ e => by cases e), ?gr⟩, List.forall_mem_nil _⟩⟩)
    case ga => exact hgn _ (lo0 _ lea) fun hm => notFrK MG F6 ee (fun _ _ e => by cases e) hm
    case gr => exact hgn _ (lo0 _ lrk) fun hm => notFrK MG F6 e3 (fun _ _ e => by cases e) hm
    simp only [List.cons_append, List.nil_append] at N6
    clear hN6 F9 N9
    k_steps
    (with_reducible rename Fr _ _ _ _ => F9)
    (with_reducible rename News _ _ _ _ => N9)
    have S7 := Cv6.now F9 N9 (fun q hq => by repeat (first | assumption | refine List.Mem.tail _ ?_))
    have k7 : ∀ b o, h6.get? b = some o → b ≠ L → _ := fun b o e n => S7 b o (ev6 ▸ hideAll_get _ e (by simpa using n))
    have nd7 := NDk.ofL dF6 k7
    have kv7 : (Vw (L :: frs fr) h6).StaysIn (Vw (L :: frs fr) _) := knV fun a o e n => k7 a o e (fun q => n (q ▸ .head _))
    have hm7 := hm6.subND nd7
    have hp7 := hp6.subND nd7
    have he7 := he6.subND nd7
    show wpAny _ _ _ _ _ _
    refine tree_all G O (Nat.le_of_eq hlo0.symm) (gd := gd) k st (L :: frs fr) (dp + 1) (un + 3) (_ :: fr) _ pos _ _ r _ _ (MG.push F9 rfl) (fun a ha => ha) hst hpos hEi (rep.run.keep (Heap.StaysIn.nd kv7)) hm7 hp7 he7 (by omega) (by omega) ?_
    rintro v h8 tk8 rfl k8
    have F8 := Fr.keeps F9 k8
    have N8 : News g L h8 _ := fun p hp => ⟨k8 _ _ (N9 p hp).1, (N9 p hp).2⟩
    clear F9 N9
    k_steps
    (with_reducible rename Fr _ _ _ _ => F9)
    (with_reducible rename News _ _ _ _ => N9)
    have S8 := Cv6.now F9 N9 (fun q hq => by repeat (first | assumption | refine List.Mem.tail _ ?_))
    have k9' : ∀ b o, h6.get? b = some o → b ≠ L → _ := fun b o e n => S8 b o (ev6 ▸ hideAll_get _ e (by simpa using n))
    have kv9 : (Vw (L :: frs fr) h6).StaysIn (Vw (L :: frs fr) _) := knV fun a o e n => k9' a o e (fun q => n (q ▸ .head _))
    have nda : ∀ a, a ∈ frs fr → ∀ j, j < Γ.N → a ≠ Γ.da j := fun a ha j hj q => by obtain ⟨_, _, e, _⟩ := (P.att j hj).there; exact Cfg.vnot e (q ▸ ha)
    have sz8 := Nat.le_trans (Nat.le_of_eq eL.symm) (Nat.le_of_lt F9.ns.lt)
    exact hq _ _ ecs6 (fun t u T => ((I6.pre St6 G.ok.refs hol t u T).sub kv9).sub vw_one) (fun a o e n _ => k9' a o (kX6 a o e n) (neL a o e)) (fun a o e ha => ⟨o.slots, k9' a o (kX6 a o e (nda a ha)) (neL a o e)⟩) sz8
  · intro hr h5 tk5 hx base ca de err reg5 ecs5 I5 St5 hEm kp5 hxs lerr hbs fly up
    show wpAny _ _ (noteFrame _ _) _ _ _
    refine fly_land rfl rfl fly fun h6 fly6 up6 => ?_
    have Fhr := frBack (Mut := fun a => ∃ j, j < Γ.N ∧ a = Γ.da j) F9 (fun b o e n => kp5 b o e fun j hj q => n ⟨j, hj, q⟩) (fun ⟨j, hj, q⟩ => absurd (daL j hj) (q ▸ Nat.lt_irrefl _)) (fun a ⟨j, hj, q⟩ => q ▸ gda j hj)
    have lt9 : ∀ a o, s.heap.get? a = some o → a < L := fun a o e => eL ▸ Heap.lt_size e
    have bL : ∀ a o, hr.get? a = some o → a < _ → a ≠ L → a ∉ frs fr → base.get? a = some o := fun a o e l nL nf => hbs a o (Cfg.vput (fun hm => (hxs a hm).elim (fun q => (List.mem_cons.mp q).elim nL nf) fun q => absurd l (Nat.not_lt.mpr q)) e) fun q => absurd l (Nat.not_lt.mpr (q ▸ lerr))
    have gb : ∀ b o, g.get? b = some o → b ∉ frs fr → base.get? b = some o := fun b o e nf => bL b o (Fhr.keep b o e) (Nat.lt_trans (Nat.lt_of_lt_of_le (Heap.lt_size e) F9.above) lL9) (Nat.ne_of_lt (Nat.lt_of_lt_of_le (Heap.lt_size e) F9.above)) nf
    have ground : ∀ h (l : List Env), Fly base l err (.ref 94) (some de) .none h → hr.UpToSlots h → ∃ g', Fr g' L h _ ∧ Amb H0 fr g' ∧ (∀ a, g.get? a = none → g'.get? a = none) := fun h l fl u => by
      obtain ⟨g', z, st, M', n'⟩ := fly_ground (h₅ := h) MG (fun b o e nf => fl.keep b o (gb b o e nf)) (fun b o e hb => by
        obtain ⟨o', es, n, e', d⟩ := MG.fdat b hb
        rw [e] at e'; cases e'
        exact u b o (Fhr.keep b o e) fun vs q => by rw [d] at q; cases q)
      exact ⟨g', ⟨u.ns Fhr.ns, st, z ▸ F9.above⟩, M', n'⟩
    have u6 := up.trans up6
    obtain ⟨g1, F61, M61, _⟩ := ground h6 _ fly6 u6
    refine fly_pass F61 fly6 (O.X.keeps M61.keep) (O.T.keeps M61.keep) (test_tup2 (kn_132 w) (kn_113 w) (exm_94_two w) rfl rfl (by decide) rfl (by decide)) fun h7 k7 => ?_
    refine fly_hit (Fr.keeps F61 k7) (fly6.keeps k7) (O.X.keeps M61.keep) (O.T.keeps M61.keep) (test_name (kn_94 w) (exm_94 w) rfl rfl (by decide)) (fun h8 fly8 up8 => ?_) (by passes_own)
    have u8 := (u6.trans (Heap.UpToSlots.of_keeps k7)).trans up8
    obtain ⟨g2, F8, M8, gn8⟩ := ground h8 _ fly8 u8
    have X8 := O.X.keeps M8.keep
    have T8 := O.T.keeps M8.keep
    have kX : ∀ a o, s.heap.get? a = some o → (∀ j, j < Γ.N → a ≠ Γ.da j) → a ∉ frs fr → h8.get? a = some o := fun a o e n nf => fly8.keep a o (bL a o (kp5 a o (s9 a o e) n) (Nat.lt_trans (lt9 a o e) lL9) (neL a o e) nf)
    obtain ⟨lea, rs, ce, ee, hrs, hrow⟩ := id he9
    obtain ⟨rk, g1', x2⟩ := endsGet (i := k) (hrs ▸ hkN)
    obtain ⟨lrk, vk, ck, e3, lvk, hvk⟩ := hrow _ _ g1'
    obtain ⟨u1, y1⟩ := rowGet hvk (j := (pos : Int)) (Int.natCast_nonneg _) (by omega)
    replace y1 : vk[((pos : Nat) : Int).toNat]? = some (Value.int (Γ.E k pos) u1) := y1
    rw [hEm] at y1
    have nd5 : NDk _ hr := fun b o e nd => kp5 b o e fun j hj q => by
      obtain ⟨_, _, e', _⟩ := (P9.att j hj).there
      rw [← q] at e'
      rw [Cfg.vget e'] at e; cases e; exact nd _ _ rfl
    have nfe := notFrK MG F9 ee (fun _ _ e => by cases e)
    have nfr := notFrK MG F9 e3 (fun _ _ e => by cases e)
    have ne1 := Fr.neL F9 ee (fun _ _ e => by cases e)
    have ne2 := Fr.neL F9 e3 (fun _ _ e => by cases e)
    have ee8 := fly8.keep _ _ (bL _ _ (nd5 _ _ ee (fun _ _ e => by cases e)) (Heap.lt_size ee) ne1 nfe)
    have e38 := fly8.keep _ _ (bL _ _ (nd5 _ _ e3 (fun _ _ e => by cases e)) (Heap.lt_size e3) ne2 nfr)
    obtain ⟨tl8, hv8, hN8, Cv8, ev8, htl8⟩ := focus [] F8
    have N8 := hN8 [(ea, _), (rk, _)] (List.forall_mem_cons.mpr ⟨⟨ee8, ne1, gn8 _ (hgn _ (lo0 _ lea) nfe)⟩, List.forall_mem_cons.mpr ⟨⟨e38, ne2, gn8 _ (hgn _ (lo0 _ lrk) nfr)⟩, List.forall_mem_nil _⟩⟩)
    simp only [List.cons_append, List.nil_append] at N8
    have Ff8 := fly8.frames
    clear hN8 F9 N9 F61 Fhr X T'
    k_steps
    (with_reducible rename Fr _ _ _ _ => F9)
    (with_reducible rename News _ _ _ _ => N9)
    have S8 := Cv8.now F9 N9 (fun q hq => by repeat (first | assumption | refine List.Mem.tail _ ?_))
    have k89 : ∀ b o, h8.get? b = some o → b ≠ L → _ := fun b o e n => S8 b o (ev8 ▸ hideAll_get _ e (by simpa using n))
    have sz8 := Nat.le_trans (Nat.le_of_eq eL.symm) (Nat.le_of_lt F9.ns.lt)
    have nda : ∀ a, a ∈ frs fr → ∀ j, j < Γ.N → a ≠ Γ.da j := fun a ha j hj q => by obtain ⟨_, _, e, _⟩ := (P.att j hj).there; exact Cfg.vnot e (q ▸ ha)
    have off : ∀ a o, base.get? a = some o → a ≠ L ∧ a ∉ frs fr := fun a o e => ⟨fun q => (by rw [q, frs_off Ff8 L (.head _)] at e; cases e), fun hm => (by rw [frs_off Ff8 a (.tail _ hm)] at e; cases e)⟩
    have PP : ∀ t u T, Pre w (Γ.next t u T ecs5) (Vw (frs fr) _) := fun t u T => (I5.pre St5 G.ok.refs hol t u T).move fun a o e c => by
      have ne : a ≠ err := by
        rintro rfl
        obtain ⟨oe, e', c', _⟩ := I5.er.2
        have e2 : (Vw hx hr).get? a = some oe := e'
        rw [e] at e2; cases e2
        rcases c with c | c | ⟨st', c⟩ <;> rw [c'] at c
        · simp at c
        · simp at c
        · exact (clsOf_ne st').1 (Value.ref.inj c).symm
      have eb := hbs a o e ne
      exact Cfg.vput (off a o eb).2 (k89 a o (fly8.keep a o eb) (off a o eb).1)
    show Q (.bool (decide ((-1 : Int) < 0))) _
    rw [show decide ((-1 : Int) < 0) = true from rfl]
    exact hq _ _ ecs5 PP (fun a o e n nf => k89 a o (kX a o e n nf) (neL a o e)) (fun a o e ha => by
      obtain ⟨o', es, n', e', d⟩ := M.fdat a ha
      rw [e] at e'; cases e'
      obtain ⟨sl, hs⟩ := u8 a o (kp5 a o (s9 a o e) (nda a ha)) (fun vs q => by rw [d] at q; cases q)
      exact ⟨sl, k89 _ _ hs (neL a o e)⟩) sz8
end Mine
end
section
open PySem PySem.W PyProof.Rows PySem.Calls PySem.Spec Builtin Builtin.ObjectAttr
set_option maxRecDepth 100000
set_option maxHeartbeats 8000000
namespace Mine
local macro_rules | `(tactic| walk_at "0") => `(tactic| skip)
local macro_rules | `(tactic| walk_at "0") => `(tactic| skip)
local macro_rules | `(tactic| walk_at "0") => `(tactic| skip)
local macro_rules | `(tactic| walk_at "0") => `(tactic| skip)
local macro_rules | `(tactic| walk_at "0") => `(tactic| skip)
local macro_rules | `(tactic| walk_at "0") => `(tactic| skip)
local macro_rules | `(tactic| walk_at "0") => `(tactic| skip)
local macro_rules | `(tactic| walk_at "0") => `(tactic| skip)
local macro_rules | `(tactic| walk_at "0") => `(tactic| skip)
local macro_rules | `(tactic| walk_at "0") => `(tactic| skip)
local macro_rules | `(tactic| walk_at "0") => `(tactic| skip)
local macro_rules | `(tactic| walk_at "0") => `(tactic| skip)
local macro_rules | `(tactic| walk_at "0") => `(tactic| skip)
local macro_rules | `(tactic| walk_at "0") => `(tactic| skip)
local macro_rules | `(tactic| walk_at "0") => `(tactic| skip)
local macro_rules | `(tactic| walk_at "0") => `(tactic| skip)
local macro_rules | `(tactic| walk_at "0") => `(tactic| skip)
local macro_rules | `(tactic| walk_at "0") => `(tactic| skip)
local macro_rules | `(tactic| walk_at "0") => `(tactic| skip)
local macro_rules | `(tactic| walk_at "0") => `(tactic| skip)
local macro_rules | `(tactic| walk_at "0") => `(tactic| skip)
local macro_rules | `(tactic| walk_at "0") => `(tactic| skip)
local macro_rules | `(tactic| walk_at "0") => `(tactic| skip)
local macro_rules | `(tactic| walk_at "0") => `(tactic| skip)
local macro_rules | `(tactic| walk_at "0") => `(tactic| skip)
local macro_rules | `(tactic| walk_at "0") => `(tactic| skip)
local macro_rules | `(tactic| walk_at "0") => `(tactic| skip)
local macro_rules | `(tactic| walk_at "0") => `(tactic| skip)
local macro_rules | `(tactic| walk_at "0") => `(tactic| skip)
local macro_rules | `(tactic| walk_at "0") => `(tactic| skip)
local macro_rules | `(tactic| walk_at "0") => `(tactic| skip)
local macro_rules | `(tactic| walk_at "0") => `(tactic| skip)
local macro_rules | `(tactic| walk_at "0") => `(tactic| skip)
local macro_rules | `(tactic| walk_at "0") => `(tactic| skip)
local macro_rules | `(tactic| walk_at "0") => `(tactic| skip)
local macro_rules | `(tactic| walk_at "0") => `(tactic| skip)
local macro_rules | `(tactic| walk_at "0") => `(tactic| skip)
local macro_rules | `(tactic| walk_at "0") => `(tactic| skip)
local macro_rules | `(tactic| walk_at "0") => `(tactic| skip)
local macro_rules | `(tactic| walk_at "0") => `(tactic| skip)
theorem rs47 : True := by
  w_top off
  trivial
local macro_rules | `(tactic| k_room) => `(tactic| ktr_room)
local macro_rules | `(tactic| k_all) => `(tactic| first | assumption | (intro q9 hq9; (try dsimp only); first | exact allLt_ne (by assumption) (by omega) q9 hq9 | exact lt_ne (by assumption) (by omega) q9 hq9))
local macro_rules | `(tactic| k_inst) => `(tactic| (refine' instOf ?N ?h1 ?h2 ?e1 ?e2 ?e3; (case N => k_asm); (case h1 => k_mem); (case e1 => first | assumption | exact rfl); (case e2 => first | assumption | exact rfl); (case h2 => k_mem); (case e3 => first | assumption | exact rfl)))
local macro_rules | `(tactic| walk_at "subscriptTail") => `(tactic| (k_here; (with_reducible show wpAny _ _ (subscriptTail _ _ (Value.ref _) (Value.int _ _)) _ _ _); k_dflt (refine' kim_list ?N ?m ?hc ?hd ?h0 ?h1 ?hx ?_; (case N => k_asm); (case m => k_mem); (case hc => rfl); (case hd => rfl); (case h0 => first | assumption | omega); (case h1 => omega); (case hx => assumption); k_whole)))
local macro_rules | `(tactic| walk_at "subscriptTail Subscript") => `(tactic| (k_here; k_dflt (refine kba_turn (value' := PySem.Expr.Name (PySem.Str.ofString "_") ⟨0, 0, 0, 0⟩) (fun _ => rfl) ?_)))
local macro_rules | `(tactic| walk_at "subscriptTail Name Name ref int") => `(tactic| (k_here; (with_reducible show wpAny _ _ (subscriptTail _ _ (Value.ref _) (Value.int _ _)) _ _ _); k_dflt (refine' kim_list ?N ?m ?hc ?hd ?h0 ?h1 ?hx ?_; (case N => k_asm); (case m => k_mem); (case hc => rfl); (case hd => rfl); (case h0 => first | assumption | omega); (case h1 => omega); (case hx => assumption); k_whole)))
local macro_rules | `(tactic| walk_at "subscriptTail") => `(tactic| (k_here; (fail_if_success (with_reducible show wpAny _ _ (subscriptTail (PySem.Expr.Name _ _) _ _ _) _ _ _)); k_dflt (refine kba_turn (value' := PySem.Expr.Name (PySem.Str.ofString "_") ⟨0, 0, 0, 0⟩) (fun _ => rfl) ?_)))
local macro_rules | `(tactic| walk_at "eval Name") => `(tactic| (k_here; k_dflt (refine' nameX_L ?F ?v ?_ ?a ?b; (case F => k_asm); (case a => rfl); (case b => rfl); (case v => rfl); k_whole)))
local macro_rules | `(tactic| walk_at "call ref") => `(tactic| (k_here; (with_reducible show wpAny _ _ (call (Value.ref _) _ _) _ _ _); refine hold_of ?_))
local macro_rules | `(tactic| walk_at "call builtin:len") => `(tactic| (k_here; (with_reducible show wpAny _ _ (call (Value.builtin "len") [Value.ref _]) _ _ _); k_dflt (refine' len_its ?N ?m ?hc ?hz ?_; (case N => k_asm); (case m => k_mem); (case hc => assumption); (case hz => assumption); k_whole)))
local macro_rules | `(tactic| walk_at "getMethod ref") => `(tactic| (k_here; (with_reducible show wpAny _ _ (getMethod (Value.ref _) (PySem.Str.ofString "parse") _) _ _ _); k_dflt (refine' kparse ?k1 ?k2 ?k3 ?k4 ?k5 ?k6 ?_; (case k1 => k_asm); (case k2 => k_asm); (case k3 => k_inst); (case k4 => assumption); (case k5 => assumption); (case k6 => assumption); k_whole)))
local macro_rules | `(tactic| walk_at "exec Try") => `(tactic| (k_here; (with_reducible show wpAny _ _ (exec (Stmt.Try _ (_ :: _) _ [] _) (envOf _ _ _ _ _)) _ _ _); refine wpAny_Try_except ?_))
theorem eq_b' {prog : Program} {w : World} {A : Around} {E : Value → Shared → Prop} {s : Shared} {a c : Int} {t u : Tok} {b : Bool} {Q : Value → Shared → Prop} (hb : b = (a == c)) (h : Q (.bool b) s) : wpAny (model prog w) A (compareOp .Eq (.int a t) (.int c u)) Q E s := by
  subst hb; exact PyProof.Rows.eq_int h
local macro_rules | `(tactic| walk_at "compareOp Eq int int") => `(tactic| (k_here; (with_reducible show wpAny _ _ (compareOp CmpOp.Eq (Value.int _ _) (Value.int _ _)) _ _ _); k_dflt (refine' eq_b' ?hb ?_; (case hb => with_reducible assumption); k_whole)))
local macro_rules | `(tactic| walk_at "call builtin:len") => `(tactic| (k_here; (with_reducible show wpAny _ _ (call (Value.builtin "len") [Value.str _ _]) _ _ _); k_dflt (refine' SBL.len ?k1 ?_; (case k1 => assumption); k_whole)))
theorem eq_sself {prog : Program} {w : World} {A : Around} {E : Value → Shared → Prop} {s : Shared} {a : Str} {t u : Tok} {Q : Value → Shared → Prop} (h : Q (.bool true) s) : wpAny (model prog w) A (compareOp .Eq (.str a t) (.str a u)) Q E s := by
  refine PyProof.Rows.eq_str ?_
  simpa using h
local macro_rules | `(tactic| walk_at "compareOp Eq str str") => `(tactic| (k_here; (with_reducible show wpAny _ _ (compareOp CmpOp.Eq (Value.str _ _) (Value.str _ _)) _ _ _); k_dflt (refine eq_sself ?_; k_whole)))
local macro_rules | `(tactic| walk_at "getAttr ref") => `(tactic| (k_here; k_dflt (refine' exc_get_own ?k1 ?k2 ?k3 ?k4 ?k5 ?k6 ?k7 ?_; (case k1 => k_asm); (case k2 => k_asm); (case k3 => k_inst); (case k4 => first | exact excF_94 _ | exact excF_132 _); (case k5 => k_is); (case k6 => k_get); (case k7 => k_handed); k_whole)))
variable {w : World} {p : Program} {loose : List Str} {mean : ExcName → Option Value} {mg mb : Str → Option Value} {H0 : Heap} {Γ : Cfg}
/-- what the second half hands on -/
abbrev EndPost (Γ : Cfg) (fr : List Env) (s : Shared) (Q : Value → Shared → Prop) : Prop :=
  ∀ h' tk', (∀ a o, s.heap.get? a = some o → (∀ j, j < Γ.N → a ≠ Γ.da j) → a ∉ frs fr → h'.get? a = some o) →
    (∀ a o, s.heap.get? a = some o → a ∈ frs fr → ∃ sl, h'.get? a = some { o with slots := sl }) → s.heap.objs.size ≤ h'.objs.size → Q (.bool true) { s with heap := h', toks := tk' }
theorem parsed_ok {dp un : Nat} {gd : Option (List Code)} {fr : List Env} {s : Shared} {ma pa : Addr} {Q E : Value → Shared → Prop} (O : Old w p loose mean mg mb H0) (G : Good Γ) (hlo0 : Γ.lo0 = H0.objs.size) (hN0 : 0 < Γ.N)
    (M : Amb H0 fr s.heap) (P : Pre w Γ (Vw (frs fr) s.heap)) (hm : MadeObj s.heap H0.objs.size Γ ma) (hp : PlanObj s.heap H0.objs.size Γ.plan pa) (hdp : dp + (6 * Γ.N + 100) < recursionLimit) (hun : un + (20 * Γ.N + 300) < cLine)
    (hq : EndPost Γ fr s Q) :
    wpAny (model PySem.Challenge.rw_vy0014_01.row.prog w) (ar dp un gd fr) (call (.ref 551) [.ref ma, .ref pa, .str Γ.text Γ.tk] []) Q E s := by
  refine wpAny_call ?_
  refine' enterF O M ?ho ?hcd ?hr ?hb ?hl ?_ ?c1 ?c2 ?c3 ?c4
  case ho => k_is
  case hcd => k_is
  case hr => omega
  case hb => exact BindsTo.of_eq rfl
  case hl => exact locs rfl
  case c1 => exact rfl
  case c2 => exact rfl
  case c3 => exact rfl
  case c4 => decide
  intro g L h₁ eL F K1 MG hgn Bw X T'
  have lo0 : ∀ a, H0.objs.size ≤ a → H0.get? a = none := fun a ha => get_none_of_le ha
  have neL : ∀ b o, s.heap.get? b = some o → b ≠ L := fun b o e => eL ▸ Nat.ne_of_lt (Heap.lt_size e)
  have few := G.ok.few
  have hs9 : Γ.text.length ≤ 1000 := G.ok.small
  have hlen9 : Γ.text.length ≤ 2 ^ 62 := Nat.le_trans G.ok.small (by decide)
  obtain ⟨tl, hvh, hN, Cv, ev, htl⟩ := focus [] F
  have N := hN [] (List.forall_mem_nil _)
  simp only [List.nil_append] at N
  clear hN
  k_steps
  (with_reducible rename Fr _ _ _ _ => F9)
  (with_reducible rename News _ _ _ _ => N9)
  have S9 := Cv.now F9 N9 (fun q hq => by repeat (first | assumption | refine List.Mem.tail _ ?_))
  have k9 : s.heap.StaysIn _ := fun b o e => S9 b o (ev ▸ hideAll_get _ (K1 b o e) (by simpa using neL b o e))
  show wpAny _ _ _ _ _ _
  refine ends_ok (dp := dp + 1) (un := un + 3) O (MG.push F9 rfl) G (hp.sub k9) (by omega) (by omega) ?_
  rintro v h2 tk2 ⟨ea, rfl, he⟩ k2
  have F2 := Fr.keeps F9 k2
  have dF2 : ∃ o es n, h2.get? L = some o ∧ o.data = .dict es n := by obtain ⟨o, es, n, e, d, _⟩ := F2.ns; exact ⟨o, es, n, e, d⟩
  have s2 : s.heap.StaysIn h2 := fun b o e => k2 b o (k9 b o e)
  have lastN : ∃ k, Γ.N = k + 1 := ⟨Γ.N - 1, by omega⟩
  obtain ⟨k, hk⟩ := lastN
  have hkN : k < Γ.N := by omega
  obtain ⟨st, hst⟩ : ∃ st, Γ.plan[k]? = some st := ⟨_, List.getElem?_eq_getElem hkN⟩
  have hLn : s.heap.get? L = none := get_none_of_le (Nat.le_of_eq eL.symm)
  obtain ⟨hlk, ok, vok, hob⟩ := P.ex k _ hst
  have hok := Cfg.vget vok
  obtain ⟨pk1, pk2, pk3⟩ := hob.plain
  have ck1 := notCls_plain pk1
  have cfk := clsF w st
  have fmk := find_parse w st
  obtain ⟨es, n, vda, hmm, hpp⟩ := (P.att k hkN).free
  have hda := Cfg.vget vda
  have hs1 : ((List.range Γ.N).map fun k => Value.ref (Γ.ea k)).toArray.size = k + 1 := by simp [hk]
  have hz1 : k + 1 ≤ 2000 := by omega
  have ek : ((k + 1 : Nat) : Int) - 1 = ((k : Nat) : Int) := by omega
  have x1 : ((List.range Γ.N).map fun k => Value.ref (Γ.ea k))[(((k + 1 : Nat) : Int) - 1).toNat]? = some (.ref (Γ.ea k)) := by
    rw [ek]
    show (_ : List Value)[k]? = _
    rw [List.getElem?_map, List.getElem?_range hkN]; rfl
  obtain ⟨lma, cm, em⟩ := id hm
  obtain ⟨lea, rs, ce, ee, hrs, hrow⟩ := id he
  obtain ⟨rk, g1, x2'⟩ := endsGet (i := k) (hrs ▸ hkN)
  have x2 : (rs.map Value.ref)[(((k + 1 : Nat) : Int) - 1).toNat]? = some (.ref rk) := by rw [ek]; exact x2'
  obtain ⟨lrk, vk, ck, e3, lvk, hvk⟩ := hrow _ _ g1
  obtain ⟨u1, y1⟩ := hvk 0 (Nat.zero_le _)
  replace y1 : vk[(0 : Int).toNat]? = some (Value.int (Γ.E k 0) u1) := y1
  have nfe := notFrK MG F2 ee (fun _ _ e => by cases e)
  have nfr := notFrK MG F2 e3 (fun _ _ e => by cases e)
  have ne1 := Fr.neL F2 ee (fun _ _ e => by cases e)
  have ne2 := Fr.neL F2 e3 (fun _ _ e => by cases e)
  obtain ⟨tl2, hv2, hN2, Cv2, ev2, htl2⟩ := focus [] F2
  have cell : ∀ a o, s.heap.get? a = some o → H0.objs.size ≤ a → a ∉ frs fr → h2.get? a = some o ∧ a ≠ L ∧ g.get? a = none := fun a o e l nf => ⟨s2 _ _ e, neL _ _ e, hgn _ (lo0 _ l) nf⟩
  have N2 := hN2 [(ea, _), (rk, _), (ma, _), (Γ.ea k, ok), (Γ.da k, dictOf es n)] (List.forall_mem_cons.mpr ⟨⟨ee, ne1, hgn _ (lo0 _ lea) nfe⟩, List.forall_mem_cons.mpr ⟨⟨e3, ne2, hgn _ (lo0 _ lrk) nfr⟩, List.forall_mem_cons.mpr ⟨cell _ _ em lma (M.notFr em (fun _ _ e => by cases e)), List.forall_mem_cons.mpr ⟨cell _ _ hok (hlo0 ▸ hlk) (Cfg.vnot vok), List.forall_mem_cons.mpr ⟨cell _ _ hda (hlo0 ▸ (P.dl k hkN).1) (Cfg.vnot vda), List.forall_mem_nil _⟩⟩⟩⟩⟩)
  simp only [List.cons_append, List.nil_append] at N2
  clear hN2 F9 N9 S9
  k_steps
  (with_reducible rename Fr _ _ _ _ => F9)
  (with_reducible rename News _ _ _ _ => N9)
  have S9 := Cv2.now F9 N9 (fun q hq => by repeat (first | assumption | refine List.Mem.tail _ ?_))
  have k29 : ∀ b o, h2.get? b = some o → b ≠ L → _ := fun b o e n => S9 b o (ev2 ▸ hideAll_get _ e (by simpa using n))
  have s9 : s.heap.StaysIn _ := fun b o e => k29 b o (s2 b o e) (neL b o e)
  (try rw [ek] at F9)
  have P9 : Pre w Γ (Vw (L :: frs fr) _) := (P.sub (vw_cons hLn)).sub (Cfg.vst s9)
  have lL9 := F9.ns.lt
  have fL : ∀ a ∈ frs fr, a < L := fun a ha => eL ▸ frs_lt M.frames _ ha
  have daL : ∀ j, j < Γ.N → Γ.da j < L := fun j hj => by obtain ⟨_, _, e, _⟩ := (P.att j hj).there; exact eL ▸ Heap.lt_size (Cfg.vget e)
  have gda : ∀ j, j < Γ.N → g.get? (Γ.da j) = none := fun j hj => hgn _ (lo0 _ (hlo0 ▸ (P.dl j hj).1)) (fun hf => by obtain ⟨_, _, e', _⟩ := (P.att j hj).there; exact Cfg.vnot e' hf)
  have he9 := he.keepL dF2 k29
  have S9 := Cv2.now F9 N9 (fun q hq => by repeat (first | assumption | refine List.Mem.tail _ ?_))
  have k29 : ∀ b o, h2.get? b = some o → b ≠ L → _ := fun b o e n => S9 b o (ev2 ▸ hideAll_get _ e (by simpa using n))
  have s9 : s.heap.StaysIn _ := fun b o e => k29 b o (s2 b o e) (neL b o e)
  (try rw [ek] at F9)
  have P9 : Pre w Γ (Vw (L :: frs fr) _) := (P.sub (vw_cons hLn)).sub (Cfg.vst s9)
  have lL9 := F9.ns.lt
  have fL : ∀ a ∈ frs fr, a < L := fun a ha => eL ▸ frs_lt M.frames _ ha
  have daL : ∀ j, j < Γ.N → Γ.da j < L := fun j hj => by obtain ⟨_, _, e, _⟩ := (P.att j hj).there; exact eL ▸ Heap.lt_size (Cfg.vget e)
  have gda : ∀ j, j < Γ.N → g.get? (Γ.da j) = none := fun j hj => hgn _ (lo0 _ (hlo0 ▸ (P.dl j hj).1)) (fun hf => by obtain ⟨_, _, e', _⟩ := (P.att j hj).there; exact Cfg.vnot e' hf)
  have he9 := he.keepL dF2 k29
  have b251 : ∀ (s' : Shared) oc od fd osl, (_root_.Mine.hd.heap_39 w.params).lookup 251 = some ⟨oc, od, .func fd, osl⟩ → (_root_.Mine.hd.heap_39 w.params).In s'.heap → BindsTo s' fd ⟨[.ref (Γ.ea k), .str Γ.text Γ.tk], []⟩ (bindsParse Γ k 496) := fun s' oc od fd osl hl X => by
    have key : ∀ o, (_root_.Mine.hd.heap_39 w.params).lookup 251 = some o → o = ⟨oc, od, .func fd, osl⟩ := fun o e => Option.some.inj (e.symm.trans hl)
    have e2 := key _ (by k_is)
    cases e2
    exact binds_K X rfl (by k_is) rfl rfl rfl
  show wpAny _ _ _ _ _ _
  refine parse_ok (hid := L :: frs fr) (dp := dp + 1) (un := un + 3) (gd := gd) (fr := _ :: fr) (tp := 496) ⟨O, Nat.le_of_eq hlo0.symm, G.ok⟩ hst (MG.push F9 rfl) P9 (fun a ha => (List.mem_cons.mp ha).elim (fun q => q ▸ lL9) fun q => Nat.lt_trans (fL a q) lL9) (fun a ha => ha) (by omega) (by omega) (b251 _) ?_ ?_ ?_
  · intro hge v h6 tk6 ca de err reg6 ecs6 I6 St6 res6 hpE kp6 sz6
    have F6 := frBack (Mut := fun a => ∃ j, j < Γ.N ∧ a = Γ.da j) F9 (fun b o e n => kp6 b o e fun j hj q => n ⟨j, hj, q⟩) (fun ⟨j, hj, q⟩ => absurd (daL j hj) (q ▸ Nat.lt_irrefl _)) (fun a ⟨j, hj, q⟩ => q ▸ gda j hj)
    have nd6 : NDk _ h6 := fun b o e nd => kp6 b o e fun j hj q => by
      obtain ⟨_, _, e', _⟩ := (P9.att j hj).there
      rw [← q] at e'
      rw [Cfg.vget e'] at e; cases e; exact nd _ _ rfl
    rcases res6 with ⟨hEi, rfl⟩ | ⟨hEi, r, rfl, rep⟩
    · exact absurd (show Γ.E k 0 = -1 from hEi) (by omega)
    have he6 := he9.subND nd6
    have hm6 := (hm.sub s9).subND nd6
    have hp6 := (hp.sub s9).subND nd6
    have kX6 : ∀ a o, s.heap.get? a = some o → (∀ j, j < Γ.N → a ≠ Γ.da j) → h6.get? a = some o := fun a o e n => kp6 a o (s9 a o e) n
    have hE9 : Γ.E k 0 = (Γ.text.length : Int) := Int.le_antisymm (G.ok.hi k 0 hkN (Nat.zero_le _)) hge
    have hbq : true = (Γ.E k 0 == (Γ.text.length : Int)) := by rw [hE9]; simp
    have dF6 : ∃ o es n, h6.get? L = some o ∧ o.data = .dict es n := by obtain ⟨o, es, n, e, d, _⟩ := F6.ns; exact ⟨o, es, n, e, d⟩
    obtain ⟨tl6, hv6, hN6, Cv6, ev6, htl6⟩ := focus [] F6
    have N6 := hN6 [] (List.forall_mem_nil _)
    simp only [List.nil_append] at N6
    clear hN6 F9 N9
    k_steps
    (with_reducible rename Fr _ _ _ _ => F9)
    (with_reducible rename News _ _ _ _ => N9)
    have S7 := Cv6.now F9 N9 (fun q hq => by repeat (first | assumption | refine List.Mem.tail _ ?_))
    have k7 : ∀ b o, h6.get? b = some o → b ≠ L → _ := fun b o e n => S7 b o (ev6 ▸ hideAll_get _ e (by simpa using n))
    have nd7 := NDk.ofL dF6 k7
    have kv7 : (Vw (L :: frs fr) h6).StaysIn (Vw (L :: frs fr) _) := knV fun a o e n => k7 a o e (fun q => n (q ▸ .head _))
    have hm7 := hm6.subND nd7
    have hp7 := hp6.subND nd7
    have he7 := he6.subND nd7
    show wpAny _ _ _ _ _ _
    refine tree_all G O (Nat.le_of_eq hlo0.symm) (gd := gd) k st (L :: frs fr) (dp + 1) (un + 3) (_ :: fr) _ 0 _ _ r _ _ (MG.push F9 rfl) (fun a ha => ha) hst (Nat.zero_le _) hEi (rep.run.keep (Heap.StaysIn.nd kv7)) hm7 hp7 he7 (by omega) (by omega) ?_
    rintro v h8 tk8 rfl k8
    have F8 := Fr.keeps F9 k8
    have N8 : News g L h8 _ := fun p hp => ⟨k8 _ _ (N9 p hp).1, (N9 p hp).2⟩
    clear F9 N9
    k_steps
    (with_reducible rename Fr _ _ _ _ => F9)
    (with_reducible rename News _ _ _ _ => N9)
    have S8 := Cv6.now F9 N9 (fun q hq => by repeat (first | assumption | refine List.Mem.tail _ ?_))
    have k9' : ∀ b o, h6.get? b = some o → b ≠ L → _ := fun b o e n => S8 b o (ev6 ▸ hideAll_get _ e (by simpa using n))
    have kv9 : (Vw (L :: frs fr) h6).StaysIn (Vw (L :: frs fr) _) := knV fun a o e n => k9' a o e (fun q => n (q ▸ .head _))
    have nda : ∀ a, a ∈ frs fr → ∀ j, j < Γ.N → a ≠ Γ.da j := fun a ha j hj q => by obtain ⟨_, _, e, _⟩ := (P.att j hj).there; exact Cfg.vnot e (q ▸ ha)
    have sz8 := Nat.le_trans (Nat.le_of_eq eL.symm) (Nat.le_of_lt F9.ns.lt)
    exact hq _ _ (fun a o e n _ => k9' a o (kX6 a o e n) (neL a o e)) (fun a o e ha => ⟨o.slots, k9' a o (kX6 a o e (nda a ha)) (neL a o e)⟩) sz8
  · intro hr h5 tk5 hx base ca de err reg5 ecs5 I5 St5 hEm kp5 hxs lerr hbs fly up
    show wpAny _ _ (noteFrame _ _) _ _ _
    refine fly_land rfl rfl fly fun h6 fly6 up6 => ?_
    have Fhr := frBack (Mut := fun a => ∃ j, j < Γ.N ∧ a = Γ.da j) F9 (fun b o e n => kp5 b o e fun j hj q => n ⟨j, hj, q⟩) (fun ⟨j, hj, q⟩ => absurd (daL j hj) (q ▸ Nat.lt_irrefl _)) (fun a ⟨j, hj, q⟩ => q ▸ gda j hj)
    have lt9 : ∀ a o, s.heap.get? a = some o → a < L := fun a o e => eL ▸ Heap.lt_size e
    have bL : ∀ a o, hr.get? a = some o → a < _ → a ≠ L → a ∉ frs fr → base.get? a = some o := fun a o e l nL nf => hbs a o (Cfg.vput (fun hm => (hxs a hm).elim (fun q => (List.mem_cons.mp q).elim nL nf) fun q => absurd l (Nat.not_lt.mpr q)) e) fun q => absurd l (Nat.not_lt.mpr (q ▸ lerr))
    have gb : ∀ b o, g.get? b = some o → b ∉ frs fr → base.get? b = some o := fun b o e nf => bL b o (Fhr.keep b o e) (Nat.lt_trans (Nat.lt_of_lt_of_le (Heap.lt_size e) F9.above) lL9) (Nat.ne_of_lt (Nat.lt_of_lt_of_le (Heap.lt_size e) F9.above)) nf
    have ground : ∀ h (l : List Env), Fly base l err (.ref 94) (some de) .none h → hr.UpToSlots h → ∃ g', Fr g' L h _ ∧ Amb H0 fr g' ∧ (∀ a, g.get? a = none → g'.get? a = none) := fun h l fl u => by
      obtain ⟨g', z, st, M', n'⟩ := fly_ground (h₅ := h) MG (fun b o e nf => fl.keep b o (gb b o e nf)) (fun b o e hb => by
        obtain ⟨o', es, n, e', d⟩ := MG.fdat b hb
        rw [e] at e'; cases e'
        exact u b o (Fhr.keep b o e) fun vs q => by rw [d] at q; cases q)
      exact ⟨g', ⟨u.ns Fhr.ns, st, z ▸ F9.above⟩, M', n'⟩
    have u6 := up.trans up6
    obtain ⟨g1, F61, M61, _⟩ := ground h6 _ fly6 u6
    refine fly_pass F61 fly6 (O.X.keeps M61.keep) (O.T.keeps M61.keep) (test_name (kn_132 w) (exm_94_132 w) rfl rfl (by decide)) fun h7' k7' => ?_
    refine fly_pass (Fr.keeps F61 k7') (fly6.keeps k7') (O.X.keeps M61.keep) (O.T.keeps M61.keep) (test_name (kn_113 w) (exm_94_113 w) rfl rfl (by decide)) fun h7 k7'' => ?_
    have k7 : ∀ b o, h6.get? b = some o → h7.get? b = some o := fun b o e => k7'' b o (k7' b o e)
    refine fly_hit (Fr.keeps F61 k7) (fly6.keeps k7) (O.X.keeps M61.keep) (O.T.keeps M61.keep) (test_name (kn_94 w) (exm_94 w) rfl rfl (by decide)) (fun h8 fly8 up8 => ?_) (by passes_own)
    have u8 := (u6.trans (Heap.UpToSlots.of_keeps k7)).trans up8
    obtain ⟨g2, F8, M8, gn8⟩ := ground h8 _ fly8 u8
    have X8 := O.X.keeps M8.keep
    have T8 := O.T.keeps M8.keep
    have kX : ∀ a o, s.heap.get? a = some o → (∀ j, j < Γ.N → a ≠ Γ.da j) → a ∉ frs fr → h8.get? a = some o := fun a o e n nf => fly8.keep a o (bL a o (kp5 a o (s9 a o e) n) (Nat.lt_trans (lt9 a o e) lL9) (neL a o e) nf)
    have hEm' : Γ.E k 0 = -1 := hEm
    rw [hEm'] at F8
    obtain ⟨tl8, hv8, hN8, Cv8, ev8, htl8⟩ := focus [] F8
    have N8 := hN8 [] (List.forall_mem_nil _)
    simp only [List.nil_append] at N8
    have Ff8 := fly8.frames
    clear hN8 F9 N9 F61 Fhr X T'
    k_steps
    (with_reducible rename Fr _ _ _ _ => F9)
    (with_reducible rename News _ _ _ _ => N9)
    have S8 := Cv8.now F9 N9 (fun q hq => by repeat (first | assumption | refine List.Mem.tail _ ?_))
    have k89 : ∀ b o, h8.get? b = some o → b ≠ L → _ := fun b o e n => S8 b o (ev8 ▸ hideAll_get _ e (by simpa using n))
    have sz8 := Nat.le_trans (Nat.le_of_eq eL.symm) (Nat.le_of_lt F9.ns.lt)
    have nda : ∀ a, a ∈ frs fr → ∀ j, j < Γ.N → a ≠ Γ.da j := fun a ha j hj q => by obtain ⟨_, _, e, _⟩ := (P.att j hj).there; exact Cfg.vnot e (q ▸ ha)
    show Q (.bool (decide ((-1 : Int) < 0))) _
    rw [show decide ((-1 : Int) < 0) = true from rfl]
    exact hq _ _ (fun a o e n nf => k89 a o (kX a o e n nf) (neL a o e)) (fun a o e ha => by
      obtain ⟨o', es, n', e', d⟩ := M.fdat a ha
      rw [e] at e'; cases e'
      obtain ⟨sl, hs⟩ := u8 a o (kp5 a o (s9 a o e) (nda a ha)) (fun vs q => by rw [d] at q; cases q)
      exact ⟨sl, k89 _ _ hs (neL a o e)⟩) sz8
  · intro hr h5 tk5 hx base ca de err' reg5 ecs5 err d2 t1 t2 t3 t4 I5 St5 hE0 hEn kp5 hxs lerr hbs hd2 nd2 ld2 fly up
    show wpAny _ _ (noteFrame _ _) _ _ _
    refine fly_land rfl rfl fly fun h6 fly6 up6 => ?_
    have Fhr := frBack (Mut := fun a => ∃ j, j < Γ.N ∧ a = Γ.da j) F9 (fun b o e n => kp5 b o e fun j hj q => n ⟨j, hj, q⟩) (fun ⟨j, hj, q⟩ => absurd (daL j hj) (q ▸ Nat.lt_irrefl _)) (fun a ⟨j, hj, q⟩ => q ▸ gda j hj)
    have lt9 : ∀ a o, s.heap.get? a = some o → a < L := fun a o e => eL ▸ Heap.lt_size e
    have bL : ∀ a o, hr.get? a = some o → a < _ → a ≠ L → a ∉ frs fr → base.get? a = some o := fun a o e l nL nf => hbs a o (Cfg.vput (fun hm => (hxs a hm).elim (fun q => (List.mem_cons.mp q).elim nL nf) fun q => absurd l (Nat.not_lt.mpr q)) e) fun q => absurd l (Nat.not_lt.mpr (q ▸ lerr))
    have gb : ∀ b o, g.get? b = some o → b ∉ frs fr → base.get? b = some o := fun b o e nf => bL b o (Fhr.keep b o e) (Nat.lt_trans (Nat.lt_of_lt_of_le (Heap.lt_size e) F9.above) lL9) (Nat.ne_of_lt (Nat.lt_of_lt_of_le (Heap.lt_size e) F9.above)) nf
    have ground : ∀ h (l : List Env), Fly base l err (.ref 132) (some d2) .none h → hr.UpToSlots h → ∃ g', Fr g' L h _ ∧ Amb H0 fr g' ∧ (∀ a, g.get? a = none → g'.get? a = none) := fun h l fl u => by
      obtain ⟨g', z, st, M', n'⟩ := fly_ground (h₅ := h) MG (fun b o e nf => fl.keep b o (gb b o e nf)) (fun b o e hb => by
        obtain ⟨o', es, n, e', d⟩ := MG.fdat b hb
        rw [e] at e'; cases e'
        exact u b o (Fhr.keep b o e) fun vs q => by rw [d] at q; cases q)
      exact ⟨g', ⟨u.ns Fhr.ns, st, z ▸ F9.above⟩, M', n'⟩
    have u6 := up.trans up6
    obtain ⟨g1, F61, M61, _⟩ := ground h6 _ fly6 u6
    refine fly_hit_as (news := []) F61 fly6 (O.X.keeps M61.keep) (O.T.keeps M61.keep) (test_name (kn_132 w) (exm_132 w) rfl rfl (by decide)) (fun h8 fly8 up8 => ?_)
    have u8 := u6.trans up8
    obtain ⟨g2, F8, M8, gn8⟩ := ground h8 _ fly8 u8
    have X8 := O.X.keeps M8.keep
    have T8 := O.T.keeps M8.keep
    have kX : ∀ a o, s.heap.get? a = some o → (∀ j, j < Γ.N → a ≠ Γ.da j) → a ∉ frs fr → h8.get? a = some o := fun a o e n nf => fly8.keep a o (bL a o (kp5 a o (s9 a o e) n) (Nat.lt_trans (lt9 a o e) lL9) (neL a o e) nf)
    have hEn' : Γ.E k 0 < (Γ.text.length : Int) := hEn
    have hE0' : 0 ≤ Γ.E k 0 := hE0
    have hbq : true = (Γ.E k 0 == Γ.E k 0) := by simp
    obtain ⟨oe, vs8, T8', oT8, ts8, he8, ⟨hcl8, hdi8⟩, hdt8, _⟩ := fly8.tr
    have hnc8 : notCls oe = true := by unfold notCls; rw [hdt8]
    have hd8 := fly8.keep _ _ hd2
    have Le := Nat.lt_of_lt_of_le lL9 lerr
    have Ld := Nat.lt_of_lt_of_le lL9 ld2
    have em8 := kX _ _ em (fun j hj q => by
      obtain ⟨_, _, e', _⟩ := (P.att j hj).there
      rw [← q] at e'
      rw [Cfg.vget e'] at em; exact absurd (congrArg Obj.cls (Option.some.inj em)) (by simp)) (M.notFr em (fun _ _ e => by cases e))
    have x1' : ((List.range Γ.N).map fun k => Value.ref (Γ.ea k))[((k : Nat) : Int).toNat]? = some (.ref (Γ.ea k)) := by rw [← ek]; exact x1
    have gno : ∀ a, L < a → g.get? a = none := fun a l => get_none_of_le (Nat.le_trans F9.above (Nat.le_of_lt l))
    obtain ⟨tl8, hv8, hN8, Cv8, ev8, htl8⟩ := focus [] F8
    have N8 := hN8 [(err, oe), (d2, _), (ma, _)] (List.forall_mem_cons.mpr ⟨⟨he8, Nat.ne_of_gt Le, gn8 _ (gno _ Le)⟩, List.forall_mem_cons.mpr ⟨⟨hd8, Nat.ne_of_gt Ld, gn8 _ (gno _ Ld)⟩, List.forall_mem_cons.mpr ⟨⟨em8, neL _ _ em, gn8 _ (hgn _ (lo0 _ lma) (M.notFr em (fun _ _ e => by cases e)))⟩, List.forall_mem_nil _⟩⟩⟩)
    simp only [List.cons_append, List.nil_append] at N8
    have Ff8 := fly8.frames
    clear hN8 F9 N9 F61 Fhr X T'
    k_steps
    (with_reducible rename Fr _ _ _ _ => F9)
    (with_reducible rename News _ _ _ _ => N9)
    refine name_goes_keeps F9 N9 fun h9 v9 F10 N10 => ?_
    have S8 := Cv8.now F10 N10 (fun q hq => by repeat (first | assumption | refine List.Mem.tail _ ?_))
    have k89 : ∀ b o, h8.get? b = some o → b ≠ L → h9.get? b = some o := fun b o e n => S8 b o (ev8 ▸ hideAll_get _ e (by simpa using n))
    have sz8 := Nat.le_trans (Nat.le_of_eq eL.symm) (Nat.le_of_lt F10.ns.lt)
    have nda : ∀ a, a ∈ frs fr → ∀ j, j < Γ.N → a ≠ Γ.da j := fun a ha j hj q => by obtain ⟨_, _, e, _⟩ := (P.att j hj).there; exact Cfg.vnot e (q ▸ ha)
    exact hq h9 _ (fun a o e n nf => k89 a o (kX a o e n nf) (neL a o e)) (fun a o e ha => by
      obtain ⟨o', es, n', e', d⟩ := M.fdat a ha
      rw [e] at e'; cases e'
      obtain ⟨sl, hs⟩ := u8 a o (kp5 a o (s9 a o e) (nda a ha)) (fun vs q => by rw [d] at q; cases q)
      exact ⟨sl, k89 _ _ hs (neL a o e)⟩) sz8
end Mine
end
section
open PySem PySem.W PyProof.Rows
namespace Mine
theorem rs48 : True := by
  w_top off
  trivial
theorem Valid.good {plan : List Stp} {em : List Bool} (V : Valid plan em) {Γ : Cfg} (hp : Γ.plan = plan) (hE : Γ.E = tab plan Γ.text) (hn : Γ.text.length ≤ 1000) (hN : plan.length ≤ 100) : Good Γ := by
  subst hp
  refine ⟨⟨V.refs, fun k st pos e hpos => by rw [hE]; exact tab_eq V.refs e, fun k pos hk hpos => ?_, fun k pos hk hpos => ?_, fun k i l m pos e hpos => ?_, hn, hN⟩, V.wl⟩
  · rw [hE]; exact (V.sound Γ.text k hk pos hpos).1.1
  · rw [hE]; exact (V.sound Γ.text k hk pos hpos).1.2
  · rw [hE]
    have hr := (V.refs k _ e).1
    have hk := (List.getElem?_eq_some_iff.mp e).1
    exact (V.sound Γ.text i (Nat.lt_trans hr hk) pos hpos).2 (V.tm k i l m e)
end Mine
end
section
open PySem PySem.W PyProof.Rows PySem.Calls PySem.Spec
set_option maxRecDepth 100000
namespace Mine
local macro_rules | `(tactic| walk_at "0") => `(tactic| skip)
local macro_rules | `(tactic| walk_at "0") => `(tactic| skip)
local macro_rules | `(tactic| walk_at "0") => `(tactic| skip)
local macro_rules | `(tactic| walk_at "0") => `(tactic| skip)
local macro_rules | `(tactic| walk_at "0") => `(tactic| skip)
local macro_rules | `(tactic| walk_at "0") => `(tactic| skip)
local macro_rules | `(tactic| walk_at "0") => `(tactic| skip)
local macro_rules | `(tactic| walk_at "0") => `(tactic| skip)
local macro_rules | `(tactic| walk_at "0") => `(tactic| skip)
local macro_rules | `(tactic| walk_at "0") => `(tactic| skip)
local macro_rules | `(tactic| walk_at "0") => `(tactic| skip)
local macro_rules | `(tactic| walk_at "0") => `(tactic| skip)
local macro_rules | `(tactic| walk_at "0") => `(tactic| skip)
local macro_rules | `(tactic| walk_at "0") => `(tactic| skip)
local macro_rules | `(tactic| walk_at "0") => `(tactic| skip)
local macro_rules | `(tactic| walk_at "0") => `(tactic| skip)
local macro_rules | `(tactic| walk_at "0") => `(tactic| skip)
local macro_rules | `(tactic| walk_at "0") => `(tactic| skip)
local macro_rules | `(tactic| walk_at "0") => `(tactic| skip)
local macro_rules | `(tactic| walk_at "0") => `(tactic| skip)
local macro_rules | `(tactic| walk_at "0") => `(tactic| skip)
local macro_rules | `(tactic| walk_at "0") => `(tactic| skip)
local macro_rules | `(tactic| walk_at "0") => `(tactic| skip)
local macro_rules | `(tactic| walk_at "0") => `(tactic| skip)
local macro_rules | `(tactic| walk_at "0") => `(tactic| skip)
local macro_rules | `(tactic| walk_at "0") => `(tactic| skip)
local macro_rules | `(tactic| walk_at "0") => `(tactic| skip)
local macro_rules | `(tactic| walk_at "0") => `(tactic| skip)
local macro_rules | `(tactic| walk_at "0") => `(tactic| skip)
local macro_rules | `(tactic| walk_at "0") => `(tactic| skip)
local macro_rules | `(tactic| walk_at "0") => `(tactic| skip)
local macro_rules | `(tactic| walk_at "0") => `(tactic| skip)
local macro_rules | `(tactic| walk_at "0") => `(tactic| skip)
local macro_rules | `(tactic| walk_at "0") => `(tactic| skip)
local macro_rules | `(tactic| walk_at "0") => `(tactic| skip)
local macro_rules | `(tactic| walk_at "0") => `(tactic| skip)
local macro_rules | `(tactic| walk_at "0") => `(tactic| skip)
local macro_rules | `(tactic| walk_at "0") => `(tactic| skip)
local macro_rules | `(tactic| walk_at "0") => `(tactic| skip)
local macro_rules | `(tactic| walk_at "0") => `(tactic| skip)
theorem rs49 : True := by
  w_top off
  trivial
variable {w : World} {p : Program} {loose : List Str} {mean : ExcName → Option Value} {mg mb : Str → Option Value} {H0 : Heap}
theorem frs_one {env : Env} {L : Addr} (hf : env.frame = some L) : frs [env] = [L] := by
  unfold frs
  simp [hf]
theorem run_first {dp un : Nat} {gd : Option (List Code)} {env : Env} {L : Addr} {s : Shared} {ma pa : Addr} {plan : List Stp} {em : List Bool} {eas das : List Addr} {x : Str} {tx tq : Tok} {q : Nat} {Q E : Value → Shared → Prop} (hf : env.frame = some L) (O : Old w p loose mean mg mb H0) (V : Valid plan em) (two : 0 < plan.length) (le60 : plan.length ≤ 60)
    (hbx : x.length ≤ 1000) (hq : q ≤ x.length) (M : Amb H0 [env] s.heap) (P : Pre w (cfgOf H0.objs.size plan eas das) (Vw [L] s.heap)) (hm : MadeObj s.heap H0.objs.size (cfgOf H0.objs.size plan eas das) ma) (hp : PlanObj s.heap H0.objs.size plan pa) (hdp : dp + 500 < recursionLimit) (hun : un + 2000 < cLine)
    (h : ∀ h' tk' ecs, (∀ t u T, Pre w ((cfgOf H0.objs.size plan eas das).next t u T ecs) (Vw [L] h')) → (∀ a o, s.heap.get? a = some o → (∀ j, j < plan.length → a ≠ das.getD j 0) → a ≠ L → h'.get? a = some o) →
      (∀ o, s.heap.get? L = some o → ∃ sl, h'.get? L = some { o with slots := sl }) → Q (.bool true) { s with heap := h', toks := tk' }) :
    wpAny (model PySem.Challenge.rw_vy0014_01.row.prog w) (ar dp un gd [env]) (call (.ref 544) [.ref ma, .ref pa, .str x tx, .int ((q : Nat) : Int) tq] []) Q E s := by
  have fe := frs_one hf
  have G : Good { cfgOf H0.objs.size plan eas das with text := x, tk := tx, E := tab plan x } := V.good rfl rfl hbx (by omega)
  refine matched_ok (Γ := { cfgOf H0.objs.size plan eas das with text := x, tk := tx, E := tab plan x }) O G rfl rfl two M (by rw [fe]; exact ⟨P.ex, P.nd, P.dl, P.att, P.old⟩) hm hp hq (by show dp + (6 * plan.length + 100) < _; omega) (by show un + (20 * plan.length + 300) < _; omega) ?_
  intro h' tk' ecs PP kk ff _
  rw [fe] at PP kk ff
  exact h h' tk' ecs (fun t u T => PP t u T) (fun a o e n nL => kk a o e n (by simpa using nL)) fun o e => ff L o e (.head _)
theorem run_second {dp un : Nat} {gd : Option (List Code)} {env : Env} {L : Addr} {s : Shared} {ma pa : Addr} {plan : List Stp} {em : List Bool} {eas das ecs : List Addr} {x : Str} {tx : Tok} {Q E : Value → Shared → Prop} (hf : env.frame = some L) (O : Old w p loose mean mg mb H0) (V : Valid plan em) (two : 0 < plan.length) (le60 : plan.length ≤ 60)
    (hbx : x.length ≤ 1000) (M : Amb H0 [env] s.heap) (P : Pre w ((cfgOf H0.objs.size plan eas das).next x tx (tab plan x) ecs) (Vw [L] s.heap)) (hm : MadeObj s.heap H0.objs.size (cfgOf H0.objs.size plan eas das) ma) (hp : PlanObj s.heap H0.objs.size plan pa) (hdp : dp + 500 < recursionLimit) (hun : un + 2000 < cLine)
    (h : ∀ h' tk', (∀ a o, s.heap.get? a = some o → (∀ j, j < plan.length → a ≠ das.getD j 0) → a ≠ L → h'.get? a = some o) →
      (∀ o, s.heap.get? L = some o → ∃ sl, h'.get? L = some { o with slots := sl }) → Q (.bool true) { s with heap := h', toks := tk' }) :
    wpAny (model PySem.Challenge.rw_vy0014_01.row.prog w) (ar dp un gd [env]) (call (.ref 551) [.ref ma, .ref pa, .str x tx] []) Q E s := by
  have fe := frs_one hf
  have G : Good ((cfgOf H0.objs.size plan eas das).next x tx (tab plan x) ecs) := V.good rfl rfl hbx (by omega)
  refine parsed_ok (Γ := (cfgOf H0.objs.size plan eas das).next x tx (tab plan x) ecs) O G rfl two M (by rw [fe]; exact P) hm hp (by show dp + (6 * plan.length + 100) < _; omega) (by show un + (20 * plan.length + 300) < _; omega) ?_
  intro h' tk' kk ff _
  rw [fe] at kk ff
  exact h h' tk' (fun a o e n nL => kk a o e n (by simpa using nL)) fun o e => ff L o e (.head _)
theorem fr_after {g h h' : Heap} {L : Addr} {m : Str → Option Value} {n : Nat} {d : Nat → Addr} (F : Fr g L h m) (hd : ∀ j, j < n → g.objs.size ≤ d j) (kk : ∀ a o, h.get? a = some o → (∀ j, j < n → a ≠ d j) → a ≠ L → h'.get? a = some o)
    (ff : ∀ o, h.get? L = some o → ∃ sl, h'.get? L = some { o with slots := sl }) : Fr g L h' m := by
  obtain ⟨o, es, ep, ho, hd', r⟩ := F.ns
  obtain ⟨sl, hs⟩ := ff o ho
  exact ⟨⟨_, es, ep, hs, hd', r⟩, fun b o e => kk b o (F.keep b o e) (fun j hj q => absurd (Heap.lt_size e) (Nat.not_lt.mpr (q ▸ hd j hj))) (Nat.ne_of_lt (Nat.lt_of_lt_of_le (Heap.lt_size e) F.above)), F.above⟩
theorem ndk_after {g h h' : Heap} {L : Addr} {m : Str → Option Value} {lo : Nat} {plan : List Stp} {eas das : List Addr} (P : Pre w (cfgOf lo plan eas das) (Vw [L] h)) (F : Fr g L h m) (kk : ∀ a o, h.get? a = some o → (∀ j, j < plan.length → a ≠ das.getD j 0) → a ≠ L → h'.get? a = some o) : NDk h h' := fun b o e nd => kk b o e (fun j hj q => by
    obtain ⟨_, _, e', _⟩ := (P.att j hj).free
    have q' : (cfgOf lo plan eas das).da j = b := q.symm
    rw [q'] at e'
    have e2 := e'
    rw [Cfg.vget e2] at e; cases e; exact nd _ _ rfl) (Fr.neL F e nd)
theorem Pre.los {v : Heap} {lo : Nat} {plan : List Stp} {eas das : List Addr} (P : Pre w (cfgOf lo plan eas das) v) : ∀ j, j < plan.length → lo ≤ das.getD j 0 := fun j hj => (P.dl j hj).1
end Mine
end
section
open PySem PySem.W PyProof.Rows PySem.Calls PySem.Spec
namespace Mine
theorem rs50 : True := by
  w_top off
  trivial
end Mine
set_option maxRecDepth 100000
set_option maxHeartbeats 8000000
namespace Mine
section
variable {α : Type} {prog : Program} {w : World} {A : Around} {E : Value → Shared → Prop} {s : Shared} {h₀ : Heap} {a L Kb : Addr} {m : Str → Option Value} {as : List α} {pz : α → Bool} {Q : Value → Shared → Prop} {sep : Str} {t : Tok}
theorem join_genD {f : α → Str} (Fh : Fr h₀ L s.heap m) (G : AllBare s.gens) (X : GenOnD prog w A Kb a as pz (fun k => .str (f k)) s) (hLK : L ≤ Kb) (hok : JoinOk sep ((as.filter pz).map f) = true)
    (hQ : ∀ s' t', Fr h₀ L s'.heap m → AllBare s'.gens → s'.os = s.os → (∀ b o, b ≤ Kb → s.heap.get? b = some o → s'.heap.get? b = some o) → Q (.str (Txt.join sep ((as.filter pz).map f)) t') s') (hsz : (as.filter pz).length ≤ sizeLine) :
    wpAny (model prog w) A (call (.builtin "str.join") [.str sep t, .ref a]) Q E s := by
  have e : (List.range (as.filter pz).length).map (fun j => ((as.filter pz).map f).getD j "") = (as.filter pz).map f := by
    conv => rhs; rw [← range_getD ((as.filter pz).map f) ""]
    rw [List.length_map]
  refine join_rowsK Fh G X hLK (fun j => ((as.filter pz).map f).getD j "") (fun j v hv => ?_) (by rw [e]; exact hok) (by rw [e]; exact hQ) hsz
  obtain ⟨b, hb, hc⟩ := hv
  cases hc with
  | str _ u => exact ⟨u, by simp [List.getD_eq_getElem?_getD, hb]⟩
theorem old_grown {w : World} {h₁ : Heap} {c P L : Addr} {ps0 ps1 ps1' ps2 : Array Value} {p : Program} {loose : List Str} {mean : ExcName → Option Value} {mg mb : Str → Option Value} {h : Heap} {m : Str → Option Value} (B1 : Based h₁ h₁ c P ps0) (B9 : Based h₁ (regrown h₁ P ps1) c P ps1') (X : (_root_.Mine.hd.heap_39 w.params).In h₁) (T : Top p loose mean mg mb h₁)
    (_ : Fr (regrown (regrown h₁ P ps1) P ps2) L h m) : ∃ p' loose', Old w p' loose' mean mg mb (regrown (regrown h₁ P ps1) P ps2) := ⟨_, _, in_grown B9 (in_grown B1 X), top_grown B9 (top_grown B1 T)⟩
theorem law_cut {P : Prop} {hOld : Heap} {w : World} {p : Program} {loose : List Str} {mg mb : Str → Option Value} {mean : ExcName → Option Value} {H0 h : Heap} {L D : Addr} {m : Str → Option Value} {ws : List Value} {as : List Int} {x : Str} {tx : Tok} {n : Nat}
    (O : Old w p loose mean mg mb H0) (K0 : OldK hOld H0) (F : Fr H0 L h m) (m1 : m (Str.ofString "script") = some (.ref D)) (m2 : m (Str.ofString "text") = some (.str x tx)) (e : h.get? D = some (listOf ws.toArray n)) (nD : D ≠ L ∧ H0.get? D = none) (I : IntsAre ws as) (hl : as.length ≤ 28) (hx : x.length ≤ 28)
    (k : ∀ (p : Program) (loose : List Str) (mg mb : Str → Option Value) (mean : ExcName → Option Value) (ws : List Value) (as : List Int) (D : Addr) (tx : Tok) (x : Str) (H0 : Heap) (u : Str → Option Value), Old w p loose mean mg mb H0 → OldK hOld H0 → Fr H0 L h (kstB u [(Str.ofString "script", .ref D), (Str.ofString "text", .str x tx)]) → h.get? D = some (listOf ws.toArray n) → (D ≠ L ∧ H0.get? D = none) → IntsAre ws as → as.length ≤ 28 → x.length ≤ 28 → P) : P :=
  k p loose mg mb mean ws as D tx x H0 m O K0 (frK (List.forall_mem_cons.mpr ⟨m1, List.forall_mem_cons.mpr ⟨m2, List.forall_mem_nil _⟩⟩) (fun _ _ => rfl) F) e nD I hl hx
theorem hold9 {p : Prop} (h : p) : p := h
theorem item_len (x : Str) (i : Int) : (Txt.item x i).length = 1 := rfl
/-- the letters of a text -/
def letters (as : List Int) : Str := Txt.join (Str.ofString "") (as.map fun a => Txt.item (Str.ofString "ab") (a.fmod 2))
theorem join_letters {ns : List Int} {t : Tok} (Fh : Fr h₀ L s.heap m) (G : AllBare s.gens) (X : GenOnD prog w A Kb a ns (fun _ => true) (fun a => .str (Txt.item (Str.ofString "ab") (a.fmod 2))) s) (hLK : L ≤ Kb) (hl : ns.length ≤ 500)
    (hQ : ∀ s' t', Fr h₀ L s'.heap m → AllBare s'.gens → s'.os = s.os → (∀ b o, b ≤ Kb → s.heap.get? b = some o → s'.heap.get? b = some o) → Q (.str (letters ns) t') s') :
    wpAny (model prog w) A (call (.builtin "str.join") [.str (Str.ofString "") t, .ref a]) Q E s := by
  have e : ns.filter (fun _ => true) = ns := List.filter_eq_self.mpr fun _ _ => rfl
  refine join_genD Fh G X hLK (joinOk_few hl (fun a => by rw [item_len]; decide) (by decide)) (fun s' t' F' G' ho k => ?_) (by rw [e]; have := sizeLine_eq; omega)
  rw [e]
  exact hQ s' t' F' G' ho k
theorem fmod_le {a : Int} {n : Nat} : ∃ q : Nat, a.fmod ((n : Int) + 1) = (q : Int) ∧ q ≤ n := by
  have h : (0 : Int) < (n : Int) + 1 := by omega
  have h0 := Int.fmod_nonneg_of_pos a h
  have h1 := Int.fmod_lt_of_pos a h
  exact ⟨(a.fmod ((n : Int) + 1)).toNat, by omega, by omega⟩
theorem letters_len (as : List Int) : (letters as).length = as.length := by
  unfold letters
  rw [KT.join_ones _ (by intro a ha; obtain ⟨b, _, rfl⟩ := List.mem_map.mp ha; rfl), List.length_map]
theorem letters_le (as : List Int) : (letters (List.take 6 (List.take 28 as))).length ≤ 28 := by
  rw [letters_len, List.length_take]; omega
theorem letters_le' (as : List Int) : (letters (List.take 6 (List.take 28 as)).reverse).length ≤ 28 := by
  rw [letters_len, List.length_reverse, List.length_take]; omega
theorem take28 (as : List Int) : (List.take 28 as).length ≤ 28 := by rw [List.length_take]; omega
end
end Mine
local macro_rules | `(tactic| walk_at "call builtin:str.join") => `(tactic| (lge_here; (rename GenOnD _ _ _ _ _ _ _ _ _ => X8'); (rename Fr _ _ _ _ => F8'); k_dflt (refine' Mine.join_letters F8' ?g X8' ?l ?z ?_; (case g => assumption); (case l => first | assumption | exact Nat.le_refl _); (case z => first | omega | (simp only [List.length_reverse, List.length_take]; omega)); k_whole); intro _ _ _ _ _ hk8; (try ((rename News _ _ _ _ => N8'); (have N9' := News.kept N8' (by assumption) hk8)))))
local macro_rules | `(tactic| walk_at "call type:reversed") => `(tactic| (k_here; (with_reducible show wpAny _ _ (call (Value.type _) [Value.ref _]) _ _ _); k_dflt (refine' Mine.krv_revL ?F ?N ?l ?_; (case F => k_asm); (case N => k_asm); (case l => is_list)); intro D' h' F' N' l1 lL; (try k_lt l1); (try k_sweep)))
local macro_rules | `(tactic| k_room) => `(tactic| ktr_room)
local macro_rules | `(tactic| k_all) => `(tactic| first | assumption | (intro q9 hq9; (try dsimp only); first | exact Mine.allLt_ne (by assumption) (by omega) q9 hq9 | exact Mine.lt_ne (by assumption) (by omega) q9 hq9))
local macro_rules | `(tactic| walk_at "call ref") => `(tactic| (k_here; (with_reducible show wpAny _ _ (call (Value.ref _) _ _) _ _ _); refine hold_of ?_))
local macro_rules | `(tactic| walk_at "call builtin:len") => `(tactic| (k_here; (with_reducible show wpAny _ _ (call (Value.builtin "len") [Value.ref _]) _ _ _); k_dflt (refine' Mine.len_its ?N ?m ?hc ?hz ?_; (case N => k_asm); (case m => k_mem); (case hc => assumption); (case hz => assumption); k_whole)))
local macro_rules | `(tactic| walk_at "call builtin:len") => `(tactic| (k_here; (with_reducible show wpAny _ _ (call (Value.builtin "len") [Value.str _ _]) _ _ _); k_dflt (refine' SBL.len ?k1 ?_; (case k1 => assumption); k_whole)))
theorem PySem.Challenge.cw_vy0014_01_holds : PySem.Challenge.rw_vy0014_01.Holds :=
  Mine.hd (by
  k_fill
  intro w s₀ s₁ mg mb G Y fa o pm cd doc dV kV ho hd hcd hD hmg hg args vals as hpre hlay hrd hwl hlo
  have KX := km_in_of Y
  lge_behind G ho hd hcd hD hmg hpre hlay hrd hwl hlo cd
  all_goals try k_fold
  lge_steps
  (with_reducible rename Based _ _ _ _ _ => B9)
  (with_reducible rename Fr _ _ _ _ => F9)
  (with_reducible rename News _ _ _ _ => N9)
  (with_reducible rename IntsAre _ _ => I9)
  (with_reducible rename AllBare _ => G9)
  (with_reducible rename @LT.lt Addr _ s₁.heap.objs.size _ => l9)
  (with_reducible rename (And _ _) => l1c)
  have e9 := N9.get (.head _)
  have e8 := N9.get (.tail _ (.head _))
  have hlim := Heap.NoLimit.keeps (Glob.nolimit (by assumption)) (Fr.keep F9)
  have l8 := Nat.le_sub_one_of_lt l9
  have l7 := Nat.sub_one_lt (Nat.ne_of_gt (Nat.lt_of_le_of_lt (Nat.zero_le _) l9))
  refine' Mine.src_rev (d := fun a => PyData.str (Txt.item (Str.ofString "ab") (a.fmod 2))) B9 ⟨_, e9, rfl, rfl⟩ ⟨_, e8, rfl, _, rfl⟩ I9 F9 G9 hlim l8 l7 ?g2 ?g3
  case g2 =>
    intro c' C A' E' a t u m₂ hA hD hU ha hF hm hLC
    (with_reducible refine wpAny_leafK ?_)
    lge_steps
  case g3 =>
    intro c' a s₅ B8 F8 G8 hos hk X8
    have GL8 := globFor F8 (Glob.regrown (by assumption) B9)
    have N8 := newsFor F8 (News.rebase (Mine.news_tail (Mine.news_tail (Mine.news_tail N9))) B9 hk)
    have hle8 := List.forall_mem_cons.mpr ⟨Nat.le_sub_one_of_lt l1c.2.2, List.forall_mem_nil _⟩
    (with_reducible rename Based s₁.heap s₁.heap _ _ _ => B1)
    (with_reducible rename Top _ _ _ _ _ s₁.heap => T1)
    obtain ⟨p9, loose9, O⟩ := Mine.old_grown B1 B9 KX T1 F8
    clear N9 F9 B9 hk
    walk1
    walk1
    rename_i aG aO hk8
    (with_reducible rename Fr _ _ _ _ => F9)
    have os9 := aO.trans (hos.trans (Eq.trans (by assumption) (show _ = s₁.os by assumption)))
    (with_reducible rename IntsAre _ (List.take 28 _) => I28)
    have e28 := hk8 _ _ (Nat.le_sub_one_of_lt l1c.2.2) (N8 _ (.head _)).1
    have n28 := (N8 _ (.head _)).2
    refine Mine.law_cut O B8.old F9 rfl rfl e28 n28 I28 (Mine.take28 _) (Mine.letters_le _) (fun p9 loose9 mg9 mb9 mean9 ws as9 D tx x H9 u9 O9 K9 F10 e10 n10 I10 hl10 hx10 => ?_)
    generalize hy : Mine.letters _ = y
    have hy10 : y.length ≤ 28 := by rw [← hy]; exact Mine.letters_le' _
    clear hy
    try clear G
    try clear Y
    try clear fa
    try clear o
    try clear pm
    try clear doc
    try clear kV
    try clear ho
    try clear hg
    try clear KX
    try clear X
    try clear V
    try clear GL
    try clear T
    try clear B
    try clear TE
    try clear TW
    try clear M
    try clear B'
    try clear hcd
    try clear hs
    try clear hlay0
    try clear hL
    try clear hr
    try clear hl2
    try clear ra
    try clear w1
    try clear r0
    try clear hI
    try clear hcond'
    try clear K0
    try clear hD
    try clear lgeM
    try clear B8
    try clear F8
    try clear G8
    try clear hos
    try clear hk
    try clear X8
    try clear GL8
    try clear N8
    try clear hle8
    try clear I9
    try clear l9
    try clear l1c
    try clear e9
    try clear e8
    try clear hlim
    try clear l8
    try clear l7
    try clear O
    try clear hk8
    try clear I28
    try clear e28
    try clear n28
    try clear F9
    try clear B1
    try clear T1
    try clear G9
    try clear cd
    try clear dV
    try clear hd
    try clear hg
    try clear hmg
    try clear as
    try clear args
    try clear vals
    try clear hpre
    try clear hlay
    try clear hrd
    try clear hwl
    try clear hlo
    try clear h
    (try (rename_i z1; try clear z1))
    (try (rename_i z2; try clear z2))
    (try (rename_i z3; try clear z3))
    (try (rename_i z4; try clear z4))
    (try (rename_i z5; try clear z5))
    (try (rename_i z6; try clear z6))
    (try (rename_i z7; try clear z7))
    (try (rename_i z8; try clear z8))
    (try (rename_i z9; try clear z9))
    (try (rename_i z10; try clear z10))
    (try (rename_i z11; try clear z11))
    (try (rename_i z12; try clear z12))
    (try (rename_i z13; try clear z13))
    (try (rename_i z14; try clear z14))
    (try (rename_i z15; try clear z15))
    (try (rename_i z16; try clear z16))
    (try (rename_i z17; try clear z17))
    (try (rename_i z18; try clear z18))
    (try (rename_i z19; try clear z19))
    (try (rename_i z20; try clear z20))
    (try (rename_i z21; try clear z21))
    (try (rename_i z22; try clear z22))
    (try (rename_i z23; try clear z23))
    (try (rename_i z24; try clear z24))
    (try (rename_i z25; try clear z25))
    (try (rename_i z26; try clear z26))
    (try (rename_i z27; try clear z27))
    (try (rename_i z28; try clear z28))
    (try (rename_i z29; try clear z29))
    (try (rename_i z30; try clear z30))
    (try (rename_i z31; try clear z31))
    (try (rename_i z32; try clear z32))
    (try (rename_i z33; try clear z33))
    (try (rename_i z34; try clear z34))
    (try (rename_i z35; try clear z35))
    (try (rename_i z36; try clear z36))
    (try (rename_i z37; try clear z37))
    (try (rename_i z38; try clear z38))
    (try (rename_i z39; try clear z39))
    (try (rename_i z40; try clear z40))
    (try (rename_i z41; try clear z41))
    (try (rename_i z42; try clear z42))
    (try (rename_i z43; try clear z43))
    (try (rename_i z44; try clear z44))
    (try (rename_i z45; try clear z45))
    (try (rename_i z46; try clear z46))
    (try (rename_i z47; try clear z47))
    (try (rename_i z48; try clear z48))
    (try (rename_i z49; try clear z49))
    (try (rename_i z50; try clear z50))
    (try (rename_i z51; try clear z51))
    (try (rename_i z52; try clear z52))
    (try (rename_i z53; try clear z53))
    (try (rename_i z54; try clear z54))
    (try (rename_i z55; try clear z55))
    (try (rename_i z56; try clear z56))
    (try (rename_i z57; try clear z57))
    (try (rename_i z58; try clear z58))
    (try (rename_i z59; try clear z59))
    (try (rename_i z60; try clear z60))
    (try (rename_i z61; try clear z61))
    (try (rename_i z62; try clear z62))
    (try (rename_i z63; try clear z63))
    (try (rename_i z64; try clear z64))
    (try (rename_i z65; try clear z65))
    (try (rename_i z66; try clear z66))
    (try (rename_i z67; try clear z67))
    (try (rename_i z68; try clear z68))
    (try (rename_i z69; try clear z69))
    (try (rename_i z70; try clear z70))
    (try (rename_i z71; try clear z71))
    (try (rename_i z72; try clear z72))
    (try (rename_i z73; try clear z73))
    (try (rename_i z74; try clear z74))
    (try (rename_i z75; try clear z75))
    (try (rename_i z76; try clear z76))
    (try (rename_i z77; try clear z77))
    (try (rename_i z78; try clear z78))
    (try (rename_i z79; try clear z79))
    (try (rename_i z80; try clear z80))
    (try (rename_i z81; try clear z81))
    (try (rename_i z82; try clear z82))
    (try (rename_i z83; try clear z83))
    try clear G
    try clear Y
    try clear fa
    try clear o
    try clear pm
    try clear doc
    try clear kV
    try clear ho
    try clear hg
    try clear KX
    try clear X
    try clear V
    try clear GL
    try clear T
    try clear B
    try clear TE
    try clear TW
    try clear M
    try clear B'
    try clear hcd
    try clear hs
    try clear hlay0
    try clear hL
    try clear hr
    try clear hl2
    try clear ra
    try clear w1
    try clear r0
    try clear hI
    try clear hcond'
    try clear K0
    try clear hD
    try clear lgeM
    try clear B8
    try clear F8
    try clear G8
    try clear hos
    try clear hk
    try clear X8
    try clear GL8
    try clear N8
    try clear hle8
    try clear I9
    try clear l9
    try clear l1c
    try clear e9
    try clear e8
    try clear hlim
    try clear l8
    try clear l7
    try clear O
    try clear hk8
    try clear I28
    try clear e28
    try clear n28
    try clear F9
    try clear B1
    try clear T1
    try clear G9
    try clear cd
    try clear dV
    try clear hd
    try clear hg
    try clear hmg
    try clear as
    try clear args
    try clear vals
    try clear hpre
    try clear hlay
    try clear hrd
    try clear hwl
    try clear hlo
    try clear h
    have X9 := O9.X
    have T9 := O9.T
    have M9 : Mine.Amb H9 [] H9 := ⟨fun _ _ e => e, trivial, fun a ha => absurd ha List.not_mem_nil⟩
    have eA : callerA = Mine.ar (1 + claimMargin) 4 (some []) [] := rfl
    rw [eA]
    clear eA
    obtain ⟨tl9, hv9, hN9, Cv9, ev9, htl9⟩ := Mine.focus [] F10
    have N9 := hN9 [(D, _)] (List.forall_mem_cons.mpr ⟨⟨e10, n10⟩, List.forall_mem_nil _⟩)
    simp only [List.cons_append, List.nil_append] at N9
    have hs28 : ws.toArray.size = ws.length := List.size_toArray
    have hlw : ws.length ≤ 28 := by rw [I10.length]; exact hl10
    have hz28 : ws.length ≤ 2000 := by omega
    have hlx : x.length ≤ 2 ^ 62 := Nat.le_trans hx10 (by decide)
    clear hN9
    have hpost : PySem.Challenge.rw_vy0014_01.row.claim.post [ofPy (PyData.list (List.map PyData.int z72))] (WData.bool true) [ofPy (PyData.list (List.map PyData.int z72))] = true := by wrow_post
    k_steps
    · (with_reducible rename Fr _ _ _ _ => F11)
      (with_reducible rename News _ _ _ _ => N11)
      (with_reducible rename IntsAre _ (List.drop 7 _) => I7)
      obtain ⟨q, hq, hqle⟩ := Mine.fmod_le (a := as9.getD (Int.toNat 6) 0) (n := x.length)
      have e7 := (N11 _ (.head _)).1
      have n7 := (N11 _ (.head _)).2
      have l7 := I7.length
      have d7 : (List.drop 7 as9).length ≤ 28 := by rw [List.length_drop]; omega
      have F12 := Mine.frK (ps := [(Str.ofString "text", .str x tx), (Str.ofString "back", .str y _), (Str.ofString "pos", .int ((q : Nat) : Int) _)]) (List.forall_mem_cons.mpr ⟨rfl, List.forall_mem_cons.mpr ⟨rfl, List.forall_mem_cons.mpr ⟨congrArg (fun z => some (Value.int z _)) hq, List.forall_mem_nil _⟩⟩⟩) (fun _ _ => rfl) F11
      have z11 := Nat.le_trans F11.above (Nat.le_of_lt F11.ns.lt)
      clear F11 N11
      refine Mine.made_ok (dp := 1 + claimMargin + 1) (un := 4 + 3) (gd := some []) (fr := [_]) O9 (M9.push F12 rfl) e7 n7.2 z11 I7 (by omega) (by decide) (by decide) ?_
      rintro v h12 tk12 ⟨plan, em, eas, das, T, ma, pa, nT, rfl, eT, lT, V, two, le60, P, hle, hm, hp⟩ k12
      have F13 := Fr.keeps F12 k12
      have dF13 := Mine.frDat F13
      obtain ⟨tl13, hv13, hN13, Cv13, ev13, htl13⟩ := Mine.focus [] F13
      have N13 := hN13 [(T, _)] (List.forall_mem_cons.mpr ⟨⟨eT, Mine.Fr.neL F13 eT (fun _ _ e => by cases e), Mine.get_none_of_le lT⟩, List.forall_mem_nil _⟩)
      simp only [List.cons_append, List.nil_append] at N13
      clear F12 hN13
      k_steps
      (with_reducible rename Fr _ _ _ _ => F14)
      (with_reducible rename News _ _ _ _ => N14)
      have S14 := Cv13.now F14 N14 (fun q hq => by repeat (first | assumption | refine List.Mem.tail _ ?_))
      have k14 : ∀ b o, h12.get? b = some o → b ≠ s₁.heap.objs.size → _ := fun b o e n => S14 b o (ev13 ▸ hideAll_get _ e (by simpa using n))
      have kv14 : (Mine.Vw [s₁.heap.objs.size] h12).StaysIn (Mine.Vw [s₁.heap.objs.size] _) := Mine.knV fun a o e n => k14 a o e (fun q => n (q ▸ .head _))
      have nd14 := Mine.NDk.ofL dF13 k14
      have Px := P.sub kv14
      have hm14 := hm.subND nd14
      have hp14 := hp.subND nd14
      have los := Px.los
      show wpAny _ _ _ _ _ _
      refine Mine.run_first (dp := 1 + claimMargin + 1) (un := 4 + 3) (gd := some []) rfl O9 V (by omega) le60 (by omega) hqle (M9.push F14 rfl) Px hm14 hp14 (by decide) (by decide) ?_
      intro h15 tk15 ecs PP kk ff
      have F15 := Mine.fr_after F14 los kk ff
      have nd15 := Mine.ndk_after Px F14 kk
      have hm15 := hm14.subND nd15
      have hp15 := hp14.subND nd15
      have dF15 := Mine.frDat F15
      obtain ⟨tl15, hv15, hN15, Cv15, ev15, htl15⟩ := Mine.focus [] F15
      have N15 := hN15 [] (List.forall_mem_nil _)
      simp only [List.nil_append] at N15
      clear F14 N14 hN15
      k_steps
      (with_reducible rename Fr _ _ _ _ => F16)
      (with_reducible rename News _ _ _ _ => N16)
      have S16 := Cv15.now F16 N16 (fun q hq => by repeat (first | assumption | refine List.Mem.tail _ ?_))
      have k16 : ∀ b o, h15.get? b = some o → b ≠ s₁.heap.objs.size → _ := fun b o e n => S16 b o (ev15 ▸ hideAll_get _ e (by simpa using n))
      have kv16 : (Mine.Vw [s₁.heap.objs.size] h15).StaysIn (Mine.Vw [s₁.heap.objs.size] _) := Mine.knV fun a o e n => k16 a o e (fun q => n (q ▸ .head _))
      have nd16 := Mine.NDk.ofL dF15 k16
      have hm16 := hm15.subND nd16
      have hp16 := hp15.subND nd16
      have P16 := fun t u T => (PP t u T).sub kv16
      show wpAny _ _ _ _ _ _
      refine Mine.run_second (dp := 1 + claimMargin + 1) (un := 4 + 3) (gd := some []) rfl O9 V (by omega) le60 (by omega) (M9.push F16 rfl) (P16 _ _ _) hm16 hp16 (by decide) (by decide) ?_
      intro h17 tk17 kk2 ff2
      have F17 := Mine.fr_after F16 los kk2 ff2
      obtain ⟨tl17, hv17, hN17, Cv17, ev17, htl17⟩ := Mine.focus [] F17
      have N17 := hN17 [] (List.forall_mem_nil _)
      simp only [List.nil_append] at N17
      clear F16 N16 hN17
      k_steps
      exact ⟨.inl ⟨_, _, [], rfl, fun _ => rfl, ReadsW.bool true, hpost, fun _ => ⟨List.nodup_nil, fun _ hm => (nomatch hm)⟩⟩, K9.step_keeps F17.keep, os9, aG⟩
    · (with_reducible rename Fr _ _ _ _ => F11)
      (with_reducible rename News _ _ _ _ => N11)
      (with_reducible rename IntsAre _ (List.drop 7 _) => I7)
      obtain ⟨q, hq, hqle⟩ : ∃ q : Nat, ((x.length : Nat) : Int) = (q : Int) ∧ q ≤ x.length := ⟨_, rfl, Nat.le_refl _⟩
      have e7 := (N11 _ (.head _)).1
      have n7 := (N11 _ (.head _)).2
      have l7 := I7.length
      have d7 : (List.drop 7 as9).length ≤ 28 := by rw [List.length_drop]; omega
      have F12 := Mine.frK (ps := [(Str.ofString "text", .str x tx), (Str.ofString "back", .str y _), (Str.ofString "pos", .int ((q : Nat) : Int) _)]) (List.forall_mem_cons.mpr ⟨rfl, List.forall_mem_cons.mpr ⟨rfl, List.forall_mem_cons.mpr ⟨congrArg (fun z => some (Value.int z _)) hq, List.forall_mem_nil _⟩⟩⟩) (fun _ _ => rfl) F11
      have z11 := Nat.le_trans F11.above (Nat.le_of_lt F11.ns.lt)
      clear F11 N11
      refine Mine.made_ok (dp := 1 + claimMargin + 1) (un := 4 + 3) (gd := some []) (fr := [_]) O9 (M9.push F12 rfl) e7 n7.2 z11 I7 (by omega) (by decide) (by decide) ?_
      rintro v h12 tk12 ⟨plan, em, eas, das, T, ma, pa, nT, rfl, eT, lT, V, two, le60, P, hle, hm, hp⟩ k12
      have F13 := Fr.keeps F12 k12
      have dF13 := Mine.frDat F13
      obtain ⟨tl13, hv13, hN13, Cv13, ev13, htl13⟩ := Mine.focus [] F13
      have N13 := hN13 [(T, _)] (List.forall_mem_cons.mpr ⟨⟨eT, Mine.Fr.neL F13 eT (fun _ _ e => by cases e), Mine.get_none_of_le lT⟩, List.forall_mem_nil _⟩)
      simp only [List.cons_append, List.nil_append] at N13
      clear F12 hN13
      k_steps
      (with_reducible rename Fr _ _ _ _ => F14)
      (with_reducible rename News _ _ _ _ => N14)
      have S14 := Cv13.now F14 N14 (fun q hq => by repeat (first | assumption | refine List.Mem.tail _ ?_))
      have k14 : ∀ b o, h12.get? b = some o → b ≠ s₁.heap.objs.size → _ := fun b o e n => S14 b o (ev13 ▸ hideAll_get _ e (by simpa using n))
      have kv14 : (Mine.Vw [s₁.heap.objs.size] h12).StaysIn (Mine.Vw [s₁.heap.objs.size] _) := Mine.knV fun a o e n => k14 a o e (fun q => n (q ▸ .head _))
      have nd14 := Mine.NDk.ofL dF13 k14
      have Px := P.sub kv14
      have hm14 := hm.subND nd14
      have hp14 := hp.subND nd14
      have los := Px.los
      show wpAny _ _ _ _ _ _
      refine Mine.run_first (dp := 1 + claimMargin + 1) (un := 4 + 3) (gd := some []) rfl O9 V (by omega) le60 (by omega) hqle (M9.push F14 rfl) Px hm14 hp14 (by decide) (by decide) ?_
      intro h15 tk15 ecs PP kk ff
      have F15 := Mine.fr_after F14 los kk ff
      have nd15 := Mine.ndk_after Px F14 kk
      have hm15 := hm14.subND nd15
      have hp15 := hp14.subND nd15
      have dF15 := Mine.frDat F15
      obtain ⟨tl15, hv15, hN15, Cv15, ev15, htl15⟩ := Mine.focus [] F15
      have N15 := hN15 [] (List.forall_mem_nil _)
      simp only [List.nil_append] at N15
      clear F14 N14 hN15
      k_steps
      (with_reducible rename Fr _ _ _ _ => F16)
      (with_reducible rename News _ _ _ _ => N16)
      have S16 := Cv15.now F16 N16 (fun q hq => by repeat (first | assumption | refine List.Mem.tail _ ?_))
      have k16 : ∀ b o, h15.get? b = some o → b ≠ s₁.heap.objs.size → _ := fun b o e n => S16 b o (ev15 ▸ hideAll_get _ e (by simpa using n))
      have kv16 : (Mine.Vw [s₁.heap.objs.size] h15).StaysIn (Mine.Vw [s₁.heap.objs.size] _) := Mine.knV fun a o e n => k16 a o e (fun q => n (q ▸ .head _))
      have nd16 := Mine.NDk.ofL dF15 k16
      have hm16 := hm15.subND nd16
      have hp16 := hp15.subND nd16
      have P16 := fun t u T => (PP t u T).sub kv16
      show wpAny _ _ _ _ _ _
      refine Mine.run_second (dp := 1 + claimMargin + 1) (un := 4 + 3) (gd := some []) rfl O9 V (by omega) le60 (by omega) (M9.push F16 rfl) (P16 _ _ _) hm16 hp16 (by decide) (by decide) ?_
      intro h17 tk17 kk2 ff2
      have F17 := Mine.fr_after F16 los kk2 ff2
      obtain ⟨tl17, hv17, hN17, Cv17, ev17, htl17⟩ := Mine.focus [] F17
      have N17 := hN17 [] (List.forall_mem_nil _)
      simp only [List.nil_append] at N17
      clear F16 N16 hN17
      k_steps
      exact ⟨.inl ⟨_, _, [], rfl, fun _ => rfl, ReadsW.bool true, hpost, fun _ => ⟨List.nodup_nil, fun _ hm => (nomatch hm)⟩⟩, K9.step_keeps F17.keep, os9, aG⟩)
end
